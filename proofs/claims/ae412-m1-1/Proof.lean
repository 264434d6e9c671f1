import JvmDerived
import JvmDerived.Pilot.@@N@@Statement
import JvmDerived.Pilot.@@N@@Code
set_option linter.unusedVariables false
set_option linter.unusedSimpArgs false
/- laws to paste: Road.lenW, Road.low_at, StrChars.pair_says, StrChars.chr8_lo8, StrChars.shr1, StrChars.narrow_ch (cut by pick.py; bodies as the Statement names them) -/
namespace Jvm.Pilot.@@N@@
namespace StrChars
open Jvm Sem ClassFile Op Lib Jvm.Stand Jvm.Free.XT Jvm.Free.ALB Jvm.Free.JM Jvm.Free
open Jvm.Lib.Cold (StaticIs)
/-- the byte that i2b leaves of a char -/
def lo8 (x : Int32) : Int32 := x.toInt8.toInt32
def U16 : String := "java/lang/StringUTF16"
namespace Cmp5
def yN : MethodName := ⟨"java/lang/StringUTF16", "compress", "([CI[BII)I"⟩
abbrev yB : ByteArray := jdk_52_method_21_code
end Cmp5
namespace Cmp3
def yN : MethodName := ⟨"java/lang/StringUTF16", "compress", "([CII)[B"⟩
abbrev yB : ByteArray := jdk_52_method_16_code
end Cmp3
namespace CodL
def yN : MethodName := ⟨"java/lang/StringUTF16", "coderFromArrayLen", "([BI)B"⟩
abbrev yB : ByteArray := jdk_52_method_15_code
end CodL
namespace New4
def yN : MethodName := ⟨"java/lang/String", "<init>", "([CIILjava/lang/Void;)V"⟩
abbrev yB : ByteArray := jdk_42_method_149_code
end New4
namespace New1
def yN : MethodName := ⟨"java/lang/String", "<init>", "([C)V"⟩
abbrev yB : ByteArray := jdk_42_method_3_code
end New1
/-- the byte, read back as charAt reads it, is the char -/
theorem lo8_mask {x : Int32} (h0 : ¬ x < 0) (h1 : ¬ 255 < x) : lo8 x &&& 255 = x := by
  have t : ∀ k : Fin 256, lo8 (Int32.ofNat k.val) &&& 255 = Int32.ofNat k.val := by decide +kernel
  rw [Int32.lt_iff_toInt_lt] at h0 h1
  have e0 : (0 : Int32).toInt = 0 := rfl
  have e1 : (255 : Int32).toInt = 255 := rfl
  obtain ⟨k, hk⟩ : ∃ k : Nat, x.toInt = k := ⟨x.toInt.toNat, by omega⟩
  have hx : x = Int32.ofNat k := Int32.toInt_inj.mp (by rw [hk, Int32.toInt_ofNat_small (by omega)])
  rw [hx]
  exact t ⟨k, by omega⟩
end StrChars
namespace StrChars.Road
open Jvm Sem ClassFile Op Lib Jvm.Stand Jvm.Free Jvm.Free.XT
open Jvm.Lib.Cold (StaticIs)
abbrev ST : String := "java/lang/String"
/-- every table word that New1's law asks, flat -/
abbrev words : List Jvm.Cond := [.code New1.yN New1.yB 2 none, .initialized ST, .methodLink ST 27 New4.yN, .instanceMethod New4.yN,
  .code New4.yN New4.yB 6 none, .fieldLink ST 38 ST "COMPACT_STRINGS" "Z", .laysFinal ST ST "value" "[B", .fieldLink ST 9 ST "value" "[B", .laysFinal ST ST "coder" "B", .fieldLink ST 15 ST "coder" "B",
  .methodLink ST 1 Lib.objectInit, .instanceMethod Lib.objectInit, .code Lib.objectInit ⟨#[0xb1]⟩ 1 none, .methodLink ST 177 Cmp3.yN, .static Cmp3.yN, .methodLink ST 47 CodL.yN, .static CodL.yN,
  .code Cmp3.yN Cmp3.yB 6 (some (.array .byte)), .initialized U16, .arrayClass .byte, .methodLink U16 115 Cmp5.yN, .static Cmp5.yN, .code Cmp5.yN Cmp5.yB 7 (some .int), .code CodL.yN CodL.yB 2 (some .byte)]
end StrChars.Road
namespace StrChars
open Jvm Sem ClassFile Op Lib Jvm.Stand Jvm.Free.XT Jvm.Free.ALB Jvm.Free.JM Jvm.Free
open Jvm.Lib.Cold (StaticIs)
def hi8 (x : Int32) : Int32 := lo8 (x >>> ((8 : Int32) &&& 31))
/-- what StringUTF16.getChar makes of two bytes -/
def pairCh (u v : Int32) : Int32 := (((u &&& 255) <<< ((0 : Int32) &&& 31)) ||| ((v &&& 255) <<< ((8 : Int32) &&& 31))).toUInt32.toUInt16.toUInt32.toInt32
theorem shr0 (c : Int32) : c >>> ((0 : Int32) &&& 31) = c := by
  have e : ((0 : Int32) &&& 31) = 0 := by decide
  rw [e]
  apply Int32.toBitVec_inj.mp
  rw [Int32.toBitVec_shiftRight]
  have e1 : ((0 : Int32).toBitVec.smod 32) = 0#32 := by decide
  rw [e1, BitVec.sshiftRight_eq']
  exact BitVec.sshiftRight_zero
theorem lo8_and (x : Int32) : (lo8 x &&& 255).toBitVec.toNat = x.toBitVec.toNat % 256 := by
  have h : (lo8 x).toBitVec = (x.toBitVec.signExtend 8).signExtend 32 := by rw [lo8, Int8.toBitVec_toInt32, Int32.toBitVec_toInt8]
  rw [Int32.toBitVec_and, BitVec.toNat_and, h]
  have e : ((x.toBitVec.signExtend 8).signExtend 32).toNat % 256 = x.toBitVec.toNat % 256 := by
    rw [BitVec.toNat_signExtend]
    have hlt := x.toBitVec.isLt
    simp only [BitVec.toNat_setWidth, BitVec.toNat_signExtend]
    split <;> split <;> omega
  rw [← e]
  exact Nat.and_two_pow_sub_one_eq_mod _ 8
theorem pair_says {c : Int32} (h0 : ¬ c < 0) (h1 : ¬ 65535 < c) : pairCh (lo8 c) (hi8 c) = c := by
  rw [Int32.lt_iff_toInt_lt] at h0 h1
  have e0 : (0 : Int32).toInt = 0 := rfl
  have e1 : (65535 : Int32).toInt = 65535 := rfl
  have hc : c.toInt = c.toBitVec.toNat := by
    have := c.toBitVec.isLt
    have e : c.toInt = c.toBitVec.toInt := rfl
    rw [e] at h0 h1
    rw [e]
    rw [BitVec.toInt_eq_toNat_cond] at h0 h1 ⊢
    split at h0 <;> split <;> omega
  have hn : c.toBitVec.toNat < 65536 := by omega
  have a1 := lo8_and c
  have a2 : (hi8 c &&& 255).toBitVec.toNat = c.toBitVec.toNat / 256 := by
    rw [hi8, lo8_and]
    have e : ((8 : Int32) &&& 31) = 8 := by decide
    rw [e, Int32.toBitVec_shiftRight]
    have e2 : ((8 : Int32).toBitVec.smod 32) = 8#32 := by decide
    rw [e2, BitVec.sshiftRight_eq', BitVec.toNat_sshiftRight_of_msb_false (by rw [BitVec.msb_eq_false_iff_two_mul_lt]; omega)]
    show c.toBitVec.toNat >>> 8 % 256 = _
    rw [Nat.shiftRight_eq_div_pow]
    omega
  unfold pairCh
  apply Int32.toBitVec_inj.mp
  apply BitVec.eq_of_toNat_eq
  have f0 : ((0 : Int32) &&& 31) = 0 := by decide
  have f8 : ((8 : Int32) &&& 31) = 8 := by decide
  rw [f0, f8]
  have g : (((lo8 c &&& 255) <<< (0 : Int32)) ||| ((hi8 c &&& 255) <<< (8 : Int32))).toBitVec.toNat = c.toBitVec.toNat := by
    rw [Int32.toBitVec_or, Int32.toBitVec_shiftLeft, Int32.toBitVec_shiftLeft]
    have s0 : ((0 : Int32).toBitVec.smod 32) = 0#32 := by decide
    have s8 : ((8 : Int32).toBitVec.smod 32) = 8#32 := by decide
    rw [s0, s8, BitVec.toNat_or]
    simp only [BitVec.shiftLeft_eq', BitVec.toNat_shiftLeft, a1, a2]
    show (c.toBitVec.toNat % 256) <<< 0 % 2 ^ 32 ||| (c.toBitVec.toNat / 256) <<< 8 % 2 ^ 32 = _
    rw [Nat.shiftLeft_zero, Nat.mod_eq_of_lt (show c.toBitVec.toNat % 256 < 2 ^ 32 by omega), Nat.mod_eq_of_lt (show (c.toBitVec.toNat / 256) <<< 8 < 2 ^ 32 by rw [Nat.shiftLeft_eq]; omega), Nat.or_comm, ← Nat.shiftLeft_add_eq_or_of_lt (by omega), Nat.shiftLeft_eq]
    omega
  show BitVec.toNat (((((lo8 c &&& 255) <<< (0 : Int32)) ||| ((hi8 c &&& 255) <<< (8 : Int32))).toBitVec.setWidth 16).setWidth 32) = _
  rw [BitVec.toNat_setWidth, BitVec.toNat_setWidth, g]
  omega
end StrChars
namespace StrChars
open Jvm Sem ClassFile Op Lib Jvm.Stand Jvm.Free.XT Jvm.Free.ALB Jvm.Free.JM Jvm.Free
open Jvm.Lib.Cold (StaticIs)
theorem shr1 {n : Nat} (h : 2 * n < 2 ^ 31) : Int32.ofNat (2 * n) >>> ((1 : Int32) &&& 31) = Int32.ofNat n := by
  have e : ((1 : Int32) &&& 31) = 1 := by decide
  rw [e]
  apply Int32.toBitVec_inj.mp
  rw [Int32.toBitVec_shiftRight]
  have e1 : ((1 : Int32).toBitVec.smod 32) = 1#32 := by decide
  have hm : (BitVec.ofNat 32 (2 * n)).toNat = 2 * n := by rw [BitVec.toNat_ofNat, Nat.mod_eq_of_lt (by omega)]
  rw [e1, BitVec.sshiftRight_eq']
  apply BitVec.eq_of_toNat_eq
  show ((BitVec.ofNat 32 (2 * n)).sshiftRight 1).toNat = (BitVec.ofNat 32 n).toNat
  rw [BitVec.toNat_sshiftRight_of_msb_false (by rw [BitVec.msb_eq_false_iff_two_mul_lt, hm]; omega), hm, BitVec.toNat_ofNat, Nat.shiftRight_eq_div_pow]
  omega
/-- charAt's cast of a byte read back -/
def chr8 (u : Int32) : Int32 := (u &&& 255).toUInt32.toUInt16.toUInt32.toInt32
theorem chr8_lo8 {c : Int32} (h0 : ¬ c < 0) (h1 : ¬ 255 < c) : chr8 (lo8 c) = c := by
  have t : ∀ k : Fin 256, (Int32.ofNat k.val).toUInt32.toUInt16.toUInt32.toInt32 = Int32.ofNat k.val := by decide +kernel
  unfold chr8
  rw [lo8_mask h0 h1]
  rw [Int32.lt_iff_toInt_lt] at h0 h1
  have e0 : (0 : Int32).toInt = 0 := rfl
  have e1 : (255 : Int32).toInt = 255 := rfl
  obtain ⟨k, hk⟩ : ∃ k : Nat, c.toInt = k := ⟨c.toInt.toNat, by omega⟩
  have hx : c = Int32.ofNat k := Int32.toInt_inj.mp (by rw [hk, Int32.toInt_ofNat_small (by omega)])
  rw [hx]
  exact t ⟨k, by omega⟩
theorem narrow_ch {c : Int32} (h0 : ¬ c < 0) (h1 : ¬ 65535 < c) : narrow .char (.int c) = .int c := by
  have q : narrow .char (.int (pairCh (lo8 c) (hi8 c))) = .int (pairCh (lo8 c) (hi8 c)) := narrow_c _
  rwa [pair_says h0 h1] at q
/-- the array's cell V codes the n chars f 0 .. f (n - 1) by the coder cd, as the JDK does: coder 1 just where some char is above 255 -/
def Cod (cd : Int32) (n : Nat) (f : Nat → Int32) (V : Cell) : Prop := (cd = 0 ∧ V.slots.size = n ∧ ∀ j, j < n → V.slots[j]? = some (.int (lo8 (f j))) ∧ ¬ 255 < f j) ∨ (cd = 1 ∧ V.slots.size = 2 * n ∧ (∀ j, j < n → V.slots[2 * j]? = some (.int (lo8 (f j))) ∧ V.slots[2 * j + 1]? = some (.int (hi8 (f j)))) ∧ ∃ j, j < n ∧ 255 < f j)
theorem Cod.cd {cd : Int32} {n : Nat} {f : Nat → Int32} {V : Cell} (h : Cod cd n f V) : cd = 0 ∨ cd = 1 := h.imp (fun q => q.1) fun q => q.1
theorem Cod.len {cd : Int32} {n : Nat} {f : Nat → Int32} {V : Cell} (h : Cod cd n f V) (hs : V.slots.size < 2 ^ 31) : Int32.ofNat V.slots.size >>> (cd &&& 31) = Int32.ofNat n := by
  rcases h with ⟨rfl, h, -⟩ | ⟨rfl, h, -⟩
  · rw [shr0, h]
  · rw [h, shr1 (by omega)]
/-- **x is a String of the n chars f 0 .. f (n - 1)**, Latin-1 or UTF-16; its array at t has the cell V -/
def Txt (x t : Addr) (V : Cell) (cd : Int32) (n : Nat) (f : Nat → Int32) (U : State) : Prop := Exact "java/lang/String" x U ∧ Has x "java/lang/String" "value" "[B" (.ref t) U ∧ Has x "java/lang/String" "coder" "B" (.int cd) U ∧ XT.Arr .byte t V U ∧ Cod cd n f V ∧ ∀ j, j < n → ¬ f j < 0 ∧ ¬ 65535 < f j
theorem Txt.mv {x t : Addr} {V : Cell} {cd : Int32} {n : Nat} {f : Nat → Int32} {U U' : State} (h : Txt x t V cd n f U) (hal : U.vm.Alike U'.vm) (hh : U'.heap = U.heap) : Txt x t V cd n f U' := ⟨h.1.mv hal hh, h.2.1.mv hal hh, h.2.2.1.mv hal hh, h.2.2.2.1.mv hal hh, h.2.2.2.2⟩
namespace Cdr
def yN : MethodName := ⟨"java/lang/String", "coder", "()B"⟩
abbrev yB : ByteArray := jdk_42_method_152_code
theorem d0 : decode yB 0 = .ok (.getstatic 38, 3) := by decide +kernel
theorem d3 : decode yB 3 = .ok (.ifCond (.eq) 10, 3) := by decide +kernel
theorem d6 : decode yB 6 = .ok (.aload_n 0, 1) := by decide +kernel
theorem d7 : decode yB 7 = .ok (.getfield 15, 3) := by decide +kernel
theorem d10 : decode yB 10 = .ok (.goto 4, 3) := by decide +kernel
theorem d14 : decode yB 14 = .ok (.ireturn, 1) := by decide +kernel
def site : List Cond := [.fieldLink "java/lang/String" 38 "java/lang/String" "COMPACT_STRINGS" "Z", .fieldLink "java/lang/String" 15 "java/lang/String" "coder" "B"]
def tab : Cond := tabOf yN yB 1 (some .byte) site
def P (x : Addr) (cd z : Int32) (args : Array Value) (s : State) : Prop := args = #[.ref x] ∧ Has x "java/lang/String" "coder" "B" (.int cd) s ∧ (cd = 0 ∨ cd = 1) ∧ StaticIs s "java/lang/String" "COMPACT_STRINGS" "Z" (.int z) ∧ ¬ z = 0
def E (cd : Int32) (r : Option Value) (s u : State) : Prop := XT.PureE (some (.int cd)) r s u
theorem law (l : Launch) (x : Addr) (cd z : Int32) : Law l yN 1 0 0 0 yB 1 (some .byte) site (P x cd z) (E cd) [] 0 0 := by
  refine Law.of_walk (plainFor_of_name (by decide +kernel)) (by decide +kernel) (by decide +kernel) (by decide) (fun _ _ h => by rw [h.1]; rfl) (fun _ U U' hal hh h => ⟨h.1, h.2.1.mv hal hh, h.2.2.1, h.2.2.2.1.there hal hh, h.2.2.2.2⟩) (fun r U U' V V' h1 hal h2 h => XT.PureE.mv r U U' V V' h1 hal h2 h) ?_
  intro p e s m args below meth c s₁ X0 hexec hbytes hml hret hlk hnm hown hh0 W hP
  obtain ⟨rfl, hx, hc, s1, hz⟩ := hP
  have c1 : Steps p.tables e below (s₁.setTop (entryFrame m #[.ref x] 1)) (s₁.setTop (mkF m 0 #[.val (.ref x)] [])) := entry rfl
  obtain ⟨T2, X2, q2, st2⟩ := X0.sget hexec hown (wk W (.fieldLink "java/lang/String" 38 "java/lang/String" "COMPACT_STRINGS" "Z")) s1 (fun _ _ h => by rw [hh0]; exact h) (g := (mkF m 0 #[.val (.ref x)] [])) rfl (hb hbytes d0)
  have hh2 := q2.trans hh0
  have c3 : Steps p.tables e below (s₁.setTop (entryFrame m #[.ref x] 1)) (T2.setTop (mkF m 7 #[.val (.ref x)] [.ref x])) := (c1.trans (st2 _ (Steps.refl _))).trans (by
    refine XS.ifNo X2.here hexec rfl (hb hbytes d3) rfl (i0_eq_f hz) ?_
    refine XS.aloadN X2.here hexec rfl (hb hbytes d6) rfl rfl ?_
    exact Steps.refl _)
  obtain ⟨T4, X4, q4, st4⟩ := X2.hget hexec hown (wk W (.fieldLink "java/lang/String" 15 "java/lang/String" "coder" "B")) (hx.mv X2.warmed.alike hh2) (g := (mkF m 7 #[.val (.ref x)] [.ref x])) rfl (rest := []) rfl (hb hbytes d7)
  have c5 : Steps p.tables e below (s₁.setTop (entryFrame m #[.ref x] 1)) (T4.setTop (mkF m 14 #[.val (.ref x)] [.int cd])) := (c3.trans (st4 _ (Steps.refl _))).trans (by
    refine XS.goto X4.here hexec rfl (pc0 := 10) rfl (hb hbytes d10) (by decide) rfl ?_
    exact Steps.refl _)
  exact ⟨T4, some (.int cd), _, _, _, X4, rfl, rfl, rfl, (fun h => by cases h), ⟨rfl, q4.trans hh2⟩, fun fs hl => c5.trans (X4.ireturnOut hexec hret (by rcases hc with rfl | rfl <;> rfl) (Or.inr (Or.inr (Or.inl rfl))) (hb hbytes d14) hl)⟩
end Cdr
namespace Len
def yN : MethodName := ⟨"java/lang/String", "length", "()I"⟩
abbrev yB : ByteArray := jdk_42_method_54_code
theorem d0 : decode yB 0 = .ok (.aload_n 0, 1) := by decide +kernel
theorem d1 : decode yB 1 = .ok (.getfield 9, 3) := by decide +kernel
theorem d4 : decode yB 4 = .ok (.arraylength, 1) := by decide +kernel
theorem d5 : decode yB 5 = .ok (.aload_n 0, 1) := by decide +kernel
theorem d6 : decode yB 6 = .ok (.invokevirtual 335, 3) := by decide +kernel
theorem d9 : decode yB 9 = .ok (.ishr, 1) := by decide +kernel
theorem d10 : decode yB 10 = .ok (.ireturn, 1) := by decide +kernel
def site : List Cond := [.fieldLink "java/lang/String" 9 "java/lang/String" "value" "[B", Cdr.tab] ++ virtW "java/lang/String" 335 "java/lang/String" Cdr.yN Cdr.yN
def tab : Cond := tabOf yN yB 1 (some .int) site
def P (x t : Addr) (V : Cell) (cd : Int32) (n : Nat) (f : Nat → Int32) (z : Int32) (args : Array Value) (s : State) : Prop := args = #[.ref x] ∧ Txt x t V cd n f s ∧ StaticIs s "java/lang/String" "COMPACT_STRINGS" "Z" (.int z) ∧ ¬ z = 0
def E (n : Nat) (r : Option Value) (s u : State) : Prop := XT.PureE (some (.int (Int32.ofNat n))) r s u
/-- length() of a String of n chars, in either coding -/
theorem law (l : Launch) (x t : Addr) (V : Cell) (cd : Int32) (n : Nat) (f : Nat → Int32) (z : Int32) : Law l yN 1 0 1 13 yB 1 (some .int) site (P x t V cd n f z) (E n) [] 0 0 := by
  refine Law.of_walk (plainFor_of_name (by decide +kernel)) (by decide +kernel) (by decide +kernel) (by decide) (fun _ _ h => by rw [h.1]; rfl) (fun _ U U' hal hh h => ⟨h.1, h.2.1.mv hal hh, h.2.2.1.there hal hh, h.2.2.2⟩) (fun r U U' V V' h1 hal h2 h => XT.PureE.mv r U U' V V' h1 hal h2 h) ?_
  intro p e s m args below meth c s₁ X0 hexec hbytes hml hret hlk hnm hown hh0 W hP
  obtain ⟨rfl, hx, s1, hz⟩ := hP
  have v31 := hx.2.2.2.1.2.2.2
  have c1 : Steps p.tables e below (s₁.setTop (entryFrame m #[.ref x] 1)) (s₁.setTop (mkF m 1 #[.val (.ref x)] [.ref x])) := Steps.trans (entry rfl) (by
    show Steps p.tables e below (s₁.setTop (mkF m 0 #[.val (.ref x)] [])) _
    refine XS.aloadN X0.here hexec rfl (hb hbytes d0) rfl rfl ?_
    exact Steps.refl _)
  obtain ⟨T2, X2, q2, st2⟩ := X0.hget hexec hown (wk W (.fieldLink "java/lang/String" 9 "java/lang/String" "value" "[B")) (hx.mv X0.warmed.alike hh0).2.1 (g := (mkF m 1 #[.val (.ref x)] [.ref x])) rfl (rest := []) rfl (hb hbytes d1)
  have hh2 := q2.trans hh0
  have hx2 := hx.mv X2.warmed.alike hh2
  have c3 : Steps p.tables e below (s₁.setTop (entryFrame m #[.ref x] 1)) (T2.setTop (mkF m 6 #[.val (.ref x)] [.ref x, .int (Int32.ofNat V.slots.size)])) := (c1.trans (st2 _ (Steps.refl _))).trans (by
    refine X2.alen hexec hx2.2.2.2.1 rfl rfl (hb hbytes d4) ?_
    refine XS.aloadN X2.here hexec rfl (hb hbytes d5) rfl rfl ?_
    exact Steps.refl _)
  obtain ⟨v4, T4, X4, E4, g4⟩ := X2.callV hexec (Cdr.law l x cd z) hown (wks W (virtW "java/lang/String" 335 "java/lang/String" Cdr.yN Cdr.yN)) rfl (by decide) (wk W Cdr.tab) (W := 1) (Nat.le_of_ble_eq_true rfl) (Nat.le_of_ble_eq_true rfl) (Nat.le_refl _) (Nat.le_refl _) (hx2.1.fc X2.warmed.alike) hx2.1.is (g := (mkF m 6 #[.val (.ref x)] [.ref x, .int (Int32.ofNat V.slots.size)])) rfl (by rw [hml]; rfl) c3 (argsL := []) (rest := [.int (Int32.ofNat V.slots.size)]) rfl rfl (by show 2 * 0 + (1 + 0) ≤ _; decide) (hb hbytes d6) (⟨rfl, hx2.2.2.1, hx.2.2.2.2.1.cd, s1.there X2.warmed.alike hh2, hz⟩)
  obtain ⟨rfl, q4⟩ := E4
  have c5 : Steps p.tables e below (s₁.setTop (entryFrame m #[.ref x] 1)) (T4.setTop (mkF m 10 #[.val (.ref x)] [.int (Int32.ofNat V.slots.size >>> (cd &&& 31))])) := Steps.trans g4 (by
    refine ishr X4.here hexec rfl (hb hbytes d9) rfl ?_
    exact Steps.refl _)
  rw [hx.2.2.2.2.1.len v31] at c5
  exact ⟨T4, some (.int (Int32.ofNat n)), _, _, _, X4, rfl, rfl, rfl, (fun h => by cases h), ⟨rfl, q4.trans hh2⟩, fun fs hl => c5.trans (X4.ireturnOut hexec hret rfl (Or.inl rfl) (hb hbytes d10) hl)⟩
theorem pays {l : Launch} {R : Room} {p : Program} {e : Env} {below : List Frame} {s : State} {sargs : Array Value} {len W : Nat} (x t : Addr) (V : Cell) (cd : Int32) (n : Nat) (f : Nat → Int32) (z : Int32) (htab : tab.before sargs s = true) (hfr : 2 ≤ R.frames) (hlo : W + 25 ≤ R.locals) :
    Back l R p e below s sargs yN len W (fun A₁ a₁ => A₁.cells + 0 ≤ R.cells ∧ A₁.slots + 0 ≤ R.slots ∧ P x t V cd n f z a₁ A₁.U) (fun A₁ _ v₁ B₁ => E n v₁ A₁.U B₁.U ∧ B₁.locs = A₁.locs ++ [] ∧ B₁.cells = A₁.cells + 0 ∧ B₁.slots = A₁.slots + 0) :=
  (law l x t V cd n f z).pays htab hfr (by omega)
end Len
end StrChars
namespace StrChars.Road
open Jvm Sem ClassFile Op Lib Jvm.Stand Jvm.Free Jvm.Free.XT
open Jvm.Lib.Cold (StaticIs)
theorem consq {a : Array Value} {s : State} {c : Jvm.Cond} {L : List Jvm.Cond} (h0 : c.before a s = true) (h : ∀ w ∈ L, w.before a s = true) : ∀ w ∈ c :: L, w.before a s = true := fun w hw => (List.mem_cons.mp hw).elim (fun e => e ▸ h0) (h w)
/-- the words of String.length(), either coding -/
abbrev wordsLen : List Jvm.Cond := [.code Len.yN Len.yB 1 (some .int), .initialized ST, .fieldLink ST 9 ST "value" "[B", .fieldLink ST 38 ST "COMPACT_STRINGS" "Z", .fieldLink ST 15 ST "coder" "B", .code Cdr.yN Cdr.yB 1 (some .byte), .methodLink ST 335 Cdr.yN, .declares Cdr.yN, .selects ST Cdr.yN Cdr.yN, .instanceMethod Cdr.yN]
theorem tabLen_of {a : Array Value} {s : State} (h : ∀ w ∈ wordsLen, w.before a s = true) : Len.tab.before a s = true := by
  have hc : Cdr.tab.before a s = true := unparts (wk h (.code Cdr.yN Cdr.yB 1 (some .byte))) (wks h (.initialized Cdr.yN.cls :: Cdr.site))
  have q := consq hc h
  exact unparts (wk q (.code Len.yN Len.yB 1 (some .int))) (wks q (.initialized Len.yN.cls :: Len.site))
theorem movedLen {Z s : State} {a0 args : Array Value} (hZ : Z.Warmed39 s.vm) (hw : ∀ d ∈ wordsLen, d.before a0 Z = true) : ∀ d ∈ wordsLen, d.before args s = true := fun d hd => by
  have q := hw d hd
  have t : ∀ d ∈ wordsLen, d = .arrayClass .byte ∨ (d.onTables && d.keepsFace) = true := by decide +kernel
  rcases t d hd with rfl | t
  · exact RoadKit.mvA hZ q
  · exact RoadKit.mv hZ q t
/-- the bytes of the chars cs, low before high -/
def wideBytes : List Int32 → List Value
  | [] => []
  | c :: cs => .int (lo8 c) :: .int (hi8 c) :: wideBytes cs
theorem wide_lo (d : Value) : ∀ (cs : List Int32) (j : Nat), j < cs.length → (wideBytes cs).getD (2 * j) d = .int (lo8 (cs.getD j 0))
  | [], j, h => absurd h (Nat.not_lt_zero j)
  | c :: cs, 0, _ => rfl
  | c :: cs, j + 1, h => by
    have q := wide_lo d cs j (by simpa using h)
    rw [show 2 * (j + 1) = 2 * j + 1 + 1 from by omega]
    simpa [wideBytes] using q
theorem wide_hi (d : Value) : ∀ (cs : List Int32) (j : Nat), j < cs.length → (wideBytes cs).getD (2 * j + 1) d = .int (hi8 (cs.getD j 0))
  | [], j, h => absurd h (Nat.not_lt_zero j)
  | c :: cs, 0, _ => rfl
  | c :: cs, j + 1, h => by
    have q := wide_hi d cs j (by simpa using h)
    rw [show 2 * (j + 1) + 1 = 2 * j + 1 + 1 + 1 from by omega]
    simpa [wideBytes] using q
theorem low_at (d : Value) (cs : List Int32) (j : Nat) (h : j < cs.length) : (cs.map fun c => Value.int (lo8 c)).getD j d = .int (lo8 (cs.getD j 0)) := by
  simp [List.getD_eq_getElem?_getD, h]
/-- an array of N2 bytes vs codes the chars cs by the coder cd -/
def CodA (cs : List Int32) (cd N2 : Int32) (vs : List Value) : Prop := (cd = 0 ∧ N2 = Int32.ofNat cs.length ∧ vs = (cs.map fun c => Value.int (lo8 c)) ∧ ∀ c ∈ cs, ¬ 255 < c) ∨ (cd = 1 ∧ N2 = Int32.ofNat (2 * cs.length) ∧ vs = wideBytes cs ∧ ∃ c ∈ cs, 255 < c)
theorem CodA.cod {cs : List Int32} {cd N2 : Int32} {vs : List Value} {V : Cell} (h : CodA cs cd N2 vs) (hn : 2 * cs.length < 2 ^ 31) (hs : V.slots.size = N2.toNatClampNeg) (hv : RoadKit.Has V vs (.int 0)) : Cod cd cs.length (fun j => cs.getD j 0) V := by
  rcases h with ⟨rfl, rfl, rfl, h⟩ | ⟨rfl, rfl, rfl, c, hc, hw⟩
  · rw [n32 (by omega)] at hs
    exact Or.inl ⟨rfl, hs, fun j hj => ⟨by rw [hv j (by omega), low_at _ _ _ hj], by
      have e : cs.getD j 0 = cs[j] := by simp [List.getD_eq_getElem?_getD, hj]
      show ¬ 255 < cs.getD j 0
      rw [e]; exact h _ (List.getElem_mem _)⟩⟩
  · rw [n32 (by omega)] at hs
    obtain ⟨j, hj, rfl⟩ := List.getElem_of_mem hc
    exact Or.inr ⟨rfl, hs, fun j hj => ⟨by rw [hv _ (by omega), wide_lo _ _ _ hj], by rw [hv _ (by omega), wide_hi _ _ _ hj]⟩, j, hj, by
      have e : cs.getD j 0 = cs[j] := by simp [List.getD_eq_getElem?_getD, hj]
      show 255 < cs.getD j 0
      rw [e]; exact hw⟩
/-- an object of exactly java/lang/String, its two fields found: as the laws ask it -/
theorem strObj {Z U : State} {a0 : Array Value} {kI : Nat} (wi : (Jvm.Cond.instantiable ST kI).before a0 Z = true) (al : Z.vm.Alike U.vm) {x : Addr} {v0 c0 : Value} (E : RoadKit.Exa Z U.heap x ST) (V : RoadKit.Fld Z U.heap x ST "value" "[B" v0) (C : RoadKit.Fld Z U.heap x ST "coder" "B" c0) :
    ∃ (D : Cell) (fV fC : Field), Blank ST x D U ∧ Found ST "value" "[B" fV U ∧ Found ST "coder" "B" fC U ∧ D.slots[fV.slot]? = some v0 ∧ D.slots[fC.slot]? = some c0 ∧ RoadKit.slotOf Z ST "value" "[B" = fV.slot ∧ RoadKit.slotOf Z ST "coder" "B" = fC.slot := by
  obtain ⟨D, cfV, kV, iV, fV, hD, gV, stV, knV, obV, asV, slV⟩ := V
  obtain ⟨D', cfC, kC, iC, fC, hD', gC, stC, -, -, asC, slC⟩ := C
  cases hD.symm.trans hD'
  obtain ⟨D2, kD, e1, e2, e3, e4, e5⟩ := E
  cases hD.symm.trans e1
  obtain ⟨c2, k2, i1, i2, i3, -⟩ := Cond.instantiable_spec wi
  cases e2.symm.trans i1
  cases e3.symm.trans i2
  obtain ⟨kU, u1, u2⟩ := al.2.2 _ _ e3
  exact ⟨D, fV, fC, ⟨hD, ⟨knV, fun q hq => by rw [hq] at obV; cases obV⟩, by rw [al.findClass]; exact e2, kU, u1, by rw [u2]; exact i3, by rw [u2]; exact e5 i3⟩, ⟨SBG.found_only al ⟨cfV, kV, iV, gV⟩, stV⟩, ⟨SBG.found_only al ⟨cfC, kC, iC, gC⟩, stC⟩, slV, slC, by simp [RoadKit.slotOf, gV], by simp [RoadKit.slotOf, gC]⟩
theorem sta_is {Z U : State} (al : Z.vm.Alike U.vm) {C n d : String} {v : Value} (S : RoadKit.Sta Z U.heap C n d v) : StaticIs U C n d v := by
  obtain ⟨cfS, iS, kS, fS, st, cS, t1, t2, t3, t4, t5, t6, t7⟩ := S
  exact StaticIs.there (s := { Z with heap := U.heap }) ⟨cfS, iS, kS, fS, st, cS, t1, t2, t3, t4, t5, (fun q => by rw [q] at t6; cases t6), t7⟩ al rfl
/-- **length() OF SUCH A STRING** -/
theorem lenW {p : Program} {l : Launch} {e : Env} {R : Room} {s : State} {args : Array Value} {below : List Frame} {len W : Nat} {Z : State} {a0 : Array Value} {h : Heap} (hZ : Z.Warmed39 s.vm) (hw : ∀ d ∈ wordsLen, d.before a0 Z = true) {kI : Nat} (wi : (Jvm.Cond.instantiable ST kI).before a0 Z = true)
    {x t : Addr} {kb : ClassId} {cs : List Int32} {cd N2 z : Int32} {vs : List Value} (E : RoadKit.Exa Z h x ST) (V : RoadKit.Fld Z h x ST "value" "[B" (.ref t)) (C : RoadKit.Fld Z h x ST "coder" "B" (.int cd)) (K : RoadKit.Arv Z h t kb .byte N2 vs (.int 0)) (hc : CodA cs cd N2 vs) (hb : ∀ c ∈ cs, ¬ c < 0 ∧ ¬ (65535 : Int32) < c)
    (S : RoadKit.Sta Z h ST "COMPACT_STRINGS" "Z" (.int z)) (hz : ¬ z = 0) (l2 : cs.length ≤ 4000) (hfr : 2 ≤ R.frames) (hlo : W + 25 ≤ R.locals) :
    Back l R p e below s args (⟨"java/lang/String", "length", "()I"⟩ : MethodName) len W (fun P a => a = #[.ref x] ∧ P.U.heap = h ∧ P.cells + 0 ≤ R.cells ∧ P.slots + 0 ≤ R.slots)
      (fun P _ v B => ∃ L, (v = some (.int (Int32.ofNat cs.length)) ∧ L = [] ∧ B.U.heap = h) ∧ B.locs = P.locs ++ L ∧ B.cells = P.cells + 0 ∧ B.slots = P.slots + 0) := by
  obtain ⟨A, K1, K2, K3, K4, K5, K6⟩ := K
  have hcod := hc.cod (by omega) K3 K5
  intro m meth c P g ig mk a X hg hsize hdg hW hn hp'
  obtain ⟨rfl, rfl, r1, r2⟩ := hp'
  have al : Z.vm.Alike P.U.vm := hZ.alike.trans X.warmed.alike
  obtain ⟨D, fV, fC, hB, F1, F2, g1, g2, -, -⟩ := strObj wi al E V C
  have hx : Txt x t A cd cs.length (fun j => cs.getD j 0) P.U := ⟨⟨_, hB.2.2.1, D, hB.1, rfl, by cases q : D.vm <;> first | rfl | exact absurd q (hB.2.1.2 _)⟩, Has.of hB F1 g1, Has.of hB F2 g2, ⟨K1.1, State.isArrayOf_alike al K1.2.1, K1.2.2, by rcases hcod with ⟨-, q, -⟩ | ⟨-, q, -⟩ <;> omega⟩, hcod, fun j hj => by
    have e : cs.getD j 0 = cs[j] := by simp [List.getD_eq_getElem?_getD, hj]
    show ¬ cs.getD j 0 < 0 ∧ ¬ 65535 < cs.getD j 0
    rw [e]; exact hb _ (List.getElem_mem _)⟩
  obtain ⟨v, B, X', ⟨⟨hv, hh⟩, hl, hk, hs⟩, st⟩ := Len.pays x t A cd cs.length (fun j => cs.getD j 0) z (tabLen_of (movedLen hZ hw)) hfr hlo m meth c P g ig mk _ X hg hsize hdg hW hn ⟨r1, r2, rfl, hx, sta_is al S, hz⟩
  exact ⟨v, B, X', ⟨[], ⟨hv, rfl, hh⟩, hl, hk, hs⟩, st⟩
end StrChars.Road
end Jvm.Pilot.@@N@@
namespace Jvm.Pilot.@@N@@
open Jvm Jvm.ClassFile Sem Op Lib Jvm.Free Jvm.Stand Jvm.LawKit Jvm.RoadKit Bundle Jvm.Pilot.@@N@@.Jvm.D
theorem w_ {Z : State} {a0 : Array Value} (hw : ∀ d ∈ tables_1, d.before a0 Z = true) {d : Jvm.Cond} (i : Nat) (h : tables_1[i]? = some d) : d.before a0 Z = true := hw d (List.mem_of_getElem? h)
section OwnKit
variable {p : Program} {l : Launch} {e : Env} {R : Room} {s : State} {m : MethodId} {args : Array Value} {below : List Frame} {meth : Method} {c : Code} {T : State} {locs : List Loc} {cells slots : Nat}
/-- the walk from t comes back with what Q says -/
def Fin (p : Program) (e : Env) (below : List Frame) (s : State) (Q : Option Value → Heap → List Loc → Prop) (C S : Nat) (t : State) : Prop :=
  ∃ s₂ o, Steps p.tables e below t s₂ ∧ s₂.status = .running ∧ Ended s₂ below o ∧ ∃ v L, o = .returned v ∧ Q v s₂.heap L ∧ FrameEnd s o s₂ L C S
theorem Fin.by {Q : Option Value → Heap → List Loc → Prop} {C S : Nat} {a b : State} (h : ∀ t, Steps p.tables e below b t → Steps p.tables e below a t) (k : Fin p e below s Q C S b) : Fin p e below s Q C S a := by
  obtain ⟨s₂, o, h1, h2⟩ := k; exact ⟨s₂, o, h _ h1, h2⟩
theorem Fin.byS {Q : Option Value → Heap → List Loc → Prop} {C S : Nat} {a b : State} (h : Steps p.tables e below a b) (k : Fin p e below s Q C S b) : Fin p e below s Q C S a := Fin.by (fun _ k => h.trans k) k
theorem Fin.start {Q : Option Value → Heap → List Loc → Prop} {C S : Nat} {g g' : JFrame} (q : g = g') (k : Fin p e below s Q C S (T.setTop g')) :
    ∃ s₂ o, Steps p.tables e below (T.setTop g) s₂ ∧ s₂.status = .running ∧ Ended s₂ below o ∧ ∃ v L, o = .returned v ∧ Q v s₂.heap L ∧ FrameEnd s o s₂ L C S := by
  subst q; exact k
theorem Fin.ret {Q : Option Value → Heap → List Loc → Prop} {C S : Nat} {v : Option Value} {g : JFrame} (X : Stand p l e R s m args below meth c T locs cells slots) (hv : meth.sig.returnType = none → v = none) (hl : meth.locks = false)
    (hq : Q v T.heap locs) (hc : cells ≤ C) (hs : slots ≤ S) (st : ∀ fs, (∀ (f : JFrame) (acts : List Action), f.method = m → f.locked = none → f.entered = [] → (doReturn e (T.setTop f) acts v).1 = T.setFrames fs) → Steps p.tables e below (T.setTop g) (T.setFrames fs)) :
    Fin p e below s Q C S (T.setTop g) := by
  obtain ⟨fs, hr, hrun, hended, hW, hsame⟩ := X.leave hv hl
  exact ⟨_, _, st fs hr, hrun, hended, _, _, rfl, hq, ⟨_, rfl⟩, hW, hsame.mono hc hs⟩
theorem retI (X : Stand p l e R s m args below meth c T locs cells slots) (hx : p.tables.exec = Jvm.exec) {pc : Nat} {Ls : Array Slot} {z : Int32} {rest : List Value} (hret : meth.sig.returnType = some .int) (hd : decode c.code pc = .ok (.ireturn, 1)) {fs : List Frame}
    (hl : ∀ (f : JFrame) (acts : List Action), f.method = m → f.locked = none → f.entered = [] → (doReturn e (T.setTop f) acts (some (.int z))).1 = T.setFrames fs) : Steps p.tables e below (T.setTop (mkF m pc Ls (.int z :: rest))) (T.setFrames fs) :=
  retOut X hx hret rfl (Or.inl ⟨rfl, Or.inl rfl, _, rfl⟩) hd hl
theorem retA (X : Stand p l e R s m args below meth c T locs cells slots) (hx : p.tables.exec = Jvm.exec) {pc : Nat} {Ls : Array Slot} {w : Value} {t : FieldType} {rest : List Value} (hret : meth.sig.returnType = some t) (ht : t.isReference = true) (hw : w.isRef = true) (hd : decode c.code pc = .ok (.areturn, 1)) {fs : List Frame}
    (hl : ∀ (f : JFrame) (acts : List Action), f.method = m → f.locked = none → f.entered = [] → (doReturn e (T.setTop f) acts (some w)).1 = T.setFrames fs) : Steps p.tables e below (T.setTop (mkF m pc Ls (w :: rest))) (T.setFrames fs) :=
  retOut X hx hret (by cases t <;> first | (cases ht; done) | rfl) (Or.inr (Or.inr (Or.inr (Or.inr ⟨rfl, ht, hw⟩)))) hd hl
theorem retJ (X : Stand p l e R s m args below meth c T locs cells slots) (hx : p.tables.exec = Jvm.exec) {pc : Nat} {Ls : Array Slot} {z : Int64} {rest : List Value} (hret : meth.sig.returnType = some .long) (hd : decode c.code pc = .ok (.lreturn, 1)) {fs : List Frame}
    (hl : ∀ (f : JFrame) (acts : List Action), f.method = m → f.locked = none → f.entered = [] → (doReturn e (T.setTop f) acts (some (.long z))).1 = T.setFrames fs) : Steps p.tables e below (T.setTop (mkF m pc Ls (.long z :: rest))) (T.setFrames fs) :=
  retOut X hx hret rfl (Or.inr (Or.inl ⟨rfl, rfl, _, rfl⟩)) hd hl
theorem XnullYes {target : State} (X : Stand p l e R s m args below meth c T locs cells slots) (hx : p.tables.exec = Jvm.exec) {g : JFrame} (hg : g.method = m) {v : Value} {rest : List Value} {o : Int} {pc0 pc' : Nat} (hv : v = .null) (hpc : g.pc = pc0) (hd : decode c.code g.pc = .ok (.ifnull o, 3)) (hs : g.stack = v :: rest) (ho : 0 ≤ (pc0 : Int) + o) (hp : ((pc0 : Int) + o).toNat = pc')
    (k : Steps p.tables e below (T.setTop { g with pc := pc', stack := rest }) target) : Steps p.tables e below (T.setTop g) target := by subst hv; exact XS.ifnullYes X.here hx hg hpc hd hs ho hp k
theorem XnullNo {target : State} (X : Stand p l e R s m args below meth c T locs cells slots) (hx : p.tables.exec = Jvm.exec) {g : JFrame} (hg : g.method = m) {v : Value} {a : Addr} {rest : List Value} {o : Int} (hv : v = .ref a) (hd : decode c.code g.pc = .ok (.ifnull o, 3)) (hs : g.stack = v :: rest)
    (k : Steps p.tables e below (T.setTop { g with pc := g.pc + 3, stack := rest }) target) : Steps p.tables e below (T.setTop g) target := by subst hv; exact XS.ifnullNo X.here hx hg hd hs k
theorem XnonnullYes {target : State} (X : Stand p l e R s m args below meth c T locs cells slots) (hx : p.tables.exec = Jvm.exec) {g : JFrame} (hg : g.method = m) {v : Value} {a : Addr} {rest : List Value} {o : Int} {pc0 pc' : Nat} (hv : v = .ref a) (hpc : g.pc = pc0) (hd : decode c.code g.pc = .ok (.ifnonnull o, 3)) (hs : g.stack = v :: rest) (ho : 0 ≤ (pc0 : Int) + o) (hp : ((pc0 : Int) + o).toNat = pc')
    (k : Steps p.tables e below (T.setTop { g with pc := pc', stack := rest }) target) : Steps p.tables e below (T.setTop g) target := by subst hv; exact XS.ifnonnullYes X.here hx hg hpc hd hs ho hp k
theorem XnonnullNo {target : State} (X : Stand p l e R s m args below meth c T locs cells slots) (hx : p.tables.exec = Jvm.exec) {g : JFrame} (hg : g.method = m) {v : Value} {rest : List Value} {o : Int} (hv : v = .null) (hd : decode c.code g.pc = .ok (.ifnonnull o, 3)) (hs : g.stack = v :: rest)
    (k : Steps p.tables e below (T.setTop { g with pc := g.pc + 3, stack := rest }) target) : Steps p.tables e below (T.setTop g) target := by subst hv; exact XS.ifnonnullNo X.here hx hg hd hs k
theorem cat_ref {v : Value} (h : v.isRef = true) : v.category = 1 := by rcases ref_cases h with rfl | ⟨a, rfl⟩ <;> rfl
theorem nar_ref (C : String) {v : Value} (h : v.isRef = true) : narrow (.object C) v = v := rfl
theorem fits_obj {C : String} {v : Value} (h : v.isRef = true) : fits (.object C) v = true := by rcases ref_cases h with rfl | ⟨a, rfl⟩ <;> rfl
def FinW (p : Program) (e : Env) (below : List Frame) (s : State) (Q : Option Value → Heap → List Loc → Prop) (C S : Nat) (t : State) : Prop :=
  ∃ s₂ o, Steps p.tables e below t s₂ ∧ s₂.status = .running ∧ Ended s₂ below o ∧ ∃ v L, o = .returned v ∧ Q v s₂.heap L ∧ ReturnedEndW s o s₂ L C S
theorem FinW.by {Q : Option Value → Heap → List Loc → Prop} {C S : Nat} {a b : State} (h : ∀ t, Steps p.tables e below b t → Steps p.tables e below a t) (k : FinW p e below s Q C S b) : FinW p e below s Q C S a := by
  obtain ⟨s₂, o, h1, h2⟩ := k; exact ⟨s₂, o, h _ h1, h2⟩
theorem FinW.byS {Q : Option Value → Heap → List Loc → Prop} {C S : Nat} {a b : State} (h : Steps p.tables e below a b) (k : FinW p e below s Q C S b) : FinW p e below s Q C S a := FinW.by (fun _ k => h.trans k) k
theorem FinW.start {Q : Option Value → Heap → List Loc → Prop} {C S : Nat} {g g' : JFrame} (q : g = g') (k : FinW p e below s Q C S (T.setTop g')) :
    ∃ s₂ o, Steps p.tables e below (T.setTop g) s₂ ∧ s₂.status = .running ∧ Ended s₂ below o ∧ ∃ v L, o = .returned v ∧ Q v s₂.heap L ∧ ReturnedEndW s o s₂ L C S := by
  subst q; exact k
theorem FinW.ret {Q : Option Value → Heap → List Loc → Prop} {C S : Nat} {v : Option Value} {g : JFrame} {V : Vm} {n : Nat} (X : Stand p l e R (s.setVm V) m args below meth c T locs cells slots) (hS : s.Since V n) (hn : n ≤ T.heap.size) (hv : meth.sig.returnType = none → v = none) (hl : meth.locks = false)
    (hq : Q v T.heap locs) (hc : cells ≤ C) (hs : slots ≤ S) (st : ∀ fs, (∀ (f : JFrame) (acts : List Action), f.method = m → f.locked = none → f.entered = [] → (doReturn e (T.setTop f) acts v).1 = T.setFrames fs) → Steps p.tables e below (T.setTop g) (T.setFrames fs)) :
    FinW p e below s Q C S (T.setTop g) := by
  obtain ⟨fs, hr, hrun, hended, hE⟩ := X.leaveW hS hn hv hl
  exact ⟨_, _, st fs hr, hrun, hended, _, _, rfl, hq, hE.1, hE.2.1, hE.2.2.1, hE.2.2.2.mono hc hs⟩
def FinH (p : Program) (e : Env) (below : List Frame) (Z : State) (EL : List (String × Nat)) (s : State) (Q : Option Value → Heap → List Loc → Prop) (C S : Nat) (t : State) : Prop :=
  ∃ s₂ o, Steps p.tables e below t s₂ ∧ s₂.status = .running ∧ Ended s₂ below o ∧ ∃ v L, o = .returned v ∧ Q v s₂.heap L ∧ CHr Z EL s.vm s.heap s₂.vm s₂.heap ∧ ReturnedEndW s o s₂ L C S
theorem FinH.by {Z : State} {EL : List (String × Nat)} {Q : Option Value → Heap → List Loc → Prop} {C S : Nat} {a b : State} (h : ∀ t, Steps p.tables e below b t → Steps p.tables e below a t) (k : FinH p e below Z EL s Q C S b) : FinH p e below Z EL s Q C S a := by
  obtain ⟨s₂, o, h1, h2⟩ := k; exact ⟨s₂, o, h _ h1, h2⟩
theorem FinH.byS {Z : State} {EL : List (String × Nat)} {Q : Option Value → Heap → List Loc → Prop} {C S : Nat} {a b : State} (h : Steps p.tables e below a b) (k : FinH p e below Z EL s Q C S b) : FinH p e below Z EL s Q C S a := FinH.by (fun _ k => h.trans k) k
theorem FinH.start {Z : State} {EL : List (String × Nat)} {Q : Option Value → Heap → List Loc → Prop} {C S : Nat} {g g' : JFrame} (q : g = g') (k : FinH p e below Z EL s Q C S (T.setTop g')) :
    ∃ s₂ o, Steps p.tables e below (T.setTop g) s₂ ∧ s₂.status = .running ∧ Ended s₂ below o ∧ ∃ v L, o = .returned v ∧ Q v s₂.heap L ∧ CHr Z EL s.vm s.heap s₂.vm s₂.heap ∧ ReturnedEndW s o s₂ L C S := by
  subst q; exact k
theorem FinH.ret {Z : State} {EL : List (String × Nat)} {Q : Option Value → Heap → List Loc → Prop} {C S : Nat} {v : Option Value} {g : JFrame} {V : Vm} {n : Nat} (X : Stand p l e R (s.setVm V) m args below meth c T locs cells slots) (hS : s.Since V n) (hn : n ≤ T.heap.size) (hv : meth.sig.returnType = none → v = none) (hl : meth.locks = false)
    (hq : Q v T.heap locs) (hC : CHr Z EL s.vm s.heap T.vm T.heap) (hc : cells ≤ C) (hs : slots ≤ S) (st : ∀ fs, (∀ (f : JFrame) (acts : List Action), f.method = m → f.locked = none → f.entered = [] → (doReturn e (T.setTop f) acts v).1 = T.setFrames fs) → Steps p.tables e below (T.setTop g) (T.setFrames fs)) :
    FinH p e below Z EL s Q C S (T.setTop g) := by
  obtain ⟨fs, hr, hrun, hended, hE⟩ := X.leaveW hS hn hv hl
  exact ⟨_, _, st fs hr, hrun, hended, _, _, rfl, hq, hC, hE.1, hE.2.1, hE.2.2.1, hE.2.2.2.mono hc hs⟩
end OwnKit
theorem own_and255 (x : Int32) : ¬ (x &&& 255) < 0 ∧ ¬ (255 : Int32) < (x &&& 255) := by
  have h := c_and x 255 (by decide)
  have h255 : (255 : Int32).toInt = 255 := by decide
  have h0 : (0 : Int32).toInt = 0 := by decide
  constructor
  · rw [Int32.lt_iff_toInt_lt]; omega
  · rw [Int32.lt_iff_toInt_lt]; omega
theorem own_c255 (x : Int32) : ¬ (nar .char ((x &&& (255 : Int32)).toUInt32.toUInt16.toUInt32.toInt32)) < 0 ∧ ¬ (255 : Int32) < (nar .char ((x &&& (255 : Int32)).toUInt32.toUInt16.toUInt32.toInt32)) := by
  rw [show nar .char ((x &&& (255 : Int32)).toUInt32.toUInt16.toUInt32.toInt32) = x &&& 255 from by simp only [nar, i2c_mask]]; exact own_and255 x
theorem own_cons {P : Int32 → Prop} {a : Int32} {L : List Int32} (h : P a) (k : ∀ c ∈ L, P c) : ∀ c ∈ a :: L, P c := fun c hc => (List.mem_cons.mp hc).elim (fun q => q ▸ h) (k c)
theorem own_nil {P : Int32 → Prop} : ∀ c ∈ ([] : List Int32), P c := fun _ h => nomatch h
theorem own_eqv {x y : Term} {s : State} {args : Array Value} {v : Value} (h : (Jvm.Cond.eq x y).value args s none s [] = some true) (hy : y.eval args s none [] s = some v) (hk : (match v with | .float _ | .double _ | .retAddr _ => false | _ => true) = true) : x.eval args s none [] s = some v := by
  cases hx : x.eval args s none [] s with
  | none => simp [Jvm.Cond.value, hx] at h
  | some u => cases u <;> cases v <;> simp [Jvm.Cond.value, hx, hy] at h hk ⊢ <;> exact h
theorem own_eqi {x : Term} {s : State} {args : Array Value} {n : Int32} (h : (Jvm.Cond.eq x (.int n)).value args s none s [] = some true) : x.eval args s none [] s = some (.int n) := own_eqv h (Term.int_eval n) rfl
theorem own_i8 (c : Int32) : (c.toInt8.toInt32).toInt8.toInt32 = c.toInt8.toInt32 := by simp
theorem own_shl1 {i : Nat} (h : i < 2 ^ 29) : (Int32.ofNat i <<< ((1 : Int32) &&& 31)) = Int32.ofNat (2 * i) := by
  have h1 := c_ishl (Int32.ofNat i) 1 1 (by decide)
  have h2 : (Int32.ofNat i).toInt = (i : Int) := toInt_of rfl (by omega)
  have h3 : (Int32.ofNat (2 * i)).toInt = ((2 * i : Nat) : Int) := toInt_of rfl (by omega)
  have h4 := rng32 (Int32.ofNat i <<< ((1 : Int32) &&& 31))
  rw [h2] at h1
  exact Int32.toInt_inj.mp (by rw [h3]; omega)
theorem own_ext {i : Nat} {x : Int32} (h : x = Int32.ofNat i) : x + (1 : Int32) = Int32.ofNat (i + 1) := by rw [h]; exact (inc_ofNat i).symm
theorem own_notlt {i : Nat} (h : i < 2 ^ 31) : ¬ Int32.ofNat i < (0 : Int32) := by
  rw [Int32.lt_iff_toInt_lt, toInt_of rfl h]; have : (0 : Int32).toInt = 0 := by decide
  omega
theorem own_ltn {i n : Nat} (h : i < n) (hn : n < 2 ^ 31) : Int32.ofNat i < Int32.ofNat n := by
  rw [Int32.lt_iff_toInt_lt, toInt_of rfl (by omega), toInt_of rfl hn]; omega
theorem own_codlen {cs : List Int32} {cd N2 : Int32} {vs : List Value} (h : StrChars.Road.CodA cs cd N2 vs) : cd = 0 ∨ cd = 1 := h.imp (fun q => q.1) (fun q => q.1)
theorem own_narch {c : Int32} (h : ¬ c < 0 ∧ ¬ (65535 : Int32) < c) : nar .char c = c := by
  have := StrChars.narrow_ch h.1 h.2
  exact Value.int.inj this
theorem own_up2 {cs : List Int32} (h : ∀ c ∈ cs, ¬ c < 0 ∧ ¬ (65535 : Int32) < c) {i : Nat} (hi : i < cs.length) : ¬ cs.getD i 0 < 0 ∧ ¬ (65535 : Int32) < cs.getD i 0 := by
  have e : cs.getD i 0 = cs[i] := by simp [List.getD_eq_getElem?_getD, hi]
  rw [e]; exact h _ (List.getElem_mem hi)
theorem own_lat {cs : List Int32} (hb3 : ∀ c ∈ cs, ¬ c < 0 ∧ ¬ (65535 : Int32) < c) (hlat : ∀ c ∈ cs, ¬ (255 : Int32) < c) {i : Nat} (hi : i < cs.length) : nar .char (nar .char ((StrChars.lo8 (cs.getD i 0) &&& (255 : Int32)).toUInt32.toUInt16.toUInt32.toInt32)) = cs.getD i 0 := by
  have hq := own_up2 hb3 hi
  have hq2 : ¬ (255 : Int32) < cs.getD i 0 := by
    have e : cs.getD i 0 = cs[i] := by simp [List.getD_eq_getElem?_getD, hi]
    rw [e]; exact hlat _ (List.getElem_mem hi)
  have e1 := StrChars.chr8_lo8 hq.1 hq2
  simp only [StrChars.chr8] at e1
  rw [e1, own_narch hq, own_narch hq]
theorem own_wid {cs : List Int32} (hb3 : ∀ c ∈ cs, ¬ c < 0 ∧ ¬ (65535 : Int32) < c) {i : Nat} (hi : i < cs.length) : nar .char (nar .char (nar .char (StrChars.pairCh (StrChars.lo8 (cs.getD i 0)) (StrChars.hi8 (cs.getD i 0))))) = cs.getD i 0 := by
  have hq := own_up2 hb3 hi
  rw [StrChars.pair_says hq.1 hq.2, own_narch hq, own_narch hq, own_narch hq]
theorem own_raw_lo (c : Int32) : ((c >>> ((0 : Int32) &&& 31)).toInt8.toInt32).toInt8.toInt32 = StrChars.lo8 c := by simp [StrChars.shr0, StrChars.lo8]
theorem own_raw_hi (c : Int32) : ((c >>> ((8 : Int32) &&& 31)).toInt8.toInt32).toInt8.toInt32 = StrChars.hi8 c := by simp [StrChars.hi8, StrChars.lo8]
theorem own_pw {c : Int32} (h : ¬ c < 0 ∧ ¬ (65535 : Int32) < c) : nar .char (StrChars.pairCh (((c >>> ((0 : Int32) &&& 31)).toInt8.toInt32).toInt8.toInt32) (((c >>> ((8 : Int32) &&& 31)).toInt8.toInt32).toInt8.toInt32)) = c := by
  rw [own_raw_lo, own_raw_hi, StrChars.pair_says h.1 h.2, own_narch h]
theorem own_slen {cs : List Int32} {cd N2 : Int32} {vs : List Value} (h : StrChars.Road.CodA cs cd N2 vs) (hl : cs.length ≤ 4000) : N2 >>> ((nar .byte cd) &&& 31) = Int32.ofNat cs.length := by
  rcases h with ⟨h1, h2, -, -⟩ | ⟨h1, h2, -, -⟩
  · subst h1; rw [h2, show ((nar .byte (0 : Int32)) &&& 31) = ((0 : Int32) &&& 31) from by decide, StrChars.shr0]
  · subst h1; rw [h2, show ((nar .byte (1 : Int32)) &&& 31) = ((1 : Int32) &&& 31) from by decide, StrChars.shr1 (by omega)]
def own_r (lo hi x : Int32) : Bool := !decide (x < lo) && !decide (hi < x)
theorem own_r0 {lo hi x : Int32} (h : x < lo) : own_r lo hi x = false := by unfold own_r; rw [decide_eq_true h]; rfl
theorem own_r1 {lo hi x : Int32} (h : hi < x) : own_r lo hi x = false := by unfold own_r; rw [decide_eq_true h]; simp
theorem own_r2 {lo hi x : Int32} (h : ¬ x < lo) (k : ¬ hi < x) : own_r lo hi x = true := by unfold own_r; rw [decide_eq_false h, decide_eq_false k]; rfl
def own_ok (x : Int32) : Bool := own_r 97 122 x || own_r 65 90 x || own_r 48 57 x || decide (x = 46) || decide (x = 95) || decide (x = 45) || decide (x = 64)
def own_bi : Bool → Int32 | true => 1 | false => 0
theorem own_bz {b : Bool} (h : nar .boolean (own_bi b) = 0) : b = false := by cases b; rfl; exact absurd h (by decide)
theorem own_bnz {b : Bool} (h : ¬ nar .boolean (own_bi b) = 0) : b = true := by cases b; exact absurd (by decide) h; rfl
def own_valid (cs : List Int32) : Int32 := if Int32.ofNat cs.length = 0 then 0 else if (128 : Int32) < Int32.ofNat cs.length then 0 else own_bi (cs.all own_ok)
theorem own_val0 : own_valid [] = 0 := by decide
theorem own_val1 (a : Int32) : own_valid [a] = own_bi (own_ok a) := by
  unfold own_valid; rw [if_neg (show ¬ (Int32.ofNat ([a] : List Int32).length = 0) from (show ¬ (Int32.ofNat 1 = 0) from by decide)), if_neg (show ¬ ((128 : Int32) < Int32.ofNat ([a] : List Int32).length) from (show ¬ ((128 : Int32) < Int32.ofNat 1) from by decide))]; simp
theorem own_val2 (a b : Int32) : own_valid [a, b] = own_bi (own_ok a && own_ok b) := by
  unfold own_valid; rw [if_neg (show ¬ (Int32.ofNat ([a, b] : List Int32).length = 0) from (show ¬ (Int32.ofNat 2 = 0) from by decide)), if_neg (show ¬ ((128 : Int32) < Int32.ofNat ([a, b] : List Int32).length) from (show ¬ ((128 : Int32) < Int32.ofNat 2) from by decide))]; simp
theorem own_val3 (a b d : Int32) : own_valid [a, b, d] = own_bi (own_ok a && (own_ok b && own_ok d)) := by
  unfold own_valid; rw [if_neg (show ¬ (Int32.ofNat ([a, b, d] : List Int32).length = 0) from (show ¬ (Int32.ofNat 3 = 0) from by decide)), if_neg (show ¬ ((128 : Int32) < Int32.ofNat ([a, b, d] : List Int32).length) from (show ¬ ((128 : Int32) < Int32.ofNat 3) from by decide))]; simp
theorem own_nc (x : Int32) : nar .char (x.toUInt32.toUInt16.toUInt32.toInt32) = (x.toUInt32.toUInt16.toUInt32.toInt32) := by simp only [nar, UInt32.toUInt32_toInt32, UInt16.toUInt16_toUInt32]
theorem own_nb (x : Int32) : ¬ nar .char x < 0 ∧ ¬ (65535 : Int32) < nar .char x := rng_char (fits_nar_char _)
theorem own_drop {cs : List Int32} {i : Nat} (hi : i < cs.length) : (cs.drop i).all own_ok = (own_ok (cs.getD i 0) && (cs.drop (i + 1)).all own_ok) := by
  rw [List.drop_eq_getElem_cons hi, List.all_cons, show cs.getD i 0 = cs[i] from by simp [List.getD_eq_getElem?_getD, hi]]
theorem own_ltof {i n : Nat} {j : Int32} (hj : j = Int32.ofNat i) (h : j < Int32.ofNat n) (hi : i ≤ n) (hn : n ≤ 4000) : i < n := by
  rw [hj, Int32.lt_iff_toInt_lt, toInt_of rfl (by omega), toInt_of rfl (by omega)] at h; omega
theorem own_geof {i n : Nat} {j : Int32} (hj : j = Int32.ofNat i) (h : ¬ j < Int32.ofNat n) (hi : i ≤ n) (hn : n ≤ 4000) : i = n := by
  rw [hj, Int32.lt_iff_toInt_lt, toInt_of rfl (by omega), toInt_of rfl (by omega)] at h; omega
theorem own_of4 {x : Int32} (h0 : 0 ≤ x.toInt) (h1 : x.toInt ≤ 3) : x = 0 ∨ x = 1 ∨ x = 2 ∨ x = 3 := by
  have h : x.toInt = 0 ∨ x.toInt = 1 ∨ x.toInt = 2 ∨ x.toInt = 3 := by omega
  rcases h with h | h | h | h
  · exact Or.inl (Int32.toInt_inj.mp (by rw [h]; decide))
  · exact Or.inr (Or.inl (Int32.toInt_inj.mp (by rw [h]; decide)))
  · exact Or.inr (Or.inr (Or.inl (Int32.toInt_inj.mp (by rw [h]; decide))))
  · exact Or.inr (Or.inr (Or.inr (Int32.toInt_inj.mp (by rw [h]; decide))))
theorem own_and3 (x : Int32) : (x &&& 3) = 0 ∨ (x &&& 3) = 1 ∨ (x &&& 3) = 2 ∨ (x &&& 3) = 3 := by
  have h := c_and x 3 (by decide)
  exact own_of4 h.1 (Int.le_trans h.2 (by decide))
def own_l128 : List Int32 := [97, 98, 99, 100, 101, 102, 103, 104, 105, 106, 107, 108, 109, 110, 111, 112, 113, 114, 115, 116, 117, 118, 119, 120, 121, 122, 65, 66, 67, 68, 69, 70, 71, 72, 73, 74, 75, 76, 77, 78, 79, 80, 81, 82, 83, 84, 85, 86, 87, 88, 89, 90, 48, 49, 50, 51, 52, 53, 54, 55, 56, 57, 46, 95, 45, 64, 97, 98, 99, 100, 101, 102, 103, 104, 105, 106, 107, 108, 109, 110, 111, 112, 113, 114, 115, 116, 117, 118, 119, 120, 121, 122, 65, 66, 67, 68, 69, 70, 71, 72, 73, 74, 75, 76, 77, 78, 79, 80, 81, 82, 83, 84, 85, 86, 87, 88, 89, 90, 48, 49, 50, 51, 52, 53, 54, 55, 56, 57]
def own_v128 : List Value := own_l128.map fun c => Value.int (StrChars.lo8 c)
set_option maxRecDepth 65536 in
theorem own_h128 : (∀ c ∈ ("abcdefghijklmnopqrstuvwxyzABCDEFGHIJKLMNOPQRSTUVWXYZ0123456789._-@abcdefghijklmnopqrstuvwxyzABCDEFGHIJKLMNOPQRSTUVWXYZ0123456789" : String).toList, c.toNat < 256) ∧ ("abcdefghijklmnopqrstuvwxyzABCDEFGHIJKLMNOPQRSTUVWXYZ0123456789._-@abcdefghijklmnopqrstuvwxyzABCDEFGHIJKLMNOPQRSTUVWXYZ0123456789" : String).toList.map (fun c => Value.int (Jvm.Lit.byteI c.toNat.toUInt16)) = own_v128 := by decide +kernel
set_option maxRecDepth 65536 in
theorem own_z128 : (128 : Int32).toNatClampNeg = own_v128.length := by decide +kernel
set_option maxRecDepth 65536 in
theorem own_c128 : StrChars.Road.CodA own_l128 0 128 own_v128 := Or.inl ⟨rfl, by decide +kernel, rfl, by decide +kernel⟩
set_option maxRecDepth 65536 in
theorem own_b128 : ∀ c ∈ own_l128, ¬ c < 0 ∧ ¬ (65535 : Int32) < c := by decide +kernel
set_option maxRecDepth 65536 in
theorem own_n128 : own_l128.length = 128 := by decide +kernel
def own_l129 : List Int32 := [97, 98, 99, 100, 101, 102, 103, 104, 105, 106, 107, 108, 109, 110, 111, 112, 113, 114, 115, 116, 117, 118, 119, 120, 121, 122, 65, 66, 67, 68, 69, 70, 71, 72, 73, 74, 75, 76, 77, 78, 79, 80, 81, 82, 83, 84, 85, 86, 87, 88, 89, 90, 48, 49, 50, 51, 52, 53, 54, 55, 56, 57, 46, 95, 45, 64, 97, 98, 99, 100, 101, 102, 103, 104, 105, 106, 107, 108, 109, 110, 111, 112, 113, 114, 115, 116, 117, 118, 119, 120, 121, 122, 65, 66, 67, 68, 69, 70, 71, 72, 73, 74, 75, 76, 77, 78, 79, 80, 81, 82, 83, 84, 85, 86, 87, 88, 89, 90, 48, 49, 50, 51, 52, 53, 54, 55, 56, 57, 97]
def own_v129 : List Value := own_l129.map fun c => Value.int (StrChars.lo8 c)
set_option maxRecDepth 65536 in
theorem own_h129 : (∀ c ∈ ("abcdefghijklmnopqrstuvwxyzABCDEFGHIJKLMNOPQRSTUVWXYZ0123456789._-@abcdefghijklmnopqrstuvwxyzABCDEFGHIJKLMNOPQRSTUVWXYZ0123456789a" : String).toList, c.toNat < 256) ∧ ("abcdefghijklmnopqrstuvwxyzABCDEFGHIJKLMNOPQRSTUVWXYZ0123456789._-@abcdefghijklmnopqrstuvwxyzABCDEFGHIJKLMNOPQRSTUVWXYZ0123456789a" : String).toList.map (fun c => Value.int (Jvm.Lit.byteI c.toNat.toUInt16)) = own_v129 := by decide +kernel
set_option maxRecDepth 65536 in
theorem own_z129 : (129 : Int32).toNatClampNeg = own_v129.length := by decide +kernel
set_option maxRecDepth 65536 in
theorem own_c129 : StrChars.Road.CodA own_l129 0 129 own_v129 := Or.inl ⟨rfl, by decide +kernel, rfl, by decide +kernel⟩
set_option maxRecDepth 65536 in
theorem own_b129 : ∀ c ∈ own_l129, ¬ c < 0 ∧ ¬ (65535 : Int32) < c := by decide +kernel
set_option maxRecDepth 65536 in
theorem own_n129 : own_l129.length = 129 := by decide +kernel
set_option maxRecDepth 65536 in
theorem own_val128 : own_valid own_l128 = 1 := by decide +kernel
set_option maxRecDepth 65536 in
theorem own_val129 : own_valid own_l129 = 0 := by decide +kernel
set_option maxRecDepth 65536 in
theorem own_EW0 {Z : State} {a0 : Array Value} (hw : ∀ d ∈ tables_1, d.before a0 Z = true) : EW Z a0 consts_1 := (EW.cons (w_ hw 0 rfl) (by decide +kernel) (EW.cons (w_ hw 73 rfl) (by decide +kernel) (EW.cons (w_ hw 75 rfl) (by decide +kernel) EW.nil)))
theorem own_strAtoms : ∀ d ∈ Bundle.stringAtoms, d ∈ tables_1 := by decide +kernel
theorem own_safe_blank {Z : State} {EL : List (String × Nat)} {vm : Vm} {h : Heap} {a : Addr} (hal : Z.vm.Alike vm) (E : Exa Z h a "java/lang/String") (F : Fld Z h a "java/lang/String" "value" "[B" .null) : Safe Z EL vm h a := fun B => by
  obtain ⟨p, hp, u, a', hb, q, hq, G, hy⟩ := B
  have ha := G.ha
  have hd := G.hd
  obtain ⟨cS, ⟨⟨s1, s2, s3, ⟨cv, kv, iv, s4, s4'⟩, ⟨cc, kc, ic, s5, s5'⟩, s6, s7, s8, s9, s10, s11, s12, s13, s14, s15, s16⟩, hfS, hcS⟩, ⟨kS, k1, k2, k3⟩, hB, hbyt⟩ := G
  rcases hy with rfl | rfl
  · obtain ⟨kv', z4⟩ := ff_back (U := Wst Z vm h) hal s4
    obtain ⟨cell, cf, k, i, f, f1, f2, f3, f4, f5, f6, f7⟩ := F
    cases f1.symm.trans ha
    cases f2.symm.trans z4
    rw [s8] at f7
    cases f7
  · obtain ⟨cell, k, e1, e2, e3, -⟩ := E
    cases e1.symm.trans hd
    have hBZ : Z.vm.findClass "[B" = some q.SA.cls := by rw [← hal.findClass]; exact hB
    obtain ⟨x1, y1, y2⟩ := Vm.findClass_spec e2
    obtain ⟨x2, w1, w2⟩ := Vm.findClass_spec hBZ
    cases y1.symm.trans w1
    exact absurd (y2.symm.trans w2) (by decide)
theorem d_jdk_41_method_11_0 : decode jdk_41_method_11_code 0 = .ok (.iload_n 0, 1) := by decide +kernel
theorem d_jdk_41_method_11_1 : decode jdk_41_method_11_code 1 = .ok (.ifCond .lt 8, 3) := by decide +kernel
theorem d_jdk_41_method_11_4 : decode jdk_41_method_11_code 4 = .ok (.iload_n 0, 1) := by decide +kernel
theorem d_jdk_41_method_11_5 : decode jdk_41_method_11_code 5 = .ok (.iload_n 1, 1) := by decide +kernel
theorem d_jdk_41_method_11_6 : decode jdk_41_method_11_code 6 = .ok (.if_icmp .lt 10, 3) := by decide +kernel
theorem d_jdk_41_method_11_16 : decode jdk_41_method_11_code 16 = .ok (.iload_n 0, 1) := by decide +kernel
theorem d_jdk_41_method_11_17 : decode jdk_41_method_11_code 17 = .ok (.ireturn, 1) := by decide +kernel
theorem pn_jdk_internal_util_Preconditions : plainName "jdk/internal/util/Preconditions" = true := by first | (simp [plainName, overriddenIn]; done) | decide +kernel
def Q_pci (Z : State) (i : Int32) (n : Int32) (v : Value) (h0 : Heap) (n0 : Nat) (vv_ : Option Value) (hh_ : Heap) (LL_ : List Loc) : Prop := vv_ = some (.int i) ∧ Fr n0 LL_ ∧ hh_ = h0
set_option maxRecDepth 65536 in
set_option maxHeartbeats 40000000 in
theorem rm_pci (l : Launch) (Z : State) (a0 : Array Value) (hw : ∀ d ∈ tables_1, d.before a0 Z = true) (ws : List Jvm.Cond) (i : Int32) (n : Int32) (v : Value) (h0 : Heap) (n0 : Nat) (Z0 : n0 ≤ h0.size) (hz0 : ¬ i < (0 : Int32)) (hz1 : i < n) (rv : v.isRef = true) :
    MetFree l (⟨"jdk/internal/util/Preconditions", "checkIndex", "(IILjava/util/function/BiFunction;)I"⟩ : MethodName) (head1 (Jvm.Cond.code (⟨"jdk/internal/util/Preconditions", "checkIndex", "(IILjava/util/function/BiFunction;)I"⟩ : MethodName) jdk_41_method_11_code 3 (some .int) :: ws) ({ frames := 0, cells := 0, slots := 0, locals := 0 } : Room)) (fun aa_ U => aa_ = #[(.int i), (.int n), v] ∧ Z.Warmed39 U.vm ∧ U.heap = h0) (fun _ _ _ _ _ => True) (fun _ U o U' => ∃ vv_ LL_, o = .returned vv_ ∧ Q_pci Z i n v h0 n0 vv_ U'.heap LL_ ∧ FrameEnd U o U' LL_ 0 0) := by
  refine MetFree.of_bodySF (plainFor_of_name pn_jdk_internal_util_Preconditions) hisR ?_
  intro p e s m args below meth c s₁ Bd hml0 hP hK
  obtain ⟨rfl, hZ, hh⟩ := hP
  have hx := Bd.exec
  have hby := Bd.bytes
  have hml : c.maxLocals = 3 := hml0
  have hown : s.vm.findClass "jdk/internal/util/Preconditions" = some m.cls := findClass_of_methodNamed Bd.named
  have hnm := (name_of_methodNamed Bd.named Bd.method).1
  have X0 : Stand p l e ({ frames := 0, cells := 0, slots := 0, locals := 0 } : Room) s m #[(.int i), (.int n), v] below meth c s₁ [] 0 0 := Stand.of_body Bd
  have e0 : s₁.heap = h0 := by rw [← hh, Bd.state]; rfl
  have N0 := Fr.nil n0
  have ef : entryFrame m #[(.int i), (.int n), v] 3 = mkF m 0 #[.val (.int i), .val (.int n), .val v] [] := by first | (simp [entryFrame, mkF, argsToLocals, Value.category]; done) | rfl | (rcases ref_cases rv with rfl | ⟨_, rfl⟩ <;> simp [entryFrame, mkF, argsToLocals, Value.category])
  refine Fin.start (Q := Q_pci Z i n v h0 n0) ef ?_
  refine Fin.by (fun tt_ kk_ => XS.iloadN X0.here hx rfl (hb hby d_jdk_41_method_11_0) rfl kk_) ?_
  show Fin _ _ _ _ _ _ _ (s₁.setTop (mkF m 1 #[.val (.int i), .val (.int n), .val v] [(.int i)]))
  refine Fin.by (fun tt_ kk_ => XS.ifNo X0.here hx rfl (hb hby d_jdk_41_method_11_1) rfl ((if0 _ _).trans (flt (hz0 : ¬ i < (0 : Int32))).1) kk_) ?_
  refine Fin.by (fun tt_ kk_ => XS.iloadN X0.here hx rfl (hb hby d_jdk_41_method_11_4) rfl (XS.iloadN X0.here hx rfl (hb hby d_jdk_41_method_11_5) rfl kk_)) ?_
  show Fin _ _ _ _ _ _ _ (s₁.setTop (mkF m 6 #[.val (.int i), .val (.int n), .val v] [(.int n), (.int i)]))
  refine Fin.by (fun tt_ kk_ => XS.icmpYes X0.here hx rfl (pc0 := 6) (pc' := 16) rfl (hb hby d_jdk_41_method_11_6) rfl (tlt (hz1 : i < n)).1 (by decide) (by decide) kk_) ?_
  refine Fin.by (fun tt_ kk_ => XS.iloadN X0.here hx rfl (hb hby d_jdk_41_method_11_16) rfl kk_) ?_
  show Fin _ _ _ _ _ _ _ (s₁.setTop (mkF m 17 #[.val (.int i), .val (.int n), .val v] [(.int i)]))
  exact Fin.ret (v := some (.int i)) X0 (fun h => by rw [Bd.returns] at h; cases h) Bd.notSynchronized (by rw [e0]; exact ⟨rfl, N0, rfl⟩) (by decide) (by decide) (fun fs hr => retI X0 hx Bd.returns (hb hby d_jdk_41_method_11_17) hr)
abbrev y_0 : MethodName := (⟨"jdk/internal/util/Preconditions", "checkIndex", "(IILjava/util/function/BiFunction;)I"⟩ : MethodName)
theorem d_jdk_42_method_155_0 : decode jdk_42_method_155_code 0 = .ok (.iload_n 0, 1) := by decide +kernel
theorem d_jdk_42_method_155_1 : decode jdk_42_method_155_code 1 = .ok (.iload_n 1, 1) := by decide +kernel
theorem d_jdk_42_method_155_2 : decode jdk_42_method_155_code 2 = .ok (.getstatic 1053, 3) := by decide +kernel
theorem pd_11 : parseMethodDescriptor "(IILjava/util/function/BiFunction;)I" = some ⟨[.int, .int, (.object "java/util/function/BiFunction")], some .int⟩ := by decide +kernel
theorem d_jdk_42_method_155_5 : decode jdk_42_method_155_code 5 = .ok (.invokestatic 1059, 3) := by decide +kernel
theorem d_jdk_42_method_155_8 : decode jdk_42_method_155_code 8 = .ok (.pop, 1) := by decide +kernel
theorem d_jdk_42_method_155_9 : decode jdk_42_method_155_code 9 = .ok (.return_, 1) := by decide +kernel
theorem pn_java_lang_String : plainName "java/lang/String" = true := by first | (simp [plainName, overriddenIn]; done) | decide +kernel
def Q_sci (Z : State) (i : Int32) (n : Int32) (G9 : Value) (h0 : Heap) (n0 : Nat) (vv_ : Option Value) (hh_ : Heap) (LL_ : List Loc) : Prop := vv_ = none ∧ Fr n0 LL_ ∧ hh_ = h0
set_option maxRecDepth 65536 in
set_option maxHeartbeats 40000000 in
theorem rm_sci (l : Launch) (Z : State) (a0 : Array Value) (hw : ∀ d ∈ tables_1, d.before a0 Z = true) (ws : List Jvm.Cond) (i : Int32) (n : Int32) (G9 : Value) (h0 : Heap) (n0 : Nat) (Z0 : n0 ≤ h0.size) (hz0 : ¬ i < (0 : Int32)) (hz1 : i < n) (S9 : Sta Z Z.heap "jdk/internal/util/Preconditions" "SIOOBE_FORMATTER" "Ljava/util/function/BiFunction;" G9) (r9 : G9.isRef = true) (OL : Old Z n0 h0) :
    MetFree l (⟨"java/lang/String", "checkIndex", "(II)V"⟩ : MethodName) (head1 (Jvm.Cond.code (⟨"java/lang/String", "checkIndex", "(II)V"⟩ : MethodName) jdk_42_method_155_code 2 none :: ws) ({ frames := 1, cells := 0, slots := 0, locals := 14 } : Room)) (fun aa_ U => aa_ = #[(.int i), (.int n)] ∧ Z.Warmed39 U.vm ∧ U.heap = h0) (fun _ _ _ _ _ => True) (fun _ U o U' => ∃ vv_ LL_, o = .returned vv_ ∧ Q_sci Z i n G9 h0 n0 vv_ U'.heap LL_ ∧ FrameEnd U o U' LL_ 0 0) := by
  refine MetFree.of_bodySF (plainFor_of_name pn_java_lang_String) hisR ?_
  intro p e s m args below meth c s₁ Bd hml0 hP hK
  obtain ⟨rfl, hZ, hh⟩ := hP
  have hx := Bd.exec
  have hby := Bd.bytes
  have hml : c.maxLocals = 2 := hml0
  have hown : s.vm.findClass "java/lang/String" = some m.cls := findClass_of_methodNamed Bd.named
  have hnm := (name_of_methodNamed Bd.named Bd.method).1
  have X0 : Stand p l e ({ frames := 1, cells := 0, slots := 0, locals := 14 } : Room) s m #[(.int i), (.int n)] below meth c s₁ [] 0 0 := Stand.of_body Bd
  have e0 : s₁.heap = h0 := by rw [← hh, Bd.state]; rfl
  have N0 := Fr.nil n0
  have ef : entryFrame m #[(.int i), (.int n)] 2 = mkF m 0 #[.val (.int i), .val (.int n)] [] := by first | (simp [entryFrame, mkF, argsToLocals, Value.category]; done) | rfl
  refine Fin.start (Q := Q_sci Z i n G9 h0 n0) ef ?_
  refine Fin.by (fun tt_ kk_ => XS.iloadN X0.here hx rfl (hb hby d_jdk_42_method_155_0) rfl (XS.iloadN X0.here hx rfl (hb hby d_jdk_42_method_155_1) rfl kk_)) ?_
  obtain ⟨T101, X101, e101, st101⟩ := getS X0 hx hZ (host := "") hown (w_ hw 68 rfl) Via.refl e0 (S9.ext OL.2) (g := (mkF m 2 #[.val (.int i), .val (.int n)] [(.int n), (.int i)])) rfl (hb hby d_jdk_42_method_155_2)
  refine Fin.by (fun tt_ kk_ => st101 tt_ kk_) ?_
  obtain ⟨v102, _, ⟨T102, L102, k102, n102⟩, -, X102, ⟨Lc102, hQ102, l102, y102, z102⟩, st102⟩ := Jvm.LawKit.callS X101 hx (y := y_0) hown (mvT hZ (w_ hw 70 rfl)) (mvT hZ (w_ hw 71 rfl)) (mvT hZ (w_ hw 69 rfl)) (mvT hZ (w_ hw 72 rfl)) (by decide) (backOf (W := 0) (rm_pci l Z a0 hw [] i n G9 h0 n0 Z0 hz0 hz1 r9) hZ (w_ hw 72 rfl) (w_ hw 69 rfl) (by decide) (by decide)) (g := (mkF m 5 #[.val (.int i), .val (.int n)] [G9, (.int n), (.int i)])) rfl (by rw [hml]; rfl) (argsL := [(.int i), (.int n), G9]) (rest := []) (lenOf pd_11 rfl) rfl (by show 2 * 0 + _ ≤ _; exact Nat.le_of_eq rfl) (hb hby d_jdk_42_method_155_5) (fun _ _ => ⟨rfl, e101, (by decide : 0 + 0 ≤ _), (by decide : 0 + 0 ≤ _)⟩)
  dsimp only [Pt.U, Pt.locs, Pt.cells, Pt.slots] at X102 l102 y102 z102 st102 hQ102
  subst l102 y102 z102
  obtain ⟨rfl, Nq102, e102_⟩ := hQ102
  have N102_ := Fr.app N0 Nq102
  refine Fin.by (fun tt_ kk_ => st102 tt_ kk_) ?_
  have e102 := e102_
  refine Fin.by (fun tt_ kk_ => XS.pop X102.here hx rfl (hb hby d_jdk_42_method_155_8) rfl rfl kk_) ?_
  show Fin _ _ _ _ _ _ _ (T102.setTop (mkF m 9 #[.val (.int i), .val (.int n)] []))
  exact Fin.ret (v := none) X102 (fun _ => rfl) Bd.notSynchronized (by rw [e102]; exact ⟨rfl, N102_, rfl⟩) (by decide) (by decide) (fun fs hr => X102.returnOut hx Bd.returns (hb hby d_jdk_42_method_155_9) hr)
abbrev y_1 : MethodName := (⟨"java/lang/String", "checkIndex", "(II)V"⟩ : MethodName)
theorem d_jdk_43_method_2_0 : decode jdk_43_method_2_code 0 = .ok (.iload_n 1, 1) := by decide +kernel
theorem d_jdk_43_method_2_1 : decode jdk_43_method_2_code 1 = .ok (.aload_n 0, 1) := by decide +kernel
theorem d_jdk_43_method_2_2 : decode jdk_43_method_2_code 2 = .ok (.arraylength, 1) := by decide +kernel
theorem pd_19 : parseMethodDescriptor "(II)V" = some ⟨[.int, .int], none⟩ := by decide +kernel
theorem d_jdk_43_method_2_3 : decode jdk_43_method_2_code 3 = .ok (.invokestatic 9, 3) := by decide +kernel
theorem d_jdk_43_method_2_6 : decode jdk_43_method_2_code 6 = .ok (.aload_n 0, 1) := by decide +kernel
theorem d_jdk_43_method_2_7 : decode jdk_43_method_2_code 7 = .ok (.iload_n 1, 1) := by decide +kernel
theorem d_jdk_43_method_2_8 : decode jdk_43_method_2_code 8 = .ok (.baload, 1) := by decide +kernel
theorem d_jdk_43_method_2_9 : decode jdk_43_method_2_code 9 = .ok (.sipush 255, 3) := by decide +kernel
theorem d_jdk_43_method_2_12 : decode jdk_43_method_2_code 12 = .ok (.iand, 1) := by decide +kernel
theorem d_jdk_43_method_2_13 : decode jdk_43_method_2_code 13 = .ok (.i2c, 1) := by decide +kernel
theorem d_jdk_43_method_2_14 : decode jdk_43_method_2_code 14 = .ok (.ireturn, 1) := by decide +kernel
theorem pn_java_lang_StringLatin1 : plainName "java/lang/StringLatin1" = true := by first | (simp [plainName, overriddenIn]; done) | decide +kernel
def Q_lch (Z : State) (t : Addr) (kb : ClassId) (N2 : Int32) (vs : List Value) (i : Nat) (j : Int32) (u : Int32) (G9 : Value) (h0 : Heap) (n0 : Nat) (vv_ : Option Value) (hh_ : Heap) (LL_ : List Loc) : Prop := vv_ = some (.int (nar .char ((u &&& (255 : Int32)).toUInt32.toUInt16.toUInt32.toInt32))) ∧ Fr n0 LL_ ∧ hh_ = h0
set_option maxRecDepth 65536 in
set_option maxHeartbeats 40000000 in
theorem rm_lch (l : Launch) (Z : State) (a0 : Array Value) (hw : ∀ d ∈ tables_1, d.before a0 Z = true) (ws : List Jvm.Cond) (t : Addr) (kb : ClassId) (N2 : Int32) (vs : List Value) (i : Nat) (j : Int32) (u : Int32) (G9 : Value) (h0 : Heap) (n0 : Nat) (Z0 : n0 ≤ h0.size) (hj : j = Int32.ofNat i) (hlt : j < N2) (hi : i < N2.toNatClampNeg) (hb2 : N2.toNatClampNeg < 2 ^ 31) (hu : vs.getD i (.int 0) = .int u) (A0 : Arv Z h0 t kb .byte N2 vs (.int 0)) (S9 : Sta Z Z.heap "jdk/internal/util/Preconditions" "SIOOBE_FORMATTER" "Ljava/util/function/BiFunction;" G9) (r9 : G9.isRef = true) (OL : Old Z n0 h0) :
    MetFree l (⟨"java/lang/StringLatin1", "charAt", "([BI)C"⟩ : MethodName) (head1 (Jvm.Cond.code (⟨"java/lang/StringLatin1", "charAt", "([BI)C"⟩ : MethodName) jdk_43_method_2_code 2 (some .char) :: ws) ({ frames := 2, cells := 0, slots := 0, locals := 27 } : Room)) (fun aa_ U => aa_ = #[(.ref t), (.int j)] ∧ Z.Warmed39 U.vm ∧ U.heap = h0) (fun _ _ _ _ _ => True) (fun _ U o U' => ∃ vv_ LL_, o = .returned vv_ ∧ Q_lch Z t kb N2 vs i j u G9 h0 n0 vv_ U'.heap LL_ ∧ FrameEnd U o U' LL_ 0 0) := by
  refine MetFree.of_bodySF (plainFor_of_name pn_java_lang_StringLatin1) hisR ?_
  intro p e s m args below meth c s₁ Bd hml0 hP hK
  obtain ⟨rfl, hZ, hh⟩ := hP
  have hx := Bd.exec
  have hby := Bd.bytes
  have hml : c.maxLocals = 2 := hml0
  have hown : s.vm.findClass "java/lang/StringLatin1" = some m.cls := findClass_of_methodNamed Bd.named
  have hnm := (name_of_methodNamed Bd.named Bd.method).1
  have X0 : Stand p l e ({ frames := 2, cells := 0, slots := 0, locals := 27 } : Room) s m #[(.ref t), (.int j)] below meth c s₁ [] 0 0 := Stand.of_body Bd
  have e0 : s₁.heap = h0 := by rw [← hh, Bd.state]; rfl
  have N0 := Fr.nil n0
  have ef : entryFrame m #[(.ref t), (.int j)] 2 = mkF m 0 #[.val (.ref t), .val (.int j)] [] := by first | (simp [entryFrame, mkF, argsToLocals, Value.category]; done) | rfl
  refine Fin.start (Q := Q_lch Z t kb N2 vs i j u G9 h0 n0) ef ?_
  refine Fin.by (fun tt_ kk_ => XS.iloadN X0.here hx rfl (hb hby d_jdk_43_method_2_0) rfl (XS.aloadN X0.here hx rfl (hb hby d_jdk_43_method_2_1) rfl rfl kk_)) ?_
  obtain ⟨cl101, Ar101, q101, S101, N101, H101, G101⟩ := id A0
  refine Fin.by (fun tt_ kk_ => X0.arraylength hx (by rw [e0]; exact Ar101.1) (State.isArrayOf_alike hZ.alike Ar101.2.1) (g := (mkF m 2 #[.val (.ref t), .val (.int j)] [(.ref t), (.int j)])) rfl rfl (hb hby d_jdk_43_method_2_2) _ kk_) ?_
  rw [len_of S101 N101]
  obtain ⟨v102, _, ⟨T102, L102, k102, n102⟩, -, X102, ⟨Lc102, hQ102, l102, y102, z102⟩, st102⟩ := Jvm.LawKit.callS X0 hx (y := y_1) hown (mvT hZ (w_ hw 65 rfl)) (mvT hZ (w_ hw 66 rfl)) (mvT hZ (w_ hw 1 rfl)) (mvT hZ (w_ hw 67 rfl)) (by decide) (backOf (W := 0) (rm_sci l Z a0 hw [] j N2 G9 h0 n0 Z0 (by rw [hj]; exact own_notlt (by omega)) hlt S9 r9 OL) hZ (w_ hw 67 rfl) (w_ hw 1 rfl) (by decide) (by decide)) (g := (mkF m 3 #[.val (.ref t), .val (.int j)] [(.int N2), (.int j)])) rfl (by rw [hml]; rfl) (argsL := [(.int j), (.int N2)]) (rest := []) (lenOf pd_19 rfl) rfl (by show 2 * 0 + _ ≤ _; exact Nat.le_of_eq rfl) (hb hby d_jdk_43_method_2_3) (fun _ _ => ⟨rfl, e0, (by decide : 0 + 0 ≤ _), (by decide : 0 + 0 ≤ _)⟩)
  dsimp only [Pt.U, Pt.locs, Pt.cells, Pt.slots] at X102 l102 y102 z102 st102 hQ102
  subst l102 y102 z102
  obtain ⟨rfl, Nq102, e102_⟩ := hQ102
  have N102_ := Fr.app N0 Nq102
  refine Fin.by (fun tt_ kk_ => st102 tt_ kk_) ?_
  have e102 := e102_
  refine Fin.by (fun tt_ kk_ => XS.aloadN X102.here hx rfl (hb hby d_jdk_43_method_2_6) rfl rfl (XS.iloadN X102.here hx rfl (hb hby d_jdk_43_method_2_7) rfl kk_)) ?_
  obtain ⟨cl103, Ar103, q103, S103, N103, H103, G103⟩ := id A0
  have hin103 : ¬ (j < 0 ∨ cl103.slots.size ≤ j.toNatClampNeg) := within hj (by rw [S103]; exact hi) (by rw [S103]; exact hb2)
  refine Fin.by (fun tt_ kk_ => X102.baloadBytes hx (j := j) (v := (.int u)) (by rw [e102]; exact Ar103.1) (State.isArrayOf_alike hZ.alike Ar103.2.1) Ar103.2.2 hin103 (Has.at H103 hin103 (by rw [clamp_of hj (by omega)]; exact hu)) (g := (mkF m 8 #[.val (.ref t), .val (.int j)] [(.int j), (.ref t)])) rfl rfl (hb hby d_jdk_43_method_2_8) _ kk_) ?_
  refine Fin.by (fun tt_ kk_ => XS.sipush X102.here hx rfl (hb hby d_jdk_43_method_2_9) (XS.iand X102.here hx rfl (hb hby d_jdk_43_method_2_12) rfl (XS.i2c X102.here hx rfl (hb hby d_jdk_43_method_2_13) rfl kk_))) ?_
  show Fin _ _ _ _ _ _ _ (T102.setTop (mkF m 14 #[.val (.ref t), .val (.int j)] [(.int ((u &&& 255).toUInt32.toUInt16.toUInt32.toInt32))]))
  exact Fin.ret (v := some (.int (nar .char ((u &&& (255 : Int32)).toUInt32.toUInt16.toUInt32.toInt32)))) X102 (fun h => by rw [Bd.returns] at h; cases h) Bd.notSynchronized (by rw [e102]; exact ⟨rfl, N102_, rfl⟩) (by decide) (by decide) (fun fs hr => retN X102 hx (t := .char) Bd.returns (by simp) (hb hby d_jdk_43_method_2_14) hr)
theorem d_jdk_52_method_6_0 : decode jdk_52_method_6_code 0 = .ok (.aload_n 0, 1) := by decide +kernel
theorem d_jdk_52_method_6_1 : decode jdk_52_method_6_code 1 = .ok (.arraylength, 1) := by decide +kernel
theorem d_jdk_52_method_6_2 : decode jdk_52_method_6_code 2 = .ok (.iconst 1, 1) := by decide +kernel
theorem d_jdk_52_method_6_3 : decode jdk_52_method_6_code 3 = .ok (.ishr, 1) := by decide +kernel
theorem d_jdk_52_method_6_4 : decode jdk_52_method_6_code 4 = .ok (.ireturn, 1) := by decide +kernel
theorem pn_java_lang_StringUTF16 : plainName "java/lang/StringUTF16" = true := by first | (simp [plainName, overriddenIn]; done) | decide +kernel
def Q_ule (Z : State) (t : Addr) (kb : ClassId) (N2 : Int32) (vs : List Value) (h0 : Heap) (n0 : Nat) (vv_ : Option Value) (hh_ : Heap) (LL_ : List Loc) : Prop := vv_ = some (.int (N2 >>> ((1 : Int32) &&& 31))) ∧ Fr n0 LL_ ∧ hh_ = h0
set_option maxRecDepth 65536 in
set_option maxHeartbeats 40000000 in
theorem rm_ule (l : Launch) (Z : State) (a0 : Array Value) (hw : ∀ d ∈ tables_1, d.before a0 Z = true) (ws : List Jvm.Cond) (t : Addr) (kb : ClassId) (N2 : Int32) (vs : List Value) (h0 : Heap) (n0 : Nat) (Z0 : n0 ≤ h0.size) (A0 : Arv Z h0 t kb .byte N2 vs (.int 0)) :
    MetFree l (⟨"java/lang/StringUTF16", "length", "([B)I"⟩ : MethodName) (head1 (Jvm.Cond.code (⟨"java/lang/StringUTF16", "length", "([B)I"⟩ : MethodName) jdk_52_method_6_code 1 (some .int) :: ws) ({ frames := 0, cells := 0, slots := 0, locals := 0 } : Room)) (fun aa_ U => aa_ = #[(.ref t)] ∧ Z.Warmed39 U.vm ∧ U.heap = h0) (fun _ _ _ _ _ => True) (fun _ U o U' => ∃ vv_ LL_, o = .returned vv_ ∧ Q_ule Z t kb N2 vs h0 n0 vv_ U'.heap LL_ ∧ FrameEnd U o U' LL_ 0 0) := by
  refine MetFree.of_bodySF (plainFor_of_name pn_java_lang_StringUTF16) hisR ?_
  intro p e s m args below meth c s₁ Bd hml0 hP hK
  obtain ⟨rfl, hZ, hh⟩ := hP
  have hx := Bd.exec
  have hby := Bd.bytes
  have hml : c.maxLocals = 1 := hml0
  have hown : s.vm.findClass "java/lang/StringUTF16" = some m.cls := findClass_of_methodNamed Bd.named
  have hnm := (name_of_methodNamed Bd.named Bd.method).1
  have X0 : Stand p l e ({ frames := 0, cells := 0, slots := 0, locals := 0 } : Room) s m #[(.ref t)] below meth c s₁ [] 0 0 := Stand.of_body Bd
  have e0 : s₁.heap = h0 := by rw [← hh, Bd.state]; rfl
  have N0 := Fr.nil n0
  have ef : entryFrame m #[(.ref t)] 1 = mkF m 0 #[.val (.ref t)] [] := by first | (simp [entryFrame, mkF, argsToLocals, Value.category]; done) | rfl
  refine Fin.start (Q := Q_ule Z t kb N2 vs h0 n0) ef ?_
  refine Fin.by (fun tt_ kk_ => XS.aloadN X0.here hx rfl (hb hby d_jdk_52_method_6_0) rfl rfl kk_) ?_
  obtain ⟨cl101, Ar101, q101, S101, N101, H101, G101⟩ := id A0
  refine Fin.by (fun tt_ kk_ => X0.arraylength hx (by rw [e0]; exact Ar101.1) (State.isArrayOf_alike hZ.alike Ar101.2.1) (g := (mkF m 1 #[.val (.ref t)] [(.ref t)])) rfl rfl (hb hby d_jdk_52_method_6_1) _ kk_) ?_
  rw [len_of S101 N101]
  refine Fin.by (fun tt_ kk_ => XS.iconst X0.here hx rfl (hb hby d_jdk_52_method_6_2) (XS.ishr X0.here hx rfl (hb hby d_jdk_52_method_6_3) rfl kk_)) ?_
  show Fin _ _ _ _ _ _ _ (s₁.setTop (mkF m 4 #[.val (.ref t)] [(.int (N2 >>> (1 &&& 31)))]))
  exact Fin.ret (v := some (.int (N2 >>> ((1 : Int32) &&& 31)))) X0 (fun h => by rw [Bd.returns] at h; cases h) Bd.notSynchronized (by rw [e0]; exact ⟨rfl, N0, rfl⟩) (by decide) (by decide) (fun fs hr => retI X0 hx Bd.returns (hb hby d_jdk_52_method_6_4) hr)
abbrev y_2 : MethodName := (⟨"java/lang/StringUTF16", "length", "([B)I"⟩ : MethodName)
theorem d_jdk_52_method_91_0 : decode jdk_52_method_91_code 0 = .ok (.iload_n 0, 1) := by decide +kernel
theorem d_jdk_52_method_91_1 : decode jdk_52_method_91_code 1 = .ok (.aload_n 1, 1) := by decide +kernel
theorem pd_37 : parseMethodDescriptor "([B)I" = some ⟨[(.array .byte)], some .int⟩ := by decide +kernel
theorem d_jdk_52_method_91_2 : decode jdk_52_method_91_code 2 = .ok (.invokestatic 48, 3) := by decide +kernel
theorem d_jdk_52_method_91_5 : decode jdk_52_method_91_code 5 = .ok (.invokestatic 414, 3) := by decide +kernel
theorem d_jdk_52_method_91_8 : decode jdk_52_method_91_code 8 = .ok (.return_, 1) := by decide +kernel
def Q_uck (Z : State) (t : Addr) (kb : ClassId) (N2 : Int32) (vs : List Value) (j : Int32) (G9 : Value) (h0 : Heap) (n0 : Nat) (vv_ : Option Value) (hh_ : Heap) (LL_ : List Loc) : Prop := vv_ = none ∧ Fr n0 LL_ ∧ hh_ = h0
set_option maxRecDepth 65536 in
set_option maxHeartbeats 40000000 in
theorem rm_uck (l : Launch) (Z : State) (a0 : Array Value) (hw : ∀ d ∈ tables_1, d.before a0 Z = true) (ws : List Jvm.Cond) (t : Addr) (kb : ClassId) (N2 : Int32) (vs : List Value) (j : Int32) (G9 : Value) (h0 : Heap) (n0 : Nat) (Z0 : n0 ≤ h0.size) (hz0 : ¬ j < (0 : Int32)) (hz1 : j < (N2 >>> ((1 : Int32) &&& 31))) (A0 : Arv Z h0 t kb .byte N2 vs (.int 0)) (S9 : Sta Z Z.heap "jdk/internal/util/Preconditions" "SIOOBE_FORMATTER" "Ljava/util/function/BiFunction;" G9) (r9 : G9.isRef = true) (OL : Old Z n0 h0) :
    MetFree l (⟨"java/lang/StringUTF16", "checkIndex", "(I[B)V"⟩ : MethodName) (head1 (Jvm.Cond.code (⟨"java/lang/StringUTF16", "checkIndex", "(I[B)V"⟩ : MethodName) jdk_52_method_91_code 2 none :: ws) ({ frames := 2, cells := 0, slots := 0, locals := 27 } : Room)) (fun aa_ U => aa_ = #[(.int j), (.ref t)] ∧ Z.Warmed39 U.vm ∧ U.heap = h0) (fun _ _ _ _ _ => True) (fun _ U o U' => ∃ vv_ LL_, o = .returned vv_ ∧ Q_uck Z t kb N2 vs j G9 h0 n0 vv_ U'.heap LL_ ∧ FrameEnd U o U' LL_ 0 0) := by
  refine MetFree.of_bodySF (plainFor_of_name pn_java_lang_StringUTF16) hisR ?_
  intro p e s m args below meth c s₁ Bd hml0 hP hK
  obtain ⟨rfl, hZ, hh⟩ := hP
  have hx := Bd.exec
  have hby := Bd.bytes
  have hml : c.maxLocals = 2 := hml0
  have hown : s.vm.findClass "java/lang/StringUTF16" = some m.cls := findClass_of_methodNamed Bd.named
  have hnm := (name_of_methodNamed Bd.named Bd.method).1
  have X0 : Stand p l e ({ frames := 2, cells := 0, slots := 0, locals := 27 } : Room) s m #[(.int j), (.ref t)] below meth c s₁ [] 0 0 := Stand.of_body Bd
  have e0 : s₁.heap = h0 := by rw [← hh, Bd.state]; rfl
  have N0 := Fr.nil n0
  have ef : entryFrame m #[(.int j), (.ref t)] 2 = mkF m 0 #[.val (.int j), .val (.ref t)] [] := by first | (simp [entryFrame, mkF, argsToLocals, Value.category]; done) | rfl
  refine Fin.start (Q := Q_uck Z t kb N2 vs j G9 h0 n0) ef ?_
  refine Fin.by (fun tt_ kk_ => XS.iloadN X0.here hx rfl (hb hby d_jdk_52_method_91_0) rfl (XS.aloadN X0.here hx rfl (hb hby d_jdk_52_method_91_1) rfl rfl kk_)) ?_
  obtain ⟨v101, _, ⟨T101, L101, k101, n101⟩, -, X101, ⟨Lc101, hQ101, l101, y101, z101⟩, st101⟩ := Jvm.LawKit.callS X0 hx (y := y_2) hown (mvT hZ (w_ hw 101 rfl)) (mvT hZ (w_ hw 102 rfl)) (mvT hZ (w_ hw 23 rfl)) (mvT hZ (w_ hw 103 rfl)) (by decide) (backOf (W := 1) (rm_ule l Z a0 hw [] t kb N2 (vs : List Value) h0 n0 Z0 A0) hZ (w_ hw 103 rfl) (w_ hw 23 rfl) (by decide) (by decide)) (g := (mkF m 2 #[.val (.int j), .val (.ref t)] [(.ref t), (.int j)])) rfl (by rw [hml]; rfl) (argsL := [(.ref t)]) (rest := [(.int j)]) (lenOf pd_37 rfl) rfl (by show 2 * 0 + _ ≤ _; exact Nat.le_of_eq rfl) (hb hby d_jdk_52_method_91_2) (fun _ _ => ⟨rfl, e0, (by decide : 0 + 0 ≤ _), (by decide : 0 + 0 ≤ _)⟩)
  dsimp only [Pt.U, Pt.locs, Pt.cells, Pt.slots] at X101 l101 y101 z101 st101 hQ101
  subst l101 y101 z101
  obtain ⟨rfl, Nq101, e101_⟩ := hQ101
  have N101_ := Fr.app N0 Nq101
  refine Fin.by (fun tt_ kk_ => st101 tt_ kk_) ?_
  have e101 := e101_
  obtain ⟨v102, _, ⟨T102, L102, k102, n102⟩, -, X102, ⟨Lc102, hQ102, l102, y102, z102⟩, st102⟩ := Jvm.LawKit.callS X101 hx (y := y_1) hown (mvT hZ (w_ hw 104 rfl)) (mvT hZ (w_ hw 66 rfl)) (mvT hZ (w_ hw 1 rfl)) (mvT hZ (w_ hw 67 rfl)) (by decide) (backOf (W := 0) (rm_sci l Z a0 hw [] j (N2 >>> ((1 : Int32) &&& 31)) G9 h0 n0 Z0 hz0 hz1 S9 r9 OL) hZ (w_ hw 67 rfl) (w_ hw 1 rfl) (by decide) (by decide)) (g := (mkF m 5 #[.val (.int j), .val (.ref t)] [(.int (N2 >>> (1 &&& 31))), (.int j)])) rfl (by rw [hml]; rfl) (argsL := [(.int j), (.int (N2 >>> (1 &&& 31)))]) (rest := []) (lenOf pd_19 rfl) rfl (by show 2 * 0 + _ ≤ _; exact Nat.le_of_eq rfl) (hb hby d_jdk_52_method_91_5) (fun _ _ => ⟨rfl, e101, (by decide : 0 + 0 ≤ _), (by decide : 0 + 0 ≤ _)⟩)
  dsimp only [Pt.U, Pt.locs, Pt.cells, Pt.slots] at X102 l102 y102 z102 st102 hQ102
  subst l102 y102 z102
  obtain ⟨rfl, Nq102, e102_⟩ := hQ102
  have N102_ := Fr.app N101_ Nq102
  refine Fin.by (fun tt_ kk_ => st102 tt_ kk_) ?_
  have e102 := e102_
  show Fin _ _ _ _ _ _ _ (T102.setTop (mkF m 8 #[.val (.int j), .val (.ref t)] []))
  exact Fin.ret (v := none) X102 (fun _ => rfl) Bd.notSynchronized (by rw [e102]; exact ⟨rfl, N102_, rfl⟩) (by decide) (by decide) (fun fs hr => X102.returnOut hx Bd.returns (hb hby d_jdk_52_method_91_8) hr)
theorem d_jdk_52_method_5_0 : decode jdk_52_method_5_code 0 = .ok (.getstatic 44, 3) := by decide +kernel
theorem d_jdk_52_method_5_3 : decode jdk_52_method_5_code 3 = .ok (.ifCond .ne 25, 3) := by decide +kernel
theorem d_jdk_52_method_5_28 : decode jdk_52_method_5_code 28 = .ok (.iload_n 1, 1) := by decide +kernel
theorem d_jdk_52_method_5_29 : decode jdk_52_method_5_code 29 = .ok (.iconst 1, 1) := by decide +kernel
theorem d_jdk_52_method_5_30 : decode jdk_52_method_5_code 30 = .ok (.ishl, 1) := by decide +kernel
theorem d_jdk_52_method_5_31 : decode jdk_52_method_5_code 31 = .ok (.istore_n 1, 1) := by decide +kernel
theorem d_jdk_52_method_5_32 : decode jdk_52_method_5_code 32 = .ok (.aload_n 0, 1) := by decide +kernel
theorem d_jdk_52_method_5_33 : decode jdk_52_method_5_code 33 = .ok (.iload_n 1, 1) := by decide +kernel
theorem d_jdk_52_method_5_34 : decode jdk_52_method_5_code 34 = .ok (.iinc 1 1, 3) := by decide +kernel
theorem d_jdk_52_method_5_37 : decode jdk_52_method_5_code 37 = .ok (.baload, 1) := by decide +kernel
theorem d_jdk_52_method_5_38 : decode jdk_52_method_5_code 38 = .ok (.sipush 255, 3) := by decide +kernel
theorem d_jdk_52_method_5_41 : decode jdk_52_method_5_code 41 = .ok (.iand, 1) := by decide +kernel
theorem d_jdk_52_method_5_42 : decode jdk_52_method_5_code 42 = .ok (.getstatic 59, 3) := by decide +kernel
theorem d_jdk_52_method_5_45 : decode jdk_52_method_5_code 45 = .ok (.ishl, 1) := by decide +kernel
theorem d_jdk_52_method_5_46 : decode jdk_52_method_5_code 46 = .ok (.aload_n 0, 1) := by decide +kernel
theorem d_jdk_52_method_5_47 : decode jdk_52_method_5_code 47 = .ok (.iload_n 1, 1) := by decide +kernel
theorem d_jdk_52_method_5_48 : decode jdk_52_method_5_code 48 = .ok (.baload, 1) := by decide +kernel
theorem d_jdk_52_method_5_49 : decode jdk_52_method_5_code 49 = .ok (.sipush 255, 3) := by decide +kernel
theorem d_jdk_52_method_5_52 : decode jdk_52_method_5_code 52 = .ok (.iand, 1) := by decide +kernel
theorem d_jdk_52_method_5_53 : decode jdk_52_method_5_code 53 = .ok (.getstatic 63, 3) := by decide +kernel
theorem d_jdk_52_method_5_56 : decode jdk_52_method_5_code 56 = .ok (.ishl, 1) := by decide +kernel
theorem d_jdk_52_method_5_57 : decode jdk_52_method_5_code 57 = .ok (.ior, 1) := by decide +kernel
theorem d_jdk_52_method_5_58 : decode jdk_52_method_5_code 58 = .ok (.i2c, 1) := by decide +kernel
theorem d_jdk_52_method_5_59 : decode jdk_52_method_5_code 59 = .ok (.ireturn, 1) := by decide +kernel
def Q_uge (Z : State) (t : Addr) (kb : ClassId) (N2 : Int32) (vs : List Value) (i : Nat) (j : Int32) (u : Int32) (v : Int32) (h0 : Heap) (n0 : Nat) (vv_ : Option Value) (hh_ : Heap) (LL_ : List Loc) : Prop := vv_ = some (.int (nar .char (StrChars.pairCh u v))) ∧ Fr n0 LL_ ∧ hh_ = h0
set_option maxRecDepth 65536 in
set_option maxHeartbeats 40000000 in
theorem rm_uge (l : Launch) (Z : State) (a0 : Array Value) (hw : ∀ d ∈ tables_1, d.before a0 Z = true) (ws : List Jvm.Cond) (t : Addr) (kb : ClassId) (N2 : Int32) (vs : List Value) (i : Nat) (j : Int32) (u : Int32) (v : Int32) (h0 : Heap) (n0 : Nat) (Z0 : n0 ≤ h0.size) (hj : j = Int32.ofNat i) (hi : 2 * i + 1 < N2.toNatClampNeg) (hb2 : N2.toNatClampNeg < 2 ^ 29) (hu : vs.getD (2 * i) (.int 0) = .int u) (hv : vs.getD (2 * i + 1) (.int 0) = .int v) (A0 : Arv Z h0 t kb .byte N2 vs (.int 0)) (S6 : Sta Z Z.heap "java/lang/StringUTF16" "$assertionsDisabled" "Z" (.int (1 : Int32))) (S7 : Sta Z Z.heap "java/lang/StringUTF16" "HI_BYTE_SHIFT" "I" (.int (0 : Int32))) (S8 : Sta Z Z.heap "java/lang/StringUTF16" "LO_BYTE_SHIFT" "I" (.int (8 : Int32))) (OL : Old Z n0 h0) :
    MetFree l (⟨"java/lang/StringUTF16", "getChar", "([BI)C"⟩ : MethodName) (head1 (Jvm.Cond.code (⟨"java/lang/StringUTF16", "getChar", "([BI)C"⟩ : MethodName) jdk_52_method_5_code 2 (some .char) :: ws) ({ frames := 0, cells := 0, slots := 0, locals := 0 } : Room)) (fun aa_ U => aa_ = #[(.ref t), (.int j)] ∧ Z.Warmed39 U.vm ∧ U.heap = h0) (fun _ _ _ _ _ => True) (fun _ U o U' => ∃ vv_ LL_, o = .returned vv_ ∧ Q_uge Z t kb N2 vs i j u v h0 n0 vv_ U'.heap LL_ ∧ FrameEnd U o U' LL_ 0 0) := by
  refine MetFree.of_bodySF (plainFor_of_name pn_java_lang_StringUTF16) hisR ?_
  intro p e s m args below meth c s₁ Bd hml0 hP hK
  obtain ⟨rfl, hZ, hh⟩ := hP
  have hx := Bd.exec
  have hby := Bd.bytes
  have hml : c.maxLocals = 2 := hml0
  have hown : s.vm.findClass "java/lang/StringUTF16" = some m.cls := findClass_of_methodNamed Bd.named
  have hnm := (name_of_methodNamed Bd.named Bd.method).1
  have X0 : Stand p l e ({ frames := 0, cells := 0, slots := 0, locals := 0 } : Room) s m #[(.ref t), (.int j)] below meth c s₁ [] 0 0 := Stand.of_body Bd
  have e0 : s₁.heap = h0 := by rw [← hh, Bd.state]; rfl
  have N0 := Fr.nil n0
  have ef : entryFrame m #[(.ref t), (.int j)] 2 = mkF m 0 #[.val (.ref t), .val (.int j)] [] := by first | (simp [entryFrame, mkF, argsToLocals, Value.category]; done) | rfl
  refine Fin.start (Q := Q_uge Z t kb N2 vs i j u v h0 n0) ef ?_
  obtain ⟨T101, X101, e101, st101⟩ := getS X0 hx hZ (host := "") hown (w_ hw 89 rfl) Via.refl e0 (S6.ext OL.2) (g := (mkF m 0 #[.val (.ref t), .val (.int j)] [])) rfl (hb hby d_jdk_52_method_5_0)
  refine Fin.by (fun tt_ kk_ => st101 tt_ kk_) ?_
  show Fin _ _ _ _ _ _ _ (T101.setTop (mkF m 3 #[.val (.ref t), .val (.int j)] [(.int 1)]))
  refine Fin.by (fun tt_ kk_ => XS.ifYes X101.here hx rfl (pc0 := 3) (pc' := 28) rfl (hb hby d_jdk_52_method_5_3) rfl ((if0 _ _).trans (feq (by decide : ¬ (1 : Int32) = (0 : Int32))).2) (by decide) (by decide) kk_) ?_
  refine Fin.by (fun tt_ kk_ => XS.iloadN X101.here hx rfl (hb hby d_jdk_52_method_5_28) rfl (XS.iconst X101.here hx rfl (hb hby d_jdk_52_method_5_29) (XS.ishl X101.here hx rfl (hb hby d_jdk_52_method_5_30) rfl (XS.istoreN X101.here hx rfl (hb hby d_jdk_52_method_5_31) rfl (l' := #[.val (.ref t), .val (.int (j <<< (1 &&& 31)))]) rfl (XS.aloadN X101.here hx rfl (hb hby d_jdk_52_method_5_32) rfl rfl (XS.iloadN X101.here hx rfl (hb hby d_jdk_52_method_5_33) rfl (XS.iinc X101.here hx rfl (hb hby d_jdk_52_method_5_34) rfl (l' := #[.val (.ref t), .val (.int ((j <<< (1 &&& 31)) + 1))]) rfl kk_))))))) ?_
  have q1 : (j <<< ((1 : Int32) &&& 31)) = Int32.ofNat (2 * i) := by rw [hj]; exact own_shl1 (by omega)
  have q2 := own_ext q1
  obtain ⟨cl102, Ar102, q102, S102, N102, H102, G102⟩ := id A0
  have hin102 : ¬ ((j <<< ((1 : Int32) &&& 31)) < 0 ∨ cl102.slots.size ≤ (j <<< ((1 : Int32) &&& 31)).toNatClampNeg) := within q1 (by rw [S102]; omega) (by rw [S102]; omega)
  refine Fin.by (fun tt_ kk_ => X101.baloadBytes hx (j := (j <<< ((1 : Int32) &&& 31))) (v := (.int u)) (by rw [e101]; exact Ar102.1) (State.isArrayOf_alike hZ.alike Ar102.2.1) Ar102.2.2 hin102 (Has.at H102 hin102 (by rw [clamp_of q1 (by omega)]; exact hu)) (g := (mkF m 37 #[.val (.ref t), .val (.int ((j <<< (1 &&& 31)) + 1))] [(.int (j <<< (1 &&& 31))), (.ref t)])) rfl rfl (hb hby d_jdk_52_method_5_37) _ kk_) ?_
  refine Fin.by (fun tt_ kk_ => XS.sipush X101.here hx rfl (hb hby d_jdk_52_method_5_38) (XS.iand X101.here hx rfl (hb hby d_jdk_52_method_5_41) rfl kk_)) ?_
  obtain ⟨T103, X103, e103, st103⟩ := getS X101 hx hZ (host := "") hown (w_ hw 90 rfl) Via.refl e101 (S7.ext OL.2) (g := (mkF m 42 #[.val (.ref t), .val (.int ((j <<< (1 &&& 31)) + 1))] [(.int (u &&& 255))])) rfl (hb hby d_jdk_52_method_5_42)
  refine Fin.by (fun tt_ kk_ => st103 tt_ kk_) ?_
  refine Fin.by (fun tt_ kk_ => XS.ishl X103.here hx rfl (hb hby d_jdk_52_method_5_45) rfl (XS.aloadN X103.here hx rfl (hb hby d_jdk_52_method_5_46) rfl rfl (XS.iloadN X103.here hx rfl (hb hby d_jdk_52_method_5_47) rfl kk_))) ?_
  obtain ⟨cl104, Ar104, q104, S104, N104, H104, G104⟩ := id A0
  have hin104 : ¬ (((j <<< ((1 : Int32) &&& 31)) + (1 : Int32)) < 0 ∨ cl104.slots.size ≤ ((j <<< ((1 : Int32) &&& 31)) + (1 : Int32)).toNatClampNeg) := within q2 (by rw [S104]; omega) (by rw [S104]; omega)
  refine Fin.by (fun tt_ kk_ => X103.baloadBytes hx (j := ((j <<< ((1 : Int32) &&& 31)) + (1 : Int32))) (v := (.int v)) (by rw [e103]; exact Ar104.1) (State.isArrayOf_alike hZ.alike Ar104.2.1) Ar104.2.2 hin104 (Has.at H104 hin104 (by rw [clamp_of q2 (by omega)]; exact hv)) (g := (mkF m 48 #[.val (.ref t), .val (.int ((j <<< (1 &&& 31)) + 1))] [(.int ((j <<< (1 &&& 31)) + 1)), (.ref t), (.int ((u &&& 255) <<< (0 &&& 31)))])) rfl rfl (hb hby d_jdk_52_method_5_48) _ kk_) ?_
  refine Fin.by (fun tt_ kk_ => XS.sipush X103.here hx rfl (hb hby d_jdk_52_method_5_49) (XS.iand X103.here hx rfl (hb hby d_jdk_52_method_5_52) rfl kk_)) ?_
  obtain ⟨T105, X105, e105, st105⟩ := getS X103 hx hZ (host := "") hown (w_ hw 91 rfl) Via.refl e103 (S8.ext OL.2) (g := (mkF m 53 #[.val (.ref t), .val (.int ((j <<< (1 &&& 31)) + 1))] [(.int (v &&& 255)), (.int ((u &&& 255) <<< (0 &&& 31)))])) rfl (hb hby d_jdk_52_method_5_53)
  refine Fin.by (fun tt_ kk_ => st105 tt_ kk_) ?_
  refine Fin.by (fun tt_ kk_ => XS.ishl X105.here hx rfl (hb hby d_jdk_52_method_5_56) rfl (XS.ior X105.here hx rfl (hb hby d_jdk_52_method_5_57) rfl (XS.i2c X105.here hx rfl (hb hby d_jdk_52_method_5_58) rfl kk_))) ?_
  show Fin _ _ _ _ _ _ _ (T105.setTop (mkF m 59 #[.val (.ref t), .val (.int ((j <<< (1 &&& 31)) + 1))] [(.int ((((u &&& 255) <<< (0 &&& 31)) ||| ((v &&& 255) <<< (8 &&& 31))).toUInt32.toUInt16.toUInt32.toInt32))]))
  exact Fin.ret (v := some (.int (nar .char ((((u &&& (255 : Int32)) <<< ((0 : Int32) &&& 31)) ||| ((v &&& (255 : Int32)) <<< ((8 : Int32) &&& 31))).toUInt32.toUInt16.toUInt32.toInt32)))) X105 (fun h => by rw [Bd.returns] at h; cases h) Bd.notSynchronized (by rw [e105]; exact ⟨rfl, N0, rfl⟩) (by decide) (by decide) (fun fs hr => retN X105 hx (t := .char) Bd.returns (by simp) (hb hby d_jdk_52_method_5_59) hr)
abbrev y_3 : MethodName := (⟨"java/lang/StringUTF16", "checkIndex", "(I[B)V"⟩ : MethodName)
abbrev y_4 : MethodName := (⟨"java/lang/StringUTF16", "getChar", "([BI)C"⟩ : MethodName)
theorem d_jdk_52_method_83_0 : decode jdk_52_method_83_code 0 = .ok (.iload_n 1, 1) := by decide +kernel
theorem d_jdk_52_method_83_1 : decode jdk_52_method_83_code 1 = .ok (.aload_n 0, 1) := by decide +kernel
theorem pd_67 : parseMethodDescriptor "(I[B)V" = some ⟨[.int, (.array .byte)], none⟩ := by decide +kernel
theorem d_jdk_52_method_83_2 : decode jdk_52_method_83_code 2 = .ok (.invokestatic 67, 3) := by decide +kernel
theorem d_jdk_52_method_83_5 : decode jdk_52_method_83_code 5 = .ok (.aload_n 0, 1) := by decide +kernel
theorem d_jdk_52_method_83_6 : decode jdk_52_method_83_code 6 = .ok (.iload_n 1, 1) := by decide +kernel
theorem pd_71 : parseMethodDescriptor "([BI)C" = some ⟨[(.array .byte), .int], some .char⟩ := by decide +kernel
theorem d_jdk_52_method_83_7 : decode jdk_52_method_83_code 7 = .ok (.invokestatic 71, 3) := by decide +kernel
theorem d_jdk_52_method_83_10 : decode jdk_52_method_83_code 10 = .ok (.ireturn, 1) := by decide +kernel
def Q_uch (Z : State) (t : Addr) (kb : ClassId) (N2 : Int32) (vs : List Value) (i : Nat) (j : Int32) (u : Int32) (v : Int32) (G9 : Value) (h0 : Heap) (n0 : Nat) (vv_ : Option Value) (hh_ : Heap) (LL_ : List Loc) : Prop := vv_ = some (.int (nar .char (nar .char (StrChars.pairCh u v)))) ∧ Fr n0 LL_ ∧ hh_ = h0
set_option maxRecDepth 65536 in
set_option maxHeartbeats 40000000 in
theorem rm_uch (l : Launch) (Z : State) (a0 : Array Value) (hw : ∀ d ∈ tables_1, d.before a0 Z = true) (ws : List Jvm.Cond) (t : Addr) (kb : ClassId) (N2 : Int32) (vs : List Value) (i : Nat) (j : Int32) (u : Int32) (v : Int32) (G9 : Value) (h0 : Heap) (n0 : Nat) (Z0 : n0 ≤ h0.size) (hj : j = Int32.ofNat i) (hlt : j < (N2 >>> ((1 : Int32) &&& 31))) (hi : 2 * i + 1 < N2.toNatClampNeg) (hb2 : N2.toNatClampNeg < 2 ^ 29) (hu : vs.getD (2 * i) (.int 0) = .int u) (hv : vs.getD (2 * i + 1) (.int 0) = .int v) (A0 : Arv Z h0 t kb .byte N2 vs (.int 0)) (S6 : Sta Z Z.heap "java/lang/StringUTF16" "$assertionsDisabled" "Z" (.int (1 : Int32))) (S7 : Sta Z Z.heap "java/lang/StringUTF16" "HI_BYTE_SHIFT" "I" (.int (0 : Int32))) (S8 : Sta Z Z.heap "java/lang/StringUTF16" "LO_BYTE_SHIFT" "I" (.int (8 : Int32))) (S9 : Sta Z Z.heap "jdk/internal/util/Preconditions" "SIOOBE_FORMATTER" "Ljava/util/function/BiFunction;" G9) (r9 : G9.isRef = true) (OL : Old Z n0 h0) :
    MetFree l (⟨"java/lang/StringUTF16", "charAt", "([BI)C"⟩ : MethodName) (head1 (Jvm.Cond.code (⟨"java/lang/StringUTF16", "charAt", "([BI)C"⟩ : MethodName) jdk_52_method_83_code 2 (some .char) :: ws) ({ frames := 3, cells := 0, slots := 0, locals := 40 } : Room)) (fun aa_ U => aa_ = #[(.ref t), (.int j)] ∧ Z.Warmed39 U.vm ∧ U.heap = h0) (fun _ _ _ _ _ => True) (fun _ U o U' => ∃ vv_ LL_, o = .returned vv_ ∧ Q_uch Z t kb N2 vs i j u v G9 h0 n0 vv_ U'.heap LL_ ∧ FrameEnd U o U' LL_ 0 0) := by
  refine MetFree.of_bodySF (plainFor_of_name pn_java_lang_StringUTF16) hisR ?_
  intro p e s m args below meth c s₁ Bd hml0 hP hK
  obtain ⟨rfl, hZ, hh⟩ := hP
  have hx := Bd.exec
  have hby := Bd.bytes
  have hml : c.maxLocals = 2 := hml0
  have hown : s.vm.findClass "java/lang/StringUTF16" = some m.cls := findClass_of_methodNamed Bd.named
  have hnm := (name_of_methodNamed Bd.named Bd.method).1
  have X0 : Stand p l e ({ frames := 3, cells := 0, slots := 0, locals := 40 } : Room) s m #[(.ref t), (.int j)] below meth c s₁ [] 0 0 := Stand.of_body Bd
  have e0 : s₁.heap = h0 := by rw [← hh, Bd.state]; rfl
  have N0 := Fr.nil n0
  have ef : entryFrame m #[(.ref t), (.int j)] 2 = mkF m 0 #[.val (.ref t), .val (.int j)] [] := by first | (simp [entryFrame, mkF, argsToLocals, Value.category]; done) | rfl
  refine Fin.start (Q := Q_uch Z t kb N2 vs i j u v G9 h0 n0) ef ?_
  refine Fin.by (fun tt_ kk_ => XS.iloadN X0.here hx rfl (hb hby d_jdk_52_method_83_0) rfl (XS.aloadN X0.here hx rfl (hb hby d_jdk_52_method_83_1) rfl rfl kk_)) ?_
  obtain ⟨v101, _, ⟨T101, L101, k101, n101⟩, -, X101, ⟨Lc101, hQ101, l101, y101, z101⟩, st101⟩ := Jvm.LawKit.callS X0 hx (y := y_3) hown (mvT hZ (w_ hw 98 rfl)) (mvT hZ (w_ hw 99 rfl)) (mvT hZ (w_ hw 23 rfl)) (mvT hZ (w_ hw 100 rfl)) (by decide) (backOf (W := 0) (rm_uck l Z a0 hw [] t kb N2 (vs : List Value) j G9 h0 n0 Z0 (by rw [hj]; exact own_notlt (by omega)) hlt A0 S9 r9 OL) hZ (w_ hw 100 rfl) (w_ hw 23 rfl) (by decide) (by decide)) (g := (mkF m 2 #[.val (.ref t), .val (.int j)] [(.ref t), (.int j)])) rfl (by rw [hml]; rfl) (argsL := [(.int j), (.ref t)]) (rest := []) (lenOf pd_67 rfl) rfl (by show 2 * 0 + _ ≤ _; exact Nat.le_of_eq rfl) (hb hby d_jdk_52_method_83_2) (fun _ _ => ⟨rfl, e0, (by decide : 0 + 0 ≤ _), (by decide : 0 + 0 ≤ _)⟩)
  dsimp only [Pt.U, Pt.locs, Pt.cells, Pt.slots] at X101 l101 y101 z101 st101 hQ101
  subst l101 y101 z101
  obtain ⟨rfl, Nq101, e101_⟩ := hQ101
  have N101_ := Fr.app N0 Nq101
  refine Fin.by (fun tt_ kk_ => st101 tt_ kk_) ?_
  have e101 := e101_
  refine Fin.by (fun tt_ kk_ => XS.aloadN X101.here hx rfl (hb hby d_jdk_52_method_83_5) rfl rfl (XS.iloadN X101.here hx rfl (hb hby d_jdk_52_method_83_6) rfl kk_)) ?_
  obtain ⟨v102, _, ⟨T102, L102, k102, n102⟩, -, X102, ⟨Lc102, hQ102, l102, y102, z102⟩, st102⟩ := Jvm.LawKit.callS X101 hx (y := y_4) hown (mvT hZ (w_ hw 92 rfl)) (mvT hZ (w_ hw 93 rfl)) (mvT hZ (w_ hw 23 rfl)) (mvT hZ (w_ hw 94 rfl)) (by decide) (backOf (W := 0) (rm_uge l Z a0 hw [] t kb N2 (vs : List Value) i j u v h0 n0 Z0 hj hi hb2 hu hv A0 S6 S7 S8 OL) hZ (w_ hw 94 rfl) (w_ hw 23 rfl) (by decide) (by decide)) (g := (mkF m 7 #[.val (.ref t), .val (.int j)] [(.int j), (.ref t)])) rfl (by rw [hml]; rfl) (argsL := [(.ref t), (.int j)]) (rest := []) (lenOf pd_71 rfl) rfl (by show 2 * 0 + _ ≤ _; exact Nat.le_of_eq rfl) (hb hby d_jdk_52_method_83_7) (fun _ _ => ⟨rfl, e101, (by decide : 0 + 0 ≤ _), (by decide : 0 + 0 ≤ _)⟩)
  dsimp only [Pt.U, Pt.locs, Pt.cells, Pt.slots] at X102 l102 y102 z102 st102 hQ102
  subst l102 y102 z102
  obtain ⟨rfl, Nq102, e102_⟩ := hQ102
  have N102_ := Fr.app N101_ Nq102
  refine Fin.by (fun tt_ kk_ => st102 tt_ kk_) ?_
  have e102 := e102_
  show Fin _ _ _ _ _ _ _ (T102.setTop (mkF m 10 #[.val (.ref t), .val (.int j)] [(.int (nar .char (StrChars.pairCh u v)))]))
  exact Fin.ret (v := some (.int (nar .char (nar .char (StrChars.pairCh u v))))) X102 (fun h => by rw [Bd.returns] at h; cases h) Bd.notSynchronized (by rw [e102]; exact ⟨rfl, N102_, rfl⟩) (by decide) (by decide) (fun fs hr => retN X102 hx (t := .char) Bd.returns (by simp) (hb hby d_jdk_52_method_83_10) hr)
theorem d_jdk_42_method_154_0 : decode jdk_42_method_154_code 0 = .ok (.getstatic 38, 3) := by decide +kernel
theorem d_jdk_42_method_154_3 : decode jdk_42_method_154_code 3 = .ok (.ifCond .eq 14, 3) := by decide +kernel
theorem d_jdk_42_method_154_6 : decode jdk_42_method_154_code 6 = .ok (.aload_n 0, 1) := by decide +kernel
theorem d_jdk_42_method_154_7 : decode jdk_42_method_154_code 7 = .ok (.getfield 15, 3) := by decide +kernel
theorem d_jdk_42_method_154_10 : decode jdk_42_method_154_code 10 = .ok (.ifCond .ne 7, 3) := by decide +kernel
theorem d_jdk_42_method_154_13 : decode jdk_42_method_154_code 13 = .ok (.iconst 1, 1) := by decide +kernel
theorem d_jdk_42_method_154_14 : decode jdk_42_method_154_code 14 = .ok (.goto 4, 3) := by decide +kernel
theorem d_jdk_42_method_154_18 : decode jdk_42_method_154_code 18 = .ok (.ireturn, 1) := by decide +kernel
def Q_isl0 (Z : State) (x : Addr) (G1 : Int32) (h0 : Heap) (n0 : Nat) (vv_ : Option Value) (hh_ : Heap) (LL_ : List Loc) : Prop := vv_ = some (.int (nar .boolean (1 : Int32))) ∧ Fr n0 LL_ ∧ hh_ = h0
set_option maxRecDepth 65536 in
set_option maxHeartbeats 40000000 in
theorem rm_isl0 (l : Launch) (Z : State) (a0 : Array Value) (hw : ∀ d ∈ tables_1, d.before a0 Z = true) (ws : List Jvm.Cond) (x : Addr) (G1 : Int32) (h0 : Heap) (n0 : Nat) (Z0 : n0 ≤ h0.size) (F1 : Fld Z h0 x "java/lang/String" "coder" "B" (.int (0 : Int32))) (S1 : Sta Z Z.heap "java/lang/String" "COMPACT_STRINGS" "Z" (.int G1)) (P1 : ¬ G1 = 0) (OL : Old Z n0 h0) :
    MetFree l (⟨"java/lang/String", "isLatin1", "()Z"⟩ : MethodName) (head1 (Jvm.Cond.code (⟨"java/lang/String", "isLatin1", "()Z"⟩ : MethodName) jdk_42_method_154_code 1 (some .boolean) :: ws) ({ frames := 0, cells := 0, slots := 0, locals := 0 } : Room)) (fun aa_ U => aa_ = #[(.ref x)] ∧ Z.Warmed39 U.vm ∧ U.heap = h0) (fun _ _ _ _ _ => True) (fun _ U o U' => ∃ vv_ LL_, o = .returned vv_ ∧ Q_isl0 Z x G1 h0 n0 vv_ U'.heap LL_ ∧ FrameEnd U o U' LL_ 0 0) := by
  refine MetFree.of_bodySF (plainFor_of_name pn_java_lang_String) hisR ?_
  intro p e s m args below meth c s₁ Bd hml0 hP hK
  obtain ⟨rfl, hZ, hh⟩ := hP
  have hx := Bd.exec
  have hby := Bd.bytes
  have hml : c.maxLocals = 1 := hml0
  have hown : s.vm.findClass "java/lang/String" = some m.cls := findClass_of_methodNamed Bd.named
  have hnm := (name_of_methodNamed Bd.named Bd.method).1
  have X0 : Stand p l e ({ frames := 0, cells := 0, slots := 0, locals := 0 } : Room) s m #[(.ref x)] below meth c s₁ [] 0 0 := Stand.of_body Bd
  have e0 : s₁.heap = h0 := by rw [← hh, Bd.state]; rfl
  have N0 := Fr.nil n0
  have ef : entryFrame m #[(.ref x)] 1 = mkF m 0 #[.val (.ref x)] [] := by first | (simp [entryFrame, mkF, argsToLocals, Value.category]; done) | rfl
  refine Fin.start (Q := Q_isl0 Z x G1 h0 n0) ef ?_
  obtain ⟨T101, X101, e101, st101⟩ := getS X0 hx hZ (host := "") hown (w_ hw 20 rfl) Via.refl e0 (S1.ext OL.2) (g := (mkF m 0 #[.val (.ref x)] [])) rfl (hb hby d_jdk_42_method_154_0)
  refine Fin.by (fun tt_ kk_ => st101 tt_ kk_) ?_
  show Fin _ _ _ _ _ _ _ (T101.setTop (mkF m 3 #[.val (.ref x)] [(.int G1)]))
  refine Fin.by (fun tt_ kk_ => XS.ifNo X101.here hx rfl (hb hby d_jdk_42_method_154_3) rfl ((if0 _ _).trans (feq (P1 : ¬ G1 = (0 : Int32))).1) kk_) ?_
  refine Fin.by (fun tt_ kk_ => XS.aloadN X101.here hx rfl (hb hby d_jdk_42_method_154_6) rfl rfl kk_) ?_
  obtain ⟨T102, X102, e102, st102⟩ := getF X101 hx hZ hown (host := "") (Or.inl (w_ hw 31 rfl)) Via.refl e101 F1 (g := (mkF m 7 #[.val (.ref x)] [(.ref x)])) rfl rfl (hb hby d_jdk_42_method_154_7)
  refine Fin.by (fun tt_ kk_ => st102 tt_ kk_) ?_
  show Fin _ _ _ _ _ _ _ (T102.setTop (mkF m 10 #[.val (.ref x)] [(.int 0)]))
  refine Fin.by (fun tt_ kk_ => XS.ifNo X102.here hx rfl (hb hby d_jdk_42_method_154_10) rfl ((if0 _ _).trans (teq (by decide : (0 : Int32) = (0 : Int32))).2) kk_) ?_
  refine Fin.by (fun tt_ kk_ => XS.iconst X102.here hx rfl (hb hby d_jdk_42_method_154_13) (XS.goto X102.here hx rfl (pc0 := 14) (pc' := 18) rfl (hb hby d_jdk_42_method_154_14) (by decide) (by decide) kk_)) ?_
  show Fin _ _ _ _ _ _ _ (T102.setTop (mkF m 18 #[.val (.ref x)] [(.int 1)]))
  exact Fin.ret (v := some (.int (nar .boolean (1 : Int32)))) X102 (fun h => by rw [Bd.returns] at h; cases h) Bd.notSynchronized (by rw [e102]; exact ⟨rfl, N0, rfl⟩) (by decide) (by decide) (fun fs hr => retN X102 hx (t := .boolean) Bd.returns (by simp) (hb hby d_jdk_42_method_154_18) hr)
theorem d_jdk_42_method_154_17 : decode jdk_42_method_154_code 17 = .ok (.iconst 0, 1) := by decide +kernel
def Q_isl1 (Z : State) (x : Addr) (G1 : Int32) (h0 : Heap) (n0 : Nat) (vv_ : Option Value) (hh_ : Heap) (LL_ : List Loc) : Prop := vv_ = some (.int (nar .boolean (0 : Int32))) ∧ Fr n0 LL_ ∧ hh_ = h0
set_option maxRecDepth 65536 in
set_option maxHeartbeats 40000000 in
theorem rm_isl1 (l : Launch) (Z : State) (a0 : Array Value) (hw : ∀ d ∈ tables_1, d.before a0 Z = true) (ws : List Jvm.Cond) (x : Addr) (G1 : Int32) (h0 : Heap) (n0 : Nat) (Z0 : n0 ≤ h0.size) (F1 : Fld Z h0 x "java/lang/String" "coder" "B" (.int (1 : Int32))) (S1 : Sta Z Z.heap "java/lang/String" "COMPACT_STRINGS" "Z" (.int G1)) (P1 : ¬ G1 = 0) (OL : Old Z n0 h0) :
    MetFree l (⟨"java/lang/String", "isLatin1", "()Z"⟩ : MethodName) (head1 (Jvm.Cond.code (⟨"java/lang/String", "isLatin1", "()Z"⟩ : MethodName) jdk_42_method_154_code 1 (some .boolean) :: ws) ({ frames := 0, cells := 0, slots := 0, locals := 0 } : Room)) (fun aa_ U => aa_ = #[(.ref x)] ∧ Z.Warmed39 U.vm ∧ U.heap = h0) (fun _ _ _ _ _ => True) (fun _ U o U' => ∃ vv_ LL_, o = .returned vv_ ∧ Q_isl1 Z x G1 h0 n0 vv_ U'.heap LL_ ∧ FrameEnd U o U' LL_ 0 0) := by
  refine MetFree.of_bodySF (plainFor_of_name pn_java_lang_String) hisR ?_
  intro p e s m args below meth c s₁ Bd hml0 hP hK
  obtain ⟨rfl, hZ, hh⟩ := hP
  have hx := Bd.exec
  have hby := Bd.bytes
  have hml : c.maxLocals = 1 := hml0
  have hown : s.vm.findClass "java/lang/String" = some m.cls := findClass_of_methodNamed Bd.named
  have hnm := (name_of_methodNamed Bd.named Bd.method).1
  have X0 : Stand p l e ({ frames := 0, cells := 0, slots := 0, locals := 0 } : Room) s m #[(.ref x)] below meth c s₁ [] 0 0 := Stand.of_body Bd
  have e0 : s₁.heap = h0 := by rw [← hh, Bd.state]; rfl
  have N0 := Fr.nil n0
  have ef : entryFrame m #[(.ref x)] 1 = mkF m 0 #[.val (.ref x)] [] := by first | (simp [entryFrame, mkF, argsToLocals, Value.category]; done) | rfl
  refine Fin.start (Q := Q_isl1 Z x G1 h0 n0) ef ?_
  obtain ⟨T101, X101, e101, st101⟩ := getS X0 hx hZ (host := "") hown (w_ hw 20 rfl) Via.refl e0 (S1.ext OL.2) (g := (mkF m 0 #[.val (.ref x)] [])) rfl (hb hby d_jdk_42_method_154_0)
  refine Fin.by (fun tt_ kk_ => st101 tt_ kk_) ?_
  show Fin _ _ _ _ _ _ _ (T101.setTop (mkF m 3 #[.val (.ref x)] [(.int G1)]))
  refine Fin.by (fun tt_ kk_ => XS.ifNo X101.here hx rfl (hb hby d_jdk_42_method_154_3) rfl ((if0 _ _).trans (feq (P1 : ¬ G1 = (0 : Int32))).1) kk_) ?_
  refine Fin.by (fun tt_ kk_ => XS.aloadN X101.here hx rfl (hb hby d_jdk_42_method_154_6) rfl rfl kk_) ?_
  obtain ⟨T102, X102, e102, st102⟩ := getF X101 hx hZ hown (host := "") (Or.inl (w_ hw 31 rfl)) Via.refl e101 F1 (g := (mkF m 7 #[.val (.ref x)] [(.ref x)])) rfl rfl (hb hby d_jdk_42_method_154_7)
  refine Fin.by (fun tt_ kk_ => st102 tt_ kk_) ?_
  show Fin _ _ _ _ _ _ _ (T102.setTop (mkF m 10 #[.val (.ref x)] [(.int 1)]))
  refine Fin.by (fun tt_ kk_ => XS.ifYes X102.here hx rfl (pc0 := 10) (pc' := 17) rfl (hb hby d_jdk_42_method_154_10) rfl ((if0 _ _).trans (feq (by decide : ¬ (1 : Int32) = (0 : Int32))).2) (by decide) (by decide) kk_) ?_
  refine Fin.by (fun tt_ kk_ => XS.iconst X102.here hx rfl (hb hby d_jdk_42_method_154_17) kk_) ?_
  show Fin _ _ _ _ _ _ _ (T102.setTop (mkF m 18 #[.val (.ref x)] [(.int 0)]))
  exact Fin.ret (v := some (.int (nar .boolean (0 : Int32)))) X102 (fun h => by rw [Bd.returns] at h; cases h) Bd.notSynchronized (by rw [e102]; exact ⟨rfl, N0, rfl⟩) (by decide) (by decide) (fun fs hr => retN X102 hx (t := .boolean) Bd.returns (by simp) (hb hby d_jdk_42_method_154_18) hr)
abbrev y_5 : MethodName := (⟨"java/lang/String", "isLatin1", "()Z"⟩ : MethodName)
abbrev y_6 : MethodName := (⟨"java/lang/StringLatin1", "charAt", "([BI)C"⟩ : MethodName)
abbrev y_7 : MethodName := (⟨"java/lang/StringUTF16", "charAt", "([BI)C"⟩ : MethodName)
theorem d_jdk_42_method_56_0 : decode jdk_42_method_56_code 0 = .ok (.aload_n 0, 1) := by decide +kernel
theorem pd_84 : parseMethodDescriptor "()Z" = some ⟨[], some .boolean⟩ := by decide +kernel
theorem d_jdk_42_method_56_1 : decode jdk_42_method_56_code 1 = .ok (.invokevirtual 492, 3) := by decide +kernel
theorem d_jdk_42_method_56_4 : decode jdk_42_method_56_code 4 = .ok (.ifCond .eq 12, 3) := by decide +kernel
theorem d_jdk_42_method_56_7 : decode jdk_42_method_56_code 7 = .ok (.aload_n 0, 1) := by decide +kernel
theorem d_jdk_42_method_56_8 : decode jdk_42_method_56_code 8 = .ok (.getfield 9, 3) := by decide +kernel
theorem d_jdk_42_method_56_11 : decode jdk_42_method_56_code 11 = .ok (.iload_n 1, 1) := by decide +kernel
theorem d_jdk_42_method_56_12 : decode jdk_42_method_56_code 12 = .ok (.invokestatic 495, 3) := by decide +kernel
theorem d_jdk_42_method_56_15 : decode jdk_42_method_56_code 15 = .ok (.ireturn, 1) := by decide +kernel
theorem d_jdk_42_method_56_16 : decode jdk_42_method_56_code 16 = .ok (.aload_n 0, 1) := by decide +kernel
theorem d_jdk_42_method_56_17 : decode jdk_42_method_56_code 17 = .ok (.getfield 9, 3) := by decide +kernel
theorem d_jdk_42_method_56_20 : decode jdk_42_method_56_code 20 = .ok (.iload_n 1, 1) := by decide +kernel
theorem d_jdk_42_method_56_21 : decode jdk_42_method_56_code 21 = .ok (.invokestatic 498, 3) := by decide +kernel
theorem d_jdk_42_method_56_24 : decode jdk_42_method_56_code 24 = .ok (.ireturn, 1) := by decide +kernel
def Q_chA (Z : State) (x : Addr) (t : Addr) (kb : ClassId) (N2 : Int32) (vs : List Value) (cs : List Int32) (cd : Int32) (i : Nat) (j : Int32) (G1 : Int32) (G9 : Value) (h0 : Heap) (n0 : Nat) (vv_ : Option Value) (hh_ : Heap) (LL_ : List Loc) : Prop := vv_ = some (.int (cs.getD i 0)) ∧ Fr n0 LL_ ∧ hh_ = h0
set_option maxRecDepth 65536 in
set_option maxHeartbeats 40000000 in
theorem rm_chA (l : Launch) (Z : State) (a0 : Array Value) (hw : ∀ d ∈ tables_1, d.before a0 Z = true) (ws : List Jvm.Cond) (x : Addr) (t : Addr) (kb : ClassId) (N2 : Int32) (vs : List Value) (cs : List Int32) (cd : Int32) (i : Nat) (j : Int32) (G1 : Int32) (G9 : Value) (h0 : Heap) (n0 : Nat) (Z0 : n0 ≤ h0.size) (hc : StrChars.Road.CodA cs cd N2 vs) (hb3 : ∀ c ∈ cs, ¬ c < 0 ∧ ¬ (65535 : Int32) < c) (l2 : cs.length ≤ 4000) (hi : i < cs.length) (hj : j = Int32.ofNat i) (E0 : Exa Z h0 x "java/lang/String") (F0 : Fld Z h0 x "java/lang/String" "value" "[B" (.ref t)) (F1 : Fld Z h0 x "java/lang/String" "coder" "B" (.int cd)) (A0 : Arv Z h0 t kb .byte N2 vs (.int 0)) (S1 : Sta Z Z.heap "java/lang/String" "COMPACT_STRINGS" "Z" (.int G1)) (P1 : ¬ G1 = 0) (S6 : Sta Z Z.heap "java/lang/StringUTF16" "$assertionsDisabled" "Z" (.int (1 : Int32))) (S7 : Sta Z Z.heap "java/lang/StringUTF16" "HI_BYTE_SHIFT" "I" (.int (0 : Int32))) (S8 : Sta Z Z.heap "java/lang/StringUTF16" "LO_BYTE_SHIFT" "I" (.int (8 : Int32))) (S9 : Sta Z Z.heap "jdk/internal/util/Preconditions" "SIOOBE_FORMATTER" "Ljava/util/function/BiFunction;" G9) (r9 : G9.isRef = true) (OL : Old Z n0 h0) :
    MetFree l (⟨"java/lang/String", "charAt", "(I)C"⟩ : MethodName) (head1 (Jvm.Cond.code (⟨"java/lang/String", "charAt", "(I)C"⟩ : MethodName) jdk_42_method_56_code 2 (some .char) :: ws) ({ frames := 4, cells := 0, slots := 0, locals := 53 } : Room)) (fun aa_ U => aa_ = #[(.ref x), (.int j)] ∧ Z.Warmed39 U.vm ∧ U.heap = h0) (fun _ _ _ _ _ => True) (fun _ U o U' => ∃ vv_ LL_, o = .returned vv_ ∧ Q_chA Z x t kb N2 vs cs cd i j G1 G9 h0 n0 vv_ U'.heap LL_ ∧ FrameEnd U o U' LL_ 0 0) := by
  refine MetFree.of_bodySF (plainFor_of_name pn_java_lang_String) hisR ?_
  intro p e s m args below meth c s₁ Bd hml0 hP hK
  obtain ⟨rfl, hZ, hh⟩ := hP
  have hx := Bd.exec
  have hby := Bd.bytes
  have hml : c.maxLocals = 2 := hml0
  have hown : s.vm.findClass "java/lang/String" = some m.cls := findClass_of_methodNamed Bd.named
  have hnm := (name_of_methodNamed Bd.named Bd.method).1
  have X0 : Stand p l e ({ frames := 4, cells := 0, slots := 0, locals := 53 } : Room) s m #[(.ref x), (.int j)] below meth c s₁ [] 0 0 := Stand.of_body Bd
  have e0 : s₁.heap = h0 := by rw [← hh, Bd.state]; rfl
  have N0 := Fr.nil n0
  have ef : entryFrame m #[(.ref x), (.int j)] 2 = mkF m 0 #[.val (.ref x), .val (.int j)] [] := by first | (simp [entryFrame, mkF, argsToLocals, Value.category]; done) | rfl
  refine Fin.start (Q := Q_chA Z x t kb N2 vs cs cd i j G1 G9 h0 n0) ef ?_
  rcases id hc with ⟨hcd, hN2, hvs, hlat⟩ | ⟨hcd, hN2, hvs, -⟩
  · subst hcd
    have hlen : N2.toNatClampNeg = cs.length := by rw [hN2]; exact clamp_of rfl (by omega)
    refine Fin.by (fun tt_ kk_ => XS.aloadN X0.here hx rfl (hb hby d_jdk_42_method_56_0) rfl rfl kk_) ?_
    obtain ⟨cq101, kq101, qa101, qb101, qc101⟩ := isOf hZ e0 E0
    obtain ⟨v101, _, ⟨T101, L101, k101, n101⟩, -, X101, ⟨Lc101, hQ101, l101, y101, z101⟩, st101⟩ := X0.virtualBack hx (y := y_5) (z := y_5) hown (mvT hZ (w_ hw 56 rfl)) (mvT hZ (w_ hw 57 rfl)) (notFace_of_selects (args := #[]) (mvT hZ (w_ hw 59 rfl))) (mvT hZ (w_ hw 59 rfl)) (mvT hZ (w_ hw 58 rfl)) (by decide) (backOf (W := 0) (rm_isl0 l Z a0 hw [] x G1 h0 n0 Z0 F1 S1 P1 OL) hZ (w_ hw 60 rfl) (w_ hw 1 rfl) (by decide) (by decide)) qa101 qc101 (g := (mkF m 1 #[.val (.ref x), .val (.int j)] [(.ref x)])) rfl (by rw [hml]; rfl) (Steps.refl _) (argsL := []) (rest := []) (lenOf pd_84 rfl) rfl (by show 2 * 0 + _ ≤ _; exact Nat.le_of_eq rfl) (hb hby d_jdk_42_method_56_1) (fun _ _ => ⟨rfl, e0, (by decide : 0 + 0 ≤ _), (by decide : 0 + 0 ≤ _)⟩)
    dsimp only [Pt.U, Pt.locs, Pt.cells, Pt.slots] at X101 l101 y101 z101 st101 hQ101
    subst l101 y101 z101
    obtain ⟨rfl, Nq101, e101_⟩ := hQ101
    have N101_ := Fr.app N0 Nq101
    refine Fin.byS st101 ?_
    have e101 := e101_
    show Fin _ _ _ _ _ _ _ (T101.setTop (mkF m 4 #[.val (.ref x), .val (.int j)] [(.int (nar .boolean 1))]))
    refine Fin.by (fun tt_ kk_ => XS.ifNo X101.here hx rfl (hb hby d_jdk_42_method_56_4) rfl ((if0 _ _).trans (feq (by decide : ¬ (nar .boolean (1 : Int32)) = (0 : Int32))).1) kk_) ?_
    refine Fin.by (fun tt_ kk_ => XS.aloadN X101.here hx rfl (hb hby d_jdk_42_method_56_7) rfl rfl kk_) ?_
    obtain ⟨T102, X102, e102, st102⟩ := getF X101 hx hZ hown (host := "") (Or.inl (w_ hw 32 rfl)) Via.refl e101 F0 (g := (mkF m 8 #[.val (.ref x), .val (.int j)] [(.ref x)])) rfl rfl (hb hby d_jdk_42_method_56_8)
    refine Fin.by (fun tt_ kk_ => st102 tt_ kk_) ?_
    refine Fin.by (fun tt_ kk_ => XS.iloadN X102.here hx rfl (hb hby d_jdk_42_method_56_11) rfl kk_) ?_
    obtain ⟨v103, _, ⟨T103, L103, k103, n103⟩, -, X103, ⟨Lc103, hQ103, l103, y103, z103⟩, st103⟩ := Jvm.LawKit.callS X102 hx (y := y_6) hown (mvT hZ (w_ hw 61 rfl)) (mvT hZ (w_ hw 62 rfl)) (mvT hZ (w_ hw 63 rfl)) (mvT hZ (w_ hw 64 rfl)) (by decide) (backOf (W := 0) (rm_lch l Z a0 hw [] t kb N2 (vs : List Value) i j (StrChars.lo8 (cs.getD i 0)) G9 h0 n0 Z0 hj (by rw [hj, hN2]; exact own_ltn hi (by omega)) (by omega) (by omega) (by rw [hvs]; exact StrChars.Road.low_at _ _ _ hi) A0 S9 r9 OL) hZ (w_ hw 64 rfl) (w_ hw 63 rfl) (by decide) (by decide)) (g := (mkF m 12 #[.val (.ref x), .val (.int j)] [(.int j), (.ref t)])) rfl (by rw [hml]; rfl) (argsL := [(.ref t), (.int j)]) (rest := []) (lenOf pd_71 rfl) rfl (by show 2 * 0 + _ ≤ _; exact Nat.le_of_eq rfl) (hb hby d_jdk_42_method_56_12) (fun _ _ => ⟨rfl, e102, (by decide : 0 + 0 ≤ _), (by decide : 0 + 0 ≤ _)⟩)
    dsimp only [Pt.U, Pt.locs, Pt.cells, Pt.slots] at X103 l103 y103 z103 st103 hQ103
    subst l103 y103 z103
    obtain ⟨rfl, Nq103, e103_⟩ := hQ103
    have N103_ := Fr.app N101_ Nq103
    refine Fin.by (fun tt_ kk_ => st103 tt_ kk_) ?_
    have e103 := e103_
    show Fin _ _ _ _ _ _ _ (T103.setTop (mkF m 15 #[.val (.ref x), .val (.int j)] [(.int (nar .char (((StrChars.lo8 (cs.getD i 0)) &&& 255).toUInt32.toUInt16.toUInt32.toInt32)))]))
    exact Fin.ret (v := some (.int (nar .char (nar .char (((StrChars.lo8 (cs.getD i 0)) &&& (255 : Int32)).toUInt32.toUInt16.toUInt32.toInt32))))) X103 (fun h => by rw [Bd.returns] at h; cases h) Bd.notSynchronized (by rw [e103]; exact ⟨(congrArg (fun q => some (Value.int q)) (own_lat hb3 hlat hi).symm).symm, N103_, rfl⟩) (by decide) (by decide) (fun fs hr => retN X103 hx (t := .char) Bd.returns (by simp) (hb hby d_jdk_42_method_56_15) hr)
  · subst hcd
    have hlen : N2.toNatClampNeg = 2 * cs.length := by rw [hN2]; exact clamp_of rfl (by omega)
    refine Fin.by (fun tt_ kk_ => XS.aloadN X0.here hx rfl (hb hby d_jdk_42_method_56_0) rfl rfl kk_) ?_
    obtain ⟨cq104, kq104, qa104, qb104, qc104⟩ := isOf hZ e0 E0
    obtain ⟨v104, _, ⟨T104, L104, k104, n104⟩, -, X104, ⟨Lc104, hQ104, l104, y104, z104⟩, st104⟩ := X0.virtualBack hx (y := y_5) (z := y_5) hown (mvT hZ (w_ hw 56 rfl)) (mvT hZ (w_ hw 57 rfl)) (notFace_of_selects (args := #[]) (mvT hZ (w_ hw 59 rfl))) (mvT hZ (w_ hw 59 rfl)) (mvT hZ (w_ hw 58 rfl)) (by decide) (backOf (W := 0) (rm_isl1 l Z a0 hw [] x G1 h0 n0 Z0 F1 S1 P1 OL) hZ (w_ hw 60 rfl) (w_ hw 1 rfl) (by decide) (by decide)) qa104 qc104 (g := (mkF m 1 #[.val (.ref x), .val (.int j)] [(.ref x)])) rfl (by rw [hml]; rfl) (Steps.refl _) (argsL := []) (rest := []) (lenOf pd_84 rfl) rfl (by show 2 * 0 + _ ≤ _; exact Nat.le_of_eq rfl) (hb hby d_jdk_42_method_56_1) (fun _ _ => ⟨rfl, e0, (by decide : 0 + 0 ≤ _), (by decide : 0 + 0 ≤ _)⟩)
    dsimp only [Pt.U, Pt.locs, Pt.cells, Pt.slots] at X104 l104 y104 z104 st104 hQ104
    subst l104 y104 z104
    obtain ⟨rfl, Nq104, e104_⟩ := hQ104
    have N104_ := Fr.app N0 Nq104
    refine Fin.byS st104 ?_
    have e104 := e104_
    show Fin _ _ _ _ _ _ _ (T104.setTop (mkF m 4 #[.val (.ref x), .val (.int j)] [(.int (nar .boolean 0))]))
    refine Fin.by (fun tt_ kk_ => XS.ifYes X104.here hx rfl (pc0 := 4) (pc' := 16) rfl (hb hby d_jdk_42_method_56_4) rfl ((if0 _ _).trans (teq (by decide : (nar .boolean (0 : Int32)) = (0 : Int32))).1) (by decide) (by decide) kk_) ?_
    refine Fin.by (fun tt_ kk_ => XS.aloadN X104.here hx rfl (hb hby d_jdk_42_method_56_16) rfl rfl kk_) ?_
    obtain ⟨T105, X105, e105, st105⟩ := getF X104 hx hZ hown (host := "") (Or.inl (w_ hw 32 rfl)) Via.refl e104 F0 (g := (mkF m 17 #[.val (.ref x), .val (.int j)] [(.ref x)])) rfl rfl (hb hby d_jdk_42_method_56_17)
    refine Fin.by (fun tt_ kk_ => st105 tt_ kk_) ?_
    refine Fin.by (fun tt_ kk_ => XS.iloadN X105.here hx rfl (hb hby d_jdk_42_method_56_20) rfl kk_) ?_
    obtain ⟨v106, _, ⟨T106, L106, k106, n106⟩, -, X106, ⟨Lc106, hQ106, l106, y106, z106⟩, st106⟩ := Jvm.LawKit.callS X105 hx (y := y_7) hown (mvT hZ (w_ hw 95 rfl)) (mvT hZ (w_ hw 96 rfl)) (mvT hZ (w_ hw 23 rfl)) (mvT hZ (w_ hw 97 rfl)) (by decide) (backOf (W := 0) (rm_uch l Z a0 hw [] t kb N2 (vs : List Value) i j (StrChars.lo8 (cs.getD i 0)) (StrChars.hi8 (cs.getD i 0)) G9 h0 n0 Z0 hj (by rw [hj, hN2, StrChars.shr1 (by omega)]; exact own_ltn hi (by omega)) (by omega) (by omega) (by rw [hvs]; exact StrChars.Road.wide_lo _ _ _ hi) (by rw [hvs]; exact StrChars.Road.wide_hi _ _ _ hi) A0 S6 S7 S8 S9 r9 OL) hZ (w_ hw 97 rfl) (w_ hw 23 rfl) (by decide) (by decide)) (g := (mkF m 21 #[.val (.ref x), .val (.int j)] [(.int j), (.ref t)])) rfl (by rw [hml]; rfl) (argsL := [(.ref t), (.int j)]) (rest := []) (lenOf pd_71 rfl) rfl (by show 2 * 0 + _ ≤ _; exact Nat.le_of_eq rfl) (hb hby d_jdk_42_method_56_21) (fun _ _ => ⟨rfl, e105, (by decide : 0 + 0 ≤ _), (by decide : 0 + 0 ≤ _)⟩)
    dsimp only [Pt.U, Pt.locs, Pt.cells, Pt.slots] at X106 l106 y106 z106 st106 hQ106
    subst l106 y106 z106
    obtain ⟨rfl, Nq106, e106_⟩ := hQ106
    have N106_ := Fr.app N104_ Nq106
    refine Fin.by (fun tt_ kk_ => st106 tt_ kk_) ?_
    have e106 := e106_
    show Fin _ _ _ _ _ _ _ (T106.setTop (mkF m 24 #[.val (.ref x), .val (.int j)] [(.int (nar .char (nar .char (StrChars.pairCh (StrChars.lo8 (cs.getD i 0)) (StrChars.hi8 (cs.getD i 0))))))]))
    exact Fin.ret (v := some (.int (nar .char (nar .char (nar .char (StrChars.pairCh (StrChars.lo8 (cs.getD i 0)) (StrChars.hi8 (cs.getD i 0)))))))) X106 (fun h => by rw [Bd.returns] at h; cases h) Bd.notSynchronized (by rw [e106]; exact ⟨(congrArg (fun q => some (Value.int q)) (own_wid hb3 hi).symm).symm, N106_, rfl⟩) (by decide) (by decide) (fun fs hr => retN X106 hx (t := .char) Bd.returns (by simp) (hb hby d_jdk_42_method_56_24) hr)
theorem d_jdk_52_method_4_0 : decode jdk_52_method_4_code 0 = .ok (.getstatic 44, 3) := by decide +kernel
theorem d_jdk_52_method_4_3 : decode jdk_52_method_4_code 3 = .ok (.ifCond .ne 25, 3) := by decide +kernel
theorem d_jdk_52_method_4_28 : decode jdk_52_method_4_code 28 = .ok (.iload_n 1, 1) := by decide +kernel
theorem d_jdk_52_method_4_29 : decode jdk_52_method_4_code 29 = .ok (.iconst 1, 1) := by decide +kernel
theorem d_jdk_52_method_4_30 : decode jdk_52_method_4_code 30 = .ok (.ishl, 1) := by decide +kernel
theorem d_jdk_52_method_4_31 : decode jdk_52_method_4_code 31 = .ok (.istore_n 1, 1) := by decide +kernel
theorem d_jdk_52_method_4_32 : decode jdk_52_method_4_code 32 = .ok (.aload_n 0, 1) := by decide +kernel
theorem d_jdk_52_method_4_33 : decode jdk_52_method_4_code 33 = .ok (.iload_n 1, 1) := by decide +kernel
theorem d_jdk_52_method_4_34 : decode jdk_52_method_4_code 34 = .ok (.iinc 1 1, 3) := by decide +kernel
theorem d_jdk_52_method_4_37 : decode jdk_52_method_4_code 37 = .ok (.iload_n 2, 1) := by decide +kernel
theorem d_jdk_52_method_4_38 : decode jdk_52_method_4_code 38 = .ok (.getstatic 59, 3) := by decide +kernel
theorem d_jdk_52_method_4_41 : decode jdk_52_method_4_code 41 = .ok (.ishr, 1) := by decide +kernel
theorem d_jdk_52_method_4_42 : decode jdk_52_method_4_code 42 = .ok (.i2b, 1) := by decide +kernel
theorem d_jdk_52_method_4_43 : decode jdk_52_method_4_code 43 = .ok (.bastore, 1) := by decide +kernel
theorem d_jdk_52_method_4_44 : decode jdk_52_method_4_code 44 = .ok (.aload_n 0, 1) := by decide +kernel
theorem d_jdk_52_method_4_45 : decode jdk_52_method_4_code 45 = .ok (.iload_n 1, 1) := by decide +kernel
theorem d_jdk_52_method_4_46 : decode jdk_52_method_4_code 46 = .ok (.iload_n 2, 1) := by decide +kernel
theorem d_jdk_52_method_4_47 : decode jdk_52_method_4_code 47 = .ok (.getstatic 63, 3) := by decide +kernel
theorem d_jdk_52_method_4_50 : decode jdk_52_method_4_code 50 = .ok (.ishr, 1) := by decide +kernel
theorem d_jdk_52_method_4_51 : decode jdk_52_method_4_code 51 = .ok (.i2b, 1) := by decide +kernel
theorem d_jdk_52_method_4_52 : decode jdk_52_method_4_code 52 = .ok (.bastore, 1) := by decide +kernel
theorem d_jdk_52_method_4_53 : decode jdk_52_method_4_code 53 = .ok (.return_, 1) := by decide +kernel
def Q_pch0 (Z : State) (d : Addr) (kd : ClassId) (N2 : Int32) (vs : List Value) (x : Int32) (h0 : Heap) (n0 : Nat) (vv_ : Option Value) (hh_ : Heap) (LL_ : List Loc) : Prop := vv_ = none ∧ Fr n0 LL_ ∧ Keep h0 hh_ [d] ∧ Arv Z hh_ d kd .byte N2 (((vs).set 0 (.int (((x >>> ((0 : Int32) &&& 31)).toInt8.toInt32).toInt8.toInt32))).set 1 (.int (((x >>> ((8 : Int32) &&& 31)).toInt8.toInt32).toInt8.toInt32))) (.int (0 : Int32))
set_option maxRecDepth 65536 in
set_option maxHeartbeats 40000000 in
theorem rm_pch0 (l : Launch) (Z : State) (a0 : Array Value) (hw : ∀ d ∈ tables_1, d.before a0 Z = true) (ws : List Jvm.Cond) (d : Addr) (kd : ClassId) (N2 : Int32) (vs : List Value) (x : Int32) (h0 : Heap) (n0 : Nat) (Z0 : n0 ≤ h0.size) (hl0 : 0 < vs.length) (hl1 : 1 < vs.length) (hN0 : (0 : Int32) < N2) (hN1 : (1 : Int32) < N2) (A0 : Arv Z h0 d kd .byte N2 vs (.int (0 : Int32))) (gd : n0 ≤ d) (S6 : Sta Z Z.heap "java/lang/StringUTF16" "$assertionsDisabled" "Z" (.int (1 : Int32))) (S7 : Sta Z Z.heap "java/lang/StringUTF16" "HI_BYTE_SHIFT" "I" (.int (0 : Int32))) (S8 : Sta Z Z.heap "java/lang/StringUTF16" "LO_BYTE_SHIFT" "I" (.int (8 : Int32))) (OL : Old Z n0 h0) :
    MetFree l (⟨"java/lang/StringUTF16", "putChar", "([BII)V"⟩ : MethodName) (head1 (Jvm.Cond.code (⟨"java/lang/StringUTF16", "putChar", "([BII)V"⟩ : MethodName) jdk_52_method_4_code 3 none :: ws) ({ frames := 0, cells := 0, slots := 0, locals := 0 } : Room)) (fun aa_ U => aa_ = #[(.ref d), (.int (0 : Int32)), (.int x)] ∧ Z.Warmed39 U.vm ∧ U.heap = h0) (fun _ _ _ _ _ => True) (fun _ U o U' => ∃ vv_ LL_, o = .returned vv_ ∧ Q_pch0 Z d kd N2 vs x h0 n0 vv_ U'.heap LL_ ∧ FrameEnd U o U' LL_ 0 0) := by
  refine MetFree.of_bodySF (plainFor_of_name pn_java_lang_StringUTF16) hisR ?_
  intro p e s m args below meth c s₁ Bd hml0 hP hK
  obtain ⟨rfl, hZ, hh⟩ := hP
  have hx := Bd.exec
  have hby := Bd.bytes
  have hml : c.maxLocals = 3 := hml0
  have hown : s.vm.findClass "java/lang/StringUTF16" = some m.cls := findClass_of_methodNamed Bd.named
  have hnm := (name_of_methodNamed Bd.named Bd.method).1
  have X0 : Stand p l e ({ frames := 0, cells := 0, slots := 0, locals := 0 } : Room) s m #[(.ref d), (.int (0 : Int32)), (.int x)] below meth c s₁ [] 0 0 := Stand.of_body Bd
  have e0 : s₁.heap = h0 := by rw [← hh, Bd.state]; rfl
  have N0 := Fr.nil n0
  have ef : entryFrame m #[(.ref d), (.int (0 : Int32)), (.int x)] 3 = mkF m 0 #[.val (.ref d), .val (.int (0 : Int32)), .val (.int x)] [] := by first | (simp [entryFrame, mkF, argsToLocals, Value.category]; done) | rfl
  refine Fin.start (Q := Q_pch0 Z d kd N2 vs x h0 n0) ef ?_
  obtain ⟨T101, X101, e101, st101⟩ := getS X0 hx hZ (host := "") hown (w_ hw 89 rfl) Via.refl e0 (S6.ext OL.2) (g := (mkF m 0 #[.val (.ref d), .val (.int 0), .val (.int x)] [])) rfl (hb hby d_jdk_52_method_4_0)
  refine Fin.by (fun tt_ kk_ => st101 tt_ kk_) ?_
  show Fin _ _ _ _ _ _ _ (T101.setTop (mkF m 3 #[.val (.ref d), .val (.int 0), .val (.int x)] [(.int 1)]))
  refine Fin.by (fun tt_ kk_ => XS.ifYes X101.here hx rfl (pc0 := 3) (pc' := 28) rfl (hb hby d_jdk_52_method_4_3) rfl ((if0 _ _).trans (feq (by decide : ¬ (1 : Int32) = (0 : Int32))).2) (by decide) (by decide) kk_) ?_
  refine Fin.by (fun tt_ kk_ => XS.iloadN X101.here hx rfl (hb hby d_jdk_52_method_4_28) rfl (XS.iconst X101.here hx rfl (hb hby d_jdk_52_method_4_29) (XS.ishl X101.here hx rfl (hb hby d_jdk_52_method_4_30) rfl (XS.istoreN X101.here hx rfl (hb hby d_jdk_52_method_4_31) rfl (l' := #[.val (.ref d), .val (.int 0), .val (.int x)]) rfl (XS.aloadN X101.here hx rfl (hb hby d_jdk_52_method_4_32) rfl rfl (XS.iloadN X101.here hx rfl (hb hby d_jdk_52_method_4_33) rfl (XS.iinc X101.here hx rfl (hb hby d_jdk_52_method_4_34) rfl (l' := #[.val (.ref d), .val (.int 1), .val (.int x)]) rfl (XS.iloadN X101.here hx rfl (hb hby d_jdk_52_method_4_37) rfl kk_)))))))) ?_
  obtain ⟨T102, X102, e102, st102⟩ := getS X101 hx hZ (host := "") hown (w_ hw 90 rfl) Via.refl e101 (S7.ext OL.2) (g := (mkF m 38 #[.val (.ref d), .val (.int 1), .val (.int x)] [(.int x), (.int 0), (.ref d)])) rfl (hb hby d_jdk_52_method_4_38)
  refine Fin.by (fun tt_ kk_ => st102 tt_ kk_) ?_
  refine Fin.by (fun tt_ kk_ => XS.ishr X102.here hx rfl (hb hby d_jdk_52_method_4_41) rfl (XS.i2b X102.here hx rfl (hb hby d_jdk_52_method_4_42) rfl kk_)) ?_
  obtain ⟨cl103, Ar103, q103, S103, N103, H103, G103⟩ := id A0
  have hin103 : ¬ ((0 : Int32) < 0 ∨ cl103.slots.size ≤ (0 : Int32).toNatClampNeg) := inb_of S103 ⟨by decide, hN0⟩
  obtain ⟨T103, h103, X103, e103, W103, st103⟩ := stB X102 hx hZ e102 Ar103 (j := (0 : Int32)) hin103 (g := (mkF m 43 #[.val (.ref d), .val (.int 1), .val (.int x)] [(.int ((x >>> (0 &&& 31)).toInt8.toInt32)), (.int 0), (.ref d)])) rfl rfl (hb hby d_jdk_52_method_4_43)
  have V103 : Arv Z h103 d kd .byte N2 (vs.set 0 (.int (((x >>> ((0 : Int32) &&& 31)).toInt8.toInt32).toInt8.toInt32))) (.int (0 : Int32)) := Arv.set Ar103 q103 S103 N103 H103 G103 (fits_nar_byte _) W103 (0) rfl hl0
  refine Fin.by (fun tt_ kk_ => st103 tt_ kk_) ?_
  have N103_ := Fr.snoc X103 N0 gd
  refine Fin.by (fun tt_ kk_ => XS.aloadN X103.here hx rfl (hb hby d_jdk_52_method_4_44) rfl rfl (XS.iloadN X103.here hx rfl (hb hby d_jdk_52_method_4_45) rfl (XS.iloadN X103.here hx rfl (hb hby d_jdk_52_method_4_46) rfl kk_))) ?_
  have O104 : Old Z n0 h103 := (OL.wr W103 gd)
  obtain ⟨T105, X105, e105, st105⟩ := getS X103 hx hZ (host := "") hown (w_ hw 91 rfl) Via.refl e103 (S8.ext O104.2) (g := (mkF m 47 #[.val (.ref d), .val (.int 1), .val (.int x)] [(.int x), (.int 1), (.ref d)])) rfl (hb hby d_jdk_52_method_4_47)
  refine Fin.by (fun tt_ kk_ => st105 tt_ kk_) ?_
  refine Fin.by (fun tt_ kk_ => XS.ishr X105.here hx rfl (hb hby d_jdk_52_method_4_50) rfl (XS.i2b X105.here hx rfl (hb hby d_jdk_52_method_4_51) rfl kk_)) ?_
  obtain ⟨cl106, Ar106, q106, S106, N106, H106, G106⟩ := id V103
  have hin106 : ¬ ((1 : Int32) < 0 ∨ cl106.slots.size ≤ (1 : Int32).toNatClampNeg) := inb_of S106 ⟨by decide, hN1⟩
  obtain ⟨T106, h106, X106, e106, W106, st106⟩ := stB X105 hx hZ e105 Ar106 (j := (1 : Int32)) hin106 (g := (mkF m 52 #[.val (.ref d), .val (.int 1), .val (.int x)] [(.int ((x >>> (8 &&& 31)).toInt8.toInt32)), (.int 1), (.ref d)])) rfl rfl (hb hby d_jdk_52_method_4_52)
  have V106 : Arv Z h106 d kd .byte N2 ((vs.set 0 (.int (((x >>> ((0 : Int32) &&& 31)).toInt8.toInt32).toInt8.toInt32))).set 1 (.int (((x >>> ((8 : Int32) &&& 31)).toInt8.toInt32).toInt8.toInt32))) (.int (0 : Int32)) := Arv.set Ar106 q106 S106 N106 H106 G106 (fits_nar_byte _) W106 (1) rfl (by rw [List.length_set]; exact hl1)
  refine Fin.by (fun tt_ kk_ => st106 tt_ kk_) ?_
  have N106_ := Fr.snoc X106 N103_ gd
  have kp107 : Keep h0 h103 [d] := (Keep.refl h0 [d]).wr W103 (Or.inl (List.mem_of_getElem? (i := 0) rfl))
  have kp108 : Keep h0 h106 [d] := kp107.wr W106 (Or.inl (List.mem_of_getElem? (i := 0) rfl))
  show Fin _ _ _ _ _ _ _ (T106.setTop (mkF m 53 #[.val (.ref d), .val (.int 1), .val (.int x)] []))
  exact Fin.ret (v := none) X106 (fun _ => rfl) Bd.notSynchronized (by rw [e106]; exact ⟨rfl, N106_, kp108, V106⟩) (by decide) (by decide) (fun fs hr => X106.returnOut hx Bd.returns (hb hby d_jdk_52_method_4_53) hr)
def Q_pch1 (Z : State) (d : Addr) (kd : ClassId) (N2 : Int32) (vs : List Value) (x : Int32) (h0 : Heap) (n0 : Nat) (vv_ : Option Value) (hh_ : Heap) (LL_ : List Loc) : Prop := vv_ = none ∧ Fr n0 LL_ ∧ Keep h0 hh_ [d] ∧ Arv Z hh_ d kd .byte N2 (((vs).set 2 (.int (((x >>> ((0 : Int32) &&& 31)).toInt8.toInt32).toInt8.toInt32))).set 3 (.int (((x >>> ((8 : Int32) &&& 31)).toInt8.toInt32).toInt8.toInt32))) (.int (0 : Int32))
set_option maxRecDepth 65536 in
set_option maxHeartbeats 40000000 in
theorem rm_pch1 (l : Launch) (Z : State) (a0 : Array Value) (hw : ∀ d ∈ tables_1, d.before a0 Z = true) (ws : List Jvm.Cond) (d : Addr) (kd : ClassId) (N2 : Int32) (vs : List Value) (x : Int32) (h0 : Heap) (n0 : Nat) (Z0 : n0 ≤ h0.size) (hl0 : 2 < vs.length) (hl1 : 3 < vs.length) (hN0 : (2 : Int32) < N2) (hN1 : (3 : Int32) < N2) (A0 : Arv Z h0 d kd .byte N2 vs (.int (0 : Int32))) (gd : n0 ≤ d) (S6 : Sta Z Z.heap "java/lang/StringUTF16" "$assertionsDisabled" "Z" (.int (1 : Int32))) (S7 : Sta Z Z.heap "java/lang/StringUTF16" "HI_BYTE_SHIFT" "I" (.int (0 : Int32))) (S8 : Sta Z Z.heap "java/lang/StringUTF16" "LO_BYTE_SHIFT" "I" (.int (8 : Int32))) (OL : Old Z n0 h0) :
    MetFree l (⟨"java/lang/StringUTF16", "putChar", "([BII)V"⟩ : MethodName) (head1 (Jvm.Cond.code (⟨"java/lang/StringUTF16", "putChar", "([BII)V"⟩ : MethodName) jdk_52_method_4_code 3 none :: ws) ({ frames := 0, cells := 0, slots := 0, locals := 0 } : Room)) (fun aa_ U => aa_ = #[(.ref d), (.int (1 : Int32)), (.int x)] ∧ Z.Warmed39 U.vm ∧ U.heap = h0) (fun _ _ _ _ _ => True) (fun _ U o U' => ∃ vv_ LL_, o = .returned vv_ ∧ Q_pch1 Z d kd N2 vs x h0 n0 vv_ U'.heap LL_ ∧ FrameEnd U o U' LL_ 0 0) := by
  refine MetFree.of_bodySF (plainFor_of_name pn_java_lang_StringUTF16) hisR ?_
  intro p e s m args below meth c s₁ Bd hml0 hP hK
  obtain ⟨rfl, hZ, hh⟩ := hP
  have hx := Bd.exec
  have hby := Bd.bytes
  have hml : c.maxLocals = 3 := hml0
  have hown : s.vm.findClass "java/lang/StringUTF16" = some m.cls := findClass_of_methodNamed Bd.named
  have hnm := (name_of_methodNamed Bd.named Bd.method).1
  have X0 : Stand p l e ({ frames := 0, cells := 0, slots := 0, locals := 0 } : Room) s m #[(.ref d), (.int (1 : Int32)), (.int x)] below meth c s₁ [] 0 0 := Stand.of_body Bd
  have e0 : s₁.heap = h0 := by rw [← hh, Bd.state]; rfl
  have N0 := Fr.nil n0
  have ef : entryFrame m #[(.ref d), (.int (1 : Int32)), (.int x)] 3 = mkF m 0 #[.val (.ref d), .val (.int (1 : Int32)), .val (.int x)] [] := by first | (simp [entryFrame, mkF, argsToLocals, Value.category]; done) | rfl
  refine Fin.start (Q := Q_pch1 Z d kd N2 vs x h0 n0) ef ?_
  obtain ⟨T101, X101, e101, st101⟩ := getS X0 hx hZ (host := "") hown (w_ hw 89 rfl) Via.refl e0 (S6.ext OL.2) (g := (mkF m 0 #[.val (.ref d), .val (.int 1), .val (.int x)] [])) rfl (hb hby d_jdk_52_method_4_0)
  refine Fin.by (fun tt_ kk_ => st101 tt_ kk_) ?_
  show Fin _ _ _ _ _ _ _ (T101.setTop (mkF m 3 #[.val (.ref d), .val (.int 1), .val (.int x)] [(.int 1)]))
  refine Fin.by (fun tt_ kk_ => XS.ifYes X101.here hx rfl (pc0 := 3) (pc' := 28) rfl (hb hby d_jdk_52_method_4_3) rfl ((if0 _ _).trans (feq (by decide : ¬ (1 : Int32) = (0 : Int32))).2) (by decide) (by decide) kk_) ?_
  refine Fin.by (fun tt_ kk_ => XS.iloadN X101.here hx rfl (hb hby d_jdk_52_method_4_28) rfl (XS.iconst X101.here hx rfl (hb hby d_jdk_52_method_4_29) (XS.ishl X101.here hx rfl (hb hby d_jdk_52_method_4_30) rfl (XS.istoreN X101.here hx rfl (hb hby d_jdk_52_method_4_31) rfl (l' := #[.val (.ref d), .val (.int 2), .val (.int x)]) rfl (XS.aloadN X101.here hx rfl (hb hby d_jdk_52_method_4_32) rfl rfl (XS.iloadN X101.here hx rfl (hb hby d_jdk_52_method_4_33) rfl (XS.iinc X101.here hx rfl (hb hby d_jdk_52_method_4_34) rfl (l' := #[.val (.ref d), .val (.int 3), .val (.int x)]) rfl (XS.iloadN X101.here hx rfl (hb hby d_jdk_52_method_4_37) rfl kk_)))))))) ?_
  obtain ⟨T102, X102, e102, st102⟩ := getS X101 hx hZ (host := "") hown (w_ hw 90 rfl) Via.refl e101 (S7.ext OL.2) (g := (mkF m 38 #[.val (.ref d), .val (.int 3), .val (.int x)] [(.int x), (.int 2), (.ref d)])) rfl (hb hby d_jdk_52_method_4_38)
  refine Fin.by (fun tt_ kk_ => st102 tt_ kk_) ?_
  refine Fin.by (fun tt_ kk_ => XS.ishr X102.here hx rfl (hb hby d_jdk_52_method_4_41) rfl (XS.i2b X102.here hx rfl (hb hby d_jdk_52_method_4_42) rfl kk_)) ?_
  obtain ⟨cl103, Ar103, q103, S103, N103, H103, G103⟩ := id A0
  have hin103 : ¬ ((2 : Int32) < 0 ∨ cl103.slots.size ≤ (2 : Int32).toNatClampNeg) := inb_of S103 ⟨by decide, hN0⟩
  obtain ⟨T103, h103, X103, e103, W103, st103⟩ := stB X102 hx hZ e102 Ar103 (j := (2 : Int32)) hin103 (g := (mkF m 43 #[.val (.ref d), .val (.int 3), .val (.int x)] [(.int ((x >>> (0 &&& 31)).toInt8.toInt32)), (.int 2), (.ref d)])) rfl rfl (hb hby d_jdk_52_method_4_43)
  have V103 : Arv Z h103 d kd .byte N2 (vs.set 2 (.int (((x >>> ((0 : Int32) &&& 31)).toInt8.toInt32).toInt8.toInt32))) (.int (0 : Int32)) := Arv.set Ar103 q103 S103 N103 H103 G103 (fits_nar_byte _) W103 (2) rfl hl0
  refine Fin.by (fun tt_ kk_ => st103 tt_ kk_) ?_
  have N103_ := Fr.snoc X103 N0 gd
  refine Fin.by (fun tt_ kk_ => XS.aloadN X103.here hx rfl (hb hby d_jdk_52_method_4_44) rfl rfl (XS.iloadN X103.here hx rfl (hb hby d_jdk_52_method_4_45) rfl (XS.iloadN X103.here hx rfl (hb hby d_jdk_52_method_4_46) rfl kk_))) ?_
  have O104 : Old Z n0 h103 := (OL.wr W103 gd)
  obtain ⟨T105, X105, e105, st105⟩ := getS X103 hx hZ (host := "") hown (w_ hw 91 rfl) Via.refl e103 (S8.ext O104.2) (g := (mkF m 47 #[.val (.ref d), .val (.int 3), .val (.int x)] [(.int x), (.int 3), (.ref d)])) rfl (hb hby d_jdk_52_method_4_47)
  refine Fin.by (fun tt_ kk_ => st105 tt_ kk_) ?_
  refine Fin.by (fun tt_ kk_ => XS.ishr X105.here hx rfl (hb hby d_jdk_52_method_4_50) rfl (XS.i2b X105.here hx rfl (hb hby d_jdk_52_method_4_51) rfl kk_)) ?_
  obtain ⟨cl106, Ar106, q106, S106, N106, H106, G106⟩ := id V103
  have hin106 : ¬ ((3 : Int32) < 0 ∨ cl106.slots.size ≤ (3 : Int32).toNatClampNeg) := inb_of S106 ⟨by decide, hN1⟩
  obtain ⟨T106, h106, X106, e106, W106, st106⟩ := stB X105 hx hZ e105 Ar106 (j := (3 : Int32)) hin106 (g := (mkF m 52 #[.val (.ref d), .val (.int 3), .val (.int x)] [(.int ((x >>> (8 &&& 31)).toInt8.toInt32)), (.int 3), (.ref d)])) rfl rfl (hb hby d_jdk_52_method_4_52)
  have V106 : Arv Z h106 d kd .byte N2 ((vs.set 2 (.int (((x >>> ((0 : Int32) &&& 31)).toInt8.toInt32).toInt8.toInt32))).set 3 (.int (((x >>> ((8 : Int32) &&& 31)).toInt8.toInt32).toInt8.toInt32))) (.int (0 : Int32)) := Arv.set Ar106 q106 S106 N106 H106 G106 (fits_nar_byte _) W106 (3) rfl (by rw [List.length_set]; exact hl1)
  refine Fin.by (fun tt_ kk_ => st106 tt_ kk_) ?_
  have N106_ := Fr.snoc X106 N103_ gd
  have kp107 : Keep h0 h103 [d] := (Keep.refl h0 [d]).wr W103 (Or.inl (List.mem_of_getElem? (i := 0) rfl))
  have kp108 : Keep h0 h106 [d] := kp107.wr W106 (Or.inl (List.mem_of_getElem? (i := 0) rfl))
  show Fin _ _ _ _ _ _ _ (T106.setTop (mkF m 53 #[.val (.ref d), .val (.int 3), .val (.int x)] []))
  exact Fin.ret (v := none) X106 (fun _ => rfl) Bd.notSynchronized (by rw [e106]; exact ⟨rfl, N106_, kp108, V106⟩) (by decide) (by decide) (fun fs hr => X106.returnOut hx Bd.returns (hb hby d_jdk_52_method_4_53) hr)
def Q_pch2 (Z : State) (d : Addr) (kd : ClassId) (N2 : Int32) (vs : List Value) (x : Int32) (h0 : Heap) (n0 : Nat) (vv_ : Option Value) (hh_ : Heap) (LL_ : List Loc) : Prop := vv_ = none ∧ Fr n0 LL_ ∧ Keep h0 hh_ [d] ∧ Arv Z hh_ d kd .byte N2 (((vs).set 4 (.int (((x >>> ((0 : Int32) &&& 31)).toInt8.toInt32).toInt8.toInt32))).set 5 (.int (((x >>> ((8 : Int32) &&& 31)).toInt8.toInt32).toInt8.toInt32))) (.int (0 : Int32))
set_option maxRecDepth 65536 in
set_option maxHeartbeats 40000000 in
theorem rm_pch2 (l : Launch) (Z : State) (a0 : Array Value) (hw : ∀ d ∈ tables_1, d.before a0 Z = true) (ws : List Jvm.Cond) (d : Addr) (kd : ClassId) (N2 : Int32) (vs : List Value) (x : Int32) (h0 : Heap) (n0 : Nat) (Z0 : n0 ≤ h0.size) (hl0 : 4 < vs.length) (hl1 : 5 < vs.length) (hN0 : (4 : Int32) < N2) (hN1 : (5 : Int32) < N2) (A0 : Arv Z h0 d kd .byte N2 vs (.int (0 : Int32))) (gd : n0 ≤ d) (S6 : Sta Z Z.heap "java/lang/StringUTF16" "$assertionsDisabled" "Z" (.int (1 : Int32))) (S7 : Sta Z Z.heap "java/lang/StringUTF16" "HI_BYTE_SHIFT" "I" (.int (0 : Int32))) (S8 : Sta Z Z.heap "java/lang/StringUTF16" "LO_BYTE_SHIFT" "I" (.int (8 : Int32))) (OL : Old Z n0 h0) :
    MetFree l (⟨"java/lang/StringUTF16", "putChar", "([BII)V"⟩ : MethodName) (head1 (Jvm.Cond.code (⟨"java/lang/StringUTF16", "putChar", "([BII)V"⟩ : MethodName) jdk_52_method_4_code 3 none :: ws) ({ frames := 0, cells := 0, slots := 0, locals := 0 } : Room)) (fun aa_ U => aa_ = #[(.ref d), (.int (2 : Int32)), (.int x)] ∧ Z.Warmed39 U.vm ∧ U.heap = h0) (fun _ _ _ _ _ => True) (fun _ U o U' => ∃ vv_ LL_, o = .returned vv_ ∧ Q_pch2 Z d kd N2 vs x h0 n0 vv_ U'.heap LL_ ∧ FrameEnd U o U' LL_ 0 0) := by
  refine MetFree.of_bodySF (plainFor_of_name pn_java_lang_StringUTF16) hisR ?_
  intro p e s m args below meth c s₁ Bd hml0 hP hK
  obtain ⟨rfl, hZ, hh⟩ := hP
  have hx := Bd.exec
  have hby := Bd.bytes
  have hml : c.maxLocals = 3 := hml0
  have hown : s.vm.findClass "java/lang/StringUTF16" = some m.cls := findClass_of_methodNamed Bd.named
  have hnm := (name_of_methodNamed Bd.named Bd.method).1
  have X0 : Stand p l e ({ frames := 0, cells := 0, slots := 0, locals := 0 } : Room) s m #[(.ref d), (.int (2 : Int32)), (.int x)] below meth c s₁ [] 0 0 := Stand.of_body Bd
  have e0 : s₁.heap = h0 := by rw [← hh, Bd.state]; rfl
  have N0 := Fr.nil n0
  have ef : entryFrame m #[(.ref d), (.int (2 : Int32)), (.int x)] 3 = mkF m 0 #[.val (.ref d), .val (.int (2 : Int32)), .val (.int x)] [] := by first | (simp [entryFrame, mkF, argsToLocals, Value.category]; done) | rfl
  refine Fin.start (Q := Q_pch2 Z d kd N2 vs x h0 n0) ef ?_
  obtain ⟨T101, X101, e101, st101⟩ := getS X0 hx hZ (host := "") hown (w_ hw 89 rfl) Via.refl e0 (S6.ext OL.2) (g := (mkF m 0 #[.val (.ref d), .val (.int 2), .val (.int x)] [])) rfl (hb hby d_jdk_52_method_4_0)
  refine Fin.by (fun tt_ kk_ => st101 tt_ kk_) ?_
  show Fin _ _ _ _ _ _ _ (T101.setTop (mkF m 3 #[.val (.ref d), .val (.int 2), .val (.int x)] [(.int 1)]))
  refine Fin.by (fun tt_ kk_ => XS.ifYes X101.here hx rfl (pc0 := 3) (pc' := 28) rfl (hb hby d_jdk_52_method_4_3) rfl ((if0 _ _).trans (feq (by decide : ¬ (1 : Int32) = (0 : Int32))).2) (by decide) (by decide) kk_) ?_
  refine Fin.by (fun tt_ kk_ => XS.iloadN X101.here hx rfl (hb hby d_jdk_52_method_4_28) rfl (XS.iconst X101.here hx rfl (hb hby d_jdk_52_method_4_29) (XS.ishl X101.here hx rfl (hb hby d_jdk_52_method_4_30) rfl (XS.istoreN X101.here hx rfl (hb hby d_jdk_52_method_4_31) rfl (l' := #[.val (.ref d), .val (.int 4), .val (.int x)]) rfl (XS.aloadN X101.here hx rfl (hb hby d_jdk_52_method_4_32) rfl rfl (XS.iloadN X101.here hx rfl (hb hby d_jdk_52_method_4_33) rfl (XS.iinc X101.here hx rfl (hb hby d_jdk_52_method_4_34) rfl (l' := #[.val (.ref d), .val (.int 5), .val (.int x)]) rfl (XS.iloadN X101.here hx rfl (hb hby d_jdk_52_method_4_37) rfl kk_)))))))) ?_
  obtain ⟨T102, X102, e102, st102⟩ := getS X101 hx hZ (host := "") hown (w_ hw 90 rfl) Via.refl e101 (S7.ext OL.2) (g := (mkF m 38 #[.val (.ref d), .val (.int 5), .val (.int x)] [(.int x), (.int 4), (.ref d)])) rfl (hb hby d_jdk_52_method_4_38)
  refine Fin.by (fun tt_ kk_ => st102 tt_ kk_) ?_
  refine Fin.by (fun tt_ kk_ => XS.ishr X102.here hx rfl (hb hby d_jdk_52_method_4_41) rfl (XS.i2b X102.here hx rfl (hb hby d_jdk_52_method_4_42) rfl kk_)) ?_
  obtain ⟨cl103, Ar103, q103, S103, N103, H103, G103⟩ := id A0
  have hin103 : ¬ ((4 : Int32) < 0 ∨ cl103.slots.size ≤ (4 : Int32).toNatClampNeg) := inb_of S103 ⟨by decide, hN0⟩
  obtain ⟨T103, h103, X103, e103, W103, st103⟩ := stB X102 hx hZ e102 Ar103 (j := (4 : Int32)) hin103 (g := (mkF m 43 #[.val (.ref d), .val (.int 5), .val (.int x)] [(.int ((x >>> (0 &&& 31)).toInt8.toInt32)), (.int 4), (.ref d)])) rfl rfl (hb hby d_jdk_52_method_4_43)
  have V103 : Arv Z h103 d kd .byte N2 (vs.set 4 (.int (((x >>> ((0 : Int32) &&& 31)).toInt8.toInt32).toInt8.toInt32))) (.int (0 : Int32)) := Arv.set Ar103 q103 S103 N103 H103 G103 (fits_nar_byte _) W103 (4) rfl hl0
  refine Fin.by (fun tt_ kk_ => st103 tt_ kk_) ?_
  have N103_ := Fr.snoc X103 N0 gd
  refine Fin.by (fun tt_ kk_ => XS.aloadN X103.here hx rfl (hb hby d_jdk_52_method_4_44) rfl rfl (XS.iloadN X103.here hx rfl (hb hby d_jdk_52_method_4_45) rfl (XS.iloadN X103.here hx rfl (hb hby d_jdk_52_method_4_46) rfl kk_))) ?_
  have O104 : Old Z n0 h103 := (OL.wr W103 gd)
  obtain ⟨T105, X105, e105, st105⟩ := getS X103 hx hZ (host := "") hown (w_ hw 91 rfl) Via.refl e103 (S8.ext O104.2) (g := (mkF m 47 #[.val (.ref d), .val (.int 5), .val (.int x)] [(.int x), (.int 5), (.ref d)])) rfl (hb hby d_jdk_52_method_4_47)
  refine Fin.by (fun tt_ kk_ => st105 tt_ kk_) ?_
  refine Fin.by (fun tt_ kk_ => XS.ishr X105.here hx rfl (hb hby d_jdk_52_method_4_50) rfl (XS.i2b X105.here hx rfl (hb hby d_jdk_52_method_4_51) rfl kk_)) ?_
  obtain ⟨cl106, Ar106, q106, S106, N106, H106, G106⟩ := id V103
  have hin106 : ¬ ((5 : Int32) < 0 ∨ cl106.slots.size ≤ (5 : Int32).toNatClampNeg) := inb_of S106 ⟨by decide, hN1⟩
  obtain ⟨T106, h106, X106, e106, W106, st106⟩ := stB X105 hx hZ e105 Ar106 (j := (5 : Int32)) hin106 (g := (mkF m 52 #[.val (.ref d), .val (.int 5), .val (.int x)] [(.int ((x >>> (8 &&& 31)).toInt8.toInt32)), (.int 5), (.ref d)])) rfl rfl (hb hby d_jdk_52_method_4_52)
  have V106 : Arv Z h106 d kd .byte N2 ((vs.set 4 (.int (((x >>> ((0 : Int32) &&& 31)).toInt8.toInt32).toInt8.toInt32))).set 5 (.int (((x >>> ((8 : Int32) &&& 31)).toInt8.toInt32).toInt8.toInt32))) (.int (0 : Int32)) := Arv.set Ar106 q106 S106 N106 H106 G106 (fits_nar_byte _) W106 (5) rfl (by rw [List.length_set]; exact hl1)
  refine Fin.by (fun tt_ kk_ => st106 tt_ kk_) ?_
  have N106_ := Fr.snoc X106 N103_ gd
  have kp107 : Keep h0 h103 [d] := (Keep.refl h0 [d]).wr W103 (Or.inl (List.mem_of_getElem? (i := 0) rfl))
  have kp108 : Keep h0 h106 [d] := kp107.wr W106 (Or.inl (List.mem_of_getElem? (i := 0) rfl))
  show Fin _ _ _ _ _ _ _ (T106.setTop (mkF m 53 #[.val (.ref d), .val (.int 5), .val (.int x)] []))
  exact Fin.ret (v := none) X106 (fun _ => rfl) Bd.notSynchronized (by rw [e106]; exact ⟨rfl, N106_, kp108, V106⟩) (by decide) (by decide) (fun fs hr => X106.returnOut hx Bd.returns (hb hby d_jdk_52_method_4_53) hr)
theorem d_jdk_52_method_21_0 : decode jdk_52_method_21_code 0 = .ok (.iconst 0, 1) := by decide +kernel
theorem d_jdk_52_method_21_1 : decode jdk_52_method_21_code 1 = .ok (.istore 5, 2) := by decide +kernel
theorem d_jdk_52_method_21_3 : decode jdk_52_method_21_code 3 = .ok (.iload 5, 2) := by decide +kernel
theorem d_jdk_52_method_21_5 : decode jdk_52_method_21_code 5 = .ok (.iload 4, 2) := by decide +kernel
theorem d_jdk_52_method_21_7 : decode jdk_52_method_21_code 7 = .ok (.if_icmp .ge 37, 3) := by decide +kernel
theorem d_jdk_52_method_21_10 : decode jdk_52_method_21_code 10 = .ok (.aload_n 0, 1) := by decide +kernel
theorem d_jdk_52_method_21_11 : decode jdk_52_method_21_code 11 = .ok (.iload_n 1, 1) := by decide +kernel
theorem d_jdk_52_method_21_12 : decode jdk_52_method_21_code 12 = .ok (.caload, 1) := by decide +kernel
theorem d_jdk_52_method_21_13 : decode jdk_52_method_21_code 13 = .ok (.istore 6, 2) := by decide +kernel
theorem d_jdk_52_method_21_15 : decode jdk_52_method_21_code 15 = .ok (.iload 6, 2) := by decide +kernel
theorem d_jdk_52_method_21_17 : decode jdk_52_method_21_code 17 = .ok (.sipush 255, 3) := by decide +kernel
theorem d_jdk_52_method_21_20 : decode jdk_52_method_21_code 20 = .ok (.if_icmp .le 6, 3) := by decide +kernel
theorem d_jdk_52_method_21_23 : decode jdk_52_method_21_code 23 = .ok (.iload 5, 2) := by decide +kernel
theorem d_jdk_52_method_21_25 : decode jdk_52_method_21_code 25 = .ok (.ireturn, 1) := by decide +kernel
theorem d_jdk_52_method_21_26 : decode jdk_52_method_21_code 26 = .ok (.aload_n 2, 1) := by decide +kernel
theorem d_jdk_52_method_21_27 : decode jdk_52_method_21_code 27 = .ok (.iload_n 3, 1) := by decide +kernel
theorem d_jdk_52_method_21_28 : decode jdk_52_method_21_code 28 = .ok (.iload 6, 2) := by decide +kernel
theorem d_jdk_52_method_21_30 : decode jdk_52_method_21_code 30 = .ok (.i2b, 1) := by decide +kernel
theorem d_jdk_52_method_21_31 : decode jdk_52_method_21_code 31 = .ok (.bastore, 1) := by decide +kernel
theorem d_jdk_52_method_21_32 : decode jdk_52_method_21_code 32 = .ok (.iinc 1 1, 3) := by decide +kernel
theorem d_jdk_52_method_21_35 : decode jdk_52_method_21_code 35 = .ok (.iinc 3 1, 3) := by decide +kernel
theorem d_jdk_52_method_21_38 : decode jdk_52_method_21_code 38 = .ok (.iinc 5 1, 3) := by decide +kernel
theorem d_jdk_52_method_21_41 : decode jdk_52_method_21_code 41 = .ok (.goto (-38), 3) := by decide +kernel
theorem d_jdk_52_method_21_44 : decode jdk_52_method_21_code 44 = .ok (.iload 4, 2) := by decide +kernel
theorem d_jdk_52_method_21_46 : decode jdk_52_method_21_code 46 = .ok (.ireturn, 1) := by decide +kernel
def Q_c5_1 (Z : State) (b : Addr) (kb : ClassId) (d : Addr) (kd : ClassId) (c0 : Int32) (h0 : Heap) (n0 : Nat) (vv_ : Option Value) (hh_ : Heap) (LL_ : List Loc) : Prop := ∃ (r : Int32), ∃ (vs : List Value), vv_ = some (.int r) ∧ Fr n0 LL_ ∧ Keep h0 hh_ [d] ∧ Arv Z hh_ d kd .byte (1 : Int32) vs (.int (0 : Int32)) ∧ ((r = (1 : Int32) ∧ vs = [(.int ((c0.toInt8.toInt32).toInt8.toInt32))] ∧ ¬ (255 : Int32) < c0) ∨ (r = (0 : Int32) ∧ (255 : Int32) < c0))
set_option maxRecDepth 65536 in
set_option maxHeartbeats 40000000 in
theorem rm_c5_1 (l : Launch) (Z : State) (a0 : Array Value) (hw : ∀ d ∈ tables_1, d.before a0 Z = true) (ws : List Jvm.Cond) (b : Addr) (kb : ClassId) (d : Addr) (kd : ClassId) (c0 : Int32) (h0 : Heap) (n0 : Nat) (Z0 : n0 ≤ h0.size) (Ab : Arv Z h0 b kb .char (1 : Int32) [(.int c0)] (.int (0 : Int32))) (Ad : Arv Z h0 d kd .byte (1 : Int32) [(.int (0 : Int32))] (.int (0 : Int32))) (gd : n0 ≤ d) (nbd : b ≠ d) :
    MetFree l (⟨"java/lang/StringUTF16", "compress", "([CI[BII)I"⟩ : MethodName) (head1 (Jvm.Cond.code (⟨"java/lang/StringUTF16", "compress", "([CI[BII)I"⟩ : MethodName) jdk_52_method_21_code 7 (some .int) :: ws) ({ frames := 0, cells := 0, slots := 0, locals := 0 } : Room)) (fun aa_ U => aa_ = #[(.ref b), (.int (0 : Int32)), (.ref d), (.int (0 : Int32)), (.int (1 : Int32))] ∧ Z.Warmed39 U.vm ∧ U.heap = h0) (fun _ _ _ _ _ => True) (fun _ U o U' => ∃ vv_ LL_, o = .returned vv_ ∧ Q_c5_1 Z b kb d kd c0 h0 n0 vv_ U'.heap LL_ ∧ FrameEnd U o U' LL_ 0 0) := by
  refine MetFree.of_bodySF (plainFor_of_name pn_java_lang_StringUTF16) hisR ?_
  intro p e s m args below meth c s₁ Bd hml0 hP hK
  obtain ⟨rfl, hZ, hh⟩ := hP
  have hx := Bd.exec
  have hby := Bd.bytes
  have hml : c.maxLocals = 7 := hml0
  have hown : s.vm.findClass "java/lang/StringUTF16" = some m.cls := findClass_of_methodNamed Bd.named
  have hnm := (name_of_methodNamed Bd.named Bd.method).1
  have X0 : Stand p l e ({ frames := 0, cells := 0, slots := 0, locals := 0 } : Room) s m #[(.ref b), (.int (0 : Int32)), (.ref d), (.int (0 : Int32)), (.int (1 : Int32))] below meth c s₁ [] 0 0 := Stand.of_body Bd
  have e0 : s₁.heap = h0 := by rw [← hh, Bd.state]; rfl
  have N0 := Fr.nil n0
  have ef : entryFrame m #[(.ref b), (.int (0 : Int32)), (.ref d), (.int (0 : Int32)), (.int (1 : Int32))] 7 = mkF m 0 #[.val (.ref b), .val (.int (0 : Int32)), .val (.ref d), .val (.int (0 : Int32)), .val (.int (1 : Int32)), .unset, .unset] [] := by first | (simp [entryFrame, mkF, argsToLocals, Value.category]; done) | rfl
  refine Fin.start (Q := Q_c5_1 Z b kb d kd c0 h0 n0) ef ?_
  refine Fin.by (fun tt_ kk_ => XS.iconst X0.here hx rfl (hb hby d_jdk_52_method_21_0) (XS.istore X0.here hx rfl (hb hby d_jdk_52_method_21_1) rfl (l' := #[.val (.ref b), .val (.int 0), .val (.ref d), .val (.int 0), .val (.int 1), .val (.int 0), .unset]) rfl (XS.iload X0.here hx rfl (hb hby d_jdk_52_method_21_3) rfl (XS.iload X0.here hx rfl (hb hby d_jdk_52_method_21_5) rfl kk_)))) ?_
  show Fin _ _ _ _ _ _ _ (s₁.setTop (mkF m 7 #[.val (.ref b), .val (.int 0), .val (.ref d), .val (.int 0), .val (.int 1), .val (.int 0), .unset] [(.int 1), (.int 0)]))
  refine Fin.by (fun tt_ kk_ => XS.icmpNo X0.here hx rfl (hb hby d_jdk_52_method_21_7) rfl (tlt (by decide : (0 : Int32) < (1 : Int32))).2.1 kk_) ?_
  refine Fin.by (fun tt_ kk_ => XS.aloadN X0.here hx rfl (hb hby d_jdk_52_method_21_10) rfl rfl (XS.iloadN X0.here hx rfl (hb hby d_jdk_52_method_21_11) rfl kk_)) ?_
  obtain ⟨cl101, Ar101, q101, S101, N101, H101, G101⟩ := id Ab
  have hin101 : ¬ ((0 : Int32) < 0 ∨ cl101.slots.size ≤ (0 : Int32).toNatClampNeg) := inb_of S101 ⟨by decide, by decide⟩
  refine Fin.by (fun tt_ kk_ => X0.caload hx (j := (0 : Int32)) (v := (.int c0)) (by rw [e0]; exact Ar101.1) (State.isArrayOf_alike hZ.alike Ar101.2.1) Ar101.2.2 hin101 (Has.at H101 hin101 rfl) (g := (mkF m 12 #[.val (.ref b), .val (.int 0), .val (.ref d), .val (.int 0), .val (.int 1), .val (.int 0), .unset] [(.int 0), (.ref b)])) rfl rfl (hb hby d_jdk_52_method_21_12) _ kk_) ?_
  refine Fin.by (fun tt_ kk_ => XS.istore X0.here hx rfl (hb hby d_jdk_52_method_21_13) rfl (l' := #[.val (.ref b), .val (.int 0), .val (.ref d), .val (.int 0), .val (.int 1), .val (.int 0), .val (.int c0)]) rfl (XS.iload X0.here hx rfl (hb hby d_jdk_52_method_21_15) rfl (XS.sipush X0.here hx rfl (hb hby d_jdk_52_method_21_17) kk_))) ?_
  show Fin _ _ _ _ _ _ _ (s₁.setTop (mkF m 20 #[.val (.ref b), .val (.int 0), .val (.ref d), .val (.int 0), .val (.int 1), .val (.int 0), .val (.int c0)] [(.int 255), (.int c0)]))
  by_cases hx_0 : (255 : Int32) < c0
  · refine Fin.by (fun tt_ kk_ => XS.icmpNo X0.here hx rfl (hb hby d_jdk_52_method_21_20) rfl (tlt hx_0).2.2.2 kk_) ?_
    refine Fin.by (fun tt_ kk_ => XS.iload X0.here hx rfl (hb hby d_jdk_52_method_21_23) rfl kk_) ?_
    show Fin _ _ _ _ _ _ _ (s₁.setTop (mkF m 25 #[.val (.ref b), .val (.int 0), .val (.ref d), .val (.int 0), .val (.int 1), .val (.int 0), .val (.int c0)] [(.int 0)]))
    exact Fin.ret (v := some (.int (0 : Int32))) X0 (fun h => by rw [Bd.returns] at h; cases h) Bd.notSynchronized (by rw [e0]; exact ⟨(0 : Int32), [(.int (0 : Int32))], rfl, N0, (Keep.refl h0 [d]), Ad, (Or.inr ⟨rfl, hx_0⟩)⟩) (by decide) (by decide) (fun fs hr => retI X0 hx Bd.returns (hb hby d_jdk_52_method_21_25) hr)
  · refine Fin.by (fun tt_ kk_ => XS.icmpYes X0.here hx rfl (pc0 := 20) (pc' := 26) rfl (hb hby d_jdk_52_method_21_20) rfl (flt hx_0).2.2.2 (by decide) (by decide) kk_) ?_
    refine Fin.by (fun tt_ kk_ => XS.aloadN X0.here hx rfl (hb hby d_jdk_52_method_21_26) rfl rfl (XS.iloadN X0.here hx rfl (hb hby d_jdk_52_method_21_27) rfl (XS.iload X0.here hx rfl (hb hby d_jdk_52_method_21_28) rfl (XS.i2b X0.here hx rfl (hb hby d_jdk_52_method_21_30) rfl kk_)))) ?_
    obtain ⟨cl102, Ar102, q102, S102, N102, H102, G102⟩ := id Ad
    obtain ⟨T102, h102, X102, e102, W102, st102⟩ := stB X0 hx hZ e0 Ar102 (j := (0 : Int32)) (inb_of S102 ⟨by decide, by decide⟩) (g := (mkF m 31 #[.val (.ref b), .val (.int 0), .val (.ref d), .val (.int 0), .val (.int 1), .val (.int 0), .val (.int c0)] [(.int (c0.toInt8.toInt32)), (.int 0), (.ref d)])) rfl rfl (hb hby d_jdk_52_method_21_31)
    have V102 : Arv Z h102 d kd .byte (1 : Int32) [(.int ((c0.toInt8.toInt32).toInt8.toInt32))] (.int (0 : Int32)) := Arv.set Ar102 q102 S102 N102 H102 G102 (fits_nar_byte _) W102 0 rfl (Nat.le_of_ble_eq_true rfl)
    refine Fin.by (fun tt_ kk_ => st102 tt_ kk_) ?_
    have N102_ := Fr.snoc X102 N0 gd
    refine Fin.by (fun tt_ kk_ => XS.iinc X102.here hx rfl (hb hby d_jdk_52_method_21_32) rfl (l' := #[.val (.ref b), .val (.int 1), .val (.ref d), .val (.int 0), .val (.int 1), .val (.int 0), .val (.int c0)]) rfl (XS.iinc X102.here hx rfl (hb hby d_jdk_52_method_21_35) rfl (l' := #[.val (.ref b), .val (.int 1), .val (.ref d), .val (.int 1), .val (.int 1), .val (.int 0), .val (.int c0)]) rfl (XS.iinc X102.here hx rfl (hb hby d_jdk_52_method_21_38) rfl (l' := #[.val (.ref b), .val (.int 1), .val (.ref d), .val (.int 1), .val (.int 1), .val (.int 1), .val (.int c0)]) rfl (XS.goto X102.here hx rfl (pc0 := 41) (pc' := 3) rfl (hb hby d_jdk_52_method_21_41) (by decide) (by decide) (XS.iload X102.here hx rfl (hb hby d_jdk_52_method_21_3) rfl (XS.iload X102.here hx rfl (hb hby d_jdk_52_method_21_5) rfl kk_)))))) ?_
    show Fin _ _ _ _ _ _ _ (T102.setTop (mkF m 7 #[.val (.ref b), .val (.int 1), .val (.ref d), .val (.int 1), .val (.int 1), .val (.int 1), .val (.int c0)] [(.int 1), (.int 1)]))
    refine Fin.by (fun tt_ kk_ => XS.icmpYes X102.here hx rfl (pc0 := 7) (pc' := 44) rfl (hb hby d_jdk_52_method_21_7) rfl (flt (by decide : ¬ (1 : Int32) < (1 : Int32))).2.1 (by decide) (by decide) kk_) ?_
    refine Fin.by (fun tt_ kk_ => XS.iload X102.here hx rfl (hb hby d_jdk_52_method_21_44) rfl kk_) ?_
    have kp103 : Keep h0 h102 [d] := (Keep.refl h0 [d]).wr W102 (Or.inl (List.mem_of_getElem? (i := 0) rfl))
    show Fin _ _ _ _ _ _ _ (T102.setTop (mkF m 46 #[.val (.ref b), .val (.int 1), .val (.ref d), .val (.int 1), .val (.int 1), .val (.int 1), .val (.int c0)] [(.int 1)]))
    exact Fin.ret (v := some (.int (1 : Int32))) X102 (fun h => by rw [Bd.returns] at h; cases h) Bd.notSynchronized (by rw [e102]; exact ⟨(1 : Int32), [(.int ((c0.toInt8.toInt32).toInt8.toInt32))], rfl, N102_, kp103, V102, (Or.inl ⟨rfl, rfl, hx_0⟩)⟩) (by decide) (by decide) (fun fs hr => retI X102 hx Bd.returns (hb hby d_jdk_52_method_21_46) hr)
theorem d_jdk_52_method_3_0 : decode jdk_52_method_3_code 0 = .ok (.iload_n 0, 1) := by decide +kernel
theorem d_jdk_52_method_3_1 : decode jdk_52_method_3_code 1 = .ok (.ifCond .ge 11, 3) := by decide +kernel
theorem d_jdk_52_method_3_12 : decode jdk_52_method_3_code 12 = .ok (.iload_n 0, 1) := by decide +kernel
theorem d_jdk_52_method_3_13 : decode jdk_52_method_3_code 13 = .ok (.ldc 20, 2) := by decide +kernel
theorem d_jdk_52_method_3_15 : decode jdk_52_method_3_code 15 = .ok (.if_icmp .lt 40, 3) := by decide +kernel
theorem d_jdk_52_method_3_55 : decode jdk_52_method_3_code 55 = .ok (.iload_n 0, 1) := by decide +kernel
theorem d_jdk_52_method_3_56 : decode jdk_52_method_3_code 56 = .ok (.iconst 1, 1) := by decide +kernel
theorem d_jdk_52_method_3_57 : decode jdk_52_method_3_code 57 = .ok (.ishl, 1) := by decide +kernel
theorem d_jdk_52_method_3_58 : decode jdk_52_method_3_code 58 = .ok (.ireturn, 1) := by decide +kernel
def Q_nbl_1 (Z : State)  (h0 : Heap) (n0 : Nat) (vv_ : Option Value) (hh_ : Heap) (LL_ : List Loc) : Prop := vv_ = some (.int (2 : Int32)) ∧ Fr n0 LL_ ∧ hh_ = h0
set_option maxRecDepth 65536 in
set_option maxHeartbeats 40000000 in
theorem rm_nbl_1 (l : Launch) (Z : State) (a0 : Array Value) (hw : ∀ d ∈ tables_1, d.before a0 Z = true) (ws : List Jvm.Cond)  (h0 : Heap) (n0 : Nat) (Z0 : n0 ≤ h0.size) :
    MetFree l (⟨"java/lang/StringUTF16", "newBytesLength", "(I)I"⟩ : MethodName) (head1 (Jvm.Cond.code (⟨"java/lang/StringUTF16", "newBytesLength", "(I)I"⟩ : MethodName) jdk_52_method_3_code 1 (some .int) :: ws) ({ frames := 0, cells := 0, slots := 0, locals := 0 } : Room)) (fun aa_ U => aa_ = #[(.int (1 : Int32))] ∧ Z.Warmed39 U.vm ∧ U.heap = h0) (fun _ _ _ _ _ => True) (fun _ U o U' => ∃ vv_ LL_, o = .returned vv_ ∧ Q_nbl_1 Z  h0 n0 vv_ U'.heap LL_ ∧ FrameEnd U o U' LL_ 0 0) := by
  refine MetFree.of_bodySF (plainFor_of_name pn_java_lang_StringUTF16) hisR ?_
  intro p e s m args below meth c s₁ Bd hml0 hP hK
  obtain ⟨rfl, hZ, hh⟩ := hP
  have hx := Bd.exec
  have hby := Bd.bytes
  have hml : c.maxLocals = 1 := hml0
  have hown : s.vm.findClass "java/lang/StringUTF16" = some m.cls := findClass_of_methodNamed Bd.named
  have hnm := (name_of_methodNamed Bd.named Bd.method).1
  have X0 : Stand p l e ({ frames := 0, cells := 0, slots := 0, locals := 0 } : Room) s m #[(.int (1 : Int32))] below meth c s₁ [] 0 0 := Stand.of_body Bd
  have e0 : s₁.heap = h0 := by rw [← hh, Bd.state]; rfl
  have N0 := Fr.nil n0
  have ef : entryFrame m #[(.int (1 : Int32))] 1 = mkF m 0 #[.val (.int (1 : Int32))] [] := by first | (simp [entryFrame, mkF, argsToLocals, Value.category]; done) | rfl
  refine Fin.start (Q := Q_nbl_1 Z  h0 n0) ef ?_
  refine Fin.by (fun tt_ kk_ => XS.iloadN X0.here hx rfl (hb hby d_jdk_52_method_3_0) rfl kk_) ?_
  show Fin _ _ _ _ _ _ _ (s₁.setTop (mkF m 1 #[.val (.int 1)] [(.int 1)]))
  refine Fin.by (fun tt_ kk_ => XS.ifYes X0.here hx rfl (pc0 := 1) (pc' := 12) rfl (hb hby d_jdk_52_method_3_1) rfl ((if0 _ _).trans (flt (by decide : ¬ (1 : Int32) < (0 : Int32))).2.1) (by decide) (by decide) kk_) ?_
  refine Fin.by (fun tt_ kk_ => XS.iloadN X0.here hx rfl (hb hby d_jdk_52_method_3_12) rfl kk_) ?_
  refine Fin.by (fun tt_ kk_ => X0.ldcInt hx hown (mvT hZ (w_ hw 85 rfl)) (g := (mkF m 13 #[.val (.int 1)] [(.int 1)])) rfl (hb hby d_jdk_52_method_3_13) _ kk_) ?_
  show Fin _ _ _ _ _ _ _ (s₁.setTop (mkF m 15 #[.val (.int 1)] [(.int 1073741823), (.int 1)]))
  refine Fin.by (fun tt_ kk_ => XS.icmpYes X0.here hx rfl (pc0 := 15) (pc' := 55) rfl (hb hby d_jdk_52_method_3_15) rfl (tlt (by decide : (1 : Int32) < (1073741823 : Int32))).1 (by decide) (by decide) kk_) ?_
  refine Fin.by (fun tt_ kk_ => XS.iloadN X0.here hx rfl (hb hby d_jdk_52_method_3_55) rfl (XS.iconst X0.here hx rfl (hb hby d_jdk_52_method_3_56) (XS.ishl X0.here hx rfl (hb hby d_jdk_52_method_3_57) rfl kk_))) ?_
  show Fin _ _ _ _ _ _ _ (s₁.setTop (mkF m 58 #[.val (.int 1)] [(.int 2)]))
  exact Fin.ret (v := some (.int (2 : Int32))) X0 (fun h => by rw [Bd.returns] at h; cases h) Bd.notSynchronized (by rw [e0]; exact ⟨rfl, N0, rfl⟩) (by decide) (by decide) (fun fs hr => retI X0 hx Bd.returns (hb hby d_jdk_52_method_3_58) hr)
abbrev y_8 : MethodName := (⟨"java/lang/StringUTF16", "newBytesLength", "(I)I"⟩ : MethodName)
theorem d_jdk_52_method_2_0 : decode jdk_52_method_2_code 0 = .ok (.iload_n 0, 1) := by decide +kernel
theorem pd_154 : parseMethodDescriptor "(I)I" = some ⟨[.int], some .int⟩ := by decide +kernel
theorem d_jdk_52_method_2_1 : decode jdk_52_method_2_code 1 = .ok (.invokestatic 11, 3) := by decide +kernel
theorem d_jdk_52_method_2_4 : decode jdk_52_method_2_code 4 = .ok (.newarray .byte, 2) := by decide +kernel
theorem d_jdk_52_method_2_6 : decode jdk_52_method_2_code 6 = .ok (.areturn, 1) := by decide +kernel
def Q_nbf_1 (Z : State)  (h0 : Heap) (n0 : Nat) (vv_ : Option Value) (hh_ : Heap) (LL_ : List Loc) : Prop := ∃ (t : Addr), ∃ (k : ClassId), vv_ = some (.ref t) ∧ Fr n0 LL_ ∧ Keep h0 hh_ [] ∧ h0.size ≤ t ∧ Arv Z hh_ t k .byte (2 : Int32) [(.int (0 : Int32)), (.int (0 : Int32))] (.int (0 : Int32))
set_option maxRecDepth 65536 in
set_option maxHeartbeats 40000000 in
theorem rm_nbf_1 (l : Launch) (Z : State) (a0 : Array Value) (hw : ∀ d ∈ tables_1, d.before a0 Z = true) (ws : List Jvm.Cond)  (h0 : Heap) (n0 : Nat) (Z0 : n0 ≤ h0.size) :
    MetFree l (⟨"java/lang/StringUTF16", "newBytesFor", "(I)[B"⟩ : MethodName) (head1 (Jvm.Cond.code (⟨"java/lang/StringUTF16", "newBytesFor", "(I)[B"⟩ : MethodName) jdk_52_method_2_code 1 (some (.array .byte)) :: ws) ({ frames := 1, cells := 1, slots := 2, locals := 12 } : Room)) (fun aa_ U => aa_ = #[(.int (1 : Int32))] ∧ Z.Warmed39 U.vm ∧ U.heap = h0) (fun _ _ _ _ _ => True) (fun _ U o U' => ∃ vv_ LL_, o = .returned vv_ ∧ Q_nbf_1 Z  h0 n0 vv_ U'.heap LL_ ∧ FrameEnd U o U' LL_ 1 2) := by
  refine MetFree.of_bodySF (plainFor_of_name pn_java_lang_StringUTF16) hisR ?_
  intro p e s m args below meth c s₁ Bd hml0 hP hK
  obtain ⟨rfl, hZ, hh⟩ := hP
  have hx := Bd.exec
  have hby := Bd.bytes
  have hml : c.maxLocals = 1 := hml0
  have hown : s.vm.findClass "java/lang/StringUTF16" = some m.cls := findClass_of_methodNamed Bd.named
  have hnm := (name_of_methodNamed Bd.named Bd.method).1
  have X0 : Stand p l e ({ frames := 1, cells := 1, slots := 2, locals := 12 } : Room) s m #[(.int (1 : Int32))] below meth c s₁ [] 0 0 := Stand.of_body Bd
  have e0 : s₁.heap = h0 := by rw [← hh, Bd.state]; rfl
  have N0 := Fr.nil n0
  have ef : entryFrame m #[(.int (1 : Int32))] 1 = mkF m 0 #[.val (.int (1 : Int32))] [] := by first | (simp [entryFrame, mkF, argsToLocals, Value.category]; done) | rfl
  refine Fin.start (Q := Q_nbf_1 Z  h0 n0) ef ?_
  refine Fin.by (fun tt_ kk_ => XS.iloadN X0.here hx rfl (hb hby d_jdk_52_method_2_0) rfl kk_) ?_
  obtain ⟨v101, _, ⟨T101, L101, k101, n101⟩, -, X101, ⟨Lc101, hQ101, l101, y101, z101⟩, st101⟩ := Jvm.LawKit.callS X0 hx (y := y_8) hown (mvT hZ (w_ hw 82 rfl)) (mvT hZ (w_ hw 83 rfl)) (mvT hZ (w_ hw 23 rfl)) (mvT hZ (w_ hw 84 rfl)) (by decide) (backOf (W := 0) (rm_nbl_1 l Z a0 hw []  h0 n0 Z0 ) hZ (w_ hw 84 rfl) (w_ hw 23 rfl) (by decide) (by decide)) (g := (mkF m 1 #[.val (.int 1)] [(.int 1)])) rfl (by rw [hml]; rfl) (argsL := [(.int 1)]) (rest := []) (lenOf pd_154 rfl) rfl (by show 2 * 0 + _ ≤ _; exact Nat.le_of_eq rfl) (hb hby d_jdk_52_method_2_1) (fun _ _ => ⟨rfl, e0, (by decide : 0 + 0 ≤ _), (by decide : 0 + 0 ≤ _)⟩)
  dsimp only [Pt.U, Pt.locs, Pt.cells, Pt.slots] at X101 l101 y101 z101 st101 hQ101
  subst l101 y101 z101
  obtain ⟨rfl, Nq101, e101_⟩ := hQ101
  have N101_ := Fr.app N0 Nq101
  refine Fin.by (fun tt_ kk_ => st101 tt_ kk_) ?_
  have e101 := e101_
  obtain ⟨T102, h102, k102, X102, e102, E102, A102, st102⟩ := newP X101 hx hZ (w_ hw 3 rfl) e101 (g := (mkF m 4 #[.val (.int 1)] [(.int 2)])) rfl (hb hby d_jdk_52_method_2_4) rfl (by decide) (cap := 2) (by decide) (by decide) (by decide) (by decide)
  obtain ⟨a102, g102⟩ : ∃ z, z = h0.size := ⟨_, rfl⟩
  rw [← g102] at A102 st102
  refine Fin.by (fun tt_ kk_ => st102 tt_ kk_) ?_
  have V102 : Arv Z h102 a102 k102 .byte (2 : Int32) [(.int (0 : Int32)), (.int (0 : Int32))] (.int (0 : Int32)) := (Arv.new A102 (by decide)).pad (pad_rep [] (.int (0 : Int32)) 2)
  have kp103 : Keep h0 h102 [] := (Keep.refl h0 []).ext E102
  show Fin _ _ _ _ _ _ _ (T102.setTop (mkF m 6 #[.val (.int 1)] [(.ref a102)]))
  exact Fin.ret (v := some (.ref a102)) X102 (fun h => by rw [Bd.returns] at h; cases h) Bd.notSynchronized (by rw [e102]; exact ⟨a102, k102, rfl, N101_, kp103, (Nat.le_trans (Nat.le_refl _) (Nat.le_of_eq g102.symm)), V102⟩) (by decide) (by decide) (fun fs hr => retA X102 hx Bd.returns rfl rfl (hb hby d_jdk_52_method_2_6) hr)
abbrev y_9 : MethodName := (⟨"java/lang/StringUTF16", "newBytesFor", "(I)[B"⟩ : MethodName)
abbrev y_10 : MethodName := (⟨"java/lang/StringUTF16", "putChar", "([BII)V"⟩ : MethodName)
theorem d_jdk_52_method_14_0 : decode jdk_52_method_14_code 0 = .ok (.iload_n 2, 1) := by decide +kernel
theorem pd_159 : parseMethodDescriptor "(I)[B" = some ⟨[.int], some (.array .byte)⟩ := by decide +kernel
theorem d_jdk_52_method_14_1 : decode jdk_52_method_14_code 1 = .ok (.invokestatic 107, 3) := by decide +kernel
theorem d_jdk_52_method_14_4 : decode jdk_52_method_14_code 4 = .ok (.astore_n 3, 1) := by decide +kernel
theorem d_jdk_52_method_14_5 : decode jdk_52_method_14_code 5 = .ok (.iconst 0, 1) := by decide +kernel
theorem d_jdk_52_method_14_6 : decode jdk_52_method_14_code 6 = .ok (.istore 4, 2) := by decide +kernel
theorem d_jdk_52_method_14_8 : decode jdk_52_method_14_code 8 = .ok (.iload 4, 2) := by decide +kernel
theorem d_jdk_52_method_14_10 : decode jdk_52_method_14_code 10 = .ok (.iload_n 2, 1) := by decide +kernel
theorem d_jdk_52_method_14_11 : decode jdk_52_method_14_code 11 = .ok (.if_icmp .ge 21, 3) := by decide +kernel
theorem d_jdk_52_method_14_14 : decode jdk_52_method_14_code 14 = .ok (.aload_n 3, 1) := by decide +kernel
theorem d_jdk_52_method_14_15 : decode jdk_52_method_14_code 15 = .ok (.iload 4, 2) := by decide +kernel
theorem d_jdk_52_method_14_17 : decode jdk_52_method_14_code 17 = .ok (.aload_n 0, 1) := by decide +kernel
theorem d_jdk_52_method_14_18 : decode jdk_52_method_14_code 18 = .ok (.iload_n 1, 1) := by decide +kernel
theorem d_jdk_52_method_14_19 : decode jdk_52_method_14_code 19 = .ok (.caload, 1) := by decide +kernel
theorem pd_172 : parseMethodDescriptor "([BII)V" = some ⟨[(.array .byte), .int, .int], none⟩ := by decide +kernel
theorem d_jdk_52_method_14_20 : decode jdk_52_method_14_code 20 = .ok (.invokestatic 111, 3) := by decide +kernel
theorem d_jdk_52_method_14_23 : decode jdk_52_method_14_code 23 = .ok (.iinc 1 1, 3) := by decide +kernel
theorem d_jdk_52_method_14_26 : decode jdk_52_method_14_code 26 = .ok (.iinc 4 1, 3) := by decide +kernel
theorem d_jdk_52_method_14_29 : decode jdk_52_method_14_code 29 = .ok (.goto (-21), 3) := by decide +kernel
theorem d_jdk_52_method_14_32 : decode jdk_52_method_14_code 32 = .ok (.aload_n 3, 1) := by decide +kernel
theorem d_jdk_52_method_14_33 : decode jdk_52_method_14_code 33 = .ok (.areturn, 1) := by decide +kernel
def Q_tob_1 (Z : State) (b : Addr) (kb : ClassId) (c0 : Int32) (h0 : Heap) (n0 : Nat) (vv_ : Option Value) (hh_ : Heap) (LL_ : List Loc) : Prop := ∃ (t : Addr), ∃ (k : ClassId), vv_ = some (.ref t) ∧ Fr n0 LL_ ∧ Keep h0 hh_ [] ∧ h0.size ≤ t ∧ Arv Z hh_ t k .byte (2 : Int32) [(.int (((c0 >>> ((0 : Int32) &&& 31)).toInt8.toInt32).toInt8.toInt32)), (.int (((c0 >>> ((8 : Int32) &&& 31)).toInt8.toInt32).toInt8.toInt32))] (.int (0 : Int32))
set_option maxRecDepth 65536 in
set_option maxHeartbeats 40000000 in
theorem rm_tob_1 (l : Launch) (Z : State) (a0 : Array Value) (hw : ∀ d ∈ tables_1, d.before a0 Z = true) (ws : List Jvm.Cond) (b : Addr) (kb : ClassId) (c0 : Int32) (h0 : Heap) (n0 : Nat) (Z0 : n0 ≤ h0.size) (Ab : Arv Z h0 b kb .char (1 : Int32) [(.int c0)] (.int (0 : Int32))) (S6 : Sta Z Z.heap "java/lang/StringUTF16" "$assertionsDisabled" "Z" (.int (1 : Int32))) (S7 : Sta Z Z.heap "java/lang/StringUTF16" "HI_BYTE_SHIFT" "I" (.int (0 : Int32))) (S8 : Sta Z Z.heap "java/lang/StringUTF16" "LO_BYTE_SHIFT" "I" (.int (8 : Int32))) (OL : Old Z n0 h0) :
    MetFree l (⟨"java/lang/StringUTF16", "toBytes", "([CII)[B"⟩ : MethodName) (head1 (Jvm.Cond.code (⟨"java/lang/StringUTF16", "toBytes", "([CII)[B"⟩ : MethodName) jdk_52_method_14_code 5 (some (.array .byte)) :: ws) ({ frames := 2, cells := 1, slots := 2, locals := 24 } : Room)) (fun aa_ U => aa_ = #[(.ref b), (.int (0 : Int32)), (.int (1 : Int32))] ∧ Z.Warmed39 U.vm ∧ U.heap = h0) (fun _ _ _ _ _ => True) (fun _ U o U' => ∃ vv_ LL_, o = .returned vv_ ∧ Q_tob_1 Z b kb c0 h0 n0 vv_ U'.heap LL_ ∧ FrameEnd U o U' LL_ 1 2) := by
  refine MetFree.of_bodySF (plainFor_of_name pn_java_lang_StringUTF16) hisR ?_
  intro p e s m args below meth c s₁ Bd hml0 hP hK
  obtain ⟨rfl, hZ, hh⟩ := hP
  have hx := Bd.exec
  have hby := Bd.bytes
  have hml : c.maxLocals = 5 := hml0
  have hown : s.vm.findClass "java/lang/StringUTF16" = some m.cls := findClass_of_methodNamed Bd.named
  have hnm := (name_of_methodNamed Bd.named Bd.method).1
  have X0 : Stand p l e ({ frames := 2, cells := 1, slots := 2, locals := 24 } : Room) s m #[(.ref b), (.int (0 : Int32)), (.int (1 : Int32))] below meth c s₁ [] 0 0 := Stand.of_body Bd
  have e0 : s₁.heap = h0 := by rw [← hh, Bd.state]; rfl
  have N0 := Fr.nil n0
  have ef : entryFrame m #[(.ref b), (.int (0 : Int32)), (.int (1 : Int32))] 5 = mkF m 0 #[.val (.ref b), .val (.int (0 : Int32)), .val (.int (1 : Int32)), .unset, .unset] [] := by first | (simp [entryFrame, mkF, argsToLocals, Value.category]; done) | rfl
  refine Fin.start (Q := Q_tob_1 Z b kb c0 h0 n0) ef ?_
  refine Fin.by (fun tt_ kk_ => XS.iloadN X0.here hx rfl (hb hby d_jdk_52_method_14_0) rfl kk_) ?_
  obtain ⟨v101, _, ⟨T101, L101, k101, n101⟩, -, X101, ⟨Lc101, hQ101, l101, y101, z101⟩, st101⟩ := Jvm.LawKit.callS X0 hx (y := y_9) hown (mvT hZ (w_ hw 79 rfl)) (mvT hZ (w_ hw 80 rfl)) (mvT hZ (w_ hw 23 rfl)) (mvT hZ (w_ hw 81 rfl)) (by decide) (backOf (W := 0) (rm_nbf_1 l Z a0 hw []  h0 n0 Z0 ) hZ (w_ hw 81 rfl) (w_ hw 23 rfl) (by decide) (by decide)) (g := (mkF m 1 #[.val (.ref b), .val (.int 0), .val (.int 1), .unset, .unset] [(.int 1)])) rfl (by rw [hml]; rfl) (argsL := [(.int 1)]) (rest := []) (lenOf pd_159 rfl) rfl (by show 2 * 0 + _ ≤ _; exact Nat.le_of_eq rfl) (hb hby d_jdk_52_method_14_1) (fun _ _ => ⟨rfl, e0, (by decide : 0 + 1 ≤ _), (by decide : 0 + 2 ≤ _)⟩)
  dsimp only [Pt.U, Pt.locs, Pt.cells, Pt.slots] at X101 l101 y101 z101 st101 hQ101
  subst l101 y101 z101
  obtain ⟨t102, k103, rfl, Nq101, p101_0, p101_1, p101_2⟩ := hQ101
  have N101_ := Fr.app N0 Nq101
  refine Fin.by (fun tt_ kk_ => st101 tt_ kk_) ?_
  refine Fin.by (fun tt_ kk_ => XS.astoreN X101.here hx rfl (hb hby d_jdk_52_method_14_4) rfl rfl (l' := #[.val (.ref b), .val (.int 0), .val (.int 1), .val (.ref t102), .unset]) rfl (XS.iconst X101.here hx rfl (hb hby d_jdk_52_method_14_5) (XS.istore X101.here hx rfl (hb hby d_jdk_52_method_14_6) rfl (l' := #[.val (.ref b), .val (.int 0), .val (.int 1), .val (.ref t102), .val (.int 0)]) rfl (XS.iload X101.here hx rfl (hb hby d_jdk_52_method_14_8) rfl (XS.iloadN X101.here hx rfl (hb hby d_jdk_52_method_14_10) rfl kk_))))) ?_
  show Fin _ _ _ _ _ _ _ (T101.setTop (mkF m 11 #[.val (.ref b), .val (.int 0), .val (.int 1), .val (.ref t102), .val (.int 0)] [(.int 1), (.int 0)]))
  refine Fin.by (fun tt_ kk_ => XS.icmpNo X101.here hx rfl (hb hby d_jdk_52_method_14_11) rfl (tlt (by decide : (0 : Int32) < (1 : Int32))).2.1 kk_) ?_
  refine Fin.by (fun tt_ kk_ => XS.aloadN X101.here hx rfl (hb hby d_jdk_52_method_14_14) rfl rfl (XS.iload X101.here hx rfl (hb hby d_jdk_52_method_14_15) rfl (XS.aloadN X101.here hx rfl (hb hby d_jdk_52_method_14_17) rfl rfl (XS.iloadN X101.here hx rfl (hb hby d_jdk_52_method_14_18) rfl kk_)))) ?_
  have A104 : Arv Z T101.heap b kb .char (1 : Int32) [(.int c0)] (.int (0 : Int32)) := (Ab.keep p101_0 nin0)
  obtain ⟨cl105, Ar105, q105, S105, N105, H105, G105⟩ := id A104
  have hin105 : ¬ ((0 : Int32) < 0 ∨ cl105.slots.size ≤ (0 : Int32).toNatClampNeg) := inb_of S105 ⟨by decide, by decide⟩
  refine Fin.by (fun tt_ kk_ => X101.caload hx (j := (0 : Int32)) (v := (.int c0)) (Ar105.1) (State.isArrayOf_alike hZ.alike Ar105.2.1) Ar105.2.2 hin105 (Has.at H105 hin105 rfl) (g := (mkF m 19 #[.val (.ref b), .val (.int 0), .val (.int 1), .val (.ref t102), .val (.int 0)] [(.int 0), (.ref b), (.int 0), (.ref t102)])) rfl rfl (hb hby d_jdk_52_method_14_19) _ kk_) ?_
  have g106 : n0 ≤ t102 := Nat.le_trans Z0 p101_1
  have O107 : Old Z n0 T101.heap := (OL.keep p101_0 all0)
  have z108 : n0 ≤ T101.heap.size := Nat.le_trans Z0 p101_0.1
  obtain ⟨v109, _, ⟨T109, L109, k109, n109⟩, -, X109, ⟨Lc109, hQ109, l109, y109, z109⟩, st109⟩ := Jvm.LawKit.callS X101 hx (y := y_10) hown (mvT hZ (w_ hw 86 rfl)) (mvT hZ (w_ hw 87 rfl)) (mvT hZ (w_ hw 23 rfl)) (mvT hZ (w_ hw 88 rfl)) (by decide) (backOf (W := 0) (rm_pch0 l Z a0 hw [] t102 k103 (2 : Int32) ([(.int (0 : Int32)), (.int (0 : Int32))] : List Value) c0 T101.heap n0 z108 (Nat.le_of_ble_eq_true rfl) (Nat.le_of_ble_eq_true rfl) (by decide) (by decide) p101_2 g106 S6 S7 S8 O107) hZ (w_ hw 88 rfl) (w_ hw 23 rfl) (by decide) (by decide)) (g := (mkF m 20 #[.val (.ref b), .val (.int 0), .val (.int 1), .val (.ref t102), .val (.int 0)] [(.int c0), (.int 0), (.ref t102)])) rfl (by rw [hml]; rfl) (argsL := [(.ref t102), (.int 0), (.int c0)]) (rest := []) (lenOf pd_172 rfl) rfl (by show 2 * 0 + _ ≤ _; exact Nat.le_of_eq rfl) (hb hby d_jdk_52_method_14_20) (fun _ _ => ⟨rfl, rfl, (by decide : 1 + 0 ≤ _), (by decide : 2 + 0 ≤ _)⟩)
  dsimp only [Pt.U, Pt.locs, Pt.cells, Pt.slots] at X109 l109 y109 z109 st109 hQ109
  subst l109 y109 z109
  obtain ⟨rfl, Nq109, p109_0, p109_1⟩ := hQ109
  have N109_ := Fr.app N101_ Nq109
  refine Fin.by (fun tt_ kk_ => st109 tt_ kk_) ?_
  have V110 : Arv Z T109.heap t102 k103 .byte (2 : Int32) [(.int (((c0 >>> ((0 : Int32) &&& 31)).toInt8.toInt32).toInt8.toInt32)), (.int (((c0 >>> ((8 : Int32) &&& 31)).toInt8.toInt32).toInt8.toInt32))] (.int (0 : Int32)) := p109_1
  refine Fin.by (fun tt_ kk_ => XS.iinc X109.here hx rfl (hb hby d_jdk_52_method_14_23) rfl (l' := #[.val (.ref b), .val (.int 1), .val (.int 1), .val (.ref t102), .val (.int 0)]) rfl (XS.iinc X109.here hx rfl (hb hby d_jdk_52_method_14_26) rfl (l' := #[.val (.ref b), .val (.int 1), .val (.int 1), .val (.ref t102), .val (.int 1)]) rfl (XS.goto X109.here hx rfl (pc0 := 29) (pc' := 8) rfl (hb hby d_jdk_52_method_14_29) (by decide) (by decide) (XS.iload X109.here hx rfl (hb hby d_jdk_52_method_14_8) rfl (XS.iloadN X109.here hx rfl (hb hby d_jdk_52_method_14_10) rfl kk_))))) ?_
  show Fin _ _ _ _ _ _ _ (T109.setTop (mkF m 11 #[.val (.ref b), .val (.int 1), .val (.int 1), .val (.ref t102), .val (.int 1)] [(.int 1), (.int 1)]))
  refine Fin.by (fun tt_ kk_ => XS.icmpYes X109.here hx rfl (pc0 := 11) (pc' := 32) rfl (hb hby d_jdk_52_method_14_11) rfl (flt (by decide : ¬ (1 : Int32) < (1 : Int32))).2.1 (by decide) (by decide) kk_) ?_
  refine Fin.by (fun tt_ kk_ => XS.aloadN X109.here hx rfl (hb hby d_jdk_52_method_14_32) rfl rfl kk_) ?_
  have kp111 : Keep h0 T101.heap [] := (Keep.refl h0 []).trans p101_0 all0
  have kp112 : Keep h0 T109.heap [] := kp111.trans p109_0 (allS (Or.inr (Nat.le_trans (Nat.le_refl _) p101_1)) all0)
  show Fin _ _ _ _ _ _ _ (T109.setTop (mkF m 33 #[.val (.ref b), .val (.int 1), .val (.int 1), .val (.ref t102), .val (.int 1)] [(.ref t102)]))
  exact Fin.ret (v := some (.ref t102)) X109 (fun h => by rw [Bd.returns] at h; cases h) Bd.notSynchronized (⟨t102, k103, rfl, N109_, kp112, (Nat.le_trans (Nat.le_refl _) p101_1), V110⟩) (by decide) (by decide) (fun fs hr => retA X109 hx Bd.returns rfl rfl (hb hby d_jdk_52_method_14_33) hr)
abbrev y_11 : MethodName := (⟨"java/lang/StringUTF16", "compress", "([CI[BII)I"⟩ : MethodName)
abbrev y_12 : MethodName := (⟨"java/lang/StringUTF16", "toBytes", "([CII)[B"⟩ : MethodName)
theorem d_jdk_52_method_16_0 : decode jdk_52_method_16_code 0 = .ok (.iload_n 2, 1) := by decide +kernel
theorem d_jdk_52_method_16_1 : decode jdk_52_method_16_code 1 = .ok (.newarray .byte, 2) := by decide +kernel
theorem d_jdk_52_method_16_3 : decode jdk_52_method_16_code 3 = .ok (.astore_n 3, 1) := by decide +kernel
theorem d_jdk_52_method_16_4 : decode jdk_52_method_16_code 4 = .ok (.aload_n 0, 1) := by decide +kernel
theorem d_jdk_52_method_16_5 : decode jdk_52_method_16_code 5 = .ok (.iload_n 1, 1) := by decide +kernel
theorem d_jdk_52_method_16_6 : decode jdk_52_method_16_code 6 = .ok (.aload_n 3, 1) := by decide +kernel
theorem d_jdk_52_method_16_7 : decode jdk_52_method_16_code 7 = .ok (.iconst 0, 1) := by decide +kernel
theorem d_jdk_52_method_16_8 : decode jdk_52_method_16_code 8 = .ok (.iload_n 2, 1) := by decide +kernel
theorem pd_187 : parseMethodDescriptor "([CI[BII)I" = some ⟨[(.array .char), .int, (.array .byte), .int, .int], some .int⟩ := by decide +kernel
theorem d_jdk_52_method_16_9 : decode jdk_52_method_16_code 9 = .ok (.invokestatic 115, 3) := by decide +kernel
theorem d_jdk_52_method_16_12 : decode jdk_52_method_16_code 12 = .ok (.istore 4, 2) := by decide +kernel
theorem d_jdk_52_method_16_14 : decode jdk_52_method_16_code 14 = .ok (.iload 4, 2) := by decide +kernel
theorem d_jdk_52_method_16_16 : decode jdk_52_method_16_code 16 = .ok (.iload_n 2, 1) := by decide +kernel
theorem d_jdk_52_method_16_17 : decode jdk_52_method_16_code 17 = .ok (.if_icmp .eq 40, 3) := by decide +kernel
theorem d_jdk_52_method_16_57 : decode jdk_52_method_16_code 57 = .ok (.aload_n 3, 1) := by decide +kernel
theorem d_jdk_52_method_16_58 : decode jdk_52_method_16_code 58 = .ok (.areturn, 1) := by decide +kernel
theorem d_jdk_52_method_16_20 : decode jdk_52_method_16_code 20 = .ok (.aload_n 0, 1) := by decide +kernel
theorem d_jdk_52_method_16_21 : decode jdk_52_method_16_code 21 = .ok (.iload_n 1, 1) := by decide +kernel
theorem d_jdk_52_method_16_22 : decode jdk_52_method_16_code 22 = .ok (.iload_n 2, 1) := by decide +kernel
theorem pd_198 : parseMethodDescriptor "([CII)[B" = some ⟨[(.array .char), .int, .int], some (.array .byte)⟩ := by decide +kernel
theorem d_jdk_52_method_16_23 : decode jdk_52_method_16_code 23 = .ok (.invokestatic 119, 3) := by decide +kernel
theorem d_jdk_52_method_16_26 : decode jdk_52_method_16_code 26 = .ok (.astore 5, 2) := by decide +kernel
theorem d_jdk_52_method_16_28 : decode jdk_52_method_16_code 28 = .ok (.aload 5, 2) := by decide +kernel
theorem d_jdk_52_method_16_30 : decode jdk_52_method_16_code 30 = .ok (.iload 4, 2) := by decide +kernel
theorem d_jdk_52_method_16_32 : decode jdk_52_method_16_code 32 = .ok (.invokestatic 71, 3) := by decide +kernel
theorem d_jdk_52_method_16_35 : decode jdk_52_method_16_code 35 = .ok (.sipush 255, 3) := by decide +kernel
theorem d_jdk_52_method_16_38 : decode jdk_52_method_16_code 38 = .ok (.if_icmp .gt 16, 3) := by decide +kernel
theorem d_jdk_52_method_16_54 : decode jdk_52_method_16_code 54 = .ok (.aload 5, 2) := by decide +kernel
theorem d_jdk_52_method_16_56 : decode jdk_52_method_16_code 56 = .ok (.areturn, 1) := by decide +kernel
def Q_c3_1 (Z : State) (b : Addr) (kb : ClassId) (c0 : Int32) (h0 : Heap) (n0 : Nat) (vv_ : Option Value) (hh_ : Heap) (LL_ : List Loc) : Prop := ∃ (t : Addr), ∃ (k : ClassId), ∃ (cd : Int32), ∃ (N2 : Int32), ∃ (vs : List Value), vv_ = some (.ref t) ∧ Fr n0 LL_ ∧ Keep h0 hh_ [] ∧ h0.size ≤ t ∧ Arv Z hh_ t k .byte N2 vs (.int (0 : Int32)) ∧ (StrChars.Road.CodA ([c0] : List Int32) cd N2 vs)
set_option maxRecDepth 65536 in
set_option maxHeartbeats 40000000 in
theorem rm_c3_1 (l : Launch) (Z : State) (a0 : Array Value) (hw : ∀ d ∈ tables_1, d.before a0 Z = true) (ws : List Jvm.Cond) (b : Addr) (kb : ClassId) (c0 : Int32) (h0 : Heap) (n0 : Nat) (Z0 : n0 ≤ h0.size) (Ab : Arv Z h0 b kb .char (1 : Int32) [(.int c0)] (.int (0 : Int32))) (hb_0 : ¬ c0 < 0 ∧ ¬ (65535 : Int32) < c0) (S6 : Sta Z Z.heap "java/lang/StringUTF16" "$assertionsDisabled" "Z" (.int (1 : Int32))) (S7 : Sta Z Z.heap "java/lang/StringUTF16" "HI_BYTE_SHIFT" "I" (.int (0 : Int32))) (S8 : Sta Z Z.heap "java/lang/StringUTF16" "LO_BYTE_SHIFT" "I" (.int (8 : Int32))) (OL : Old Z n0 h0) :
    MetFree l (⟨"java/lang/StringUTF16", "compress", "([CII)[B"⟩ : MethodName) (head1 (Jvm.Cond.code (⟨"java/lang/StringUTF16", "compress", "([CII)[B"⟩ : MethodName) jdk_52_method_16_code 6 (some (.array .byte)) :: ws) ({ frames := 3, cells := 2, slots := 3, locals := 40 } : Room)) (fun aa_ U => aa_ = #[(.ref b), (.int (0 : Int32)), (.int (1 : Int32))] ∧ Z.Warmed39 U.vm ∧ U.heap = h0) (fun _ _ _ _ _ => True) (fun _ U o U' => ∃ vv_ LL_, o = .returned vv_ ∧ Q_c3_1 Z b kb c0 h0 n0 vv_ U'.heap LL_ ∧ FrameEnd U o U' LL_ 2 3) := by
  refine MetFree.of_bodySF (plainFor_of_name pn_java_lang_StringUTF16) hisR ?_
  intro p e s m args below meth c s₁ Bd hml0 hP hK
  obtain ⟨rfl, hZ, hh⟩ := hP
  have hx := Bd.exec
  have hby := Bd.bytes
  have hml : c.maxLocals = 6 := hml0
  have hown : s.vm.findClass "java/lang/StringUTF16" = some m.cls := findClass_of_methodNamed Bd.named
  have hnm := (name_of_methodNamed Bd.named Bd.method).1
  have X0 : Stand p l e ({ frames := 3, cells := 2, slots := 3, locals := 40 } : Room) s m #[(.ref b), (.int (0 : Int32)), (.int (1 : Int32))] below meth c s₁ [] 0 0 := Stand.of_body Bd
  have e0 : s₁.heap = h0 := by rw [← hh, Bd.state]; rfl
  have N0 := Fr.nil n0
  have ef : entryFrame m #[(.ref b), (.int (0 : Int32)), (.int (1 : Int32))] 6 = mkF m 0 #[.val (.ref b), .val (.int (0 : Int32)), .val (.int (1 : Int32)), .unset, .unset, .unset] [] := by first | (simp [entryFrame, mkF, argsToLocals, Value.category]; done) | rfl
  refine Fin.start (Q := Q_c3_1 Z b kb c0 h0 n0) ef ?_
  refine Fin.by (fun tt_ kk_ => XS.iloadN X0.here hx rfl (hb hby d_jdk_52_method_16_0) rfl kk_) ?_
  obtain ⟨T101, h101, k101, X101, e101, E101, A101, st101⟩ := newP X0 hx hZ (w_ hw 3 rfl) e0 (g := (mkF m 1 #[.val (.ref b), .val (.int 0), .val (.int 1), .unset, .unset, .unset] [(.int 1)])) rfl (hb hby d_jdk_52_method_16_1) rfl (by decide) (cap := 1) (by decide) (by decide) (by decide) (by decide)
  obtain ⟨a101, g101⟩ : ∃ z, z = h0.size := ⟨_, rfl⟩
  rw [← g101] at A101 st101
  refine Fin.by (fun tt_ kk_ => st101 tt_ kk_) ?_
  have V101 : Arv Z h101 a101 k101 .byte (1 : Int32) [(.int (0 : Int32))] (.int (0 : Int32)) := (Arv.new A101 (by decide)).pad (pad_rep [] (.int (0 : Int32)) 1)
  refine Fin.by (fun tt_ kk_ => XS.astoreN X101.here hx rfl (hb hby d_jdk_52_method_16_3) rfl rfl (l' := #[.val (.ref b), .val (.int 0), .val (.int 1), .val (.ref a101), .unset, .unset]) rfl (XS.aloadN X101.here hx rfl (hb hby d_jdk_52_method_16_4) rfl rfl (XS.iloadN X101.here hx rfl (hb hby d_jdk_52_method_16_5) rfl (XS.aloadN X101.here hx rfl (hb hby d_jdk_52_method_16_6) rfl rfl (XS.iconst X101.here hx rfl (hb hby d_jdk_52_method_16_7) (XS.iloadN X101.here hx rfl (hb hby d_jdk_52_method_16_8) rfl kk_)))))) ?_
  have A102 : Arv Z h101 b kb .char (1 : Int32) [(.int c0)] (.int (0 : Int32)) := (Ab.ext E101)
  have g103 : n0 ≤ a101 := Nat.le_trans Z0 (Nat.le_of_eq g101.symm)
  have ne104 : b ≠ a101 := Nat.ne_of_lt (Nat.lt_of_lt_of_le Ab.lt (Nat.le_of_eq g101.symm))
  have z105 : n0 ≤ h101.size := Nat.le_trans Z0 E101.1
  obtain ⟨v106, _, ⟨T106, L106, k106, n106⟩, -, X106, ⟨Lc106, hQ106, l106, y106, z106⟩, st106⟩ := Jvm.LawKit.callS X101 hx (y := y_11) hown (mvT hZ (w_ hw 25 rfl)) (mvT hZ (w_ hw 26 rfl)) (mvT hZ (w_ hw 23 rfl)) (mvT hZ (w_ hw 27 rfl)) (by decide) (backOf (W := 0) (rm_c5_1 l Z a0 hw [] b kb a101 k101 c0 h101 n0 z105 A102 V101 g103 ne104) hZ (w_ hw 27 rfl) (w_ hw 23 rfl) (by decide) (by decide)) (g := (mkF m 9 #[.val (.ref b), .val (.int 0), .val (.int 1), .val (.ref a101), .unset, .unset] [(.int 1), (.int 0), (.ref a101), (.int 0), (.ref b)])) rfl (by rw [hml]; rfl) (argsL := [(.ref b), (.int 0), (.ref a101), (.int 0), (.int 1)]) (rest := []) (lenOf pd_187 rfl) rfl (by show 2 * 0 + _ ≤ _; exact Nat.le_of_eq rfl) (hb hby d_jdk_52_method_16_9) (fun _ _ => ⟨rfl, e101, (by decide : 1 + 0 ≤ _), (by decide : 1 + 0 ≤ _)⟩)
  dsimp only [Pt.U, Pt.locs, Pt.cells, Pt.slots] at X106 l106 y106 z106 st106 hQ106
  subst l106 y106 z106
  obtain ⟨r107, vs108, rfl, Nq106, p106_0, p106_1, p106_2⟩ := hQ106
  have N106_ := Fr.app N0 Nq106
  refine Fin.by (fun tt_ kk_ => st106 tt_ kk_) ?_
  rcases p106_2 with ⟨hr, hvs, hx_0⟩ | ⟨hr, hx_0⟩
  · subst hr
    subst hvs
    refine Fin.by (fun tt_ kk_ => XS.istore X106.here hx rfl (hb hby d_jdk_52_method_16_12) rfl (l' := #[.val (.ref b), .val (.int 0), .val (.int 1), .val (.ref a101), .val (.int 1), .unset]) rfl (XS.iload X106.here hx rfl (hb hby d_jdk_52_method_16_14) rfl (XS.iloadN X106.here hx rfl (hb hby d_jdk_52_method_16_16) rfl kk_))) ?_
    show Fin _ _ _ _ _ _ _ (T106.setTop (mkF m 17 #[.val (.ref b), .val (.int 0), .val (.int 1), .val (.ref a101), .val (.int 1), .unset] [(.int 1), (.int 1)]))
    refine Fin.by (fun tt_ kk_ => XS.icmpYes X106.here hx rfl (pc0 := 17) (pc' := 57) rfl (hb hby d_jdk_52_method_16_17) rfl (teq (rfl : (1 : Int32) = (1 : Int32))).1 (by decide) (by decide) kk_) ?_
    refine Fin.by (fun tt_ kk_ => XS.aloadN X106.here hx rfl (hb hby d_jdk_52_method_16_57) rfl rfl kk_) ?_
    have kp109 : Keep h0 h101 [] := (Keep.refl h0 []).ext E101
    have kp110 : Keep h0 T106.heap [] := kp109.trans p106_0 (allS (Or.inr (Nat.le_trans (Nat.le_refl _) (Nat.le_of_eq g101.symm))) all0)
    show Fin _ _ _ _ _ _ _ (T106.setTop (mkF m 58 #[.val (.ref b), .val (.int 0), .val (.int 1), .val (.ref a101), .val (.int 1), .unset] [(.ref a101)]))
    exact Fin.ret (v := some (.ref a101)) X106 (fun h => by rw [Bd.returns] at h; cases h) Bd.notSynchronized (⟨a101, k101, (0 : Int32), (1 : Int32), [(.int ((c0.toInt8.toInt32).toInt8.toInt32))], rfl, N106_, kp110, (Nat.le_trans (Nat.le_refl _) (Nat.le_of_eq g101.symm)), p106_1, (Or.inl ⟨rfl, rfl, by simp [StrChars.lo8], (own_cons hx_0 own_nil)⟩)⟩) (by decide) (by decide) (fun fs hr => retA X106 hx Bd.returns rfl rfl (hb hby d_jdk_52_method_16_58) hr)
  · subst hr
    refine Fin.by (fun tt_ kk_ => XS.istore X106.here hx rfl (hb hby d_jdk_52_method_16_12) rfl (l' := #[.val (.ref b), .val (.int 0), .val (.int 1), .val (.ref a101), .val (.int 0), .unset]) rfl (XS.iload X106.here hx rfl (hb hby d_jdk_52_method_16_14) rfl (XS.iloadN X106.here hx rfl (hb hby d_jdk_52_method_16_16) rfl kk_))) ?_
    show Fin _ _ _ _ _ _ _ (T106.setTop (mkF m 17 #[.val (.ref b), .val (.int 0), .val (.int 1), .val (.ref a101), .val (.int 0), .unset] [(.int 1), (.int 0)]))
    refine Fin.by (fun tt_ kk_ => XS.icmpNo X106.here hx rfl (hb hby d_jdk_52_method_16_17) rfl (feq (by decide : ¬ (0 : Int32) = (1 : Int32))).1 kk_) ?_
    refine Fin.by (fun tt_ kk_ => XS.aloadN X106.here hx rfl (hb hby d_jdk_52_method_16_20) rfl rfl (XS.iloadN X106.here hx rfl (hb hby d_jdk_52_method_16_21) rfl (XS.iloadN X106.here hx rfl (hb hby d_jdk_52_method_16_22) rfl kk_))) ?_
    have A111 : Arv Z T106.heap b kb .char (1 : Int32) [(.int c0)] (.int (0 : Int32)) := (A102.keep p106_0 (ninS ne104 nin0))
    have O112 : Old Z n0 T106.heap := ((OL.ext E101).keep p106_0 (allS g103 all0))
    have z113 : n0 ≤ T106.heap.size := Nat.le_trans z105 p106_0.1
    obtain ⟨v114, _, ⟨T114, L114, k114, n114⟩, -, X114, ⟨Lc114, hQ114, l114, y114, z114⟩, st114⟩ := Jvm.LawKit.callS X106 hx (y := y_12) hown (mvT hZ (w_ hw 76 rfl)) (mvT hZ (w_ hw 77 rfl)) (mvT hZ (w_ hw 23 rfl)) (mvT hZ (w_ hw 78 rfl)) (by decide) (backOf (W := 0) (rm_tob_1 l Z a0 hw [] b kb c0 T106.heap n0 z113 A111 S6 S7 S8 O112) hZ (w_ hw 78 rfl) (w_ hw 23 rfl) (by decide) (by decide)) (g := (mkF m 23 #[.val (.ref b), .val (.int 0), .val (.int 1), .val (.ref a101), .val (.int 0), .unset] [(.int 1), (.int 0), (.ref b)])) rfl (by rw [hml]; rfl) (argsL := [(.ref b), (.int 0), (.int 1)]) (rest := []) (lenOf pd_198 rfl) rfl (by show 2 * 0 + _ ≤ _; exact Nat.le_of_eq rfl) (hb hby d_jdk_52_method_16_23) (fun _ _ => ⟨rfl, rfl, (by decide : 1 + 1 ≤ _), (by decide : 1 + 2 ≤ _)⟩)
    dsimp only [Pt.U, Pt.locs, Pt.cells, Pt.slots] at X114 l114 y114 z114 st114 hQ114
    subst l114 y114 z114
    obtain ⟨t115, k116, rfl, Nq114, p114_0, p114_1, p114_2⟩ := hQ114
    have N114_ := Fr.app N106_ Nq114
    refine Fin.by (fun tt_ kk_ => st114 tt_ kk_) ?_
    refine Fin.by (fun tt_ kk_ => XS.astore X114.here hx rfl (hb hby d_jdk_52_method_16_26) rfl rfl (l' := #[.val (.ref b), .val (.int 0), .val (.int 1), .val (.ref a101), .val (.int 0), .val (.ref t115)]) rfl (XS.aload X114.here hx rfl (hb hby d_jdk_52_method_16_28) rfl rfl (XS.iload X114.here hx rfl (hb hby d_jdk_52_method_16_30) rfl kk_))) ?_
    have O117 : Old Z n0 T114.heap := (O112.keep p114_0 all0)
    have z118 : n0 ≤ T114.heap.size := Nat.le_trans z113 p114_0.1
    obtain ⟨v119, _, ⟨T119, L119, k119, n119⟩, -, X119, ⟨Lc119, hQ119, l119, y119, z119⟩, st119⟩ := Jvm.LawKit.callS X114 hx (y := y_4) hown (mvT hZ (w_ hw 92 rfl)) (mvT hZ (w_ hw 93 rfl)) (mvT hZ (w_ hw 23 rfl)) (mvT hZ (w_ hw 94 rfl)) (by decide) (backOf (W := 0) (rm_uge l Z a0 hw [] t115 k116 (2 : Int32) ([(.int (((c0 >>> ((0 : Int32) &&& 31)).toInt8.toInt32).toInt8.toInt32)), (.int (((c0 >>> ((8 : Int32) &&& 31)).toInt8.toInt32).toInt8.toInt32))] : List Value) 0 (0 : Int32) (((c0 >>> ((0 : Int32) &&& 31)).toInt8.toInt32).toInt8.toInt32) (((c0 >>> ((8 : Int32) &&& 31)).toInt8.toInt32).toInt8.toInt32) T114.heap n0 z118 rfl (by decide) (by decide) rfl rfl p114_2 S6 S7 S8 O117) hZ (w_ hw 94 rfl) (w_ hw 23 rfl) (by decide) (by decide)) (g := (mkF m 32 #[.val (.ref b), .val (.int 0), .val (.int 1), .val (.ref a101), .val (.int 0), .val (.ref t115)] [(.int 0), (.ref t115)])) rfl (by rw [hml]; rfl) (argsL := [(.ref t115), (.int 0)]) (rest := []) (lenOf pd_71 rfl) rfl (by show 2 * 0 + _ ≤ _; exact Nat.le_of_eq rfl) (hb hby d_jdk_52_method_16_32) (fun _ _ => ⟨rfl, rfl, (by decide : 2 + 0 ≤ _), (by decide : 3 + 0 ≤ _)⟩)
    dsimp only [Pt.U, Pt.locs, Pt.cells, Pt.slots] at X119 l119 y119 z119 st119 hQ119
    subst l119 y119 z119
    obtain ⟨rfl, Nq119, e119_⟩ := hQ119
    have N119_ := Fr.app N114_ Nq119
    refine Fin.by (fun tt_ kk_ => st119 tt_ kk_) ?_
    have e119 := e119_
    refine Fin.by (fun tt_ kk_ => XS.sipush X119.here hx rfl (hb hby d_jdk_52_method_16_35) kk_) ?_
    show Fin _ _ _ _ _ _ _ (T119.setTop (mkF m 38 #[.val (.ref b), .val (.int 0), .val (.int 1), .val (.ref a101), .val (.int 0), .val (.ref t115)] [(.int 255), (.int (nar .char (StrChars.pairCh (((c0 >>> (0 &&& 31)).toInt8.toInt32).toInt8.toInt32) (((c0 >>> (8 &&& 31)).toInt8.toInt32).toInt8.toInt32))))]))
    refine Fin.by (fun tt_ kk_ => XS.icmpYes X119.here hx rfl (pc0 := 38) (pc' := 54) rfl (hb hby d_jdk_52_method_16_38) rfl (tlt (by rw [own_pw hb_0]; exact hx_0 : (255 : Int32) < (nar .char (StrChars.pairCh (((c0 >>> ((0 : Int32) &&& 31)).toInt8.toInt32).toInt8.toInt32) (((c0 >>> ((8 : Int32) &&& 31)).toInt8.toInt32).toInt8.toInt32))))).2.2.1 (by decide) (by decide) kk_) ?_
    refine Fin.by (fun tt_ kk_ => XS.aload X119.here hx rfl (hb hby d_jdk_52_method_16_54) rfl rfl kk_) ?_
    have kp120 : Keep h0 h101 [] := (Keep.refl h0 []).ext E101
    have kp121 : Keep h0 T106.heap [] := kp120.trans p106_0 (allS (Or.inr (Nat.le_trans (Nat.le_refl _) (Nat.le_of_eq g101.symm))) all0)
    have kp122 : Keep h0 T114.heap [] := kp121.trans p114_0 all0
    show Fin _ _ _ _ _ _ _ (T119.setTop (mkF m 56 #[.val (.ref b), .val (.int 0), .val (.int 1), .val (.ref a101), .val (.int 0), .val (.ref t115)] [(.ref t115)]))
    exact Fin.ret (v := some (.ref t115)) X119 (fun h => by rw [Bd.returns] at h; cases h) Bd.notSynchronized (by rw [e119]; exact ⟨t115, k116, (1 : Int32), (2 : Int32), [(.int (((c0 >>> ((0 : Int32) &&& 31)).toInt8.toInt32).toInt8.toInt32)), (.int (((c0 >>> ((8 : Int32) &&& 31)).toInt8.toInt32).toInt8.toInt32))], rfl, N119_, kp122, (Nat.le_trans (Nat.le_trans E101.1 p106_0.1) p114_1), p114_2, (Or.inr ⟨rfl, rfl, by simp only [StrChars.Road.wideBytes, own_raw_lo, own_raw_hi], ⟨c0, by simp, hx_0⟩⟩)⟩) (by decide) (by decide) (fun fs hr => retA X119 hx Bd.returns rfl rfl (hb hby d_jdk_52_method_16_56) hr)
theorem d_jdk_52_method_15_0 : decode jdk_52_method_15_code 0 = .ok (.iload_n 1, 1) := by decide +kernel
theorem d_jdk_52_method_15_1 : decode jdk_52_method_15_code 1 = .ok (.aload_n 0, 1) := by decide +kernel
theorem d_jdk_52_method_15_2 : decode jdk_52_method_15_code 2 = .ok (.arraylength, 1) := by decide +kernel
theorem d_jdk_52_method_15_3 : decode jdk_52_method_15_code 3 = .ok (.isub, 1) := by decide +kernel
theorem d_jdk_52_method_15_4 : decode jdk_52_method_15_code 4 = .ok (.bipush 31, 2) := by decide +kernel
theorem d_jdk_52_method_15_6 : decode jdk_52_method_15_code 6 = .ok (.iushr, 1) := by decide +kernel
theorem d_jdk_52_method_15_7 : decode jdk_52_method_15_code 7 = .ok (.i2b, 1) := by decide +kernel
theorem d_jdk_52_method_15_8 : decode jdk_52_method_15_code 8 = .ok (.ireturn, 1) := by decide +kernel
def Q_cod_1_0 (Z : State) (t : Addr) (kt : ClassId) (vs : List Value) (h0 : Heap) (n0 : Nat) (vv_ : Option Value) (hh_ : Heap) (LL_ : List Loc) : Prop := vv_ = some (.int (nar .byte (0 : Int32))) ∧ Fr n0 LL_ ∧ hh_ = h0
set_option maxRecDepth 65536 in
set_option maxHeartbeats 40000000 in
theorem rm_cod_1_0 (l : Launch) (Z : State) (a0 : Array Value) (hw : ∀ d ∈ tables_1, d.before a0 Z = true) (ws : List Jvm.Cond) (t : Addr) (kt : ClassId) (vs : List Value) (h0 : Heap) (n0 : Nat) (Z0 : n0 ≤ h0.size) (A0 : Arv Z h0 t kt .byte (1 : Int32) vs (.int (0 : Int32))) :
    MetFree l (⟨"java/lang/StringUTF16", "coderFromArrayLen", "([BI)B"⟩ : MethodName) (head1 (Jvm.Cond.code (⟨"java/lang/StringUTF16", "coderFromArrayLen", "([BI)B"⟩ : MethodName) jdk_52_method_15_code 2 (some .byte) :: ws) ({ frames := 0, cells := 0, slots := 0, locals := 0 } : Room)) (fun aa_ U => aa_ = #[(.ref t), (.int (1 : Int32))] ∧ Z.Warmed39 U.vm ∧ U.heap = h0) (fun _ _ _ _ _ => True) (fun _ U o U' => ∃ vv_ LL_, o = .returned vv_ ∧ Q_cod_1_0 Z t kt vs h0 n0 vv_ U'.heap LL_ ∧ FrameEnd U o U' LL_ 0 0) := by
  refine MetFree.of_bodySF (plainFor_of_name pn_java_lang_StringUTF16) hisR ?_
  intro p e s m args below meth c s₁ Bd hml0 hP hK
  obtain ⟨rfl, hZ, hh⟩ := hP
  have hx := Bd.exec
  have hby := Bd.bytes
  have hml : c.maxLocals = 2 := hml0
  have hown : s.vm.findClass "java/lang/StringUTF16" = some m.cls := findClass_of_methodNamed Bd.named
  have hnm := (name_of_methodNamed Bd.named Bd.method).1
  have X0 : Stand p l e ({ frames := 0, cells := 0, slots := 0, locals := 0 } : Room) s m #[(.ref t), (.int (1 : Int32))] below meth c s₁ [] 0 0 := Stand.of_body Bd
  have e0 : s₁.heap = h0 := by rw [← hh, Bd.state]; rfl
  have N0 := Fr.nil n0
  have ef : entryFrame m #[(.ref t), (.int (1 : Int32))] 2 = mkF m 0 #[.val (.ref t), .val (.int (1 : Int32))] [] := by first | (simp [entryFrame, mkF, argsToLocals, Value.category]; done) | rfl
  refine Fin.start (Q := Q_cod_1_0 Z t kt vs h0 n0) ef ?_
  refine Fin.by (fun tt_ kk_ => XS.iloadN X0.here hx rfl (hb hby d_jdk_52_method_15_0) rfl (XS.aloadN X0.here hx rfl (hb hby d_jdk_52_method_15_1) rfl rfl kk_)) ?_
  obtain ⟨cl101, Ar101, q101, S101, N101, H101, G101⟩ := id A0
  refine Fin.by (fun tt_ kk_ => X0.arraylength hx (by rw [e0]; exact Ar101.1) (State.isArrayOf_alike hZ.alike Ar101.2.1) (g := (mkF m 2 #[.val (.ref t), .val (.int 1)] [(.ref t), (.int 1)])) rfl rfl (hb hby d_jdk_52_method_15_2) _ kk_) ?_
  rw [len_of S101 N101]
  refine Fin.by (fun tt_ kk_ => XS.isub X0.here hx rfl (hb hby d_jdk_52_method_15_3) rfl (XS.bipush X0.here hx rfl (hb hby d_jdk_52_method_15_4) (XS.iushr X0.here hx rfl (hb hby d_jdk_52_method_15_6) rfl (XS.i2b X0.here hx rfl (hb hby d_jdk_52_method_15_7) rfl kk_)))) ?_
  show Fin _ _ _ _ _ _ _ (s₁.setTop (mkF m 8 #[.val (.ref t), .val (.int 1)] [(.int 0)]))
  exact Fin.ret (v := some (.int (nar .byte (0 : Int32)))) X0 (fun h => by rw [Bd.returns] at h; cases h) Bd.notSynchronized (by rw [e0]; exact ⟨rfl, N0, rfl⟩) (by decide) (by decide) (fun fs hr => retN X0 hx (t := .byte) Bd.returns (by simp) (hb hby d_jdk_52_method_15_8) hr)
def Q_cod_1_1 (Z : State) (t : Addr) (kt : ClassId) (vs : List Value) (h0 : Heap) (n0 : Nat) (vv_ : Option Value) (hh_ : Heap) (LL_ : List Loc) : Prop := vv_ = some (.int (nar .byte (1 : Int32))) ∧ Fr n0 LL_ ∧ hh_ = h0
set_option maxRecDepth 65536 in
set_option maxHeartbeats 40000000 in
theorem rm_cod_1_1 (l : Launch) (Z : State) (a0 : Array Value) (hw : ∀ d ∈ tables_1, d.before a0 Z = true) (ws : List Jvm.Cond) (t : Addr) (kt : ClassId) (vs : List Value) (h0 : Heap) (n0 : Nat) (Z0 : n0 ≤ h0.size) (A0 : Arv Z h0 t kt .byte (2 : Int32) vs (.int (0 : Int32))) :
    MetFree l (⟨"java/lang/StringUTF16", "coderFromArrayLen", "([BI)B"⟩ : MethodName) (head1 (Jvm.Cond.code (⟨"java/lang/StringUTF16", "coderFromArrayLen", "([BI)B"⟩ : MethodName) jdk_52_method_15_code 2 (some .byte) :: ws) ({ frames := 0, cells := 0, slots := 0, locals := 0 } : Room)) (fun aa_ U => aa_ = #[(.ref t), (.int (1 : Int32))] ∧ Z.Warmed39 U.vm ∧ U.heap = h0) (fun _ _ _ _ _ => True) (fun _ U o U' => ∃ vv_ LL_, o = .returned vv_ ∧ Q_cod_1_1 Z t kt vs h0 n0 vv_ U'.heap LL_ ∧ FrameEnd U o U' LL_ 0 0) := by
  refine MetFree.of_bodySF (plainFor_of_name pn_java_lang_StringUTF16) hisR ?_
  intro p e s m args below meth c s₁ Bd hml0 hP hK
  obtain ⟨rfl, hZ, hh⟩ := hP
  have hx := Bd.exec
  have hby := Bd.bytes
  have hml : c.maxLocals = 2 := hml0
  have hown : s.vm.findClass "java/lang/StringUTF16" = some m.cls := findClass_of_methodNamed Bd.named
  have hnm := (name_of_methodNamed Bd.named Bd.method).1
  have X0 : Stand p l e ({ frames := 0, cells := 0, slots := 0, locals := 0 } : Room) s m #[(.ref t), (.int (1 : Int32))] below meth c s₁ [] 0 0 := Stand.of_body Bd
  have e0 : s₁.heap = h0 := by rw [← hh, Bd.state]; rfl
  have N0 := Fr.nil n0
  have ef : entryFrame m #[(.ref t), (.int (1 : Int32))] 2 = mkF m 0 #[.val (.ref t), .val (.int (1 : Int32))] [] := by first | (simp [entryFrame, mkF, argsToLocals, Value.category]; done) | rfl
  refine Fin.start (Q := Q_cod_1_1 Z t kt vs h0 n0) ef ?_
  refine Fin.by (fun tt_ kk_ => XS.iloadN X0.here hx rfl (hb hby d_jdk_52_method_15_0) rfl (XS.aloadN X0.here hx rfl (hb hby d_jdk_52_method_15_1) rfl rfl kk_)) ?_
  obtain ⟨cl101, Ar101, q101, S101, N101, H101, G101⟩ := id A0
  refine Fin.by (fun tt_ kk_ => X0.arraylength hx (by rw [e0]; exact Ar101.1) (State.isArrayOf_alike hZ.alike Ar101.2.1) (g := (mkF m 2 #[.val (.ref t), .val (.int 1)] [(.ref t), (.int 1)])) rfl rfl (hb hby d_jdk_52_method_15_2) _ kk_) ?_
  rw [len_of S101 N101]
  refine Fin.by (fun tt_ kk_ => XS.isub X0.here hx rfl (hb hby d_jdk_52_method_15_3) rfl (XS.bipush X0.here hx rfl (hb hby d_jdk_52_method_15_4) (XS.iushr X0.here hx rfl (hb hby d_jdk_52_method_15_6) rfl (XS.i2b X0.here hx rfl (hb hby d_jdk_52_method_15_7) rfl kk_)))) ?_
  show Fin _ _ _ _ _ _ _ (s₁.setTop (mkF m 8 #[.val (.ref t), .val (.int 1)] [(.int 1)]))
  exact Fin.ret (v := some (.int (nar .byte (1 : Int32)))) X0 (fun h => by rw [Bd.returns] at h; cases h) Bd.notSynchronized (by rw [e0]; exact ⟨rfl, N0, rfl⟩) (by decide) (by decide) (fun fs hr => retN X0 hx (t := .byte) Bd.returns (by simp) (hb hby d_jdk_52_method_15_8) hr)
abbrev y_13 : MethodName := (⟨"java/lang/StringUTF16", "compress", "([CII)[B"⟩ : MethodName)
abbrev y_14 : MethodName := (⟨"java/lang/StringUTF16", "coderFromArrayLen", "([BI)B"⟩ : MethodName)
theorem d_jdk_42_method_149_0 : decode jdk_42_method_149_code 0 = .ok (.aload_n 0, 1) := by decide +kernel
theorem d_jdk_42_method_149_1 : decode jdk_42_method_149_code 1 = .ok (.invokespecial 1, 3) := by decide +kernel
theorem d_jdk_42_method_149_4 : decode jdk_42_method_149_code 4 = .ok (.iload_n 3, 1) := by decide +kernel
theorem d_jdk_42_method_149_5 : decode jdk_42_method_149_code 5 = .ok (.ifCond .ne 22, 3) := by decide +kernel
theorem d_jdk_42_method_149_27 : decode jdk_42_method_149_code 27 = .ok (.getstatic 38, 3) := by decide +kernel
theorem d_jdk_42_method_149_30 : decode jdk_42_method_149_code 30 = .ok (.ifCond .eq 28, 3) := by decide +kernel
theorem d_jdk_42_method_149_33 : decode jdk_42_method_149_code 33 = .ok (.aload_n 1, 1) := by decide +kernel
theorem d_jdk_42_method_149_34 : decode jdk_42_method_149_code 34 = .ok (.iload_n 2, 1) := by decide +kernel
theorem d_jdk_42_method_149_35 : decode jdk_42_method_149_code 35 = .ok (.iload_n 3, 1) := by decide +kernel
theorem d_jdk_42_method_149_36 : decode jdk_42_method_149_code 36 = .ok (.invokestatic 177, 3) := by decide +kernel
theorem d_jdk_42_method_149_39 : decode jdk_42_method_149_code 39 = .ok (.astore 5, 2) := by decide +kernel
theorem d_jdk_42_method_149_41 : decode jdk_42_method_149_code 41 = .ok (.aload_n 0, 1) := by decide +kernel
theorem d_jdk_42_method_149_42 : decode jdk_42_method_149_code 42 = .ok (.aload 5, 2) := by decide +kernel
theorem d_jdk_42_method_149_44 : decode jdk_42_method_149_code 44 = .ok (.iload_n 3, 1) := by decide +kernel
theorem pd_230 : parseMethodDescriptor "([BI)B" = some ⟨[(.array .byte), .int], some .byte⟩ := by decide +kernel
theorem d_jdk_42_method_149_45 : decode jdk_42_method_149_code 45 = .ok (.invokestatic 47, 3) := by decide +kernel
theorem d_jdk_42_method_149_48 : decode jdk_42_method_149_code 48 = .ok (.putfield 15, 3) := by decide +kernel
theorem d_jdk_42_method_149_51 : decode jdk_42_method_149_code 51 = .ok (.aload_n 0, 1) := by decide +kernel
theorem d_jdk_42_method_149_52 : decode jdk_42_method_149_code 52 = .ok (.aload 5, 2) := by decide +kernel
theorem d_jdk_42_method_149_54 : decode jdk_42_method_149_code 54 = .ok (.putfield 9, 3) := by decide +kernel
theorem d_jdk_42_method_149_57 : decode jdk_42_method_149_code 57 = .ok (.return_, 1) := by decide +kernel
def Q_n4_1 (Z : State) (a : Addr) (b : Addr) (kb : ClassId) (c0 : Int32) (G1 : Int32) (h0 : Heap) (n0 : Nat) (vv_ : Option Value) (hh_ : Heap) (LL_ : List Loc) : Prop := ∃ (t : Addr), ∃ (k : ClassId), ∃ (cd : Int32), ∃ (N2 : Int32), ∃ (vs : List Value), vv_ = none ∧ Fr n0 LL_ ∧ Keep h0 hh_ [a] ∧ h0.size ≤ t ∧ Exa Z hh_ a "java/lang/String" ∧ Fld Z hh_ a "java/lang/String" "value" "[B" (.ref t) ∧ Fld Z hh_ a "java/lang/String" "coder" "B" (.int cd) ∧ Arv Z hh_ t k .byte N2 vs (.int (0 : Int32)) ∧ (StrChars.Road.CodA ([c0] : List Int32) cd N2 vs)
set_option maxRecDepth 65536 in
set_option maxHeartbeats 40000000 in
theorem rm_n4_1 (l : Launch) (Z : State) (a0 : Array Value) (hw : ∀ d ∈ tables_1, d.before a0 Z = true) (ws : List Jvm.Cond) (a : Addr) (b : Addr) (kb : ClassId) (c0 : Int32) (G1 : Int32) (h0 : Heap) (n0 : Nat) (Z0 : n0 ≤ h0.size) (E0 : Exa Z h0 a "java/lang/String") (F0 : Fld Z h0 a "java/lang/String" "value" "[B" .null) (F1 : Fld Z h0 a "java/lang/String" "coder" "B" (.int (0 : Int32))) (ga : n0 ≤ a) (Ab : Arv Z h0 b kb .char (1 : Int32) [(.int c0)] (.int (0 : Int32))) (hb_0 : ¬ c0 < 0 ∧ ¬ (65535 : Int32) < c0) (S1 : Sta Z Z.heap "java/lang/String" "COMPACT_STRINGS" "Z" (.int G1)) (P1 : ¬ G1 = 0) (S6 : Sta Z Z.heap "java/lang/StringUTF16" "$assertionsDisabled" "Z" (.int (1 : Int32))) (S7 : Sta Z Z.heap "java/lang/StringUTF16" "HI_BYTE_SHIFT" "I" (.int (0 : Int32))) (S8 : Sta Z Z.heap "java/lang/StringUTF16" "LO_BYTE_SHIFT" "I" (.int (8 : Int32))) (OL : Old Z n0 h0) :
    MetFree l (⟨"java/lang/String", "<init>", "([CIILjava/lang/Void;)V"⟩ : MethodName) (head1 (Jvm.Cond.code (⟨"java/lang/String", "<init>", "([CIILjava/lang/Void;)V"⟩ : MethodName) jdk_42_method_149_code 6 none :: ws) ({ frames := 4, cells := 2, slots := 3, locals := 57 } : Room)) (fun aa_ U => aa_ = #[(.ref a), (.ref b), (.int (0 : Int32)), (.int (1 : Int32)), .null] ∧ Z.Warmed39 U.vm ∧ U.heap = h0) (fun _ _ _ _ _ => True) (fun _ U o U' => ∃ vv_ LL_, o = .returned vv_ ∧ Q_n4_1 Z a b kb c0 G1 h0 n0 vv_ U'.heap LL_ ∧ FrameEnd U o U' LL_ 2 3) := by
  refine MetFree.of_bodySF (plainFor_of_name pn_java_lang_String) hisR ?_
  intro p e s m args below meth c s₁ Bd hml0 hP hK
  obtain ⟨rfl, hZ, hh⟩ := hP
  have hx := Bd.exec
  have hby := Bd.bytes
  have hml : c.maxLocals = 6 := hml0
  have hown : s.vm.findClass "java/lang/String" = some m.cls := findClass_of_methodNamed Bd.named
  have hnm := (name_of_methodNamed Bd.named Bd.method).1
  have X0 : Stand p l e ({ frames := 4, cells := 2, slots := 3, locals := 57 } : Room) s m #[(.ref a), (.ref b), (.int (0 : Int32)), (.int (1 : Int32)), .null] below meth c s₁ [] 0 0 := Stand.of_body Bd
  have e0 : s₁.heap = h0 := by rw [← hh, Bd.state]; rfl
  have N0 := Fr.nil n0
  have ef : entryFrame m #[(.ref a), (.ref b), (.int (0 : Int32)), (.int (1 : Int32)), .null] 6 = mkF m 0 #[.val (.ref a), .val (.ref b), .val (.int (0 : Int32)), .val (.int (1 : Int32)), .val .null, .unset] [] := by first | (simp [entryFrame, mkF, argsToLocals, Value.category]; done) | rfl
  refine Fin.start (Q := Q_n4_1 Z a b kb c0 G1 h0 n0) ef ?_
  refine Fin.by (fun tt_ kk_ => XS.aloadN X0.here hx rfl (hb hby d_jdk_42_method_149_0) rfl rfl kk_) ?_
  obtain ⟨T101, X101, e101, st101⟩ := initO X0 hx hZ hown (w_ hw 17 rfl) (w_ hw 18 rfl) (w_ hw 19 rfl) e0 (g := (mkF m 1 #[.val (.ref a), .val (.ref b), .val (.int 0), .val (.int 1), .val .null, .unset] [(.ref a)])) rfl (by rw [hml]; rfl) rfl (hb hby d_jdk_42_method_149_1) (by decide) (W := 0) (by show 2 * 0 + _ ≤ _; exact Nat.le_of_eq rfl) (by decide)
  refine Fin.by (fun tt_ kk_ => st101 tt_ kk_) ?_
  refine Fin.by (fun tt_ kk_ => XS.iloadN X101.here hx rfl (hb hby d_jdk_42_method_149_4) rfl kk_) ?_
  show Fin _ _ _ _ _ _ _ (T101.setTop (mkF m 5 #[.val (.ref a), .val (.ref b), .val (.int 0), .val (.int 1), .val .null, .unset] [(.int 1)]))
  refine Fin.by (fun tt_ kk_ => XS.ifYes X101.here hx rfl (pc0 := 5) (pc' := 27) rfl (hb hby d_jdk_42_method_149_5) rfl ((if0 _ _).trans (feq (by decide : ¬ (1 : Int32) = (0 : Int32))).2) (by decide) (by decide) kk_) ?_
  obtain ⟨T102, X102, e102, st102⟩ := getS X101 hx hZ (host := "") hown (w_ hw 20 rfl) Via.refl e101 (S1.ext OL.2) (g := (mkF m 27 #[.val (.ref a), .val (.ref b), .val (.int 0), .val (.int 1), .val .null, .unset] [])) rfl (hb hby d_jdk_42_method_149_27)
  refine Fin.by (fun tt_ kk_ => st102 tt_ kk_) ?_
  show Fin _ _ _ _ _ _ _ (T102.setTop (mkF m 30 #[.val (.ref a), .val (.ref b), .val (.int 0), .val (.int 1), .val .null, .unset] [(.int G1)]))
  refine Fin.by (fun tt_ kk_ => XS.ifNo X102.here hx rfl (hb hby d_jdk_42_method_149_30) rfl ((if0 _ _).trans (feq (P1 : ¬ G1 = (0 : Int32))).1) kk_) ?_
  refine Fin.by (fun tt_ kk_ => XS.aloadN X102.here hx rfl (hb hby d_jdk_42_method_149_33) rfl rfl (XS.iloadN X102.here hx rfl (hb hby d_jdk_42_method_149_34) rfl (XS.iloadN X102.here hx rfl (hb hby d_jdk_42_method_149_35) rfl kk_))) ?_
  obtain ⟨v103, _, ⟨T103, L103, k103, n103⟩, -, X103, ⟨Lc103, hQ103, l103, y103, z103⟩, st103⟩ := Jvm.LawKit.callS X102 hx (y := y_13) hown (mvT hZ (w_ hw 21 rfl)) (mvT hZ (w_ hw 22 rfl)) (mvT hZ (w_ hw 23 rfl)) (mvT hZ (w_ hw 24 rfl)) (by decide) (backOf (W := 0) (rm_c3_1 l Z a0 hw [] b kb c0 h0 n0 Z0 Ab hb_0 S6 S7 S8 OL) hZ (w_ hw 24 rfl) (w_ hw 23 rfl) (by decide) (by decide)) (g := (mkF m 36 #[.val (.ref a), .val (.ref b), .val (.int 0), .val (.int 1), .val .null, .unset] [(.int 1), (.int 0), (.ref b)])) rfl (by rw [hml]; rfl) (argsL := [(.ref b), (.int 0), (.int 1)]) (rest := []) (lenOf pd_198 rfl) rfl (by show 2 * 0 + _ ≤ _; exact Nat.le_of_eq rfl) (hb hby d_jdk_42_method_149_36) (fun _ _ => ⟨rfl, e102, (by decide : 0 + 2 ≤ _), (by decide : 0 + 3 ≤ _)⟩)
  dsimp only [Pt.U, Pt.locs, Pt.cells, Pt.slots] at X103 l103 y103 z103 st103 hQ103
  subst l103 y103 z103
  obtain ⟨t104, k105, cd106, N107, vs108, rfl, Nq103, p103_0, p103_1, p103_2, p103_3⟩ := hQ103
  have N103_ := Fr.app N0 Nq103
  refine Fin.by (fun tt_ kk_ => st103 tt_ kk_) ?_
  rcases id p103_3 with ⟨hcd, hN2, hvs, -⟩ | ⟨hcd, hN2, hvs, -⟩
  · have hN2' : N107 = (1 : Int32) := hN2
    clear hN2
    subst hcd
    subst hN2'
    refine Fin.by (fun tt_ kk_ => XS.astore X103.here hx rfl (hb hby d_jdk_42_method_149_39) rfl rfl (l' := #[.val (.ref a), .val (.ref b), .val (.int 0), .val (.int 1), .val .null, .val (.ref t104)]) rfl (XS.aloadN X103.here hx rfl (hb hby d_jdk_42_method_149_41) rfl rfl (XS.aload X103.here hx rfl (hb hby d_jdk_42_method_149_42) rfl rfl (XS.iloadN X103.here hx rfl (hb hby d_jdk_42_method_149_44) rfl kk_)))) ?_
    have z109 : n0 ≤ T103.heap.size := Nat.le_trans Z0 p103_0.1
    obtain ⟨v110, _, ⟨T110, L110, k110, n110⟩, -, X110, ⟨Lc110, hQ110, l110, y110, z110⟩, st110⟩ := Jvm.LawKit.callS X103 hx (y := y_14) hown (mvT hZ (w_ hw 28 rfl)) (mvT hZ (w_ hw 29 rfl)) (mvT hZ (w_ hw 23 rfl)) (mvT hZ (w_ hw 30 rfl)) (by decide) (backOf (W := 1) (rm_cod_1_0 l Z a0 hw [] t104 k105 (vs108 : List Value) T103.heap n0 z109 p103_2) hZ (w_ hw 30 rfl) (w_ hw 23 rfl) (by decide) (by decide)) (g := (mkF m 45 #[.val (.ref a), .val (.ref b), .val (.int 0), .val (.int 1), .val .null, .val (.ref t104)] [(.int 1), (.ref t104), (.ref a)])) rfl (by rw [hml]; rfl) (argsL := [(.ref t104), (.int 1)]) (rest := [(.ref a)]) (lenOf pd_230 rfl) rfl (by show 2 * 0 + _ ≤ _; exact Nat.le_of_eq rfl) (hb hby d_jdk_42_method_149_45) (fun _ _ => ⟨rfl, rfl, (by decide : 2 + 0 ≤ _), (by decide : 3 + 0 ≤ _)⟩)
    dsimp only [Pt.U, Pt.locs, Pt.cells, Pt.slots] at X110 l110 y110 z110 st110 hQ110
    subst l110 y110 z110
    obtain ⟨rfl, Nq110, e110_⟩ := hQ110
    have N110_ := Fr.app N103_ Nq110
    refine Fin.by (fun tt_ kk_ => st110 tt_ kk_) ?_
    have e110 := e110_
    have F111 : Fld Z T103.heap a "java/lang/String" "coder" "B" (.int (0 : Int32)) := (F1.keep p103_0 nin0)
    have E112 : Exa Z T103.heap a "java/lang/String" := (E0.keep p103_0)
    obtain ⟨T113, h113, X113, e113, W113, st113⟩ := putFN X110 hx hZ hown (w_ hw 31 rfl) Via.refl e110 F111 E112 (Or.inr ⟨(w_ hw 5 rfl), rfl, hnm⟩) (w_ hw 2 rfl) (ty := .byte) (v' := .int (0 : Int32)) (by decide) rfl rfl (g := (mkF m 48 #[.val (.ref a), .val (.ref b), .val (.int 0), .val (.int 1), .val .null, .val (.ref t104)] [(.int (nar .byte 0)), (.ref a)])) rfl rfl (hb hby d_jdk_42_method_149_48)
    refine Fin.by (fun tt_ kk_ => st113 tt_ kk_) ?_
    have N113_ := Fr.snoc X113 N110_ ga
    refine Fin.by (fun tt_ kk_ => XS.aloadN X113.here hx rfl (hb hby d_jdk_42_method_149_51) rfl rfl (XS.aload X113.here hx rfl (hb hby d_jdk_42_method_149_52) rfl rfl kk_)) ?_
    have F114 : Fld Z h113 a "java/lang/String" "value" "[B" .null := ((F0.keep p103_0 nin0).other W113 (Or.inr (slot_ne (Or.inr (w_ hw 4 rfl)) (Or.inr (w_ hw 5 rfl)) (by decide) (t := (.array .byte)) (t' := .byte) (by decide) (by decide))))
    have E115 : Exa Z h113 a "java/lang/String" := (E112.wr W113)
    obtain ⟨T116, h116, X116, e116, W116, st116⟩ := putF X113 hx hZ hown (host := "") (Or.inl (w_ hw 32 rfl)) Via.refl e113 F114 E115 (Or.inr ⟨(w_ hw 4 rfl), rfl, hnm⟩) (w_ hw 2 rfl) (ty := (.array .byte)) (by decide) rfl rfl (g := (mkF m 54 #[.val (.ref a), .val (.ref b), .val (.int 0), .val (.int 1), .val .null, .val (.ref t104)] [(.ref t104), (.ref a)])) rfl rfl (hb hby d_jdk_42_method_149_54)
    refine Fin.by (fun tt_ kk_ => st116 tt_ kk_) ?_
    have N116_ := Fr.snoc X116 N113_ ga
    have kp117 : Keep h0 T103.heap [a] := (Keep.refl h0 [a]).trans p103_0 all0
    have kp118 : Keep h0 h113 [a] := kp117.wr W113 (Or.inl (List.mem_of_getElem? (i := 0) rfl))
    have kp119 : Keep h0 h116 [a] := kp118.wr W116 (Or.inl (List.mem_of_getElem? (i := 0) rfl))
    have E120 : Exa Z h116 a "java/lang/String" := (E115.wr W116)
    have F121 : Fld Z h116 a "java/lang/String" "coder" "B" (.int (0 : Int32)) := ((F111.same W113).other W116 (Or.inr (slot_ne (Or.inr (w_ hw 5 rfl)) (Or.inr (w_ hw 4 rfl)) (by decide) (t := .byte) (t' := (.array .byte)) (by decide) (by decide))))
    have ne122 : a ≠ t104 := Nat.ne_of_lt (Nat.lt_of_lt_of_le E0.lt p103_1)
    have A123 : Arv Z h116 t104 k105 .byte (1 : Int32) vs108 (.int (0 : Int32)) := ((p103_2.other W113 (Ne.symm ne122)).other W116 (Ne.symm ne122))
    show Fin _ _ _ _ _ _ _ (T116.setTop (mkF m 57 #[.val (.ref a), .val (.ref b), .val (.int 0), .val (.int 1), .val .null, .val (.ref t104)] []))
    exact Fin.ret (v := none) X116 (fun _ => rfl) Bd.notSynchronized (by rw [e116]; exact ⟨t104, k105, (0 : Int32), (1 : Int32), vs108, rfl, N116_, kp119, (Nat.le_trans (Nat.le_refl _) p103_1), E120, (F114.same W116), F121, A123, p103_3⟩) (by decide) (by decide) (fun fs hr => X116.returnOut hx Bd.returns (hb hby d_jdk_42_method_149_57) hr)
  · have hN2' : N107 = (2 : Int32) := hN2
    clear hN2
    subst hcd
    subst hN2'
    refine Fin.by (fun tt_ kk_ => XS.astore X103.here hx rfl (hb hby d_jdk_42_method_149_39) rfl rfl (l' := #[.val (.ref a), .val (.ref b), .val (.int 0), .val (.int 1), .val .null, .val (.ref t104)]) rfl (XS.aloadN X103.here hx rfl (hb hby d_jdk_42_method_149_41) rfl rfl (XS.aload X103.here hx rfl (hb hby d_jdk_42_method_149_42) rfl rfl (XS.iloadN X103.here hx rfl (hb hby d_jdk_42_method_149_44) rfl kk_)))) ?_
    have z124 : n0 ≤ T103.heap.size := Nat.le_trans Z0 p103_0.1
    obtain ⟨v125, _, ⟨T125, L125, k125, n125⟩, -, X125, ⟨Lc125, hQ125, l125, y125, z125⟩, st125⟩ := Jvm.LawKit.callS X103 hx (y := y_14) hown (mvT hZ (w_ hw 28 rfl)) (mvT hZ (w_ hw 29 rfl)) (mvT hZ (w_ hw 23 rfl)) (mvT hZ (w_ hw 30 rfl)) (by decide) (backOf (W := 1) (rm_cod_1_1 l Z a0 hw [] t104 k105 (vs108 : List Value) T103.heap n0 z124 p103_2) hZ (w_ hw 30 rfl) (w_ hw 23 rfl) (by decide) (by decide)) (g := (mkF m 45 #[.val (.ref a), .val (.ref b), .val (.int 0), .val (.int 1), .val .null, .val (.ref t104)] [(.int 1), (.ref t104), (.ref a)])) rfl (by rw [hml]; rfl) (argsL := [(.ref t104), (.int 1)]) (rest := [(.ref a)]) (lenOf pd_230 rfl) rfl (by show 2 * 0 + _ ≤ _; exact Nat.le_of_eq rfl) (hb hby d_jdk_42_method_149_45) (fun _ _ => ⟨rfl, rfl, (by decide : 2 + 0 ≤ _), (by decide : 3 + 0 ≤ _)⟩)
    dsimp only [Pt.U, Pt.locs, Pt.cells, Pt.slots] at X125 l125 y125 z125 st125 hQ125
    subst l125 y125 z125
    obtain ⟨rfl, Nq125, e125_⟩ := hQ125
    have N125_ := Fr.app N103_ Nq125
    refine Fin.by (fun tt_ kk_ => st125 tt_ kk_) ?_
    have e125 := e125_
    have F126 : Fld Z T103.heap a "java/lang/String" "coder" "B" (.int (0 : Int32)) := (F1.keep p103_0 nin0)
    have E127 : Exa Z T103.heap a "java/lang/String" := (E0.keep p103_0)
    obtain ⟨T128, h128, X128, e128, W128, st128⟩ := putFN X125 hx hZ hown (w_ hw 31 rfl) Via.refl e125 F126 E127 (Or.inr ⟨(w_ hw 5 rfl), rfl, hnm⟩) (w_ hw 2 rfl) (ty := .byte) (v' := .int (1 : Int32)) (by decide) rfl rfl (g := (mkF m 48 #[.val (.ref a), .val (.ref b), .val (.int 0), .val (.int 1), .val .null, .val (.ref t104)] [(.int (nar .byte 1)), (.ref a)])) rfl rfl (hb hby d_jdk_42_method_149_48)
    refine Fin.by (fun tt_ kk_ => st128 tt_ kk_) ?_
    have N128_ := Fr.snoc X128 N125_ ga
    refine Fin.by (fun tt_ kk_ => XS.aloadN X128.here hx rfl (hb hby d_jdk_42_method_149_51) rfl rfl (XS.aload X128.here hx rfl (hb hby d_jdk_42_method_149_52) rfl rfl kk_)) ?_
    have F129 : Fld Z h128 a "java/lang/String" "value" "[B" .null := ((F0.keep p103_0 nin0).other W128 (Or.inr (slot_ne (Or.inr (w_ hw 4 rfl)) (Or.inr (w_ hw 5 rfl)) (by decide) (t := (.array .byte)) (t' := .byte) (by decide) (by decide))))
    have E130 : Exa Z h128 a "java/lang/String" := (E127.wr W128)
    obtain ⟨T131, h131, X131, e131, W131, st131⟩ := putF X128 hx hZ hown (host := "") (Or.inl (w_ hw 32 rfl)) Via.refl e128 F129 E130 (Or.inr ⟨(w_ hw 4 rfl), rfl, hnm⟩) (w_ hw 2 rfl) (ty := (.array .byte)) (by decide) rfl rfl (g := (mkF m 54 #[.val (.ref a), .val (.ref b), .val (.int 0), .val (.int 1), .val .null, .val (.ref t104)] [(.ref t104), (.ref a)])) rfl rfl (hb hby d_jdk_42_method_149_54)
    refine Fin.by (fun tt_ kk_ => st131 tt_ kk_) ?_
    have N131_ := Fr.snoc X131 N128_ ga
    have kp132 : Keep h0 T103.heap [a] := (Keep.refl h0 [a]).trans p103_0 all0
    have kp133 : Keep h0 h128 [a] := kp132.wr W128 (Or.inl (List.mem_of_getElem? (i := 0) rfl))
    have kp134 : Keep h0 h131 [a] := kp133.wr W131 (Or.inl (List.mem_of_getElem? (i := 0) rfl))
    have E135 : Exa Z h131 a "java/lang/String" := (E130.wr W131)
    have F136 : Fld Z h131 a "java/lang/String" "coder" "B" (.int (1 : Int32)) := ((F126.same W128).other W131 (Or.inr (slot_ne (Or.inr (w_ hw 5 rfl)) (Or.inr (w_ hw 4 rfl)) (by decide) (t := .byte) (t' := (.array .byte)) (by decide) (by decide))))
    have ne137 : a ≠ t104 := Nat.ne_of_lt (Nat.lt_of_lt_of_le E0.lt p103_1)
    have A138 : Arv Z h131 t104 k105 .byte (2 : Int32) vs108 (.int (0 : Int32)) := ((p103_2.other W128 (Ne.symm ne137)).other W131 (Ne.symm ne137))
    show Fin _ _ _ _ _ _ _ (T131.setTop (mkF m 57 #[.val (.ref a), .val (.ref b), .val (.int 0), .val (.int 1), .val .null, .val (.ref t104)] []))
    exact Fin.ret (v := none) X131 (fun _ => rfl) Bd.notSynchronized (by rw [e131]; exact ⟨t104, k105, (1 : Int32), (2 : Int32), vs108, rfl, N131_, kp134, (Nat.le_trans (Nat.le_refl _) p103_1), E135, (F129.same W131), F136, A138, p103_3⟩) (by decide) (by decide) (fun fs hr => X131.returnOut hx Bd.returns (hb hby d_jdk_42_method_149_57) hr)
abbrev y_15 : MethodName := (⟨"java/lang/String", "<init>", "([CIILjava/lang/Void;)V"⟩ : MethodName)
theorem d_jdk_42_method_3_0 : decode jdk_42_method_3_code 0 = .ok (.aload_n 0, 1) := by decide +kernel
theorem d_jdk_42_method_3_1 : decode jdk_42_method_3_code 1 = .ok (.aload_n 1, 1) := by decide +kernel
theorem d_jdk_42_method_3_2 : decode jdk_42_method_3_code 2 = .ok (.iconst 0, 1) := by decide +kernel
theorem d_jdk_42_method_3_3 : decode jdk_42_method_3_code 3 = .ok (.aload_n 1, 1) := by decide +kernel
theorem d_jdk_42_method_3_4 : decode jdk_42_method_3_code 4 = .ok (.arraylength, 1) := by decide +kernel
theorem d_jdk_42_method_3_5 : decode jdk_42_method_3_code 5 = .ok (.aconst_null, 1) := by decide +kernel
theorem pd_243 : parseMethodDescriptor "([CIILjava/lang/Void;)V" = some ⟨[(.array .char), .int, .int, (.object "java/lang/Void")], none⟩ := by decide +kernel
theorem d_jdk_42_method_3_6 : decode jdk_42_method_3_code 6 = .ok (.invokespecial 27, 3) := by decide +kernel
theorem d_jdk_42_method_3_9 : decode jdk_42_method_3_code 9 = .ok (.return_, 1) := by decide +kernel
def Q_n1_1 (Z : State) (a : Addr) (b : Addr) (kb : ClassId) (c0 : Int32) (G1 : Int32) (h0 : Heap) (n0 : Nat) (vv_ : Option Value) (hh_ : Heap) (LL_ : List Loc) : Prop := ∃ (t : Addr), ∃ (k : ClassId), ∃ (cd : Int32), ∃ (N2 : Int32), ∃ (vs : List Value), vv_ = none ∧ Fr n0 LL_ ∧ Keep h0 hh_ [a] ∧ h0.size ≤ t ∧ Exa Z hh_ a "java/lang/String" ∧ Fld Z hh_ a "java/lang/String" "value" "[B" (.ref t) ∧ Fld Z hh_ a "java/lang/String" "coder" "B" (.int cd) ∧ Arv Z hh_ t k .byte N2 vs (.int (0 : Int32)) ∧ (StrChars.Road.CodA ([c0] : List Int32) cd N2 vs)
set_option maxRecDepth 65536 in
set_option maxHeartbeats 40000000 in
theorem rm_n1_1 (l : Launch) (Z : State) (a0 : Array Value) (hw : ∀ d ∈ tables_1, d.before a0 Z = true) (ws : List Jvm.Cond) (a : Addr) (b : Addr) (kb : ClassId) (c0 : Int32) (G1 : Int32) (h0 : Heap) (n0 : Nat) (Z0 : n0 ≤ h0.size) (E0 : Exa Z h0 a "java/lang/String") (F0 : Fld Z h0 a "java/lang/String" "value" "[B" .null) (F1 : Fld Z h0 a "java/lang/String" "coder" "B" (.int (0 : Int32))) (ga : n0 ≤ a) (Ab : Arv Z h0 b kb .char (1 : Int32) [(.int c0)] (.int (0 : Int32))) (hb_0 : ¬ c0 < 0 ∧ ¬ (65535 : Int32) < c0) (S1 : Sta Z Z.heap "java/lang/String" "COMPACT_STRINGS" "Z" (.int G1)) (P1 : ¬ G1 = 0) (S6 : Sta Z Z.heap "java/lang/StringUTF16" "$assertionsDisabled" "Z" (.int (1 : Int32))) (S7 : Sta Z Z.heap "java/lang/StringUTF16" "HI_BYTE_SHIFT" "I" (.int (0 : Int32))) (S8 : Sta Z Z.heap "java/lang/StringUTF16" "LO_BYTE_SHIFT" "I" (.int (8 : Int32))) (OL : Old Z n0 h0) :
    MetFree l (⟨"java/lang/String", "<init>", "([C)V"⟩ : MethodName) (head1 (Jvm.Cond.code (⟨"java/lang/String", "<init>", "([C)V"⟩ : MethodName) jdk_42_method_3_code 2 none :: ws) ({ frames := 5, cells := 2, slots := 3, locals := 74 } : Room)) (fun aa_ U => aa_ = #[(.ref a), (.ref b)] ∧ Z.Warmed39 U.vm ∧ U.heap = h0) (fun _ _ _ _ _ => True) (fun _ U o U' => ∃ vv_ LL_, o = .returned vv_ ∧ Q_n1_1 Z a b kb c0 G1 h0 n0 vv_ U'.heap LL_ ∧ FrameEnd U o U' LL_ 2 3) := by
  refine MetFree.of_bodySF (plainFor_of_name pn_java_lang_String) hisR ?_
  intro p e s m args below meth c s₁ Bd hml0 hP hK
  obtain ⟨rfl, hZ, hh⟩ := hP
  have hx := Bd.exec
  have hby := Bd.bytes
  have hml : c.maxLocals = 2 := hml0
  have hown : s.vm.findClass "java/lang/String" = some m.cls := findClass_of_methodNamed Bd.named
  have hnm := (name_of_methodNamed Bd.named Bd.method).1
  have X0 : Stand p l e ({ frames := 5, cells := 2, slots := 3, locals := 74 } : Room) s m #[(.ref a), (.ref b)] below meth c s₁ [] 0 0 := Stand.of_body Bd
  have e0 : s₁.heap = h0 := by rw [← hh, Bd.state]; rfl
  have N0 := Fr.nil n0
  have ef : entryFrame m #[(.ref a), (.ref b)] 2 = mkF m 0 #[.val (.ref a), .val (.ref b)] [] := by first | (simp [entryFrame, mkF, argsToLocals, Value.category]; done) | rfl
  refine Fin.start (Q := Q_n1_1 Z a b kb c0 G1 h0 n0) ef ?_
  refine Fin.by (fun tt_ kk_ => XS.aloadN X0.here hx rfl (hb hby d_jdk_42_method_3_0) rfl rfl (XS.aloadN X0.here hx rfl (hb hby d_jdk_42_method_3_1) rfl rfl (XS.iconst X0.here hx rfl (hb hby d_jdk_42_method_3_2) (XS.aloadN X0.here hx rfl (hb hby d_jdk_42_method_3_3) rfl rfl kk_)))) ?_
  obtain ⟨cl101, Ar101, q101, S101, N101, H101, G101⟩ := id Ab
  refine Fin.by (fun tt_ kk_ => X0.arraylength hx (by rw [e0]; exact Ar101.1) (State.isArrayOf_alike hZ.alike Ar101.2.1) (g := (mkF m 4 #[.val (.ref a), .val (.ref b)] [(.ref b), (.int 0), (.ref b), (.ref a)])) rfl rfl (hb hby d_jdk_42_method_3_4) _ kk_) ?_
  rw [len_of S101 N101]
  refine Fin.by (fun tt_ kk_ => XS.aconstNull X0.here hx rfl (hb hby d_jdk_42_method_3_5) kk_) ?_
  obtain ⟨v102, _, ⟨T102, L102, k102, n102⟩, -, X102, ⟨Lc102, hQ102, l102, y102, z102⟩, st102⟩ := X0.specialBack hx (y := y_15) rfl hown (mvT hZ (w_ hw 13 rfl)) (mvT hZ (w_ hw 14 rfl)) (mvT hZ (w_ hw 16 rfl)) (by decide) (backOf (W := 0) (rm_n4_1 l Z a0 hw [] a b kb c0 G1 h0 n0 Z0 E0 F0 F1 ga Ab hb_0 S1 P1 S6 S7 S8 OL) hZ (w_ hw 16 rfl) (w_ hw 1 rfl) (by decide) (by decide)) (g := (mkF m 6 #[.val (.ref a), .val (.ref b)] [.null, (.int 1), (.int 0), (.ref b), (.ref a)])) rfl (by rw [hml]; rfl) (Steps.refl _) (a := a) (argsL := [(.ref b), (.int 0), (.int 1), .null]) (rest := []) (lenOf pd_243 rfl) rfl (by show 2 * 0 + _ ≤ _; exact Nat.le_of_eq rfl) (hb hby d_jdk_42_method_3_6) (fun _ _ => ⟨rfl, e0, (by decide : 0 + 2 ≤ _), (by decide : 0 + 3 ≤ _)⟩)
  dsimp only [Pt.U, Pt.locs, Pt.cells, Pt.slots] at X102 l102 y102 z102 st102 hQ102
  subst l102 y102 z102
  obtain ⟨t103, k104, cd105, N106, vs107, rfl, Nq102, p102_0, p102_1, p102_2, p102_3, p102_4, p102_5, p102_6⟩ := hQ102
  have N102_ := Fr.app N0 Nq102
  refine Fin.byS st102 ?_
  have kp108 : Keep h0 T102.heap [a] := (Keep.refl h0 [a]).trans p102_0 (allS (Or.inl (List.mem_of_getElem? (i := 0) rfl)) all0)
  show Fin _ _ _ _ _ _ _ (T102.setTop (mkF m 9 #[.val (.ref a), .val (.ref b)] []))
  exact Fin.ret (v := none) X102 (fun _ => rfl) Bd.notSynchronized (⟨t103, k104, cd105, N106, vs107, rfl, N102_, kp108, (Nat.le_trans (Nat.le_refl _) p102_1), p102_2, p102_3, p102_4, p102_5, p102_6⟩) (by decide) (by decide) (fun fs hr => X102.returnOut hx Bd.returns (hb hby d_jdk_42_method_3_9) hr)
def Q_c5_2 (Z : State) (b : Addr) (kb : ClassId) (d : Addr) (kd : ClassId) (c0 : Int32) (c1 : Int32) (h0 : Heap) (n0 : Nat) (vv_ : Option Value) (hh_ : Heap) (LL_ : List Loc) : Prop := ∃ (r : Int32), ∃ (vs : List Value), vv_ = some (.int r) ∧ Fr n0 LL_ ∧ Keep h0 hh_ [d] ∧ Arv Z hh_ d kd .byte (2 : Int32) vs (.int (0 : Int32)) ∧ ((r = (2 : Int32) ∧ vs = [(.int ((c0.toInt8.toInt32).toInt8.toInt32)), (.int ((c1.toInt8.toInt32).toInt8.toInt32))] ∧ ¬ (255 : Int32) < c0 ∧ ¬ (255 : Int32) < c1) ∨ (r = (0 : Int32) ∧ (255 : Int32) < c0) ∨ (r = (1 : Int32) ∧ (255 : Int32) < c1))
set_option maxRecDepth 65536 in
set_option maxHeartbeats 40000000 in
theorem rm_c5_2 (l : Launch) (Z : State) (a0 : Array Value) (hw : ∀ d ∈ tables_1, d.before a0 Z = true) (ws : List Jvm.Cond) (b : Addr) (kb : ClassId) (d : Addr) (kd : ClassId) (c0 : Int32) (c1 : Int32) (h0 : Heap) (n0 : Nat) (Z0 : n0 ≤ h0.size) (Ab : Arv Z h0 b kb .char (2 : Int32) [(.int c0), (.int c1)] (.int (0 : Int32))) (Ad : Arv Z h0 d kd .byte (2 : Int32) [(.int (0 : Int32)), (.int (0 : Int32))] (.int (0 : Int32))) (gd : n0 ≤ d) (nbd : b ≠ d) :
    MetFree l (⟨"java/lang/StringUTF16", "compress", "([CI[BII)I"⟩ : MethodName) (head1 (Jvm.Cond.code (⟨"java/lang/StringUTF16", "compress", "([CI[BII)I"⟩ : MethodName) jdk_52_method_21_code 7 (some .int) :: ws) ({ frames := 0, cells := 0, slots := 0, locals := 0 } : Room)) (fun aa_ U => aa_ = #[(.ref b), (.int (0 : Int32)), (.ref d), (.int (0 : Int32)), (.int (2 : Int32))] ∧ Z.Warmed39 U.vm ∧ U.heap = h0) (fun _ _ _ _ _ => True) (fun _ U o U' => ∃ vv_ LL_, o = .returned vv_ ∧ Q_c5_2 Z b kb d kd c0 c1 h0 n0 vv_ U'.heap LL_ ∧ FrameEnd U o U' LL_ 0 0) := by
  refine MetFree.of_bodySF (plainFor_of_name pn_java_lang_StringUTF16) hisR ?_
  intro p e s m args below meth c s₁ Bd hml0 hP hK
  obtain ⟨rfl, hZ, hh⟩ := hP
  have hx := Bd.exec
  have hby := Bd.bytes
  have hml : c.maxLocals = 7 := hml0
  have hown : s.vm.findClass "java/lang/StringUTF16" = some m.cls := findClass_of_methodNamed Bd.named
  have hnm := (name_of_methodNamed Bd.named Bd.method).1
  have X0 : Stand p l e ({ frames := 0, cells := 0, slots := 0, locals := 0 } : Room) s m #[(.ref b), (.int (0 : Int32)), (.ref d), (.int (0 : Int32)), (.int (2 : Int32))] below meth c s₁ [] 0 0 := Stand.of_body Bd
  have e0 : s₁.heap = h0 := by rw [← hh, Bd.state]; rfl
  have N0 := Fr.nil n0
  have ef : entryFrame m #[(.ref b), (.int (0 : Int32)), (.ref d), (.int (0 : Int32)), (.int (2 : Int32))] 7 = mkF m 0 #[.val (.ref b), .val (.int (0 : Int32)), .val (.ref d), .val (.int (0 : Int32)), .val (.int (2 : Int32)), .unset, .unset] [] := by first | (simp [entryFrame, mkF, argsToLocals, Value.category]; done) | rfl
  refine Fin.start (Q := Q_c5_2 Z b kb d kd c0 c1 h0 n0) ef ?_
  refine Fin.by (fun tt_ kk_ => XS.iconst X0.here hx rfl (hb hby d_jdk_52_method_21_0) (XS.istore X0.here hx rfl (hb hby d_jdk_52_method_21_1) rfl (l' := #[.val (.ref b), .val (.int 0), .val (.ref d), .val (.int 0), .val (.int 2), .val (.int 0), .unset]) rfl (XS.iload X0.here hx rfl (hb hby d_jdk_52_method_21_3) rfl (XS.iload X0.here hx rfl (hb hby d_jdk_52_method_21_5) rfl kk_)))) ?_
  show Fin _ _ _ _ _ _ _ (s₁.setTop (mkF m 7 #[.val (.ref b), .val (.int 0), .val (.ref d), .val (.int 0), .val (.int 2), .val (.int 0), .unset] [(.int 2), (.int 0)]))
  refine Fin.by (fun tt_ kk_ => XS.icmpNo X0.here hx rfl (hb hby d_jdk_52_method_21_7) rfl (tlt (by decide : (0 : Int32) < (2 : Int32))).2.1 kk_) ?_
  refine Fin.by (fun tt_ kk_ => XS.aloadN X0.here hx rfl (hb hby d_jdk_52_method_21_10) rfl rfl (XS.iloadN X0.here hx rfl (hb hby d_jdk_52_method_21_11) rfl kk_)) ?_
  obtain ⟨cl101, Ar101, q101, S101, N101, H101, G101⟩ := id Ab
  have hin101 : ¬ ((0 : Int32) < 0 ∨ cl101.slots.size ≤ (0 : Int32).toNatClampNeg) := inb_of S101 ⟨by decide, by decide⟩
  refine Fin.by (fun tt_ kk_ => X0.caload hx (j := (0 : Int32)) (v := (.int c0)) (by rw [e0]; exact Ar101.1) (State.isArrayOf_alike hZ.alike Ar101.2.1) Ar101.2.2 hin101 (Has.at H101 hin101 rfl) (g := (mkF m 12 #[.val (.ref b), .val (.int 0), .val (.ref d), .val (.int 0), .val (.int 2), .val (.int 0), .unset] [(.int 0), (.ref b)])) rfl rfl (hb hby d_jdk_52_method_21_12) _ kk_) ?_
  refine Fin.by (fun tt_ kk_ => XS.istore X0.here hx rfl (hb hby d_jdk_52_method_21_13) rfl (l' := #[.val (.ref b), .val (.int 0), .val (.ref d), .val (.int 0), .val (.int 2), .val (.int 0), .val (.int c0)]) rfl (XS.iload X0.here hx rfl (hb hby d_jdk_52_method_21_15) rfl (XS.sipush X0.here hx rfl (hb hby d_jdk_52_method_21_17) kk_))) ?_
  show Fin _ _ _ _ _ _ _ (s₁.setTop (mkF m 20 #[.val (.ref b), .val (.int 0), .val (.ref d), .val (.int 0), .val (.int 2), .val (.int 0), .val (.int c0)] [(.int 255), (.int c0)]))
  by_cases hx_0 : (255 : Int32) < c0
  · refine Fin.by (fun tt_ kk_ => XS.icmpNo X0.here hx rfl (hb hby d_jdk_52_method_21_20) rfl (tlt hx_0).2.2.2 kk_) ?_
    refine Fin.by (fun tt_ kk_ => XS.iload X0.here hx rfl (hb hby d_jdk_52_method_21_23) rfl kk_) ?_
    show Fin _ _ _ _ _ _ _ (s₁.setTop (mkF m 25 #[.val (.ref b), .val (.int 0), .val (.ref d), .val (.int 0), .val (.int 2), .val (.int 0), .val (.int c0)] [(.int 0)]))
    exact Fin.ret (v := some (.int (0 : Int32))) X0 (fun h => by rw [Bd.returns] at h; cases h) Bd.notSynchronized (by rw [e0]; exact ⟨(0 : Int32), [(.int (0 : Int32)), (.int (0 : Int32))], rfl, N0, (Keep.refl h0 [d]), Ad, (Or.inr (Or.inl ⟨rfl, hx_0⟩))⟩) (by decide) (by decide) (fun fs hr => retI X0 hx Bd.returns (hb hby d_jdk_52_method_21_25) hr)
  · refine Fin.by (fun tt_ kk_ => XS.icmpYes X0.here hx rfl (pc0 := 20) (pc' := 26) rfl (hb hby d_jdk_52_method_21_20) rfl (flt hx_0).2.2.2 (by decide) (by decide) kk_) ?_
    refine Fin.by (fun tt_ kk_ => XS.aloadN X0.here hx rfl (hb hby d_jdk_52_method_21_26) rfl rfl (XS.iloadN X0.here hx rfl (hb hby d_jdk_52_method_21_27) rfl (XS.iload X0.here hx rfl (hb hby d_jdk_52_method_21_28) rfl (XS.i2b X0.here hx rfl (hb hby d_jdk_52_method_21_30) rfl kk_)))) ?_
    obtain ⟨cl102, Ar102, q102, S102, N102, H102, G102⟩ := id Ad
    obtain ⟨T102, h102, X102, e102, W102, st102⟩ := stB X0 hx hZ e0 Ar102 (j := (0 : Int32)) (inb_of S102 ⟨by decide, by decide⟩) (g := (mkF m 31 #[.val (.ref b), .val (.int 0), .val (.ref d), .val (.int 0), .val (.int 2), .val (.int 0), .val (.int c0)] [(.int (c0.toInt8.toInt32)), (.int 0), (.ref d)])) rfl rfl (hb hby d_jdk_52_method_21_31)
    have V102 : Arv Z h102 d kd .byte (2 : Int32) [(.int ((c0.toInt8.toInt32).toInt8.toInt32)), (.int (0 : Int32))] (.int (0 : Int32)) := Arv.set Ar102 q102 S102 N102 H102 G102 (fits_nar_byte _) W102 0 rfl (Nat.le_of_ble_eq_true rfl)
    refine Fin.by (fun tt_ kk_ => st102 tt_ kk_) ?_
    have N102_ := Fr.snoc X102 N0 gd
    refine Fin.by (fun tt_ kk_ => XS.iinc X102.here hx rfl (hb hby d_jdk_52_method_21_32) rfl (l' := #[.val (.ref b), .val (.int 1), .val (.ref d), .val (.int 0), .val (.int 2), .val (.int 0), .val (.int c0)]) rfl (XS.iinc X102.here hx rfl (hb hby d_jdk_52_method_21_35) rfl (l' := #[.val (.ref b), .val (.int 1), .val (.ref d), .val (.int 1), .val (.int 2), .val (.int 0), .val (.int c0)]) rfl (XS.iinc X102.here hx rfl (hb hby d_jdk_52_method_21_38) rfl (l' := #[.val (.ref b), .val (.int 1), .val (.ref d), .val (.int 1), .val (.int 2), .val (.int 1), .val (.int c0)]) rfl (XS.goto X102.here hx rfl (pc0 := 41) (pc' := 3) rfl (hb hby d_jdk_52_method_21_41) (by decide) (by decide) (XS.iload X102.here hx rfl (hb hby d_jdk_52_method_21_3) rfl (XS.iload X102.here hx rfl (hb hby d_jdk_52_method_21_5) rfl kk_)))))) ?_
    show Fin _ _ _ _ _ _ _ (T102.setTop (mkF m 7 #[.val (.ref b), .val (.int 1), .val (.ref d), .val (.int 1), .val (.int 2), .val (.int 1), .val (.int c0)] [(.int 2), (.int 1)]))
    refine Fin.by (fun tt_ kk_ => XS.icmpNo X102.here hx rfl (hb hby d_jdk_52_method_21_7) rfl (tlt (by decide : (1 : Int32) < (2 : Int32))).2.1 kk_) ?_
    refine Fin.by (fun tt_ kk_ => XS.aloadN X102.here hx rfl (hb hby d_jdk_52_method_21_10) rfl rfl (XS.iloadN X102.here hx rfl (hb hby d_jdk_52_method_21_11) rfl kk_)) ?_
    have A103 : Arv Z h102 b kb .char (2 : Int32) [(.int c0), (.int c1)] (.int (0 : Int32)) := (Ab.other W102 nbd)
    obtain ⟨cl104, Ar104, q104, S104, N104, H104, G104⟩ := id A103
    have hin104 : ¬ ((1 : Int32) < 0 ∨ cl104.slots.size ≤ (1 : Int32).toNatClampNeg) := inb_of S104 ⟨by decide, by decide⟩
    refine Fin.by (fun tt_ kk_ => X102.caload hx (j := (1 : Int32)) (v := (.int c1)) (by rw [e102]; exact Ar104.1) (State.isArrayOf_alike hZ.alike Ar104.2.1) Ar104.2.2 hin104 (Has.at H104 hin104 rfl) (g := (mkF m 12 #[.val (.ref b), .val (.int 1), .val (.ref d), .val (.int 1), .val (.int 2), .val (.int 1), .val (.int c0)] [(.int 1), (.ref b)])) rfl rfl (hb hby d_jdk_52_method_21_12) _ kk_) ?_
    refine Fin.by (fun tt_ kk_ => XS.istore X102.here hx rfl (hb hby d_jdk_52_method_21_13) rfl (l' := #[.val (.ref b), .val (.int 1), .val (.ref d), .val (.int 1), .val (.int 2), .val (.int 1), .val (.int c1)]) rfl (XS.iload X102.here hx rfl (hb hby d_jdk_52_method_21_15) rfl (XS.sipush X102.here hx rfl (hb hby d_jdk_52_method_21_17) kk_))) ?_
    show Fin _ _ _ _ _ _ _ (T102.setTop (mkF m 20 #[.val (.ref b), .val (.int 1), .val (.ref d), .val (.int 1), .val (.int 2), .val (.int 1), .val (.int c1)] [(.int 255), (.int c1)]))
    by_cases hx_1 : (255 : Int32) < c1
    · refine Fin.by (fun tt_ kk_ => XS.icmpNo X102.here hx rfl (hb hby d_jdk_52_method_21_20) rfl (tlt hx_1).2.2.2 kk_) ?_
      refine Fin.by (fun tt_ kk_ => XS.iload X102.here hx rfl (hb hby d_jdk_52_method_21_23) rfl kk_) ?_
      have kp105 : Keep h0 h102 [d] := (Keep.refl h0 [d]).wr W102 (Or.inl (List.mem_of_getElem? (i := 0) rfl))
      show Fin _ _ _ _ _ _ _ (T102.setTop (mkF m 25 #[.val (.ref b), .val (.int 1), .val (.ref d), .val (.int 1), .val (.int 2), .val (.int 1), .val (.int c1)] [(.int 1)]))
      exact Fin.ret (v := some (.int (1 : Int32))) X102 (fun h => by rw [Bd.returns] at h; cases h) Bd.notSynchronized (by rw [e102]; exact ⟨(1 : Int32), [(.int ((c0.toInt8.toInt32).toInt8.toInt32)), (.int (0 : Int32))], rfl, N102_, kp105, V102, (Or.inr (Or.inr ⟨rfl, hx_1⟩))⟩) (by decide) (by decide) (fun fs hr => retI X102 hx Bd.returns (hb hby d_jdk_52_method_21_25) hr)
    · refine Fin.by (fun tt_ kk_ => XS.icmpYes X102.here hx rfl (pc0 := 20) (pc' := 26) rfl (hb hby d_jdk_52_method_21_20) rfl (flt hx_1).2.2.2 (by decide) (by decide) kk_) ?_
      refine Fin.by (fun tt_ kk_ => XS.aloadN X102.here hx rfl (hb hby d_jdk_52_method_21_26) rfl rfl (XS.iloadN X102.here hx rfl (hb hby d_jdk_52_method_21_27) rfl (XS.iload X102.here hx rfl (hb hby d_jdk_52_method_21_28) rfl (XS.i2b X102.here hx rfl (hb hby d_jdk_52_method_21_30) rfl kk_)))) ?_
      obtain ⟨cl106, Ar106, q106, S106, N106, H106, G106⟩ := id V102
      obtain ⟨T106, h106, X106, e106, W106, st106⟩ := stB X102 hx hZ e102 Ar106 (j := (1 : Int32)) (inb_of S106 ⟨by decide, by decide⟩) (g := (mkF m 31 #[.val (.ref b), .val (.int 1), .val (.ref d), .val (.int 1), .val (.int 2), .val (.int 1), .val (.int c1)] [(.int (c1.toInt8.toInt32)), (.int 1), (.ref d)])) rfl rfl (hb hby d_jdk_52_method_21_31)
      have V106 : Arv Z h106 d kd .byte (2 : Int32) [(.int ((c0.toInt8.toInt32).toInt8.toInt32)), (.int ((c1.toInt8.toInt32).toInt8.toInt32))] (.int (0 : Int32)) := Arv.set Ar106 q106 S106 N106 H106 G106 (fits_nar_byte _) W106 1 rfl (Nat.le_of_ble_eq_true rfl)
      refine Fin.by (fun tt_ kk_ => st106 tt_ kk_) ?_
      have N106_ := Fr.snoc X106 N102_ gd
      refine Fin.by (fun tt_ kk_ => XS.iinc X106.here hx rfl (hb hby d_jdk_52_method_21_32) rfl (l' := #[.val (.ref b), .val (.int 2), .val (.ref d), .val (.int 1), .val (.int 2), .val (.int 1), .val (.int c1)]) rfl (XS.iinc X106.here hx rfl (hb hby d_jdk_52_method_21_35) rfl (l' := #[.val (.ref b), .val (.int 2), .val (.ref d), .val (.int 2), .val (.int 2), .val (.int 1), .val (.int c1)]) rfl (XS.iinc X106.here hx rfl (hb hby d_jdk_52_method_21_38) rfl (l' := #[.val (.ref b), .val (.int 2), .val (.ref d), .val (.int 2), .val (.int 2), .val (.int 2), .val (.int c1)]) rfl (XS.goto X106.here hx rfl (pc0 := 41) (pc' := 3) rfl (hb hby d_jdk_52_method_21_41) (by decide) (by decide) (XS.iload X106.here hx rfl (hb hby d_jdk_52_method_21_3) rfl (XS.iload X106.here hx rfl (hb hby d_jdk_52_method_21_5) rfl kk_)))))) ?_
      show Fin _ _ _ _ _ _ _ (T106.setTop (mkF m 7 #[.val (.ref b), .val (.int 2), .val (.ref d), .val (.int 2), .val (.int 2), .val (.int 2), .val (.int c1)] [(.int 2), (.int 2)]))
      refine Fin.by (fun tt_ kk_ => XS.icmpYes X106.here hx rfl (pc0 := 7) (pc' := 44) rfl (hb hby d_jdk_52_method_21_7) rfl (flt (by decide : ¬ (2 : Int32) < (2 : Int32))).2.1 (by decide) (by decide) kk_) ?_
      refine Fin.by (fun tt_ kk_ => XS.iload X106.here hx rfl (hb hby d_jdk_52_method_21_44) rfl kk_) ?_
      have kp107 : Keep h0 h102 [d] := (Keep.refl h0 [d]).wr W102 (Or.inl (List.mem_of_getElem? (i := 0) rfl))
      have kp108 : Keep h0 h106 [d] := kp107.wr W106 (Or.inl (List.mem_of_getElem? (i := 0) rfl))
      show Fin _ _ _ _ _ _ _ (T106.setTop (mkF m 46 #[.val (.ref b), .val (.int 2), .val (.ref d), .val (.int 2), .val (.int 2), .val (.int 2), .val (.int c1)] [(.int 2)]))
      exact Fin.ret (v := some (.int (2 : Int32))) X106 (fun h => by rw [Bd.returns] at h; cases h) Bd.notSynchronized (by rw [e106]; exact ⟨(2 : Int32), [(.int ((c0.toInt8.toInt32).toInt8.toInt32)), (.int ((c1.toInt8.toInt32).toInt8.toInt32))], rfl, N106_, kp108, V106, (Or.inl ⟨rfl, rfl, hx_0, hx_1⟩)⟩) (by decide) (by decide) (fun fs hr => retI X106 hx Bd.returns (hb hby d_jdk_52_method_21_46) hr)
def Q_nbl_2 (Z : State)  (h0 : Heap) (n0 : Nat) (vv_ : Option Value) (hh_ : Heap) (LL_ : List Loc) : Prop := vv_ = some (.int (4 : Int32)) ∧ Fr n0 LL_ ∧ hh_ = h0
set_option maxRecDepth 65536 in
set_option maxHeartbeats 40000000 in
theorem rm_nbl_2 (l : Launch) (Z : State) (a0 : Array Value) (hw : ∀ d ∈ tables_1, d.before a0 Z = true) (ws : List Jvm.Cond)  (h0 : Heap) (n0 : Nat) (Z0 : n0 ≤ h0.size) :
    MetFree l (⟨"java/lang/StringUTF16", "newBytesLength", "(I)I"⟩ : MethodName) (head1 (Jvm.Cond.code (⟨"java/lang/StringUTF16", "newBytesLength", "(I)I"⟩ : MethodName) jdk_52_method_3_code 1 (some .int) :: ws) ({ frames := 0, cells := 0, slots := 0, locals := 0 } : Room)) (fun aa_ U => aa_ = #[(.int (2 : Int32))] ∧ Z.Warmed39 U.vm ∧ U.heap = h0) (fun _ _ _ _ _ => True) (fun _ U o U' => ∃ vv_ LL_, o = .returned vv_ ∧ Q_nbl_2 Z  h0 n0 vv_ U'.heap LL_ ∧ FrameEnd U o U' LL_ 0 0) := by
  refine MetFree.of_bodySF (plainFor_of_name pn_java_lang_StringUTF16) hisR ?_
  intro p e s m args below meth c s₁ Bd hml0 hP hK
  obtain ⟨rfl, hZ, hh⟩ := hP
  have hx := Bd.exec
  have hby := Bd.bytes
  have hml : c.maxLocals = 1 := hml0
  have hown : s.vm.findClass "java/lang/StringUTF16" = some m.cls := findClass_of_methodNamed Bd.named
  have hnm := (name_of_methodNamed Bd.named Bd.method).1
  have X0 : Stand p l e ({ frames := 0, cells := 0, slots := 0, locals := 0 } : Room) s m #[(.int (2 : Int32))] below meth c s₁ [] 0 0 := Stand.of_body Bd
  have e0 : s₁.heap = h0 := by rw [← hh, Bd.state]; rfl
  have N0 := Fr.nil n0
  have ef : entryFrame m #[(.int (2 : Int32))] 1 = mkF m 0 #[.val (.int (2 : Int32))] [] := by first | (simp [entryFrame, mkF, argsToLocals, Value.category]; done) | rfl
  refine Fin.start (Q := Q_nbl_2 Z  h0 n0) ef ?_
  refine Fin.by (fun tt_ kk_ => XS.iloadN X0.here hx rfl (hb hby d_jdk_52_method_3_0) rfl kk_) ?_
  show Fin _ _ _ _ _ _ _ (s₁.setTop (mkF m 1 #[.val (.int 2)] [(.int 2)]))
  refine Fin.by (fun tt_ kk_ => XS.ifYes X0.here hx rfl (pc0 := 1) (pc' := 12) rfl (hb hby d_jdk_52_method_3_1) rfl ((if0 _ _).trans (flt (by decide : ¬ (2 : Int32) < (0 : Int32))).2.1) (by decide) (by decide) kk_) ?_
  refine Fin.by (fun tt_ kk_ => XS.iloadN X0.here hx rfl (hb hby d_jdk_52_method_3_12) rfl kk_) ?_
  refine Fin.by (fun tt_ kk_ => X0.ldcInt hx hown (mvT hZ (w_ hw 85 rfl)) (g := (mkF m 13 #[.val (.int 2)] [(.int 2)])) rfl (hb hby d_jdk_52_method_3_13) _ kk_) ?_
  show Fin _ _ _ _ _ _ _ (s₁.setTop (mkF m 15 #[.val (.int 2)] [(.int 1073741823), (.int 2)]))
  refine Fin.by (fun tt_ kk_ => XS.icmpYes X0.here hx rfl (pc0 := 15) (pc' := 55) rfl (hb hby d_jdk_52_method_3_15) rfl (tlt (by decide : (2 : Int32) < (1073741823 : Int32))).1 (by decide) (by decide) kk_) ?_
  refine Fin.by (fun tt_ kk_ => XS.iloadN X0.here hx rfl (hb hby d_jdk_52_method_3_55) rfl (XS.iconst X0.here hx rfl (hb hby d_jdk_52_method_3_56) (XS.ishl X0.here hx rfl (hb hby d_jdk_52_method_3_57) rfl kk_))) ?_
  show Fin _ _ _ _ _ _ _ (s₁.setTop (mkF m 58 #[.val (.int 2)] [(.int 4)]))
  exact Fin.ret (v := some (.int (4 : Int32))) X0 (fun h => by rw [Bd.returns] at h; cases h) Bd.notSynchronized (by rw [e0]; exact ⟨rfl, N0, rfl⟩) (by decide) (by decide) (fun fs hr => retI X0 hx Bd.returns (hb hby d_jdk_52_method_3_58) hr)
def Q_nbf_2 (Z : State)  (h0 : Heap) (n0 : Nat) (vv_ : Option Value) (hh_ : Heap) (LL_ : List Loc) : Prop := ∃ (t : Addr), ∃ (k : ClassId), vv_ = some (.ref t) ∧ Fr n0 LL_ ∧ Keep h0 hh_ [] ∧ h0.size ≤ t ∧ Arv Z hh_ t k .byte (4 : Int32) [(.int (0 : Int32)), (.int (0 : Int32)), (.int (0 : Int32)), (.int (0 : Int32))] (.int (0 : Int32))
set_option maxRecDepth 65536 in
set_option maxHeartbeats 40000000 in
theorem rm_nbf_2 (l : Launch) (Z : State) (a0 : Array Value) (hw : ∀ d ∈ tables_1, d.before a0 Z = true) (ws : List Jvm.Cond)  (h0 : Heap) (n0 : Nat) (Z0 : n0 ≤ h0.size) :
    MetFree l (⟨"java/lang/StringUTF16", "newBytesFor", "(I)[B"⟩ : MethodName) (head1 (Jvm.Cond.code (⟨"java/lang/StringUTF16", "newBytesFor", "(I)[B"⟩ : MethodName) jdk_52_method_2_code 1 (some (.array .byte)) :: ws) ({ frames := 1, cells := 1, slots := 4, locals := 12 } : Room)) (fun aa_ U => aa_ = #[(.int (2 : Int32))] ∧ Z.Warmed39 U.vm ∧ U.heap = h0) (fun _ _ _ _ _ => True) (fun _ U o U' => ∃ vv_ LL_, o = .returned vv_ ∧ Q_nbf_2 Z  h0 n0 vv_ U'.heap LL_ ∧ FrameEnd U o U' LL_ 1 4) := by
  refine MetFree.of_bodySF (plainFor_of_name pn_java_lang_StringUTF16) hisR ?_
  intro p e s m args below meth c s₁ Bd hml0 hP hK
  obtain ⟨rfl, hZ, hh⟩ := hP
  have hx := Bd.exec
  have hby := Bd.bytes
  have hml : c.maxLocals = 1 := hml0
  have hown : s.vm.findClass "java/lang/StringUTF16" = some m.cls := findClass_of_methodNamed Bd.named
  have hnm := (name_of_methodNamed Bd.named Bd.method).1
  have X0 : Stand p l e ({ frames := 1, cells := 1, slots := 4, locals := 12 } : Room) s m #[(.int (2 : Int32))] below meth c s₁ [] 0 0 := Stand.of_body Bd
  have e0 : s₁.heap = h0 := by rw [← hh, Bd.state]; rfl
  have N0 := Fr.nil n0
  have ef : entryFrame m #[(.int (2 : Int32))] 1 = mkF m 0 #[.val (.int (2 : Int32))] [] := by first | (simp [entryFrame, mkF, argsToLocals, Value.category]; done) | rfl
  refine Fin.start (Q := Q_nbf_2 Z  h0 n0) ef ?_
  refine Fin.by (fun tt_ kk_ => XS.iloadN X0.here hx rfl (hb hby d_jdk_52_method_2_0) rfl kk_) ?_
  obtain ⟨v101, _, ⟨T101, L101, k101, n101⟩, -, X101, ⟨Lc101, hQ101, l101, y101, z101⟩, st101⟩ := Jvm.LawKit.callS X0 hx (y := y_8) hown (mvT hZ (w_ hw 82 rfl)) (mvT hZ (w_ hw 83 rfl)) (mvT hZ (w_ hw 23 rfl)) (mvT hZ (w_ hw 84 rfl)) (by decide) (backOf (W := 0) (rm_nbl_2 l Z a0 hw []  h0 n0 Z0 ) hZ (w_ hw 84 rfl) (w_ hw 23 rfl) (by decide) (by decide)) (g := (mkF m 1 #[.val (.int 2)] [(.int 2)])) rfl (by rw [hml]; rfl) (argsL := [(.int 2)]) (rest := []) (lenOf pd_154 rfl) rfl (by show 2 * 0 + _ ≤ _; exact Nat.le_of_eq rfl) (hb hby d_jdk_52_method_2_1) (fun _ _ => ⟨rfl, e0, (by decide : 0 + 0 ≤ _), (by decide : 0 + 0 ≤ _)⟩)
  dsimp only [Pt.U, Pt.locs, Pt.cells, Pt.slots] at X101 l101 y101 z101 st101 hQ101
  subst l101 y101 z101
  obtain ⟨rfl, Nq101, e101_⟩ := hQ101
  have N101_ := Fr.app N0 Nq101
  refine Fin.by (fun tt_ kk_ => st101 tt_ kk_) ?_
  have e101 := e101_
  obtain ⟨T102, h102, k102, X102, e102, E102, A102, st102⟩ := newP X101 hx hZ (w_ hw 3 rfl) e101 (g := (mkF m 4 #[.val (.int 2)] [(.int 4)])) rfl (hb hby d_jdk_52_method_2_4) rfl (by decide) (cap := 4) (by decide) (by decide) (by decide) (by decide)
  obtain ⟨a102, g102⟩ : ∃ z, z = h0.size := ⟨_, rfl⟩
  rw [← g102] at A102 st102
  refine Fin.by (fun tt_ kk_ => st102 tt_ kk_) ?_
  have V102 : Arv Z h102 a102 k102 .byte (4 : Int32) [(.int (0 : Int32)), (.int (0 : Int32)), (.int (0 : Int32)), (.int (0 : Int32))] (.int (0 : Int32)) := (Arv.new A102 (by decide)).pad (pad_rep [] (.int (0 : Int32)) 4)
  have kp103 : Keep h0 h102 [] := (Keep.refl h0 []).ext E102
  show Fin _ _ _ _ _ _ _ (T102.setTop (mkF m 6 #[.val (.int 2)] [(.ref a102)]))
  exact Fin.ret (v := some (.ref a102)) X102 (fun h => by rw [Bd.returns] at h; cases h) Bd.notSynchronized (by rw [e102]; exact ⟨a102, k102, rfl, N101_, kp103, (Nat.le_trans (Nat.le_refl _) (Nat.le_of_eq g102.symm)), V102⟩) (by decide) (by decide) (fun fs hr => retA X102 hx Bd.returns rfl rfl (hb hby d_jdk_52_method_2_6) hr)
def Q_tob_2 (Z : State) (b : Addr) (kb : ClassId) (c0 : Int32) (c1 : Int32) (h0 : Heap) (n0 : Nat) (vv_ : Option Value) (hh_ : Heap) (LL_ : List Loc) : Prop := ∃ (t : Addr), ∃ (k : ClassId), vv_ = some (.ref t) ∧ Fr n0 LL_ ∧ Keep h0 hh_ [] ∧ h0.size ≤ t ∧ Arv Z hh_ t k .byte (4 : Int32) [(.int (((c0 >>> ((0 : Int32) &&& 31)).toInt8.toInt32).toInt8.toInt32)), (.int (((c0 >>> ((8 : Int32) &&& 31)).toInt8.toInt32).toInt8.toInt32)), (.int (((c1 >>> ((0 : Int32) &&& 31)).toInt8.toInt32).toInt8.toInt32)), (.int (((c1 >>> ((8 : Int32) &&& 31)).toInt8.toInt32).toInt8.toInt32))] (.int (0 : Int32))
set_option maxRecDepth 65536 in
set_option maxHeartbeats 40000000 in
theorem rm_tob_2 (l : Launch) (Z : State) (a0 : Array Value) (hw : ∀ d ∈ tables_1, d.before a0 Z = true) (ws : List Jvm.Cond) (b : Addr) (kb : ClassId) (c0 : Int32) (c1 : Int32) (h0 : Heap) (n0 : Nat) (Z0 : n0 ≤ h0.size) (Ab : Arv Z h0 b kb .char (2 : Int32) [(.int c0), (.int c1)] (.int (0 : Int32))) (S6 : Sta Z Z.heap "java/lang/StringUTF16" "$assertionsDisabled" "Z" (.int (1 : Int32))) (S7 : Sta Z Z.heap "java/lang/StringUTF16" "HI_BYTE_SHIFT" "I" (.int (0 : Int32))) (S8 : Sta Z Z.heap "java/lang/StringUTF16" "LO_BYTE_SHIFT" "I" (.int (8 : Int32))) (OL : Old Z n0 h0) :
    MetFree l (⟨"java/lang/StringUTF16", "toBytes", "([CII)[B"⟩ : MethodName) (head1 (Jvm.Cond.code (⟨"java/lang/StringUTF16", "toBytes", "([CII)[B"⟩ : MethodName) jdk_52_method_14_code 5 (some (.array .byte)) :: ws) ({ frames := 2, cells := 1, slots := 4, locals := 24 } : Room)) (fun aa_ U => aa_ = #[(.ref b), (.int (0 : Int32)), (.int (2 : Int32))] ∧ Z.Warmed39 U.vm ∧ U.heap = h0) (fun _ _ _ _ _ => True) (fun _ U o U' => ∃ vv_ LL_, o = .returned vv_ ∧ Q_tob_2 Z b kb c0 c1 h0 n0 vv_ U'.heap LL_ ∧ FrameEnd U o U' LL_ 1 4) := by
  refine MetFree.of_bodySF (plainFor_of_name pn_java_lang_StringUTF16) hisR ?_
  intro p e s m args below meth c s₁ Bd hml0 hP hK
  obtain ⟨rfl, hZ, hh⟩ := hP
  have hx := Bd.exec
  have hby := Bd.bytes
  have hml : c.maxLocals = 5 := hml0
  have hown : s.vm.findClass "java/lang/StringUTF16" = some m.cls := findClass_of_methodNamed Bd.named
  have hnm := (name_of_methodNamed Bd.named Bd.method).1
  have X0 : Stand p l e ({ frames := 2, cells := 1, slots := 4, locals := 24 } : Room) s m #[(.ref b), (.int (0 : Int32)), (.int (2 : Int32))] below meth c s₁ [] 0 0 := Stand.of_body Bd
  have e0 : s₁.heap = h0 := by rw [← hh, Bd.state]; rfl
  have N0 := Fr.nil n0
  have ef : entryFrame m #[(.ref b), (.int (0 : Int32)), (.int (2 : Int32))] 5 = mkF m 0 #[.val (.ref b), .val (.int (0 : Int32)), .val (.int (2 : Int32)), .unset, .unset] [] := by first | (simp [entryFrame, mkF, argsToLocals, Value.category]; done) | rfl
  refine Fin.start (Q := Q_tob_2 Z b kb c0 c1 h0 n0) ef ?_
  refine Fin.by (fun tt_ kk_ => XS.iloadN X0.here hx rfl (hb hby d_jdk_52_method_14_0) rfl kk_) ?_
  obtain ⟨v101, _, ⟨T101, L101, k101, n101⟩, -, X101, ⟨Lc101, hQ101, l101, y101, z101⟩, st101⟩ := Jvm.LawKit.callS X0 hx (y := y_9) hown (mvT hZ (w_ hw 79 rfl)) (mvT hZ (w_ hw 80 rfl)) (mvT hZ (w_ hw 23 rfl)) (mvT hZ (w_ hw 81 rfl)) (by decide) (backOf (W := 0) (rm_nbf_2 l Z a0 hw []  h0 n0 Z0 ) hZ (w_ hw 81 rfl) (w_ hw 23 rfl) (by decide) (by decide)) (g := (mkF m 1 #[.val (.ref b), .val (.int 0), .val (.int 2), .unset, .unset] [(.int 2)])) rfl (by rw [hml]; rfl) (argsL := [(.int 2)]) (rest := []) (lenOf pd_159 rfl) rfl (by show 2 * 0 + _ ≤ _; exact Nat.le_of_eq rfl) (hb hby d_jdk_52_method_14_1) (fun _ _ => ⟨rfl, e0, (by decide : 0 + 1 ≤ _), (by decide : 0 + 4 ≤ _)⟩)
  dsimp only [Pt.U, Pt.locs, Pt.cells, Pt.slots] at X101 l101 y101 z101 st101 hQ101
  subst l101 y101 z101
  obtain ⟨t102, k103, rfl, Nq101, p101_0, p101_1, p101_2⟩ := hQ101
  have N101_ := Fr.app N0 Nq101
  refine Fin.by (fun tt_ kk_ => st101 tt_ kk_) ?_
  refine Fin.by (fun tt_ kk_ => XS.astoreN X101.here hx rfl (hb hby d_jdk_52_method_14_4) rfl rfl (l' := #[.val (.ref b), .val (.int 0), .val (.int 2), .val (.ref t102), .unset]) rfl (XS.iconst X101.here hx rfl (hb hby d_jdk_52_method_14_5) (XS.istore X101.here hx rfl (hb hby d_jdk_52_method_14_6) rfl (l' := #[.val (.ref b), .val (.int 0), .val (.int 2), .val (.ref t102), .val (.int 0)]) rfl (XS.iload X101.here hx rfl (hb hby d_jdk_52_method_14_8) rfl (XS.iloadN X101.here hx rfl (hb hby d_jdk_52_method_14_10) rfl kk_))))) ?_
  show Fin _ _ _ _ _ _ _ (T101.setTop (mkF m 11 #[.val (.ref b), .val (.int 0), .val (.int 2), .val (.ref t102), .val (.int 0)] [(.int 2), (.int 0)]))
  refine Fin.by (fun tt_ kk_ => XS.icmpNo X101.here hx rfl (hb hby d_jdk_52_method_14_11) rfl (tlt (by decide : (0 : Int32) < (2 : Int32))).2.1 kk_) ?_
  refine Fin.by (fun tt_ kk_ => XS.aloadN X101.here hx rfl (hb hby d_jdk_52_method_14_14) rfl rfl (XS.iload X101.here hx rfl (hb hby d_jdk_52_method_14_15) rfl (XS.aloadN X101.here hx rfl (hb hby d_jdk_52_method_14_17) rfl rfl (XS.iloadN X101.here hx rfl (hb hby d_jdk_52_method_14_18) rfl kk_)))) ?_
  have A104 : Arv Z T101.heap b kb .char (2 : Int32) [(.int c0), (.int c1)] (.int (0 : Int32)) := (Ab.keep p101_0 nin0)
  obtain ⟨cl105, Ar105, q105, S105, N105, H105, G105⟩ := id A104
  have hin105 : ¬ ((0 : Int32) < 0 ∨ cl105.slots.size ≤ (0 : Int32).toNatClampNeg) := inb_of S105 ⟨by decide, by decide⟩
  refine Fin.by (fun tt_ kk_ => X101.caload hx (j := (0 : Int32)) (v := (.int c0)) (Ar105.1) (State.isArrayOf_alike hZ.alike Ar105.2.1) Ar105.2.2 hin105 (Has.at H105 hin105 rfl) (g := (mkF m 19 #[.val (.ref b), .val (.int 0), .val (.int 2), .val (.ref t102), .val (.int 0)] [(.int 0), (.ref b), (.int 0), (.ref t102)])) rfl rfl (hb hby d_jdk_52_method_14_19) _ kk_) ?_
  have g106 : n0 ≤ t102 := Nat.le_trans Z0 p101_1
  have O107 : Old Z n0 T101.heap := (OL.keep p101_0 all0)
  have z108 : n0 ≤ T101.heap.size := Nat.le_trans Z0 p101_0.1
  obtain ⟨v109, _, ⟨T109, L109, k109, n109⟩, -, X109, ⟨Lc109, hQ109, l109, y109, z109⟩, st109⟩ := Jvm.LawKit.callS X101 hx (y := y_10) hown (mvT hZ (w_ hw 86 rfl)) (mvT hZ (w_ hw 87 rfl)) (mvT hZ (w_ hw 23 rfl)) (mvT hZ (w_ hw 88 rfl)) (by decide) (backOf (W := 0) (rm_pch0 l Z a0 hw [] t102 k103 (4 : Int32) ([(.int (0 : Int32)), (.int (0 : Int32)), (.int (0 : Int32)), (.int (0 : Int32))] : List Value) c0 T101.heap n0 z108 (Nat.le_of_ble_eq_true rfl) (Nat.le_of_ble_eq_true rfl) (by decide) (by decide) p101_2 g106 S6 S7 S8 O107) hZ (w_ hw 88 rfl) (w_ hw 23 rfl) (by decide) (by decide)) (g := (mkF m 20 #[.val (.ref b), .val (.int 0), .val (.int 2), .val (.ref t102), .val (.int 0)] [(.int c0), (.int 0), (.ref t102)])) rfl (by rw [hml]; rfl) (argsL := [(.ref t102), (.int 0), (.int c0)]) (rest := []) (lenOf pd_172 rfl) rfl (by show 2 * 0 + _ ≤ _; exact Nat.le_of_eq rfl) (hb hby d_jdk_52_method_14_20) (fun _ _ => ⟨rfl, rfl, (by decide : 1 + 0 ≤ _), (by decide : 4 + 0 ≤ _)⟩)
  dsimp only [Pt.U, Pt.locs, Pt.cells, Pt.slots] at X109 l109 y109 z109 st109 hQ109
  subst l109 y109 z109
  obtain ⟨rfl, Nq109, p109_0, p109_1⟩ := hQ109
  have N109_ := Fr.app N101_ Nq109
  refine Fin.by (fun tt_ kk_ => st109 tt_ kk_) ?_
  have V110 : Arv Z T109.heap t102 k103 .byte (4 : Int32) [(.int (((c0 >>> ((0 : Int32) &&& 31)).toInt8.toInt32).toInt8.toInt32)), (.int (((c0 >>> ((8 : Int32) &&& 31)).toInt8.toInt32).toInt8.toInt32)), (.int (0 : Int32)), (.int (0 : Int32))] (.int (0 : Int32)) := p109_1
  refine Fin.by (fun tt_ kk_ => XS.iinc X109.here hx rfl (hb hby d_jdk_52_method_14_23) rfl (l' := #[.val (.ref b), .val (.int 1), .val (.int 2), .val (.ref t102), .val (.int 0)]) rfl (XS.iinc X109.here hx rfl (hb hby d_jdk_52_method_14_26) rfl (l' := #[.val (.ref b), .val (.int 1), .val (.int 2), .val (.ref t102), .val (.int 1)]) rfl (XS.goto X109.here hx rfl (pc0 := 29) (pc' := 8) rfl (hb hby d_jdk_52_method_14_29) (by decide) (by decide) (XS.iload X109.here hx rfl (hb hby d_jdk_52_method_14_8) rfl (XS.iloadN X109.here hx rfl (hb hby d_jdk_52_method_14_10) rfl kk_))))) ?_
  show Fin _ _ _ _ _ _ _ (T109.setTop (mkF m 11 #[.val (.ref b), .val (.int 1), .val (.int 2), .val (.ref t102), .val (.int 1)] [(.int 2), (.int 1)]))
  refine Fin.by (fun tt_ kk_ => XS.icmpNo X109.here hx rfl (hb hby d_jdk_52_method_14_11) rfl (tlt (by decide : (1 : Int32) < (2 : Int32))).2.1 kk_) ?_
  refine Fin.by (fun tt_ kk_ => XS.aloadN X109.here hx rfl (hb hby d_jdk_52_method_14_14) rfl rfl (XS.iload X109.here hx rfl (hb hby d_jdk_52_method_14_15) rfl (XS.aloadN X109.here hx rfl (hb hby d_jdk_52_method_14_17) rfl rfl (XS.iloadN X109.here hx rfl (hb hby d_jdk_52_method_14_18) rfl kk_)))) ?_
  have ne111 : b ≠ t102 := Nat.ne_of_lt (Nat.lt_of_lt_of_le Ab.lt p101_1)
  have A112 : Arv Z T109.heap b kb .char (2 : Int32) [(.int c0), (.int c1)] (.int (0 : Int32)) := (A104.keep p109_0 (ninS ne111 nin0))
  obtain ⟨cl113, Ar113, q113, S113, N113, H113, G113⟩ := id A112
  have hin113 : ¬ ((1 : Int32) < 0 ∨ cl113.slots.size ≤ (1 : Int32).toNatClampNeg) := inb_of S113 ⟨by decide, by decide⟩
  refine Fin.by (fun tt_ kk_ => X109.caload hx (j := (1 : Int32)) (v := (.int c1)) (Ar113.1) (State.isArrayOf_alike hZ.alike Ar113.2.1) Ar113.2.2 hin113 (Has.at H113 hin113 rfl) (g := (mkF m 19 #[.val (.ref b), .val (.int 1), .val (.int 2), .val (.ref t102), .val (.int 1)] [(.int 1), (.ref b), (.int 1), (.ref t102)])) rfl rfl (hb hby d_jdk_52_method_14_19) _ kk_) ?_
  have O114 : Old Z n0 T109.heap := (O107.keep p109_0 (allS g106 all0))
  have z115 : n0 ≤ T109.heap.size := Nat.le_trans z108 p109_0.1
  obtain ⟨v116, _, ⟨T116, L116, k116, n116⟩, -, X116, ⟨Lc116, hQ116, l116, y116, z116⟩, st116⟩ := Jvm.LawKit.callS X109 hx (y := y_10) hown (mvT hZ (w_ hw 86 rfl)) (mvT hZ (w_ hw 87 rfl)) (mvT hZ (w_ hw 23 rfl)) (mvT hZ (w_ hw 88 rfl)) (by decide) (backOf (W := 0) (rm_pch1 l Z a0 hw [] t102 k103 (4 : Int32) ([(.int (((c0 >>> ((0 : Int32) &&& 31)).toInt8.toInt32).toInt8.toInt32)), (.int (((c0 >>> ((8 : Int32) &&& 31)).toInt8.toInt32).toInt8.toInt32)), (.int (0 : Int32)), (.int (0 : Int32))] : List Value) c1 T109.heap n0 z115 (Nat.le_of_ble_eq_true rfl) (Nat.le_of_ble_eq_true rfl) (by decide) (by decide) V110 g106 S6 S7 S8 O114) hZ (w_ hw 88 rfl) (w_ hw 23 rfl) (by decide) (by decide)) (g := (mkF m 20 #[.val (.ref b), .val (.int 1), .val (.int 2), .val (.ref t102), .val (.int 1)] [(.int c1), (.int 1), (.ref t102)])) rfl (by rw [hml]; rfl) (argsL := [(.ref t102), (.int 1), (.int c1)]) (rest := []) (lenOf pd_172 rfl) rfl (by show 2 * 0 + _ ≤ _; exact Nat.le_of_eq rfl) (hb hby d_jdk_52_method_14_20) (fun _ _ => ⟨rfl, rfl, (by decide : 1 + 0 ≤ _), (by decide : 4 + 0 ≤ _)⟩)
  dsimp only [Pt.U, Pt.locs, Pt.cells, Pt.slots] at X116 l116 y116 z116 st116 hQ116
  subst l116 y116 z116
  obtain ⟨rfl, Nq116, p116_0, p116_1⟩ := hQ116
  have N116_ := Fr.app N109_ Nq116
  refine Fin.by (fun tt_ kk_ => st116 tt_ kk_) ?_
  have V117 : Arv Z T116.heap t102 k103 .byte (4 : Int32) [(.int (((c0 >>> ((0 : Int32) &&& 31)).toInt8.toInt32).toInt8.toInt32)), (.int (((c0 >>> ((8 : Int32) &&& 31)).toInt8.toInt32).toInt8.toInt32)), (.int (((c1 >>> ((0 : Int32) &&& 31)).toInt8.toInt32).toInt8.toInt32)), (.int (((c1 >>> ((8 : Int32) &&& 31)).toInt8.toInt32).toInt8.toInt32))] (.int (0 : Int32)) := p116_1
  refine Fin.by (fun tt_ kk_ => XS.iinc X116.here hx rfl (hb hby d_jdk_52_method_14_23) rfl (l' := #[.val (.ref b), .val (.int 2), .val (.int 2), .val (.ref t102), .val (.int 1)]) rfl (XS.iinc X116.here hx rfl (hb hby d_jdk_52_method_14_26) rfl (l' := #[.val (.ref b), .val (.int 2), .val (.int 2), .val (.ref t102), .val (.int 2)]) rfl (XS.goto X116.here hx rfl (pc0 := 29) (pc' := 8) rfl (hb hby d_jdk_52_method_14_29) (by decide) (by decide) (XS.iload X116.here hx rfl (hb hby d_jdk_52_method_14_8) rfl (XS.iloadN X116.here hx rfl (hb hby d_jdk_52_method_14_10) rfl kk_))))) ?_
  show Fin _ _ _ _ _ _ _ (T116.setTop (mkF m 11 #[.val (.ref b), .val (.int 2), .val (.int 2), .val (.ref t102), .val (.int 2)] [(.int 2), (.int 2)]))
  refine Fin.by (fun tt_ kk_ => XS.icmpYes X116.here hx rfl (pc0 := 11) (pc' := 32) rfl (hb hby d_jdk_52_method_14_11) rfl (flt (by decide : ¬ (2 : Int32) < (2 : Int32))).2.1 (by decide) (by decide) kk_) ?_
  refine Fin.by (fun tt_ kk_ => XS.aloadN X116.here hx rfl (hb hby d_jdk_52_method_14_32) rfl rfl kk_) ?_
  have kp118 : Keep h0 T101.heap [] := (Keep.refl h0 []).trans p101_0 all0
  have kp119 : Keep h0 T109.heap [] := kp118.trans p109_0 (allS (Or.inr (Nat.le_trans (Nat.le_refl _) p101_1)) all0)
  have kp120 : Keep h0 T116.heap [] := kp119.trans p116_0 (allS (Or.inr (Nat.le_trans (Nat.le_refl _) p101_1)) all0)
  show Fin _ _ _ _ _ _ _ (T116.setTop (mkF m 33 #[.val (.ref b), .val (.int 2), .val (.int 2), .val (.ref t102), .val (.int 2)] [(.ref t102)]))
  exact Fin.ret (v := some (.ref t102)) X116 (fun h => by rw [Bd.returns] at h; cases h) Bd.notSynchronized (⟨t102, k103, rfl, N116_, kp120, (Nat.le_trans (Nat.le_refl _) p101_1), V117⟩) (by decide) (by decide) (fun fs hr => retA X116 hx Bd.returns rfl rfl (hb hby d_jdk_52_method_14_33) hr)
def Q_c3_2 (Z : State) (b : Addr) (kb : ClassId) (c0 : Int32) (c1 : Int32) (h0 : Heap) (n0 : Nat) (vv_ : Option Value) (hh_ : Heap) (LL_ : List Loc) : Prop := ∃ (t : Addr), ∃ (k : ClassId), ∃ (cd : Int32), ∃ (N2 : Int32), ∃ (vs : List Value), vv_ = some (.ref t) ∧ Fr n0 LL_ ∧ Keep h0 hh_ [] ∧ h0.size ≤ t ∧ Arv Z hh_ t k .byte N2 vs (.int (0 : Int32)) ∧ (StrChars.Road.CodA ([c0, c1] : List Int32) cd N2 vs)
set_option maxRecDepth 65536 in
set_option maxHeartbeats 40000000 in
theorem rm_c3_2 (l : Launch) (Z : State) (a0 : Array Value) (hw : ∀ d ∈ tables_1, d.before a0 Z = true) (ws : List Jvm.Cond) (b : Addr) (kb : ClassId) (c0 : Int32) (c1 : Int32) (h0 : Heap) (n0 : Nat) (Z0 : n0 ≤ h0.size) (Ab : Arv Z h0 b kb .char (2 : Int32) [(.int c0), (.int c1)] (.int (0 : Int32))) (hb_0 : ¬ c0 < 0 ∧ ¬ (65535 : Int32) < c0) (hb_1 : ¬ c1 < 0 ∧ ¬ (65535 : Int32) < c1) (S6 : Sta Z Z.heap "java/lang/StringUTF16" "$assertionsDisabled" "Z" (.int (1 : Int32))) (S7 : Sta Z Z.heap "java/lang/StringUTF16" "HI_BYTE_SHIFT" "I" (.int (0 : Int32))) (S8 : Sta Z Z.heap "java/lang/StringUTF16" "LO_BYTE_SHIFT" "I" (.int (8 : Int32))) (OL : Old Z n0 h0) :
    MetFree l (⟨"java/lang/StringUTF16", "compress", "([CII)[B"⟩ : MethodName) (head1 (Jvm.Cond.code (⟨"java/lang/StringUTF16", "compress", "([CII)[B"⟩ : MethodName) jdk_52_method_16_code 6 (some (.array .byte)) :: ws) ({ frames := 3, cells := 2, slots := 6, locals := 40 } : Room)) (fun aa_ U => aa_ = #[(.ref b), (.int (0 : Int32)), (.int (2 : Int32))] ∧ Z.Warmed39 U.vm ∧ U.heap = h0) (fun _ _ _ _ _ => True) (fun _ U o U' => ∃ vv_ LL_, o = .returned vv_ ∧ Q_c3_2 Z b kb c0 c1 h0 n0 vv_ U'.heap LL_ ∧ FrameEnd U o U' LL_ 2 6) := by
  refine MetFree.of_bodySF (plainFor_of_name pn_java_lang_StringUTF16) hisR ?_
  intro p e s m args below meth c s₁ Bd hml0 hP hK
  obtain ⟨rfl, hZ, hh⟩ := hP
  have hx := Bd.exec
  have hby := Bd.bytes
  have hml : c.maxLocals = 6 := hml0
  have hown : s.vm.findClass "java/lang/StringUTF16" = some m.cls := findClass_of_methodNamed Bd.named
  have hnm := (name_of_methodNamed Bd.named Bd.method).1
  have X0 : Stand p l e ({ frames := 3, cells := 2, slots := 6, locals := 40 } : Room) s m #[(.ref b), (.int (0 : Int32)), (.int (2 : Int32))] below meth c s₁ [] 0 0 := Stand.of_body Bd
  have e0 : s₁.heap = h0 := by rw [← hh, Bd.state]; rfl
  have N0 := Fr.nil n0
  have ef : entryFrame m #[(.ref b), (.int (0 : Int32)), (.int (2 : Int32))] 6 = mkF m 0 #[.val (.ref b), .val (.int (0 : Int32)), .val (.int (2 : Int32)), .unset, .unset, .unset] [] := by first | (simp [entryFrame, mkF, argsToLocals, Value.category]; done) | rfl
  refine Fin.start (Q := Q_c3_2 Z b kb c0 c1 h0 n0) ef ?_
  refine Fin.by (fun tt_ kk_ => XS.iloadN X0.here hx rfl (hb hby d_jdk_52_method_16_0) rfl kk_) ?_
  obtain ⟨T101, h101, k101, X101, e101, E101, A101, st101⟩ := newP X0 hx hZ (w_ hw 3 rfl) e0 (g := (mkF m 1 #[.val (.ref b), .val (.int 0), .val (.int 2), .unset, .unset, .unset] [(.int 2)])) rfl (hb hby d_jdk_52_method_16_1) rfl (by decide) (cap := 2) (by decide) (by decide) (by decide) (by decide)
  obtain ⟨a101, g101⟩ : ∃ z, z = h0.size := ⟨_, rfl⟩
  rw [← g101] at A101 st101
  refine Fin.by (fun tt_ kk_ => st101 tt_ kk_) ?_
  have V101 : Arv Z h101 a101 k101 .byte (2 : Int32) [(.int (0 : Int32)), (.int (0 : Int32))] (.int (0 : Int32)) := (Arv.new A101 (by decide)).pad (pad_rep [] (.int (0 : Int32)) 2)
  refine Fin.by (fun tt_ kk_ => XS.astoreN X101.here hx rfl (hb hby d_jdk_52_method_16_3) rfl rfl (l' := #[.val (.ref b), .val (.int 0), .val (.int 2), .val (.ref a101), .unset, .unset]) rfl (XS.aloadN X101.here hx rfl (hb hby d_jdk_52_method_16_4) rfl rfl (XS.iloadN X101.here hx rfl (hb hby d_jdk_52_method_16_5) rfl (XS.aloadN X101.here hx rfl (hb hby d_jdk_52_method_16_6) rfl rfl (XS.iconst X101.here hx rfl (hb hby d_jdk_52_method_16_7) (XS.iloadN X101.here hx rfl (hb hby d_jdk_52_method_16_8) rfl kk_)))))) ?_
  have A102 : Arv Z h101 b kb .char (2 : Int32) [(.int c0), (.int c1)] (.int (0 : Int32)) := (Ab.ext E101)
  have g103 : n0 ≤ a101 := Nat.le_trans Z0 (Nat.le_of_eq g101.symm)
  have ne104 : b ≠ a101 := Nat.ne_of_lt (Nat.lt_of_lt_of_le Ab.lt (Nat.le_of_eq g101.symm))
  have z105 : n0 ≤ h101.size := Nat.le_trans Z0 E101.1
  obtain ⟨v106, _, ⟨T106, L106, k106, n106⟩, -, X106, ⟨Lc106, hQ106, l106, y106, z106⟩, st106⟩ := Jvm.LawKit.callS X101 hx (y := y_11) hown (mvT hZ (w_ hw 25 rfl)) (mvT hZ (w_ hw 26 rfl)) (mvT hZ (w_ hw 23 rfl)) (mvT hZ (w_ hw 27 rfl)) (by decide) (backOf (W := 0) (rm_c5_2 l Z a0 hw [] b kb a101 k101 c0 c1 h101 n0 z105 A102 V101 g103 ne104) hZ (w_ hw 27 rfl) (w_ hw 23 rfl) (by decide) (by decide)) (g := (mkF m 9 #[.val (.ref b), .val (.int 0), .val (.int 2), .val (.ref a101), .unset, .unset] [(.int 2), (.int 0), (.ref a101), (.int 0), (.ref b)])) rfl (by rw [hml]; rfl) (argsL := [(.ref b), (.int 0), (.ref a101), (.int 0), (.int 2)]) (rest := []) (lenOf pd_187 rfl) rfl (by show 2 * 0 + _ ≤ _; exact Nat.le_of_eq rfl) (hb hby d_jdk_52_method_16_9) (fun _ _ => ⟨rfl, e101, (by decide : 1 + 0 ≤ _), (by decide : 2 + 0 ≤ _)⟩)
  dsimp only [Pt.U, Pt.locs, Pt.cells, Pt.slots] at X106 l106 y106 z106 st106 hQ106
  subst l106 y106 z106
  obtain ⟨r107, vs108, rfl, Nq106, p106_0, p106_1, p106_2⟩ := hQ106
  have N106_ := Fr.app N0 Nq106
  refine Fin.by (fun tt_ kk_ => st106 tt_ kk_) ?_
  rcases p106_2 with ⟨hr, hvs, hx_0, hx_1⟩ | ⟨hr, hx_0⟩ | ⟨hr, hx_1⟩
  · subst hr
    subst hvs
    refine Fin.by (fun tt_ kk_ => XS.istore X106.here hx rfl (hb hby d_jdk_52_method_16_12) rfl (l' := #[.val (.ref b), .val (.int 0), .val (.int 2), .val (.ref a101), .val (.int 2), .unset]) rfl (XS.iload X106.here hx rfl (hb hby d_jdk_52_method_16_14) rfl (XS.iloadN X106.here hx rfl (hb hby d_jdk_52_method_16_16) rfl kk_))) ?_
    show Fin _ _ _ _ _ _ _ (T106.setTop (mkF m 17 #[.val (.ref b), .val (.int 0), .val (.int 2), .val (.ref a101), .val (.int 2), .unset] [(.int 2), (.int 2)]))
    refine Fin.by (fun tt_ kk_ => XS.icmpYes X106.here hx rfl (pc0 := 17) (pc' := 57) rfl (hb hby d_jdk_52_method_16_17) rfl (teq (rfl : (2 : Int32) = (2 : Int32))).1 (by decide) (by decide) kk_) ?_
    refine Fin.by (fun tt_ kk_ => XS.aloadN X106.here hx rfl (hb hby d_jdk_52_method_16_57) rfl rfl kk_) ?_
    have kp109 : Keep h0 h101 [] := (Keep.refl h0 []).ext E101
    have kp110 : Keep h0 T106.heap [] := kp109.trans p106_0 (allS (Or.inr (Nat.le_trans (Nat.le_refl _) (Nat.le_of_eq g101.symm))) all0)
    show Fin _ _ _ _ _ _ _ (T106.setTop (mkF m 58 #[.val (.ref b), .val (.int 0), .val (.int 2), .val (.ref a101), .val (.int 2), .unset] [(.ref a101)]))
    exact Fin.ret (v := some (.ref a101)) X106 (fun h => by rw [Bd.returns] at h; cases h) Bd.notSynchronized (⟨a101, k101, (0 : Int32), (2 : Int32), [(.int ((c0.toInt8.toInt32).toInt8.toInt32)), (.int ((c1.toInt8.toInt32).toInt8.toInt32))], rfl, N106_, kp110, (Nat.le_trans (Nat.le_refl _) (Nat.le_of_eq g101.symm)), p106_1, (Or.inl ⟨rfl, rfl, by simp [StrChars.lo8], (own_cons hx_0 (own_cons hx_1 own_nil))⟩)⟩) (by decide) (by decide) (fun fs hr => retA X106 hx Bd.returns rfl rfl (hb hby d_jdk_52_method_16_58) hr)
  · subst hr
    refine Fin.by (fun tt_ kk_ => XS.istore X106.here hx rfl (hb hby d_jdk_52_method_16_12) rfl (l' := #[.val (.ref b), .val (.int 0), .val (.int 2), .val (.ref a101), .val (.int 0), .unset]) rfl (XS.iload X106.here hx rfl (hb hby d_jdk_52_method_16_14) rfl (XS.iloadN X106.here hx rfl (hb hby d_jdk_52_method_16_16) rfl kk_))) ?_
    show Fin _ _ _ _ _ _ _ (T106.setTop (mkF m 17 #[.val (.ref b), .val (.int 0), .val (.int 2), .val (.ref a101), .val (.int 0), .unset] [(.int 2), (.int 0)]))
    refine Fin.by (fun tt_ kk_ => XS.icmpNo X106.here hx rfl (hb hby d_jdk_52_method_16_17) rfl (feq (by decide : ¬ (0 : Int32) = (2 : Int32))).1 kk_) ?_
    refine Fin.by (fun tt_ kk_ => XS.aloadN X106.here hx rfl (hb hby d_jdk_52_method_16_20) rfl rfl (XS.iloadN X106.here hx rfl (hb hby d_jdk_52_method_16_21) rfl (XS.iloadN X106.here hx rfl (hb hby d_jdk_52_method_16_22) rfl kk_))) ?_
    have A111 : Arv Z T106.heap b kb .char (2 : Int32) [(.int c0), (.int c1)] (.int (0 : Int32)) := (A102.keep p106_0 (ninS ne104 nin0))
    have O112 : Old Z n0 T106.heap := ((OL.ext E101).keep p106_0 (allS g103 all0))
    have z113 : n0 ≤ T106.heap.size := Nat.le_trans z105 p106_0.1
    obtain ⟨v114, _, ⟨T114, L114, k114, n114⟩, -, X114, ⟨Lc114, hQ114, l114, y114, z114⟩, st114⟩ := Jvm.LawKit.callS X106 hx (y := y_12) hown (mvT hZ (w_ hw 76 rfl)) (mvT hZ (w_ hw 77 rfl)) (mvT hZ (w_ hw 23 rfl)) (mvT hZ (w_ hw 78 rfl)) (by decide) (backOf (W := 0) (rm_tob_2 l Z a0 hw [] b kb c0 c1 T106.heap n0 z113 A111 S6 S7 S8 O112) hZ (w_ hw 78 rfl) (w_ hw 23 rfl) (by decide) (by decide)) (g := (mkF m 23 #[.val (.ref b), .val (.int 0), .val (.int 2), .val (.ref a101), .val (.int 0), .unset] [(.int 2), (.int 0), (.ref b)])) rfl (by rw [hml]; rfl) (argsL := [(.ref b), (.int 0), (.int 2)]) (rest := []) (lenOf pd_198 rfl) rfl (by show 2 * 0 + _ ≤ _; exact Nat.le_of_eq rfl) (hb hby d_jdk_52_method_16_23) (fun _ _ => ⟨rfl, rfl, (by decide : 1 + 1 ≤ _), (by decide : 2 + 4 ≤ _)⟩)
    dsimp only [Pt.U, Pt.locs, Pt.cells, Pt.slots] at X114 l114 y114 z114 st114 hQ114
    subst l114 y114 z114
    obtain ⟨t115, k116, rfl, Nq114, p114_0, p114_1, p114_2⟩ := hQ114
    have N114_ := Fr.app N106_ Nq114
    refine Fin.by (fun tt_ kk_ => st114 tt_ kk_) ?_
    refine Fin.by (fun tt_ kk_ => XS.astore X114.here hx rfl (hb hby d_jdk_52_method_16_26) rfl rfl (l' := #[.val (.ref b), .val (.int 0), .val (.int 2), .val (.ref a101), .val (.int 0), .val (.ref t115)]) rfl (XS.aload X114.here hx rfl (hb hby d_jdk_52_method_16_28) rfl rfl (XS.iload X114.here hx rfl (hb hby d_jdk_52_method_16_30) rfl kk_))) ?_
    have O117 : Old Z n0 T114.heap := (O112.keep p114_0 all0)
    have z118 : n0 ≤ T114.heap.size := Nat.le_trans z113 p114_0.1
    obtain ⟨v119, _, ⟨T119, L119, k119, n119⟩, -, X119, ⟨Lc119, hQ119, l119, y119, z119⟩, st119⟩ := Jvm.LawKit.callS X114 hx (y := y_4) hown (mvT hZ (w_ hw 92 rfl)) (mvT hZ (w_ hw 93 rfl)) (mvT hZ (w_ hw 23 rfl)) (mvT hZ (w_ hw 94 rfl)) (by decide) (backOf (W := 0) (rm_uge l Z a0 hw [] t115 k116 (4 : Int32) ([(.int (((c0 >>> ((0 : Int32) &&& 31)).toInt8.toInt32).toInt8.toInt32)), (.int (((c0 >>> ((8 : Int32) &&& 31)).toInt8.toInt32).toInt8.toInt32)), (.int (((c1 >>> ((0 : Int32) &&& 31)).toInt8.toInt32).toInt8.toInt32)), (.int (((c1 >>> ((8 : Int32) &&& 31)).toInt8.toInt32).toInt8.toInt32))] : List Value) 0 (0 : Int32) (((c0 >>> ((0 : Int32) &&& 31)).toInt8.toInt32).toInt8.toInt32) (((c0 >>> ((8 : Int32) &&& 31)).toInt8.toInt32).toInt8.toInt32) T114.heap n0 z118 rfl (by decide) (by decide) rfl rfl p114_2 S6 S7 S8 O117) hZ (w_ hw 94 rfl) (w_ hw 23 rfl) (by decide) (by decide)) (g := (mkF m 32 #[.val (.ref b), .val (.int 0), .val (.int 2), .val (.ref a101), .val (.int 0), .val (.ref t115)] [(.int 0), (.ref t115)])) rfl (by rw [hml]; rfl) (argsL := [(.ref t115), (.int 0)]) (rest := []) (lenOf pd_71 rfl) rfl (by show 2 * 0 + _ ≤ _; exact Nat.le_of_eq rfl) (hb hby d_jdk_52_method_16_32) (fun _ _ => ⟨rfl, rfl, (by decide : 2 + 0 ≤ _), (by decide : 6 + 0 ≤ _)⟩)
    dsimp only [Pt.U, Pt.locs, Pt.cells, Pt.slots] at X119 l119 y119 z119 st119 hQ119
    subst l119 y119 z119
    obtain ⟨rfl, Nq119, e119_⟩ := hQ119
    have N119_ := Fr.app N114_ Nq119
    refine Fin.by (fun tt_ kk_ => st119 tt_ kk_) ?_
    have e119 := e119_
    refine Fin.by (fun tt_ kk_ => XS.sipush X119.here hx rfl (hb hby d_jdk_52_method_16_35) kk_) ?_
    show Fin _ _ _ _ _ _ _ (T119.setTop (mkF m 38 #[.val (.ref b), .val (.int 0), .val (.int 2), .val (.ref a101), .val (.int 0), .val (.ref t115)] [(.int 255), (.int (nar .char (StrChars.pairCh (((c0 >>> (0 &&& 31)).toInt8.toInt32).toInt8.toInt32) (((c0 >>> (8 &&& 31)).toInt8.toInt32).toInt8.toInt32))))]))
    refine Fin.by (fun tt_ kk_ => XS.icmpYes X119.here hx rfl (pc0 := 38) (pc' := 54) rfl (hb hby d_jdk_52_method_16_38) rfl (tlt (by rw [own_pw hb_0]; exact hx_0 : (255 : Int32) < (nar .char (StrChars.pairCh (((c0 >>> ((0 : Int32) &&& 31)).toInt8.toInt32).toInt8.toInt32) (((c0 >>> ((8 : Int32) &&& 31)).toInt8.toInt32).toInt8.toInt32))))).2.2.1 (by decide) (by decide) kk_) ?_
    refine Fin.by (fun tt_ kk_ => XS.aload X119.here hx rfl (hb hby d_jdk_52_method_16_54) rfl rfl kk_) ?_
    have kp120 : Keep h0 h101 [] := (Keep.refl h0 []).ext E101
    have kp121 : Keep h0 T106.heap [] := kp120.trans p106_0 (allS (Or.inr (Nat.le_trans (Nat.le_refl _) (Nat.le_of_eq g101.symm))) all0)
    have kp122 : Keep h0 T114.heap [] := kp121.trans p114_0 all0
    show Fin _ _ _ _ _ _ _ (T119.setTop (mkF m 56 #[.val (.ref b), .val (.int 0), .val (.int 2), .val (.ref a101), .val (.int 0), .val (.ref t115)] [(.ref t115)]))
    exact Fin.ret (v := some (.ref t115)) X119 (fun h => by rw [Bd.returns] at h; cases h) Bd.notSynchronized (by rw [e119]; exact ⟨t115, k116, (1 : Int32), (4 : Int32), [(.int (((c0 >>> ((0 : Int32) &&& 31)).toInt8.toInt32).toInt8.toInt32)), (.int (((c0 >>> ((8 : Int32) &&& 31)).toInt8.toInt32).toInt8.toInt32)), (.int (((c1 >>> ((0 : Int32) &&& 31)).toInt8.toInt32).toInt8.toInt32)), (.int (((c1 >>> ((8 : Int32) &&& 31)).toInt8.toInt32).toInt8.toInt32))], rfl, N119_, kp122, (Nat.le_trans (Nat.le_trans E101.1 p106_0.1) p114_1), p114_2, (Or.inr ⟨rfl, rfl, by simp only [StrChars.Road.wideBytes, own_raw_lo, own_raw_hi], ⟨c0, by simp, hx_0⟩⟩)⟩) (by decide) (by decide) (fun fs hr => retA X119 hx Bd.returns rfl rfl (hb hby d_jdk_52_method_16_56) hr)
  · subst hr
    refine Fin.by (fun tt_ kk_ => XS.istore X106.here hx rfl (hb hby d_jdk_52_method_16_12) rfl (l' := #[.val (.ref b), .val (.int 0), .val (.int 2), .val (.ref a101), .val (.int 1), .unset]) rfl (XS.iload X106.here hx rfl (hb hby d_jdk_52_method_16_14) rfl (XS.iloadN X106.here hx rfl (hb hby d_jdk_52_method_16_16) rfl kk_))) ?_
    show Fin _ _ _ _ _ _ _ (T106.setTop (mkF m 17 #[.val (.ref b), .val (.int 0), .val (.int 2), .val (.ref a101), .val (.int 1), .unset] [(.int 2), (.int 1)]))
    refine Fin.by (fun tt_ kk_ => XS.icmpNo X106.here hx rfl (hb hby d_jdk_52_method_16_17) rfl (feq (by decide : ¬ (1 : Int32) = (2 : Int32))).1 kk_) ?_
    refine Fin.by (fun tt_ kk_ => XS.aloadN X106.here hx rfl (hb hby d_jdk_52_method_16_20) rfl rfl (XS.iloadN X106.here hx rfl (hb hby d_jdk_52_method_16_21) rfl (XS.iloadN X106.here hx rfl (hb hby d_jdk_52_method_16_22) rfl kk_))) ?_
    have A123 : Arv Z T106.heap b kb .char (2 : Int32) [(.int c0), (.int c1)] (.int (0 : Int32)) := (A102.keep p106_0 (ninS ne104 nin0))
    have O124 : Old Z n0 T106.heap := ((OL.ext E101).keep p106_0 (allS g103 all0))
    have z125 : n0 ≤ T106.heap.size := Nat.le_trans z105 p106_0.1
    obtain ⟨v126, _, ⟨T126, L126, k126, n126⟩, -, X126, ⟨Lc126, hQ126, l126, y126, z126⟩, st126⟩ := Jvm.LawKit.callS X106 hx (y := y_12) hown (mvT hZ (w_ hw 76 rfl)) (mvT hZ (w_ hw 77 rfl)) (mvT hZ (w_ hw 23 rfl)) (mvT hZ (w_ hw 78 rfl)) (by decide) (backOf (W := 0) (rm_tob_2 l Z a0 hw [] b kb c0 c1 T106.heap n0 z125 A123 S6 S7 S8 O124) hZ (w_ hw 78 rfl) (w_ hw 23 rfl) (by decide) (by decide)) (g := (mkF m 23 #[.val (.ref b), .val (.int 0), .val (.int 2), .val (.ref a101), .val (.int 1), .unset] [(.int 2), (.int 0), (.ref b)])) rfl (by rw [hml]; rfl) (argsL := [(.ref b), (.int 0), (.int 2)]) (rest := []) (lenOf pd_198 rfl) rfl (by show 2 * 0 + _ ≤ _; exact Nat.le_of_eq rfl) (hb hby d_jdk_52_method_16_23) (fun _ _ => ⟨rfl, rfl, (by decide : 1 + 1 ≤ _), (by decide : 2 + 4 ≤ _)⟩)
    dsimp only [Pt.U, Pt.locs, Pt.cells, Pt.slots] at X126 l126 y126 z126 st126 hQ126
    subst l126 y126 z126
    obtain ⟨t127, k128, rfl, Nq126, p126_0, p126_1, p126_2⟩ := hQ126
    have N126_ := Fr.app N106_ Nq126
    refine Fin.by (fun tt_ kk_ => st126 tt_ kk_) ?_
    refine Fin.by (fun tt_ kk_ => XS.astore X126.here hx rfl (hb hby d_jdk_52_method_16_26) rfl rfl (l' := #[.val (.ref b), .val (.int 0), .val (.int 2), .val (.ref a101), .val (.int 1), .val (.ref t127)]) rfl (XS.aload X126.here hx rfl (hb hby d_jdk_52_method_16_28) rfl rfl (XS.iload X126.here hx rfl (hb hby d_jdk_52_method_16_30) rfl kk_))) ?_
    have O129 : Old Z n0 T126.heap := (O124.keep p126_0 all0)
    have z130 : n0 ≤ T126.heap.size := Nat.le_trans z125 p126_0.1
    obtain ⟨v131, _, ⟨T131, L131, k131, n131⟩, -, X131, ⟨Lc131, hQ131, l131, y131, z131⟩, st131⟩ := Jvm.LawKit.callS X126 hx (y := y_4) hown (mvT hZ (w_ hw 92 rfl)) (mvT hZ (w_ hw 93 rfl)) (mvT hZ (w_ hw 23 rfl)) (mvT hZ (w_ hw 94 rfl)) (by decide) (backOf (W := 0) (rm_uge l Z a0 hw [] t127 k128 (4 : Int32) ([(.int (((c0 >>> ((0 : Int32) &&& 31)).toInt8.toInt32).toInt8.toInt32)), (.int (((c0 >>> ((8 : Int32) &&& 31)).toInt8.toInt32).toInt8.toInt32)), (.int (((c1 >>> ((0 : Int32) &&& 31)).toInt8.toInt32).toInt8.toInt32)), (.int (((c1 >>> ((8 : Int32) &&& 31)).toInt8.toInt32).toInt8.toInt32))] : List Value) 1 (1 : Int32) (((c1 >>> ((0 : Int32) &&& 31)).toInt8.toInt32).toInt8.toInt32) (((c1 >>> ((8 : Int32) &&& 31)).toInt8.toInt32).toInt8.toInt32) T126.heap n0 z130 rfl (by decide) (by decide) rfl rfl p126_2 S6 S7 S8 O129) hZ (w_ hw 94 rfl) (w_ hw 23 rfl) (by decide) (by decide)) (g := (mkF m 32 #[.val (.ref b), .val (.int 0), .val (.int 2), .val (.ref a101), .val (.int 1), .val (.ref t127)] [(.int 1), (.ref t127)])) rfl (by rw [hml]; rfl) (argsL := [(.ref t127), (.int 1)]) (rest := []) (lenOf pd_71 rfl) rfl (by show 2 * 0 + _ ≤ _; exact Nat.le_of_eq rfl) (hb hby d_jdk_52_method_16_32) (fun _ _ => ⟨rfl, rfl, (by decide : 2 + 0 ≤ _), (by decide : 6 + 0 ≤ _)⟩)
    dsimp only [Pt.U, Pt.locs, Pt.cells, Pt.slots] at X131 l131 y131 z131 st131 hQ131
    subst l131 y131 z131
    obtain ⟨rfl, Nq131, e131_⟩ := hQ131
    have N131_ := Fr.app N126_ Nq131
    refine Fin.by (fun tt_ kk_ => st131 tt_ kk_) ?_
    have e131 := e131_
    refine Fin.by (fun tt_ kk_ => XS.sipush X131.here hx rfl (hb hby d_jdk_52_method_16_35) kk_) ?_
    show Fin _ _ _ _ _ _ _ (T131.setTop (mkF m 38 #[.val (.ref b), .val (.int 0), .val (.int 2), .val (.ref a101), .val (.int 1), .val (.ref t127)] [(.int 255), (.int (nar .char (StrChars.pairCh (((c1 >>> (0 &&& 31)).toInt8.toInt32).toInt8.toInt32) (((c1 >>> (8 &&& 31)).toInt8.toInt32).toInt8.toInt32))))]))
    refine Fin.by (fun tt_ kk_ => XS.icmpYes X131.here hx rfl (pc0 := 38) (pc' := 54) rfl (hb hby d_jdk_52_method_16_38) rfl (tlt (by rw [own_pw hb_1]; exact hx_1 : (255 : Int32) < (nar .char (StrChars.pairCh (((c1 >>> ((0 : Int32) &&& 31)).toInt8.toInt32).toInt8.toInt32) (((c1 >>> ((8 : Int32) &&& 31)).toInt8.toInt32).toInt8.toInt32))))).2.2.1 (by decide) (by decide) kk_) ?_
    refine Fin.by (fun tt_ kk_ => XS.aload X131.here hx rfl (hb hby d_jdk_52_method_16_54) rfl rfl kk_) ?_
    have kp132 : Keep h0 h101 [] := (Keep.refl h0 []).ext E101
    have kp133 : Keep h0 T106.heap [] := kp132.trans p106_0 (allS (Or.inr (Nat.le_trans (Nat.le_refl _) (Nat.le_of_eq g101.symm))) all0)
    have kp134 : Keep h0 T126.heap [] := kp133.trans p126_0 all0
    show Fin _ _ _ _ _ _ _ (T131.setTop (mkF m 56 #[.val (.ref b), .val (.int 0), .val (.int 2), .val (.ref a101), .val (.int 1), .val (.ref t127)] [(.ref t127)]))
    exact Fin.ret (v := some (.ref t127)) X131 (fun h => by rw [Bd.returns] at h; cases h) Bd.notSynchronized (by rw [e131]; exact ⟨t127, k128, (1 : Int32), (4 : Int32), [(.int (((c0 >>> ((0 : Int32) &&& 31)).toInt8.toInt32).toInt8.toInt32)), (.int (((c0 >>> ((8 : Int32) &&& 31)).toInt8.toInt32).toInt8.toInt32)), (.int (((c1 >>> ((0 : Int32) &&& 31)).toInt8.toInt32).toInt8.toInt32)), (.int (((c1 >>> ((8 : Int32) &&& 31)).toInt8.toInt32).toInt8.toInt32))], rfl, N131_, kp134, (Nat.le_trans (Nat.le_trans E101.1 p106_0.1) p126_1), p126_2, (Or.inr ⟨rfl, rfl, by simp only [StrChars.Road.wideBytes, own_raw_lo, own_raw_hi], ⟨c1, by simp, hx_1⟩⟩)⟩) (by decide) (by decide) (fun fs hr => retA X131 hx Bd.returns rfl rfl (hb hby d_jdk_52_method_16_56) hr)
def Q_cod_2_0 (Z : State) (t : Addr) (kt : ClassId) (vs : List Value) (h0 : Heap) (n0 : Nat) (vv_ : Option Value) (hh_ : Heap) (LL_ : List Loc) : Prop := vv_ = some (.int (nar .byte (0 : Int32))) ∧ Fr n0 LL_ ∧ hh_ = h0
set_option maxRecDepth 65536 in
set_option maxHeartbeats 40000000 in
theorem rm_cod_2_0 (l : Launch) (Z : State) (a0 : Array Value) (hw : ∀ d ∈ tables_1, d.before a0 Z = true) (ws : List Jvm.Cond) (t : Addr) (kt : ClassId) (vs : List Value) (h0 : Heap) (n0 : Nat) (Z0 : n0 ≤ h0.size) (A0 : Arv Z h0 t kt .byte (2 : Int32) vs (.int (0 : Int32))) :
    MetFree l (⟨"java/lang/StringUTF16", "coderFromArrayLen", "([BI)B"⟩ : MethodName) (head1 (Jvm.Cond.code (⟨"java/lang/StringUTF16", "coderFromArrayLen", "([BI)B"⟩ : MethodName) jdk_52_method_15_code 2 (some .byte) :: ws) ({ frames := 0, cells := 0, slots := 0, locals := 0 } : Room)) (fun aa_ U => aa_ = #[(.ref t), (.int (2 : Int32))] ∧ Z.Warmed39 U.vm ∧ U.heap = h0) (fun _ _ _ _ _ => True) (fun _ U o U' => ∃ vv_ LL_, o = .returned vv_ ∧ Q_cod_2_0 Z t kt vs h0 n0 vv_ U'.heap LL_ ∧ FrameEnd U o U' LL_ 0 0) := by
  refine MetFree.of_bodySF (plainFor_of_name pn_java_lang_StringUTF16) hisR ?_
  intro p e s m args below meth c s₁ Bd hml0 hP hK
  obtain ⟨rfl, hZ, hh⟩ := hP
  have hx := Bd.exec
  have hby := Bd.bytes
  have hml : c.maxLocals = 2 := hml0
  have hown : s.vm.findClass "java/lang/StringUTF16" = some m.cls := findClass_of_methodNamed Bd.named
  have hnm := (name_of_methodNamed Bd.named Bd.method).1
  have X0 : Stand p l e ({ frames := 0, cells := 0, slots := 0, locals := 0 } : Room) s m #[(.ref t), (.int (2 : Int32))] below meth c s₁ [] 0 0 := Stand.of_body Bd
  have e0 : s₁.heap = h0 := by rw [← hh, Bd.state]; rfl
  have N0 := Fr.nil n0
  have ef : entryFrame m #[(.ref t), (.int (2 : Int32))] 2 = mkF m 0 #[.val (.ref t), .val (.int (2 : Int32))] [] := by first | (simp [entryFrame, mkF, argsToLocals, Value.category]; done) | rfl
  refine Fin.start (Q := Q_cod_2_0 Z t kt vs h0 n0) ef ?_
  refine Fin.by (fun tt_ kk_ => XS.iloadN X0.here hx rfl (hb hby d_jdk_52_method_15_0) rfl (XS.aloadN X0.here hx rfl (hb hby d_jdk_52_method_15_1) rfl rfl kk_)) ?_
  obtain ⟨cl101, Ar101, q101, S101, N101, H101, G101⟩ := id A0
  refine Fin.by (fun tt_ kk_ => X0.arraylength hx (by rw [e0]; exact Ar101.1) (State.isArrayOf_alike hZ.alike Ar101.2.1) (g := (mkF m 2 #[.val (.ref t), .val (.int 2)] [(.ref t), (.int 2)])) rfl rfl (hb hby d_jdk_52_method_15_2) _ kk_) ?_
  rw [len_of S101 N101]
  refine Fin.by (fun tt_ kk_ => XS.isub X0.here hx rfl (hb hby d_jdk_52_method_15_3) rfl (XS.bipush X0.here hx rfl (hb hby d_jdk_52_method_15_4) (XS.iushr X0.here hx rfl (hb hby d_jdk_52_method_15_6) rfl (XS.i2b X0.here hx rfl (hb hby d_jdk_52_method_15_7) rfl kk_)))) ?_
  show Fin _ _ _ _ _ _ _ (s₁.setTop (mkF m 8 #[.val (.ref t), .val (.int 2)] [(.int 0)]))
  exact Fin.ret (v := some (.int (nar .byte (0 : Int32)))) X0 (fun h => by rw [Bd.returns] at h; cases h) Bd.notSynchronized (by rw [e0]; exact ⟨rfl, N0, rfl⟩) (by decide) (by decide) (fun fs hr => retN X0 hx (t := .byte) Bd.returns (by simp) (hb hby d_jdk_52_method_15_8) hr)
def Q_cod_2_1 (Z : State) (t : Addr) (kt : ClassId) (vs : List Value) (h0 : Heap) (n0 : Nat) (vv_ : Option Value) (hh_ : Heap) (LL_ : List Loc) : Prop := vv_ = some (.int (nar .byte (1 : Int32))) ∧ Fr n0 LL_ ∧ hh_ = h0
set_option maxRecDepth 65536 in
set_option maxHeartbeats 40000000 in
theorem rm_cod_2_1 (l : Launch) (Z : State) (a0 : Array Value) (hw : ∀ d ∈ tables_1, d.before a0 Z = true) (ws : List Jvm.Cond) (t : Addr) (kt : ClassId) (vs : List Value) (h0 : Heap) (n0 : Nat) (Z0 : n0 ≤ h0.size) (A0 : Arv Z h0 t kt .byte (4 : Int32) vs (.int (0 : Int32))) :
    MetFree l (⟨"java/lang/StringUTF16", "coderFromArrayLen", "([BI)B"⟩ : MethodName) (head1 (Jvm.Cond.code (⟨"java/lang/StringUTF16", "coderFromArrayLen", "([BI)B"⟩ : MethodName) jdk_52_method_15_code 2 (some .byte) :: ws) ({ frames := 0, cells := 0, slots := 0, locals := 0 } : Room)) (fun aa_ U => aa_ = #[(.ref t), (.int (2 : Int32))] ∧ Z.Warmed39 U.vm ∧ U.heap = h0) (fun _ _ _ _ _ => True) (fun _ U o U' => ∃ vv_ LL_, o = .returned vv_ ∧ Q_cod_2_1 Z t kt vs h0 n0 vv_ U'.heap LL_ ∧ FrameEnd U o U' LL_ 0 0) := by
  refine MetFree.of_bodySF (plainFor_of_name pn_java_lang_StringUTF16) hisR ?_
  intro p e s m args below meth c s₁ Bd hml0 hP hK
  obtain ⟨rfl, hZ, hh⟩ := hP
  have hx := Bd.exec
  have hby := Bd.bytes
  have hml : c.maxLocals = 2 := hml0
  have hown : s.vm.findClass "java/lang/StringUTF16" = some m.cls := findClass_of_methodNamed Bd.named
  have hnm := (name_of_methodNamed Bd.named Bd.method).1
  have X0 : Stand p l e ({ frames := 0, cells := 0, slots := 0, locals := 0 } : Room) s m #[(.ref t), (.int (2 : Int32))] below meth c s₁ [] 0 0 := Stand.of_body Bd
  have e0 : s₁.heap = h0 := by rw [← hh, Bd.state]; rfl
  have N0 := Fr.nil n0
  have ef : entryFrame m #[(.ref t), (.int (2 : Int32))] 2 = mkF m 0 #[.val (.ref t), .val (.int (2 : Int32))] [] := by first | (simp [entryFrame, mkF, argsToLocals, Value.category]; done) | rfl
  refine Fin.start (Q := Q_cod_2_1 Z t kt vs h0 n0) ef ?_
  refine Fin.by (fun tt_ kk_ => XS.iloadN X0.here hx rfl (hb hby d_jdk_52_method_15_0) rfl (XS.aloadN X0.here hx rfl (hb hby d_jdk_52_method_15_1) rfl rfl kk_)) ?_
  obtain ⟨cl101, Ar101, q101, S101, N101, H101, G101⟩ := id A0
  refine Fin.by (fun tt_ kk_ => X0.arraylength hx (by rw [e0]; exact Ar101.1) (State.isArrayOf_alike hZ.alike Ar101.2.1) (g := (mkF m 2 #[.val (.ref t), .val (.int 2)] [(.ref t), (.int 2)])) rfl rfl (hb hby d_jdk_52_method_15_2) _ kk_) ?_
  rw [len_of S101 N101]
  refine Fin.by (fun tt_ kk_ => XS.isub X0.here hx rfl (hb hby d_jdk_52_method_15_3) rfl (XS.bipush X0.here hx rfl (hb hby d_jdk_52_method_15_4) (XS.iushr X0.here hx rfl (hb hby d_jdk_52_method_15_6) rfl (XS.i2b X0.here hx rfl (hb hby d_jdk_52_method_15_7) rfl kk_)))) ?_
  show Fin _ _ _ _ _ _ _ (s₁.setTop (mkF m 8 #[.val (.ref t), .val (.int 2)] [(.int 1)]))
  exact Fin.ret (v := some (.int (nar .byte (1 : Int32)))) X0 (fun h => by rw [Bd.returns] at h; cases h) Bd.notSynchronized (by rw [e0]; exact ⟨rfl, N0, rfl⟩) (by decide) (by decide) (fun fs hr => retN X0 hx (t := .byte) Bd.returns (by simp) (hb hby d_jdk_52_method_15_8) hr)
def Q_n4_2 (Z : State) (a : Addr) (b : Addr) (kb : ClassId) (c0 : Int32) (c1 : Int32) (G1 : Int32) (h0 : Heap) (n0 : Nat) (vv_ : Option Value) (hh_ : Heap) (LL_ : List Loc) : Prop := ∃ (t : Addr), ∃ (k : ClassId), ∃ (cd : Int32), ∃ (N2 : Int32), ∃ (vs : List Value), vv_ = none ∧ Fr n0 LL_ ∧ Keep h0 hh_ [a] ∧ h0.size ≤ t ∧ Exa Z hh_ a "java/lang/String" ∧ Fld Z hh_ a "java/lang/String" "value" "[B" (.ref t) ∧ Fld Z hh_ a "java/lang/String" "coder" "B" (.int cd) ∧ Arv Z hh_ t k .byte N2 vs (.int (0 : Int32)) ∧ (StrChars.Road.CodA ([c0, c1] : List Int32) cd N2 vs)
set_option maxRecDepth 65536 in
set_option maxHeartbeats 40000000 in
theorem rm_n4_2 (l : Launch) (Z : State) (a0 : Array Value) (hw : ∀ d ∈ tables_1, d.before a0 Z = true) (ws : List Jvm.Cond) (a : Addr) (b : Addr) (kb : ClassId) (c0 : Int32) (c1 : Int32) (G1 : Int32) (h0 : Heap) (n0 : Nat) (Z0 : n0 ≤ h0.size) (E0 : Exa Z h0 a "java/lang/String") (F0 : Fld Z h0 a "java/lang/String" "value" "[B" .null) (F1 : Fld Z h0 a "java/lang/String" "coder" "B" (.int (0 : Int32))) (ga : n0 ≤ a) (Ab : Arv Z h0 b kb .char (2 : Int32) [(.int c0), (.int c1)] (.int (0 : Int32))) (hb_0 : ¬ c0 < 0 ∧ ¬ (65535 : Int32) < c0) (hb_1 : ¬ c1 < 0 ∧ ¬ (65535 : Int32) < c1) (S1 : Sta Z Z.heap "java/lang/String" "COMPACT_STRINGS" "Z" (.int G1)) (P1 : ¬ G1 = 0) (S6 : Sta Z Z.heap "java/lang/StringUTF16" "$assertionsDisabled" "Z" (.int (1 : Int32))) (S7 : Sta Z Z.heap "java/lang/StringUTF16" "HI_BYTE_SHIFT" "I" (.int (0 : Int32))) (S8 : Sta Z Z.heap "java/lang/StringUTF16" "LO_BYTE_SHIFT" "I" (.int (8 : Int32))) (OL : Old Z n0 h0) :
    MetFree l (⟨"java/lang/String", "<init>", "([CIILjava/lang/Void;)V"⟩ : MethodName) (head1 (Jvm.Cond.code (⟨"java/lang/String", "<init>", "([CIILjava/lang/Void;)V"⟩ : MethodName) jdk_42_method_149_code 6 none :: ws) ({ frames := 4, cells := 2, slots := 6, locals := 57 } : Room)) (fun aa_ U => aa_ = #[(.ref a), (.ref b), (.int (0 : Int32)), (.int (2 : Int32)), .null] ∧ Z.Warmed39 U.vm ∧ U.heap = h0) (fun _ _ _ _ _ => True) (fun _ U o U' => ∃ vv_ LL_, o = .returned vv_ ∧ Q_n4_2 Z a b kb c0 c1 G1 h0 n0 vv_ U'.heap LL_ ∧ FrameEnd U o U' LL_ 2 6) := by
  refine MetFree.of_bodySF (plainFor_of_name pn_java_lang_String) hisR ?_
  intro p e s m args below meth c s₁ Bd hml0 hP hK
  obtain ⟨rfl, hZ, hh⟩ := hP
  have hx := Bd.exec
  have hby := Bd.bytes
  have hml : c.maxLocals = 6 := hml0
  have hown : s.vm.findClass "java/lang/String" = some m.cls := findClass_of_methodNamed Bd.named
  have hnm := (name_of_methodNamed Bd.named Bd.method).1
  have X0 : Stand p l e ({ frames := 4, cells := 2, slots := 6, locals := 57 } : Room) s m #[(.ref a), (.ref b), (.int (0 : Int32)), (.int (2 : Int32)), .null] below meth c s₁ [] 0 0 := Stand.of_body Bd
  have e0 : s₁.heap = h0 := by rw [← hh, Bd.state]; rfl
  have N0 := Fr.nil n0
  have ef : entryFrame m #[(.ref a), (.ref b), (.int (0 : Int32)), (.int (2 : Int32)), .null] 6 = mkF m 0 #[.val (.ref a), .val (.ref b), .val (.int (0 : Int32)), .val (.int (2 : Int32)), .val .null, .unset] [] := by first | (simp [entryFrame, mkF, argsToLocals, Value.category]; done) | rfl
  refine Fin.start (Q := Q_n4_2 Z a b kb c0 c1 G1 h0 n0) ef ?_
  refine Fin.by (fun tt_ kk_ => XS.aloadN X0.here hx rfl (hb hby d_jdk_42_method_149_0) rfl rfl kk_) ?_
  obtain ⟨T101, X101, e101, st101⟩ := initO X0 hx hZ hown (w_ hw 17 rfl) (w_ hw 18 rfl) (w_ hw 19 rfl) e0 (g := (mkF m 1 #[.val (.ref a), .val (.ref b), .val (.int 0), .val (.int 2), .val .null, .unset] [(.ref a)])) rfl (by rw [hml]; rfl) rfl (hb hby d_jdk_42_method_149_1) (by decide) (W := 0) (by show 2 * 0 + _ ≤ _; exact Nat.le_of_eq rfl) (by decide)
  refine Fin.by (fun tt_ kk_ => st101 tt_ kk_) ?_
  refine Fin.by (fun tt_ kk_ => XS.iloadN X101.here hx rfl (hb hby d_jdk_42_method_149_4) rfl kk_) ?_
  show Fin _ _ _ _ _ _ _ (T101.setTop (mkF m 5 #[.val (.ref a), .val (.ref b), .val (.int 0), .val (.int 2), .val .null, .unset] [(.int 2)]))
  refine Fin.by (fun tt_ kk_ => XS.ifYes X101.here hx rfl (pc0 := 5) (pc' := 27) rfl (hb hby d_jdk_42_method_149_5) rfl ((if0 _ _).trans (feq (by decide : ¬ (2 : Int32) = (0 : Int32))).2) (by decide) (by decide) kk_) ?_
  obtain ⟨T102, X102, e102, st102⟩ := getS X101 hx hZ (host := "") hown (w_ hw 20 rfl) Via.refl e101 (S1.ext OL.2) (g := (mkF m 27 #[.val (.ref a), .val (.ref b), .val (.int 0), .val (.int 2), .val .null, .unset] [])) rfl (hb hby d_jdk_42_method_149_27)
  refine Fin.by (fun tt_ kk_ => st102 tt_ kk_) ?_
  show Fin _ _ _ _ _ _ _ (T102.setTop (mkF m 30 #[.val (.ref a), .val (.ref b), .val (.int 0), .val (.int 2), .val .null, .unset] [(.int G1)]))
  refine Fin.by (fun tt_ kk_ => XS.ifNo X102.here hx rfl (hb hby d_jdk_42_method_149_30) rfl ((if0 _ _).trans (feq (P1 : ¬ G1 = (0 : Int32))).1) kk_) ?_
  refine Fin.by (fun tt_ kk_ => XS.aloadN X102.here hx rfl (hb hby d_jdk_42_method_149_33) rfl rfl (XS.iloadN X102.here hx rfl (hb hby d_jdk_42_method_149_34) rfl (XS.iloadN X102.here hx rfl (hb hby d_jdk_42_method_149_35) rfl kk_))) ?_
  obtain ⟨v103, _, ⟨T103, L103, k103, n103⟩, -, X103, ⟨Lc103, hQ103, l103, y103, z103⟩, st103⟩ := Jvm.LawKit.callS X102 hx (y := y_13) hown (mvT hZ (w_ hw 21 rfl)) (mvT hZ (w_ hw 22 rfl)) (mvT hZ (w_ hw 23 rfl)) (mvT hZ (w_ hw 24 rfl)) (by decide) (backOf (W := 0) (rm_c3_2 l Z a0 hw [] b kb c0 c1 h0 n0 Z0 Ab hb_0 hb_1 S6 S7 S8 OL) hZ (w_ hw 24 rfl) (w_ hw 23 rfl) (by decide) (by decide)) (g := (mkF m 36 #[.val (.ref a), .val (.ref b), .val (.int 0), .val (.int 2), .val .null, .unset] [(.int 2), (.int 0), (.ref b)])) rfl (by rw [hml]; rfl) (argsL := [(.ref b), (.int 0), (.int 2)]) (rest := []) (lenOf pd_198 rfl) rfl (by show 2 * 0 + _ ≤ _; exact Nat.le_of_eq rfl) (hb hby d_jdk_42_method_149_36) (fun _ _ => ⟨rfl, e102, (by decide : 0 + 2 ≤ _), (by decide : 0 + 6 ≤ _)⟩)
  dsimp only [Pt.U, Pt.locs, Pt.cells, Pt.slots] at X103 l103 y103 z103 st103 hQ103
  subst l103 y103 z103
  obtain ⟨t104, k105, cd106, N107, vs108, rfl, Nq103, p103_0, p103_1, p103_2, p103_3⟩ := hQ103
  have N103_ := Fr.app N0 Nq103
  refine Fin.by (fun tt_ kk_ => st103 tt_ kk_) ?_
  rcases id p103_3 with ⟨hcd, hN2, hvs, -⟩ | ⟨hcd, hN2, hvs, -⟩
  · have hN2' : N107 = (2 : Int32) := hN2
    clear hN2
    subst hcd
    subst hN2'
    refine Fin.by (fun tt_ kk_ => XS.astore X103.here hx rfl (hb hby d_jdk_42_method_149_39) rfl rfl (l' := #[.val (.ref a), .val (.ref b), .val (.int 0), .val (.int 2), .val .null, .val (.ref t104)]) rfl (XS.aloadN X103.here hx rfl (hb hby d_jdk_42_method_149_41) rfl rfl (XS.aload X103.here hx rfl (hb hby d_jdk_42_method_149_42) rfl rfl (XS.iloadN X103.here hx rfl (hb hby d_jdk_42_method_149_44) rfl kk_)))) ?_
    have z109 : n0 ≤ T103.heap.size := Nat.le_trans Z0 p103_0.1
    obtain ⟨v110, _, ⟨T110, L110, k110, n110⟩, -, X110, ⟨Lc110, hQ110, l110, y110, z110⟩, st110⟩ := Jvm.LawKit.callS X103 hx (y := y_14) hown (mvT hZ (w_ hw 28 rfl)) (mvT hZ (w_ hw 29 rfl)) (mvT hZ (w_ hw 23 rfl)) (mvT hZ (w_ hw 30 rfl)) (by decide) (backOf (W := 1) (rm_cod_2_0 l Z a0 hw [] t104 k105 (vs108 : List Value) T103.heap n0 z109 p103_2) hZ (w_ hw 30 rfl) (w_ hw 23 rfl) (by decide) (by decide)) (g := (mkF m 45 #[.val (.ref a), .val (.ref b), .val (.int 0), .val (.int 2), .val .null, .val (.ref t104)] [(.int 2), (.ref t104), (.ref a)])) rfl (by rw [hml]; rfl) (argsL := [(.ref t104), (.int 2)]) (rest := [(.ref a)]) (lenOf pd_230 rfl) rfl (by show 2 * 0 + _ ≤ _; exact Nat.le_of_eq rfl) (hb hby d_jdk_42_method_149_45) (fun _ _ => ⟨rfl, rfl, (by decide : 2 + 0 ≤ _), (by decide : 6 + 0 ≤ _)⟩)
    dsimp only [Pt.U, Pt.locs, Pt.cells, Pt.slots] at X110 l110 y110 z110 st110 hQ110
    subst l110 y110 z110
    obtain ⟨rfl, Nq110, e110_⟩ := hQ110
    have N110_ := Fr.app N103_ Nq110
    refine Fin.by (fun tt_ kk_ => st110 tt_ kk_) ?_
    have e110 := e110_
    have F111 : Fld Z T103.heap a "java/lang/String" "coder" "B" (.int (0 : Int32)) := (F1.keep p103_0 nin0)
    have E112 : Exa Z T103.heap a "java/lang/String" := (E0.keep p103_0)
    obtain ⟨T113, h113, X113, e113, W113, st113⟩ := putFN X110 hx hZ hown (w_ hw 31 rfl) Via.refl e110 F111 E112 (Or.inr ⟨(w_ hw 5 rfl), rfl, hnm⟩) (w_ hw 2 rfl) (ty := .byte) (v' := .int (0 : Int32)) (by decide) rfl rfl (g := (mkF m 48 #[.val (.ref a), .val (.ref b), .val (.int 0), .val (.int 2), .val .null, .val (.ref t104)] [(.int (nar .byte 0)), (.ref a)])) rfl rfl (hb hby d_jdk_42_method_149_48)
    refine Fin.by (fun tt_ kk_ => st113 tt_ kk_) ?_
    have N113_ := Fr.snoc X113 N110_ ga
    refine Fin.by (fun tt_ kk_ => XS.aloadN X113.here hx rfl (hb hby d_jdk_42_method_149_51) rfl rfl (XS.aload X113.here hx rfl (hb hby d_jdk_42_method_149_52) rfl rfl kk_)) ?_
    have F114 : Fld Z h113 a "java/lang/String" "value" "[B" .null := ((F0.keep p103_0 nin0).other W113 (Or.inr (slot_ne (Or.inr (w_ hw 4 rfl)) (Or.inr (w_ hw 5 rfl)) (by decide) (t := (.array .byte)) (t' := .byte) (by decide) (by decide))))
    have E115 : Exa Z h113 a "java/lang/String" := (E112.wr W113)
    obtain ⟨T116, h116, X116, e116, W116, st116⟩ := putF X113 hx hZ hown (host := "") (Or.inl (w_ hw 32 rfl)) Via.refl e113 F114 E115 (Or.inr ⟨(w_ hw 4 rfl), rfl, hnm⟩) (w_ hw 2 rfl) (ty := (.array .byte)) (by decide) rfl rfl (g := (mkF m 54 #[.val (.ref a), .val (.ref b), .val (.int 0), .val (.int 2), .val .null, .val (.ref t104)] [(.ref t104), (.ref a)])) rfl rfl (hb hby d_jdk_42_method_149_54)
    refine Fin.by (fun tt_ kk_ => st116 tt_ kk_) ?_
    have N116_ := Fr.snoc X116 N113_ ga
    have kp117 : Keep h0 T103.heap [a] := (Keep.refl h0 [a]).trans p103_0 all0
    have kp118 : Keep h0 h113 [a] := kp117.wr W113 (Or.inl (List.mem_of_getElem? (i := 0) rfl))
    have kp119 : Keep h0 h116 [a] := kp118.wr W116 (Or.inl (List.mem_of_getElem? (i := 0) rfl))
    have E120 : Exa Z h116 a "java/lang/String" := (E115.wr W116)
    have F121 : Fld Z h116 a "java/lang/String" "coder" "B" (.int (0 : Int32)) := ((F111.same W113).other W116 (Or.inr (slot_ne (Or.inr (w_ hw 5 rfl)) (Or.inr (w_ hw 4 rfl)) (by decide) (t := .byte) (t' := (.array .byte)) (by decide) (by decide))))
    have ne122 : a ≠ t104 := Nat.ne_of_lt (Nat.lt_of_lt_of_le E0.lt p103_1)
    have A123 : Arv Z h116 t104 k105 .byte (2 : Int32) vs108 (.int (0 : Int32)) := ((p103_2.other W113 (Ne.symm ne122)).other W116 (Ne.symm ne122))
    show Fin _ _ _ _ _ _ _ (T116.setTop (mkF m 57 #[.val (.ref a), .val (.ref b), .val (.int 0), .val (.int 2), .val .null, .val (.ref t104)] []))
    exact Fin.ret (v := none) X116 (fun _ => rfl) Bd.notSynchronized (by rw [e116]; exact ⟨t104, k105, (0 : Int32), (2 : Int32), vs108, rfl, N116_, kp119, (Nat.le_trans (Nat.le_refl _) p103_1), E120, (F114.same W116), F121, A123, p103_3⟩) (by decide) (by decide) (fun fs hr => X116.returnOut hx Bd.returns (hb hby d_jdk_42_method_149_57) hr)
  · have hN2' : N107 = (4 : Int32) := hN2
    clear hN2
    subst hcd
    subst hN2'
    refine Fin.by (fun tt_ kk_ => XS.astore X103.here hx rfl (hb hby d_jdk_42_method_149_39) rfl rfl (l' := #[.val (.ref a), .val (.ref b), .val (.int 0), .val (.int 2), .val .null, .val (.ref t104)]) rfl (XS.aloadN X103.here hx rfl (hb hby d_jdk_42_method_149_41) rfl rfl (XS.aload X103.here hx rfl (hb hby d_jdk_42_method_149_42) rfl rfl (XS.iloadN X103.here hx rfl (hb hby d_jdk_42_method_149_44) rfl kk_)))) ?_
    have z124 : n0 ≤ T103.heap.size := Nat.le_trans Z0 p103_0.1
    obtain ⟨v125, _, ⟨T125, L125, k125, n125⟩, -, X125, ⟨Lc125, hQ125, l125, y125, z125⟩, st125⟩ := Jvm.LawKit.callS X103 hx (y := y_14) hown (mvT hZ (w_ hw 28 rfl)) (mvT hZ (w_ hw 29 rfl)) (mvT hZ (w_ hw 23 rfl)) (mvT hZ (w_ hw 30 rfl)) (by decide) (backOf (W := 1) (rm_cod_2_1 l Z a0 hw [] t104 k105 (vs108 : List Value) T103.heap n0 z124 p103_2) hZ (w_ hw 30 rfl) (w_ hw 23 rfl) (by decide) (by decide)) (g := (mkF m 45 #[.val (.ref a), .val (.ref b), .val (.int 0), .val (.int 2), .val .null, .val (.ref t104)] [(.int 2), (.ref t104), (.ref a)])) rfl (by rw [hml]; rfl) (argsL := [(.ref t104), (.int 2)]) (rest := [(.ref a)]) (lenOf pd_230 rfl) rfl (by show 2 * 0 + _ ≤ _; exact Nat.le_of_eq rfl) (hb hby d_jdk_42_method_149_45) (fun _ _ => ⟨rfl, rfl, (by decide : 2 + 0 ≤ _), (by decide : 6 + 0 ≤ _)⟩)
    dsimp only [Pt.U, Pt.locs, Pt.cells, Pt.slots] at X125 l125 y125 z125 st125 hQ125
    subst l125 y125 z125
    obtain ⟨rfl, Nq125, e125_⟩ := hQ125
    have N125_ := Fr.app N103_ Nq125
    refine Fin.by (fun tt_ kk_ => st125 tt_ kk_) ?_
    have e125 := e125_
    have F126 : Fld Z T103.heap a "java/lang/String" "coder" "B" (.int (0 : Int32)) := (F1.keep p103_0 nin0)
    have E127 : Exa Z T103.heap a "java/lang/String" := (E0.keep p103_0)
    obtain ⟨T128, h128, X128, e128, W128, st128⟩ := putFN X125 hx hZ hown (w_ hw 31 rfl) Via.refl e125 F126 E127 (Or.inr ⟨(w_ hw 5 rfl), rfl, hnm⟩) (w_ hw 2 rfl) (ty := .byte) (v' := .int (1 : Int32)) (by decide) rfl rfl (g := (mkF m 48 #[.val (.ref a), .val (.ref b), .val (.int 0), .val (.int 2), .val .null, .val (.ref t104)] [(.int (nar .byte 1)), (.ref a)])) rfl rfl (hb hby d_jdk_42_method_149_48)
    refine Fin.by (fun tt_ kk_ => st128 tt_ kk_) ?_
    have N128_ := Fr.snoc X128 N125_ ga
    refine Fin.by (fun tt_ kk_ => XS.aloadN X128.here hx rfl (hb hby d_jdk_42_method_149_51) rfl rfl (XS.aload X128.here hx rfl (hb hby d_jdk_42_method_149_52) rfl rfl kk_)) ?_
    have F129 : Fld Z h128 a "java/lang/String" "value" "[B" .null := ((F0.keep p103_0 nin0).other W128 (Or.inr (slot_ne (Or.inr (w_ hw 4 rfl)) (Or.inr (w_ hw 5 rfl)) (by decide) (t := (.array .byte)) (t' := .byte) (by decide) (by decide))))
    have E130 : Exa Z h128 a "java/lang/String" := (E127.wr W128)
    obtain ⟨T131, h131, X131, e131, W131, st131⟩ := putF X128 hx hZ hown (host := "") (Or.inl (w_ hw 32 rfl)) Via.refl e128 F129 E130 (Or.inr ⟨(w_ hw 4 rfl), rfl, hnm⟩) (w_ hw 2 rfl) (ty := (.array .byte)) (by decide) rfl rfl (g := (mkF m 54 #[.val (.ref a), .val (.ref b), .val (.int 0), .val (.int 2), .val .null, .val (.ref t104)] [(.ref t104), (.ref a)])) rfl rfl (hb hby d_jdk_42_method_149_54)
    refine Fin.by (fun tt_ kk_ => st131 tt_ kk_) ?_
    have N131_ := Fr.snoc X131 N128_ ga
    have kp132 : Keep h0 T103.heap [a] := (Keep.refl h0 [a]).trans p103_0 all0
    have kp133 : Keep h0 h128 [a] := kp132.wr W128 (Or.inl (List.mem_of_getElem? (i := 0) rfl))
    have kp134 : Keep h0 h131 [a] := kp133.wr W131 (Or.inl (List.mem_of_getElem? (i := 0) rfl))
    have E135 : Exa Z h131 a "java/lang/String" := (E130.wr W131)
    have F136 : Fld Z h131 a "java/lang/String" "coder" "B" (.int (1 : Int32)) := ((F126.same W128).other W131 (Or.inr (slot_ne (Or.inr (w_ hw 5 rfl)) (Or.inr (w_ hw 4 rfl)) (by decide) (t := .byte) (t' := (.array .byte)) (by decide) (by decide))))
    have ne137 : a ≠ t104 := Nat.ne_of_lt (Nat.lt_of_lt_of_le E0.lt p103_1)
    have A138 : Arv Z h131 t104 k105 .byte (4 : Int32) vs108 (.int (0 : Int32)) := ((p103_2.other W128 (Ne.symm ne137)).other W131 (Ne.symm ne137))
    show Fin _ _ _ _ _ _ _ (T131.setTop (mkF m 57 #[.val (.ref a), .val (.ref b), .val (.int 0), .val (.int 2), .val .null, .val (.ref t104)] []))
    exact Fin.ret (v := none) X131 (fun _ => rfl) Bd.notSynchronized (by rw [e131]; exact ⟨t104, k105, (1 : Int32), (4 : Int32), vs108, rfl, N131_, kp134, (Nat.le_trans (Nat.le_refl _) p103_1), E135, (F129.same W131), F136, A138, p103_3⟩) (by decide) (by decide) (fun fs hr => X131.returnOut hx Bd.returns (hb hby d_jdk_42_method_149_57) hr)
def Q_n1_2 (Z : State) (a : Addr) (b : Addr) (kb : ClassId) (c0 : Int32) (c1 : Int32) (G1 : Int32) (h0 : Heap) (n0 : Nat) (vv_ : Option Value) (hh_ : Heap) (LL_ : List Loc) : Prop := ∃ (t : Addr), ∃ (k : ClassId), ∃ (cd : Int32), ∃ (N2 : Int32), ∃ (vs : List Value), vv_ = none ∧ Fr n0 LL_ ∧ Keep h0 hh_ [a] ∧ h0.size ≤ t ∧ Exa Z hh_ a "java/lang/String" ∧ Fld Z hh_ a "java/lang/String" "value" "[B" (.ref t) ∧ Fld Z hh_ a "java/lang/String" "coder" "B" (.int cd) ∧ Arv Z hh_ t k .byte N2 vs (.int (0 : Int32)) ∧ (StrChars.Road.CodA ([c0, c1] : List Int32) cd N2 vs)
set_option maxRecDepth 65536 in
set_option maxHeartbeats 40000000 in
theorem rm_n1_2 (l : Launch) (Z : State) (a0 : Array Value) (hw : ∀ d ∈ tables_1, d.before a0 Z = true) (ws : List Jvm.Cond) (a : Addr) (b : Addr) (kb : ClassId) (c0 : Int32) (c1 : Int32) (G1 : Int32) (h0 : Heap) (n0 : Nat) (Z0 : n0 ≤ h0.size) (E0 : Exa Z h0 a "java/lang/String") (F0 : Fld Z h0 a "java/lang/String" "value" "[B" .null) (F1 : Fld Z h0 a "java/lang/String" "coder" "B" (.int (0 : Int32))) (ga : n0 ≤ a) (Ab : Arv Z h0 b kb .char (2 : Int32) [(.int c0), (.int c1)] (.int (0 : Int32))) (hb_0 : ¬ c0 < 0 ∧ ¬ (65535 : Int32) < c0) (hb_1 : ¬ c1 < 0 ∧ ¬ (65535 : Int32) < c1) (S1 : Sta Z Z.heap "java/lang/String" "COMPACT_STRINGS" "Z" (.int G1)) (P1 : ¬ G1 = 0) (S6 : Sta Z Z.heap "java/lang/StringUTF16" "$assertionsDisabled" "Z" (.int (1 : Int32))) (S7 : Sta Z Z.heap "java/lang/StringUTF16" "HI_BYTE_SHIFT" "I" (.int (0 : Int32))) (S8 : Sta Z Z.heap "java/lang/StringUTF16" "LO_BYTE_SHIFT" "I" (.int (8 : Int32))) (OL : Old Z n0 h0) :
    MetFree l (⟨"java/lang/String", "<init>", "([C)V"⟩ : MethodName) (head1 (Jvm.Cond.code (⟨"java/lang/String", "<init>", "([C)V"⟩ : MethodName) jdk_42_method_3_code 2 none :: ws) ({ frames := 5, cells := 2, slots := 6, locals := 74 } : Room)) (fun aa_ U => aa_ = #[(.ref a), (.ref b)] ∧ Z.Warmed39 U.vm ∧ U.heap = h0) (fun _ _ _ _ _ => True) (fun _ U o U' => ∃ vv_ LL_, o = .returned vv_ ∧ Q_n1_2 Z a b kb c0 c1 G1 h0 n0 vv_ U'.heap LL_ ∧ FrameEnd U o U' LL_ 2 6) := by
  refine MetFree.of_bodySF (plainFor_of_name pn_java_lang_String) hisR ?_
  intro p e s m args below meth c s₁ Bd hml0 hP hK
  obtain ⟨rfl, hZ, hh⟩ := hP
  have hx := Bd.exec
  have hby := Bd.bytes
  have hml : c.maxLocals = 2 := hml0
  have hown : s.vm.findClass "java/lang/String" = some m.cls := findClass_of_methodNamed Bd.named
  have hnm := (name_of_methodNamed Bd.named Bd.method).1
  have X0 : Stand p l e ({ frames := 5, cells := 2, slots := 6, locals := 74 } : Room) s m #[(.ref a), (.ref b)] below meth c s₁ [] 0 0 := Stand.of_body Bd
  have e0 : s₁.heap = h0 := by rw [← hh, Bd.state]; rfl
  have N0 := Fr.nil n0
  have ef : entryFrame m #[(.ref a), (.ref b)] 2 = mkF m 0 #[.val (.ref a), .val (.ref b)] [] := by first | (simp [entryFrame, mkF, argsToLocals, Value.category]; done) | rfl
  refine Fin.start (Q := Q_n1_2 Z a b kb c0 c1 G1 h0 n0) ef ?_
  refine Fin.by (fun tt_ kk_ => XS.aloadN X0.here hx rfl (hb hby d_jdk_42_method_3_0) rfl rfl (XS.aloadN X0.here hx rfl (hb hby d_jdk_42_method_3_1) rfl rfl (XS.iconst X0.here hx rfl (hb hby d_jdk_42_method_3_2) (XS.aloadN X0.here hx rfl (hb hby d_jdk_42_method_3_3) rfl rfl kk_)))) ?_
  obtain ⟨cl101, Ar101, q101, S101, N101, H101, G101⟩ := id Ab
  refine Fin.by (fun tt_ kk_ => X0.arraylength hx (by rw [e0]; exact Ar101.1) (State.isArrayOf_alike hZ.alike Ar101.2.1) (g := (mkF m 4 #[.val (.ref a), .val (.ref b)] [(.ref b), (.int 0), (.ref b), (.ref a)])) rfl rfl (hb hby d_jdk_42_method_3_4) _ kk_) ?_
  rw [len_of S101 N101]
  refine Fin.by (fun tt_ kk_ => XS.aconstNull X0.here hx rfl (hb hby d_jdk_42_method_3_5) kk_) ?_
  obtain ⟨v102, _, ⟨T102, L102, k102, n102⟩, -, X102, ⟨Lc102, hQ102, l102, y102, z102⟩, st102⟩ := X0.specialBack hx (y := y_15) rfl hown (mvT hZ (w_ hw 13 rfl)) (mvT hZ (w_ hw 14 rfl)) (mvT hZ (w_ hw 16 rfl)) (by decide) (backOf (W := 0) (rm_n4_2 l Z a0 hw [] a b kb c0 c1 G1 h0 n0 Z0 E0 F0 F1 ga Ab hb_0 hb_1 S1 P1 S6 S7 S8 OL) hZ (w_ hw 16 rfl) (w_ hw 1 rfl) (by decide) (by decide)) (g := (mkF m 6 #[.val (.ref a), .val (.ref b)] [.null, (.int 2), (.int 0), (.ref b), (.ref a)])) rfl (by rw [hml]; rfl) (Steps.refl _) (a := a) (argsL := [(.ref b), (.int 0), (.int 2), .null]) (rest := []) (lenOf pd_243 rfl) rfl (by show 2 * 0 + _ ≤ _; exact Nat.le_of_eq rfl) (hb hby d_jdk_42_method_3_6) (fun _ _ => ⟨rfl, e0, (by decide : 0 + 2 ≤ _), (by decide : 0 + 6 ≤ _)⟩)
  dsimp only [Pt.U, Pt.locs, Pt.cells, Pt.slots] at X102 l102 y102 z102 st102 hQ102
  subst l102 y102 z102
  obtain ⟨t103, k104, cd105, N106, vs107, rfl, Nq102, p102_0, p102_1, p102_2, p102_3, p102_4, p102_5, p102_6⟩ := hQ102
  have N102_ := Fr.app N0 Nq102
  refine Fin.byS st102 ?_
  have kp108 : Keep h0 T102.heap [a] := (Keep.refl h0 [a]).trans p102_0 (allS (Or.inl (List.mem_of_getElem? (i := 0) rfl)) all0)
  show Fin _ _ _ _ _ _ _ (T102.setTop (mkF m 9 #[.val (.ref a), .val (.ref b)] []))
  exact Fin.ret (v := none) X102 (fun _ => rfl) Bd.notSynchronized (⟨t103, k104, cd105, N106, vs107, rfl, N102_, kp108, (Nat.le_trans (Nat.le_refl _) p102_1), p102_2, p102_3, p102_4, p102_5, p102_6⟩) (by decide) (by decide) (fun fs hr => X102.returnOut hx Bd.returns (hb hby d_jdk_42_method_3_9) hr)
def Q_c5_3 (Z : State) (b : Addr) (kb : ClassId) (d : Addr) (kd : ClassId) (c0 : Int32) (c1 : Int32) (c2 : Int32) (h0 : Heap) (n0 : Nat) (vv_ : Option Value) (hh_ : Heap) (LL_ : List Loc) : Prop := ∃ (r : Int32), ∃ (vs : List Value), vv_ = some (.int r) ∧ Fr n0 LL_ ∧ Keep h0 hh_ [d] ∧ Arv Z hh_ d kd .byte (3 : Int32) vs (.int (0 : Int32)) ∧ ((r = (3 : Int32) ∧ vs = [(.int ((c0.toInt8.toInt32).toInt8.toInt32)), (.int ((c1.toInt8.toInt32).toInt8.toInt32)), (.int ((c2.toInt8.toInt32).toInt8.toInt32))] ∧ ¬ (255 : Int32) < c0 ∧ ¬ (255 : Int32) < c1 ∧ ¬ (255 : Int32) < c2) ∨ (r = (0 : Int32) ∧ (255 : Int32) < c0) ∨ (r = (1 : Int32) ∧ (255 : Int32) < c1) ∨ (r = (2 : Int32) ∧ (255 : Int32) < c2))
set_option maxRecDepth 65536 in
set_option maxHeartbeats 40000000 in
theorem rm_c5_3 (l : Launch) (Z : State) (a0 : Array Value) (hw : ∀ d ∈ tables_1, d.before a0 Z = true) (ws : List Jvm.Cond) (b : Addr) (kb : ClassId) (d : Addr) (kd : ClassId) (c0 : Int32) (c1 : Int32) (c2 : Int32) (h0 : Heap) (n0 : Nat) (Z0 : n0 ≤ h0.size) (Ab : Arv Z h0 b kb .char (3 : Int32) [(.int c0), (.int c1), (.int c2)] (.int (0 : Int32))) (Ad : Arv Z h0 d kd .byte (3 : Int32) [(.int (0 : Int32)), (.int (0 : Int32)), (.int (0 : Int32))] (.int (0 : Int32))) (gd : n0 ≤ d) (nbd : b ≠ d) :
    MetFree l (⟨"java/lang/StringUTF16", "compress", "([CI[BII)I"⟩ : MethodName) (head1 (Jvm.Cond.code (⟨"java/lang/StringUTF16", "compress", "([CI[BII)I"⟩ : MethodName) jdk_52_method_21_code 7 (some .int) :: ws) ({ frames := 0, cells := 0, slots := 0, locals := 0 } : Room)) (fun aa_ U => aa_ = #[(.ref b), (.int (0 : Int32)), (.ref d), (.int (0 : Int32)), (.int (3 : Int32))] ∧ Z.Warmed39 U.vm ∧ U.heap = h0) (fun _ _ _ _ _ => True) (fun _ U o U' => ∃ vv_ LL_, o = .returned vv_ ∧ Q_c5_3 Z b kb d kd c0 c1 c2 h0 n0 vv_ U'.heap LL_ ∧ FrameEnd U o U' LL_ 0 0) := by
  refine MetFree.of_bodySF (plainFor_of_name pn_java_lang_StringUTF16) hisR ?_
  intro p e s m args below meth c s₁ Bd hml0 hP hK
  obtain ⟨rfl, hZ, hh⟩ := hP
  have hx := Bd.exec
  have hby := Bd.bytes
  have hml : c.maxLocals = 7 := hml0
  have hown : s.vm.findClass "java/lang/StringUTF16" = some m.cls := findClass_of_methodNamed Bd.named
  have hnm := (name_of_methodNamed Bd.named Bd.method).1
  have X0 : Stand p l e ({ frames := 0, cells := 0, slots := 0, locals := 0 } : Room) s m #[(.ref b), (.int (0 : Int32)), (.ref d), (.int (0 : Int32)), (.int (3 : Int32))] below meth c s₁ [] 0 0 := Stand.of_body Bd
  have e0 : s₁.heap = h0 := by rw [← hh, Bd.state]; rfl
  have N0 := Fr.nil n0
  have ef : entryFrame m #[(.ref b), (.int (0 : Int32)), (.ref d), (.int (0 : Int32)), (.int (3 : Int32))] 7 = mkF m 0 #[.val (.ref b), .val (.int (0 : Int32)), .val (.ref d), .val (.int (0 : Int32)), .val (.int (3 : Int32)), .unset, .unset] [] := by first | (simp [entryFrame, mkF, argsToLocals, Value.category]; done) | rfl
  refine Fin.start (Q := Q_c5_3 Z b kb d kd c0 c1 c2 h0 n0) ef ?_
  refine Fin.by (fun tt_ kk_ => XS.iconst X0.here hx rfl (hb hby d_jdk_52_method_21_0) (XS.istore X0.here hx rfl (hb hby d_jdk_52_method_21_1) rfl (l' := #[.val (.ref b), .val (.int 0), .val (.ref d), .val (.int 0), .val (.int 3), .val (.int 0), .unset]) rfl (XS.iload X0.here hx rfl (hb hby d_jdk_52_method_21_3) rfl (XS.iload X0.here hx rfl (hb hby d_jdk_52_method_21_5) rfl kk_)))) ?_
  show Fin _ _ _ _ _ _ _ (s₁.setTop (mkF m 7 #[.val (.ref b), .val (.int 0), .val (.ref d), .val (.int 0), .val (.int 3), .val (.int 0), .unset] [(.int 3), (.int 0)]))
  refine Fin.by (fun tt_ kk_ => XS.icmpNo X0.here hx rfl (hb hby d_jdk_52_method_21_7) rfl (tlt (by decide : (0 : Int32) < (3 : Int32))).2.1 kk_) ?_
  refine Fin.by (fun tt_ kk_ => XS.aloadN X0.here hx rfl (hb hby d_jdk_52_method_21_10) rfl rfl (XS.iloadN X0.here hx rfl (hb hby d_jdk_52_method_21_11) rfl kk_)) ?_
  obtain ⟨cl101, Ar101, q101, S101, N101, H101, G101⟩ := id Ab
  have hin101 : ¬ ((0 : Int32) < 0 ∨ cl101.slots.size ≤ (0 : Int32).toNatClampNeg) := inb_of S101 ⟨by decide, by decide⟩
  refine Fin.by (fun tt_ kk_ => X0.caload hx (j := (0 : Int32)) (v := (.int c0)) (by rw [e0]; exact Ar101.1) (State.isArrayOf_alike hZ.alike Ar101.2.1) Ar101.2.2 hin101 (Has.at H101 hin101 rfl) (g := (mkF m 12 #[.val (.ref b), .val (.int 0), .val (.ref d), .val (.int 0), .val (.int 3), .val (.int 0), .unset] [(.int 0), (.ref b)])) rfl rfl (hb hby d_jdk_52_method_21_12) _ kk_) ?_
  refine Fin.by (fun tt_ kk_ => XS.istore X0.here hx rfl (hb hby d_jdk_52_method_21_13) rfl (l' := #[.val (.ref b), .val (.int 0), .val (.ref d), .val (.int 0), .val (.int 3), .val (.int 0), .val (.int c0)]) rfl (XS.iload X0.here hx rfl (hb hby d_jdk_52_method_21_15) rfl (XS.sipush X0.here hx rfl (hb hby d_jdk_52_method_21_17) kk_))) ?_
  show Fin _ _ _ _ _ _ _ (s₁.setTop (mkF m 20 #[.val (.ref b), .val (.int 0), .val (.ref d), .val (.int 0), .val (.int 3), .val (.int 0), .val (.int c0)] [(.int 255), (.int c0)]))
  by_cases hx_0 : (255 : Int32) < c0
  · refine Fin.by (fun tt_ kk_ => XS.icmpNo X0.here hx rfl (hb hby d_jdk_52_method_21_20) rfl (tlt hx_0).2.2.2 kk_) ?_
    refine Fin.by (fun tt_ kk_ => XS.iload X0.here hx rfl (hb hby d_jdk_52_method_21_23) rfl kk_) ?_
    show Fin _ _ _ _ _ _ _ (s₁.setTop (mkF m 25 #[.val (.ref b), .val (.int 0), .val (.ref d), .val (.int 0), .val (.int 3), .val (.int 0), .val (.int c0)] [(.int 0)]))
    exact Fin.ret (v := some (.int (0 : Int32))) X0 (fun h => by rw [Bd.returns] at h; cases h) Bd.notSynchronized (by rw [e0]; exact ⟨(0 : Int32), [(.int (0 : Int32)), (.int (0 : Int32)), (.int (0 : Int32))], rfl, N0, (Keep.refl h0 [d]), Ad, (Or.inr (Or.inl ⟨rfl, hx_0⟩))⟩) (by decide) (by decide) (fun fs hr => retI X0 hx Bd.returns (hb hby d_jdk_52_method_21_25) hr)
  · refine Fin.by (fun tt_ kk_ => XS.icmpYes X0.here hx rfl (pc0 := 20) (pc' := 26) rfl (hb hby d_jdk_52_method_21_20) rfl (flt hx_0).2.2.2 (by decide) (by decide) kk_) ?_
    refine Fin.by (fun tt_ kk_ => XS.aloadN X0.here hx rfl (hb hby d_jdk_52_method_21_26) rfl rfl (XS.iloadN X0.here hx rfl (hb hby d_jdk_52_method_21_27) rfl (XS.iload X0.here hx rfl (hb hby d_jdk_52_method_21_28) rfl (XS.i2b X0.here hx rfl (hb hby d_jdk_52_method_21_30) rfl kk_)))) ?_
    obtain ⟨cl102, Ar102, q102, S102, N102, H102, G102⟩ := id Ad
    obtain ⟨T102, h102, X102, e102, W102, st102⟩ := stB X0 hx hZ e0 Ar102 (j := (0 : Int32)) (inb_of S102 ⟨by decide, by decide⟩) (g := (mkF m 31 #[.val (.ref b), .val (.int 0), .val (.ref d), .val (.int 0), .val (.int 3), .val (.int 0), .val (.int c0)] [(.int (c0.toInt8.toInt32)), (.int 0), (.ref d)])) rfl rfl (hb hby d_jdk_52_method_21_31)
    have V102 : Arv Z h102 d kd .byte (3 : Int32) [(.int ((c0.toInt8.toInt32).toInt8.toInt32)), (.int (0 : Int32)), (.int (0 : Int32))] (.int (0 : Int32)) := Arv.set Ar102 q102 S102 N102 H102 G102 (fits_nar_byte _) W102 0 rfl (Nat.le_of_ble_eq_true rfl)
    refine Fin.by (fun tt_ kk_ => st102 tt_ kk_) ?_
    have N102_ := Fr.snoc X102 N0 gd
    refine Fin.by (fun tt_ kk_ => XS.iinc X102.here hx rfl (hb hby d_jdk_52_method_21_32) rfl (l' := #[.val (.ref b), .val (.int 1), .val (.ref d), .val (.int 0), .val (.int 3), .val (.int 0), .val (.int c0)]) rfl (XS.iinc X102.here hx rfl (hb hby d_jdk_52_method_21_35) rfl (l' := #[.val (.ref b), .val (.int 1), .val (.ref d), .val (.int 1), .val (.int 3), .val (.int 0), .val (.int c0)]) rfl (XS.iinc X102.here hx rfl (hb hby d_jdk_52_method_21_38) rfl (l' := #[.val (.ref b), .val (.int 1), .val (.ref d), .val (.int 1), .val (.int 3), .val (.int 1), .val (.int c0)]) rfl (XS.goto X102.here hx rfl (pc0 := 41) (pc' := 3) rfl (hb hby d_jdk_52_method_21_41) (by decide) (by decide) (XS.iload X102.here hx rfl (hb hby d_jdk_52_method_21_3) rfl (XS.iload X102.here hx rfl (hb hby d_jdk_52_method_21_5) rfl kk_)))))) ?_
    show Fin _ _ _ _ _ _ _ (T102.setTop (mkF m 7 #[.val (.ref b), .val (.int 1), .val (.ref d), .val (.int 1), .val (.int 3), .val (.int 1), .val (.int c0)] [(.int 3), (.int 1)]))
    refine Fin.by (fun tt_ kk_ => XS.icmpNo X102.here hx rfl (hb hby d_jdk_52_method_21_7) rfl (tlt (by decide : (1 : Int32) < (3 : Int32))).2.1 kk_) ?_
    refine Fin.by (fun tt_ kk_ => XS.aloadN X102.here hx rfl (hb hby d_jdk_52_method_21_10) rfl rfl (XS.iloadN X102.here hx rfl (hb hby d_jdk_52_method_21_11) rfl kk_)) ?_
    have A103 : Arv Z h102 b kb .char (3 : Int32) [(.int c0), (.int c1), (.int c2)] (.int (0 : Int32)) := (Ab.other W102 nbd)
    obtain ⟨cl104, Ar104, q104, S104, N104, H104, G104⟩ := id A103
    have hin104 : ¬ ((1 : Int32) < 0 ∨ cl104.slots.size ≤ (1 : Int32).toNatClampNeg) := inb_of S104 ⟨by decide, by decide⟩
    refine Fin.by (fun tt_ kk_ => X102.caload hx (j := (1 : Int32)) (v := (.int c1)) (by rw [e102]; exact Ar104.1) (State.isArrayOf_alike hZ.alike Ar104.2.1) Ar104.2.2 hin104 (Has.at H104 hin104 rfl) (g := (mkF m 12 #[.val (.ref b), .val (.int 1), .val (.ref d), .val (.int 1), .val (.int 3), .val (.int 1), .val (.int c0)] [(.int 1), (.ref b)])) rfl rfl (hb hby d_jdk_52_method_21_12) _ kk_) ?_
    refine Fin.by (fun tt_ kk_ => XS.istore X102.here hx rfl (hb hby d_jdk_52_method_21_13) rfl (l' := #[.val (.ref b), .val (.int 1), .val (.ref d), .val (.int 1), .val (.int 3), .val (.int 1), .val (.int c1)]) rfl (XS.iload X102.here hx rfl (hb hby d_jdk_52_method_21_15) rfl (XS.sipush X102.here hx rfl (hb hby d_jdk_52_method_21_17) kk_))) ?_
    show Fin _ _ _ _ _ _ _ (T102.setTop (mkF m 20 #[.val (.ref b), .val (.int 1), .val (.ref d), .val (.int 1), .val (.int 3), .val (.int 1), .val (.int c1)] [(.int 255), (.int c1)]))
    by_cases hx_1 : (255 : Int32) < c1
    · refine Fin.by (fun tt_ kk_ => XS.icmpNo X102.here hx rfl (hb hby d_jdk_52_method_21_20) rfl (tlt hx_1).2.2.2 kk_) ?_
      refine Fin.by (fun tt_ kk_ => XS.iload X102.here hx rfl (hb hby d_jdk_52_method_21_23) rfl kk_) ?_
      have kp105 : Keep h0 h102 [d] := (Keep.refl h0 [d]).wr W102 (Or.inl (List.mem_of_getElem? (i := 0) rfl))
      show Fin _ _ _ _ _ _ _ (T102.setTop (mkF m 25 #[.val (.ref b), .val (.int 1), .val (.ref d), .val (.int 1), .val (.int 3), .val (.int 1), .val (.int c1)] [(.int 1)]))
      exact Fin.ret (v := some (.int (1 : Int32))) X102 (fun h => by rw [Bd.returns] at h; cases h) Bd.notSynchronized (by rw [e102]; exact ⟨(1 : Int32), [(.int ((c0.toInt8.toInt32).toInt8.toInt32)), (.int (0 : Int32)), (.int (0 : Int32))], rfl, N102_, kp105, V102, (Or.inr (Or.inr (Or.inl ⟨rfl, hx_1⟩)))⟩) (by decide) (by decide) (fun fs hr => retI X102 hx Bd.returns (hb hby d_jdk_52_method_21_25) hr)
    · refine Fin.by (fun tt_ kk_ => XS.icmpYes X102.here hx rfl (pc0 := 20) (pc' := 26) rfl (hb hby d_jdk_52_method_21_20) rfl (flt hx_1).2.2.2 (by decide) (by decide) kk_) ?_
      refine Fin.by (fun tt_ kk_ => XS.aloadN X102.here hx rfl (hb hby d_jdk_52_method_21_26) rfl rfl (XS.iloadN X102.here hx rfl (hb hby d_jdk_52_method_21_27) rfl (XS.iload X102.here hx rfl (hb hby d_jdk_52_method_21_28) rfl (XS.i2b X102.here hx rfl (hb hby d_jdk_52_method_21_30) rfl kk_)))) ?_
      obtain ⟨cl106, Ar106, q106, S106, N106, H106, G106⟩ := id V102
      obtain ⟨T106, h106, X106, e106, W106, st106⟩ := stB X102 hx hZ e102 Ar106 (j := (1 : Int32)) (inb_of S106 ⟨by decide, by decide⟩) (g := (mkF m 31 #[.val (.ref b), .val (.int 1), .val (.ref d), .val (.int 1), .val (.int 3), .val (.int 1), .val (.int c1)] [(.int (c1.toInt8.toInt32)), (.int 1), (.ref d)])) rfl rfl (hb hby d_jdk_52_method_21_31)
      have V106 : Arv Z h106 d kd .byte (3 : Int32) [(.int ((c0.toInt8.toInt32).toInt8.toInt32)), (.int ((c1.toInt8.toInt32).toInt8.toInt32)), (.int (0 : Int32))] (.int (0 : Int32)) := Arv.set Ar106 q106 S106 N106 H106 G106 (fits_nar_byte _) W106 1 rfl (Nat.le_of_ble_eq_true rfl)
      refine Fin.by (fun tt_ kk_ => st106 tt_ kk_) ?_
      have N106_ := Fr.snoc X106 N102_ gd
      refine Fin.by (fun tt_ kk_ => XS.iinc X106.here hx rfl (hb hby d_jdk_52_method_21_32) rfl (l' := #[.val (.ref b), .val (.int 2), .val (.ref d), .val (.int 1), .val (.int 3), .val (.int 1), .val (.int c1)]) rfl (XS.iinc X106.here hx rfl (hb hby d_jdk_52_method_21_35) rfl (l' := #[.val (.ref b), .val (.int 2), .val (.ref d), .val (.int 2), .val (.int 3), .val (.int 1), .val (.int c1)]) rfl (XS.iinc X106.here hx rfl (hb hby d_jdk_52_method_21_38) rfl (l' := #[.val (.ref b), .val (.int 2), .val (.ref d), .val (.int 2), .val (.int 3), .val (.int 2), .val (.int c1)]) rfl (XS.goto X106.here hx rfl (pc0 := 41) (pc' := 3) rfl (hb hby d_jdk_52_method_21_41) (by decide) (by decide) (XS.iload X106.here hx rfl (hb hby d_jdk_52_method_21_3) rfl (XS.iload X106.here hx rfl (hb hby d_jdk_52_method_21_5) rfl kk_)))))) ?_
      show Fin _ _ _ _ _ _ _ (T106.setTop (mkF m 7 #[.val (.ref b), .val (.int 2), .val (.ref d), .val (.int 2), .val (.int 3), .val (.int 2), .val (.int c1)] [(.int 3), (.int 2)]))
      refine Fin.by (fun tt_ kk_ => XS.icmpNo X106.here hx rfl (hb hby d_jdk_52_method_21_7) rfl (tlt (by decide : (2 : Int32) < (3 : Int32))).2.1 kk_) ?_
      refine Fin.by (fun tt_ kk_ => XS.aloadN X106.here hx rfl (hb hby d_jdk_52_method_21_10) rfl rfl (XS.iloadN X106.here hx rfl (hb hby d_jdk_52_method_21_11) rfl kk_)) ?_
      have A107 : Arv Z h106 b kb .char (3 : Int32) [(.int c0), (.int c1), (.int c2)] (.int (0 : Int32)) := (A103.other W106 nbd)
      obtain ⟨cl108, Ar108, q108, S108, N108, H108, G108⟩ := id A107
      have hin108 : ¬ ((2 : Int32) < 0 ∨ cl108.slots.size ≤ (2 : Int32).toNatClampNeg) := inb_of S108 ⟨by decide, by decide⟩
      refine Fin.by (fun tt_ kk_ => X106.caload hx (j := (2 : Int32)) (v := (.int c2)) (by rw [e106]; exact Ar108.1) (State.isArrayOf_alike hZ.alike Ar108.2.1) Ar108.2.2 hin108 (Has.at H108 hin108 rfl) (g := (mkF m 12 #[.val (.ref b), .val (.int 2), .val (.ref d), .val (.int 2), .val (.int 3), .val (.int 2), .val (.int c1)] [(.int 2), (.ref b)])) rfl rfl (hb hby d_jdk_52_method_21_12) _ kk_) ?_
      refine Fin.by (fun tt_ kk_ => XS.istore X106.here hx rfl (hb hby d_jdk_52_method_21_13) rfl (l' := #[.val (.ref b), .val (.int 2), .val (.ref d), .val (.int 2), .val (.int 3), .val (.int 2), .val (.int c2)]) rfl (XS.iload X106.here hx rfl (hb hby d_jdk_52_method_21_15) rfl (XS.sipush X106.here hx rfl (hb hby d_jdk_52_method_21_17) kk_))) ?_
      show Fin _ _ _ _ _ _ _ (T106.setTop (mkF m 20 #[.val (.ref b), .val (.int 2), .val (.ref d), .val (.int 2), .val (.int 3), .val (.int 2), .val (.int c2)] [(.int 255), (.int c2)]))
      by_cases hx_2 : (255 : Int32) < c2
      · refine Fin.by (fun tt_ kk_ => XS.icmpNo X106.here hx rfl (hb hby d_jdk_52_method_21_20) rfl (tlt hx_2).2.2.2 kk_) ?_
        refine Fin.by (fun tt_ kk_ => XS.iload X106.here hx rfl (hb hby d_jdk_52_method_21_23) rfl kk_) ?_
        have kp109 : Keep h0 h102 [d] := (Keep.refl h0 [d]).wr W102 (Or.inl (List.mem_of_getElem? (i := 0) rfl))
        have kp110 : Keep h0 h106 [d] := kp109.wr W106 (Or.inl (List.mem_of_getElem? (i := 0) rfl))
        show Fin _ _ _ _ _ _ _ (T106.setTop (mkF m 25 #[.val (.ref b), .val (.int 2), .val (.ref d), .val (.int 2), .val (.int 3), .val (.int 2), .val (.int c2)] [(.int 2)]))
        exact Fin.ret (v := some (.int (2 : Int32))) X106 (fun h => by rw [Bd.returns] at h; cases h) Bd.notSynchronized (by rw [e106]; exact ⟨(2 : Int32), [(.int ((c0.toInt8.toInt32).toInt8.toInt32)), (.int ((c1.toInt8.toInt32).toInt8.toInt32)), (.int (0 : Int32))], rfl, N106_, kp110, V106, (Or.inr (Or.inr (Or.inr ⟨rfl, hx_2⟩)))⟩) (by decide) (by decide) (fun fs hr => retI X106 hx Bd.returns (hb hby d_jdk_52_method_21_25) hr)
      · refine Fin.by (fun tt_ kk_ => XS.icmpYes X106.here hx rfl (pc0 := 20) (pc' := 26) rfl (hb hby d_jdk_52_method_21_20) rfl (flt hx_2).2.2.2 (by decide) (by decide) kk_) ?_
        refine Fin.by (fun tt_ kk_ => XS.aloadN X106.here hx rfl (hb hby d_jdk_52_method_21_26) rfl rfl (XS.iloadN X106.here hx rfl (hb hby d_jdk_52_method_21_27) rfl (XS.iload X106.here hx rfl (hb hby d_jdk_52_method_21_28) rfl (XS.i2b X106.here hx rfl (hb hby d_jdk_52_method_21_30) rfl kk_)))) ?_
        obtain ⟨cl111, Ar111, q111, S111, N111, H111, G111⟩ := id V106
        obtain ⟨T111, h111, X111, e111, W111, st111⟩ := stB X106 hx hZ e106 Ar111 (j := (2 : Int32)) (inb_of S111 ⟨by decide, by decide⟩) (g := (mkF m 31 #[.val (.ref b), .val (.int 2), .val (.ref d), .val (.int 2), .val (.int 3), .val (.int 2), .val (.int c2)] [(.int (c2.toInt8.toInt32)), (.int 2), (.ref d)])) rfl rfl (hb hby d_jdk_52_method_21_31)
        have V111 : Arv Z h111 d kd .byte (3 : Int32) [(.int ((c0.toInt8.toInt32).toInt8.toInt32)), (.int ((c1.toInt8.toInt32).toInt8.toInt32)), (.int ((c2.toInt8.toInt32).toInt8.toInt32))] (.int (0 : Int32)) := Arv.set Ar111 q111 S111 N111 H111 G111 (fits_nar_byte _) W111 2 rfl (Nat.le_of_ble_eq_true rfl)
        refine Fin.by (fun tt_ kk_ => st111 tt_ kk_) ?_
        have N111_ := Fr.snoc X111 N106_ gd
        refine Fin.by (fun tt_ kk_ => XS.iinc X111.here hx rfl (hb hby d_jdk_52_method_21_32) rfl (l' := #[.val (.ref b), .val (.int 3), .val (.ref d), .val (.int 2), .val (.int 3), .val (.int 2), .val (.int c2)]) rfl (XS.iinc X111.here hx rfl (hb hby d_jdk_52_method_21_35) rfl (l' := #[.val (.ref b), .val (.int 3), .val (.ref d), .val (.int 3), .val (.int 3), .val (.int 2), .val (.int c2)]) rfl (XS.iinc X111.here hx rfl (hb hby d_jdk_52_method_21_38) rfl (l' := #[.val (.ref b), .val (.int 3), .val (.ref d), .val (.int 3), .val (.int 3), .val (.int 3), .val (.int c2)]) rfl (XS.goto X111.here hx rfl (pc0 := 41) (pc' := 3) rfl (hb hby d_jdk_52_method_21_41) (by decide) (by decide) (XS.iload X111.here hx rfl (hb hby d_jdk_52_method_21_3) rfl (XS.iload X111.here hx rfl (hb hby d_jdk_52_method_21_5) rfl kk_)))))) ?_
        show Fin _ _ _ _ _ _ _ (T111.setTop (mkF m 7 #[.val (.ref b), .val (.int 3), .val (.ref d), .val (.int 3), .val (.int 3), .val (.int 3), .val (.int c2)] [(.int 3), (.int 3)]))
        refine Fin.by (fun tt_ kk_ => XS.icmpYes X111.here hx rfl (pc0 := 7) (pc' := 44) rfl (hb hby d_jdk_52_method_21_7) rfl (flt (by decide : ¬ (3 : Int32) < (3 : Int32))).2.1 (by decide) (by decide) kk_) ?_
        refine Fin.by (fun tt_ kk_ => XS.iload X111.here hx rfl (hb hby d_jdk_52_method_21_44) rfl kk_) ?_
        have kp112 : Keep h0 h102 [d] := (Keep.refl h0 [d]).wr W102 (Or.inl (List.mem_of_getElem? (i := 0) rfl))
        have kp113 : Keep h0 h106 [d] := kp112.wr W106 (Or.inl (List.mem_of_getElem? (i := 0) rfl))
        have kp114 : Keep h0 h111 [d] := kp113.wr W111 (Or.inl (List.mem_of_getElem? (i := 0) rfl))
        show Fin _ _ _ _ _ _ _ (T111.setTop (mkF m 46 #[.val (.ref b), .val (.int 3), .val (.ref d), .val (.int 3), .val (.int 3), .val (.int 3), .val (.int c2)] [(.int 3)]))
        exact Fin.ret (v := some (.int (3 : Int32))) X111 (fun h => by rw [Bd.returns] at h; cases h) Bd.notSynchronized (by rw [e111]; exact ⟨(3 : Int32), [(.int ((c0.toInt8.toInt32).toInt8.toInt32)), (.int ((c1.toInt8.toInt32).toInt8.toInt32)), (.int ((c2.toInt8.toInt32).toInt8.toInt32))], rfl, N111_, kp114, V111, (Or.inl ⟨rfl, rfl, hx_0, hx_1, hx_2⟩)⟩) (by decide) (by decide) (fun fs hr => retI X111 hx Bd.returns (hb hby d_jdk_52_method_21_46) hr)
def Q_nbl_3 (Z : State)  (h0 : Heap) (n0 : Nat) (vv_ : Option Value) (hh_ : Heap) (LL_ : List Loc) : Prop := vv_ = some (.int (6 : Int32)) ∧ Fr n0 LL_ ∧ hh_ = h0
set_option maxRecDepth 65536 in
set_option maxHeartbeats 40000000 in
theorem rm_nbl_3 (l : Launch) (Z : State) (a0 : Array Value) (hw : ∀ d ∈ tables_1, d.before a0 Z = true) (ws : List Jvm.Cond)  (h0 : Heap) (n0 : Nat) (Z0 : n0 ≤ h0.size) :
    MetFree l (⟨"java/lang/StringUTF16", "newBytesLength", "(I)I"⟩ : MethodName) (head1 (Jvm.Cond.code (⟨"java/lang/StringUTF16", "newBytesLength", "(I)I"⟩ : MethodName) jdk_52_method_3_code 1 (some .int) :: ws) ({ frames := 0, cells := 0, slots := 0, locals := 0 } : Room)) (fun aa_ U => aa_ = #[(.int (3 : Int32))] ∧ Z.Warmed39 U.vm ∧ U.heap = h0) (fun _ _ _ _ _ => True) (fun _ U o U' => ∃ vv_ LL_, o = .returned vv_ ∧ Q_nbl_3 Z  h0 n0 vv_ U'.heap LL_ ∧ FrameEnd U o U' LL_ 0 0) := by
  refine MetFree.of_bodySF (plainFor_of_name pn_java_lang_StringUTF16) hisR ?_
  intro p e s m args below meth c s₁ Bd hml0 hP hK
  obtain ⟨rfl, hZ, hh⟩ := hP
  have hx := Bd.exec
  have hby := Bd.bytes
  have hml : c.maxLocals = 1 := hml0
  have hown : s.vm.findClass "java/lang/StringUTF16" = some m.cls := findClass_of_methodNamed Bd.named
  have hnm := (name_of_methodNamed Bd.named Bd.method).1
  have X0 : Stand p l e ({ frames := 0, cells := 0, slots := 0, locals := 0 } : Room) s m #[(.int (3 : Int32))] below meth c s₁ [] 0 0 := Stand.of_body Bd
  have e0 : s₁.heap = h0 := by rw [← hh, Bd.state]; rfl
  have N0 := Fr.nil n0
  have ef : entryFrame m #[(.int (3 : Int32))] 1 = mkF m 0 #[.val (.int (3 : Int32))] [] := by first | (simp [entryFrame, mkF, argsToLocals, Value.category]; done) | rfl
  refine Fin.start (Q := Q_nbl_3 Z  h0 n0) ef ?_
  refine Fin.by (fun tt_ kk_ => XS.iloadN X0.here hx rfl (hb hby d_jdk_52_method_3_0) rfl kk_) ?_
  show Fin _ _ _ _ _ _ _ (s₁.setTop (mkF m 1 #[.val (.int 3)] [(.int 3)]))
  refine Fin.by (fun tt_ kk_ => XS.ifYes X0.here hx rfl (pc0 := 1) (pc' := 12) rfl (hb hby d_jdk_52_method_3_1) rfl ((if0 _ _).trans (flt (by decide : ¬ (3 : Int32) < (0 : Int32))).2.1) (by decide) (by decide) kk_) ?_
  refine Fin.by (fun tt_ kk_ => XS.iloadN X0.here hx rfl (hb hby d_jdk_52_method_3_12) rfl kk_) ?_
  refine Fin.by (fun tt_ kk_ => X0.ldcInt hx hown (mvT hZ (w_ hw 85 rfl)) (g := (mkF m 13 #[.val (.int 3)] [(.int 3)])) rfl (hb hby d_jdk_52_method_3_13) _ kk_) ?_
  show Fin _ _ _ _ _ _ _ (s₁.setTop (mkF m 15 #[.val (.int 3)] [(.int 1073741823), (.int 3)]))
  refine Fin.by (fun tt_ kk_ => XS.icmpYes X0.here hx rfl (pc0 := 15) (pc' := 55) rfl (hb hby d_jdk_52_method_3_15) rfl (tlt (by decide : (3 : Int32) < (1073741823 : Int32))).1 (by decide) (by decide) kk_) ?_
  refine Fin.by (fun tt_ kk_ => XS.iloadN X0.here hx rfl (hb hby d_jdk_52_method_3_55) rfl (XS.iconst X0.here hx rfl (hb hby d_jdk_52_method_3_56) (XS.ishl X0.here hx rfl (hb hby d_jdk_52_method_3_57) rfl kk_))) ?_
  show Fin _ _ _ _ _ _ _ (s₁.setTop (mkF m 58 #[.val (.int 3)] [(.int 6)]))
  exact Fin.ret (v := some (.int (6 : Int32))) X0 (fun h => by rw [Bd.returns] at h; cases h) Bd.notSynchronized (by rw [e0]; exact ⟨rfl, N0, rfl⟩) (by decide) (by decide) (fun fs hr => retI X0 hx Bd.returns (hb hby d_jdk_52_method_3_58) hr)
def Q_nbf_3 (Z : State)  (h0 : Heap) (n0 : Nat) (vv_ : Option Value) (hh_ : Heap) (LL_ : List Loc) : Prop := ∃ (t : Addr), ∃ (k : ClassId), vv_ = some (.ref t) ∧ Fr n0 LL_ ∧ Keep h0 hh_ [] ∧ h0.size ≤ t ∧ Arv Z hh_ t k .byte (6 : Int32) [(.int (0 : Int32)), (.int (0 : Int32)), (.int (0 : Int32)), (.int (0 : Int32)), (.int (0 : Int32)), (.int (0 : Int32))] (.int (0 : Int32))
set_option maxRecDepth 65536 in
set_option maxHeartbeats 40000000 in
theorem rm_nbf_3 (l : Launch) (Z : State) (a0 : Array Value) (hw : ∀ d ∈ tables_1, d.before a0 Z = true) (ws : List Jvm.Cond)  (h0 : Heap) (n0 : Nat) (Z0 : n0 ≤ h0.size) :
    MetFree l (⟨"java/lang/StringUTF16", "newBytesFor", "(I)[B"⟩ : MethodName) (head1 (Jvm.Cond.code (⟨"java/lang/StringUTF16", "newBytesFor", "(I)[B"⟩ : MethodName) jdk_52_method_2_code 1 (some (.array .byte)) :: ws) ({ frames := 1, cells := 1, slots := 6, locals := 12 } : Room)) (fun aa_ U => aa_ = #[(.int (3 : Int32))] ∧ Z.Warmed39 U.vm ∧ U.heap = h0) (fun _ _ _ _ _ => True) (fun _ U o U' => ∃ vv_ LL_, o = .returned vv_ ∧ Q_nbf_3 Z  h0 n0 vv_ U'.heap LL_ ∧ FrameEnd U o U' LL_ 1 6) := by
  refine MetFree.of_bodySF (plainFor_of_name pn_java_lang_StringUTF16) hisR ?_
  intro p e s m args below meth c s₁ Bd hml0 hP hK
  obtain ⟨rfl, hZ, hh⟩ := hP
  have hx := Bd.exec
  have hby := Bd.bytes
  have hml : c.maxLocals = 1 := hml0
  have hown : s.vm.findClass "java/lang/StringUTF16" = some m.cls := findClass_of_methodNamed Bd.named
  have hnm := (name_of_methodNamed Bd.named Bd.method).1
  have X0 : Stand p l e ({ frames := 1, cells := 1, slots := 6, locals := 12 } : Room) s m #[(.int (3 : Int32))] below meth c s₁ [] 0 0 := Stand.of_body Bd
  have e0 : s₁.heap = h0 := by rw [← hh, Bd.state]; rfl
  have N0 := Fr.nil n0
  have ef : entryFrame m #[(.int (3 : Int32))] 1 = mkF m 0 #[.val (.int (3 : Int32))] [] := by first | (simp [entryFrame, mkF, argsToLocals, Value.category]; done) | rfl
  refine Fin.start (Q := Q_nbf_3 Z  h0 n0) ef ?_
  refine Fin.by (fun tt_ kk_ => XS.iloadN X0.here hx rfl (hb hby d_jdk_52_method_2_0) rfl kk_) ?_
  obtain ⟨v101, _, ⟨T101, L101, k101, n101⟩, -, X101, ⟨Lc101, hQ101, l101, y101, z101⟩, st101⟩ := Jvm.LawKit.callS X0 hx (y := y_8) hown (mvT hZ (w_ hw 82 rfl)) (mvT hZ (w_ hw 83 rfl)) (mvT hZ (w_ hw 23 rfl)) (mvT hZ (w_ hw 84 rfl)) (by decide) (backOf (W := 0) (rm_nbl_3 l Z a0 hw []  h0 n0 Z0 ) hZ (w_ hw 84 rfl) (w_ hw 23 rfl) (by decide) (by decide)) (g := (mkF m 1 #[.val (.int 3)] [(.int 3)])) rfl (by rw [hml]; rfl) (argsL := [(.int 3)]) (rest := []) (lenOf pd_154 rfl) rfl (by show 2 * 0 + _ ≤ _; exact Nat.le_of_eq rfl) (hb hby d_jdk_52_method_2_1) (fun _ _ => ⟨rfl, e0, (by decide : 0 + 0 ≤ _), (by decide : 0 + 0 ≤ _)⟩)
  dsimp only [Pt.U, Pt.locs, Pt.cells, Pt.slots] at X101 l101 y101 z101 st101 hQ101
  subst l101 y101 z101
  obtain ⟨rfl, Nq101, e101_⟩ := hQ101
  have N101_ := Fr.app N0 Nq101
  refine Fin.by (fun tt_ kk_ => st101 tt_ kk_) ?_
  have e101 := e101_
  obtain ⟨T102, h102, k102, X102, e102, E102, A102, st102⟩ := newP X101 hx hZ (w_ hw 3 rfl) e101 (g := (mkF m 4 #[.val (.int 3)] [(.int 6)])) rfl (hb hby d_jdk_52_method_2_4) rfl (by decide) (cap := 6) (by decide) (by decide) (by decide) (by decide)
  obtain ⟨a102, g102⟩ : ∃ z, z = h0.size := ⟨_, rfl⟩
  rw [← g102] at A102 st102
  refine Fin.by (fun tt_ kk_ => st102 tt_ kk_) ?_
  have V102 : Arv Z h102 a102 k102 .byte (6 : Int32) [(.int (0 : Int32)), (.int (0 : Int32)), (.int (0 : Int32)), (.int (0 : Int32)), (.int (0 : Int32)), (.int (0 : Int32))] (.int (0 : Int32)) := (Arv.new A102 (by decide)).pad (pad_rep [] (.int (0 : Int32)) 6)
  have kp103 : Keep h0 h102 [] := (Keep.refl h0 []).ext E102
  show Fin _ _ _ _ _ _ _ (T102.setTop (mkF m 6 #[.val (.int 3)] [(.ref a102)]))
  exact Fin.ret (v := some (.ref a102)) X102 (fun h => by rw [Bd.returns] at h; cases h) Bd.notSynchronized (by rw [e102]; exact ⟨a102, k102, rfl, N101_, kp103, (Nat.le_trans (Nat.le_refl _) (Nat.le_of_eq g102.symm)), V102⟩) (by decide) (by decide) (fun fs hr => retA X102 hx Bd.returns rfl rfl (hb hby d_jdk_52_method_2_6) hr)
def Q_tob_3 (Z : State) (b : Addr) (kb : ClassId) (c0 : Int32) (c1 : Int32) (c2 : Int32) (h0 : Heap) (n0 : Nat) (vv_ : Option Value) (hh_ : Heap) (LL_ : List Loc) : Prop := ∃ (t : Addr), ∃ (k : ClassId), vv_ = some (.ref t) ∧ Fr n0 LL_ ∧ Keep h0 hh_ [] ∧ h0.size ≤ t ∧ Arv Z hh_ t k .byte (6 : Int32) [(.int (((c0 >>> ((0 : Int32) &&& 31)).toInt8.toInt32).toInt8.toInt32)), (.int (((c0 >>> ((8 : Int32) &&& 31)).toInt8.toInt32).toInt8.toInt32)), (.int (((c1 >>> ((0 : Int32) &&& 31)).toInt8.toInt32).toInt8.toInt32)), (.int (((c1 >>> ((8 : Int32) &&& 31)).toInt8.toInt32).toInt8.toInt32)), (.int (((c2 >>> ((0 : Int32) &&& 31)).toInt8.toInt32).toInt8.toInt32)), (.int (((c2 >>> ((8 : Int32) &&& 31)).toInt8.toInt32).toInt8.toInt32))] (.int (0 : Int32))
set_option maxRecDepth 65536 in
set_option maxHeartbeats 40000000 in
theorem rm_tob_3 (l : Launch) (Z : State) (a0 : Array Value) (hw : ∀ d ∈ tables_1, d.before a0 Z = true) (ws : List Jvm.Cond) (b : Addr) (kb : ClassId) (c0 : Int32) (c1 : Int32) (c2 : Int32) (h0 : Heap) (n0 : Nat) (Z0 : n0 ≤ h0.size) (Ab : Arv Z h0 b kb .char (3 : Int32) [(.int c0), (.int c1), (.int c2)] (.int (0 : Int32))) (S6 : Sta Z Z.heap "java/lang/StringUTF16" "$assertionsDisabled" "Z" (.int (1 : Int32))) (S7 : Sta Z Z.heap "java/lang/StringUTF16" "HI_BYTE_SHIFT" "I" (.int (0 : Int32))) (S8 : Sta Z Z.heap "java/lang/StringUTF16" "LO_BYTE_SHIFT" "I" (.int (8 : Int32))) (OL : Old Z n0 h0) :
    MetFree l (⟨"java/lang/StringUTF16", "toBytes", "([CII)[B"⟩ : MethodName) (head1 (Jvm.Cond.code (⟨"java/lang/StringUTF16", "toBytes", "([CII)[B"⟩ : MethodName) jdk_52_method_14_code 5 (some (.array .byte)) :: ws) ({ frames := 2, cells := 1, slots := 6, locals := 24 } : Room)) (fun aa_ U => aa_ = #[(.ref b), (.int (0 : Int32)), (.int (3 : Int32))] ∧ Z.Warmed39 U.vm ∧ U.heap = h0) (fun _ _ _ _ _ => True) (fun _ U o U' => ∃ vv_ LL_, o = .returned vv_ ∧ Q_tob_3 Z b kb c0 c1 c2 h0 n0 vv_ U'.heap LL_ ∧ FrameEnd U o U' LL_ 1 6) := by
  refine MetFree.of_bodySF (plainFor_of_name pn_java_lang_StringUTF16) hisR ?_
  intro p e s m args below meth c s₁ Bd hml0 hP hK
  obtain ⟨rfl, hZ, hh⟩ := hP
  have hx := Bd.exec
  have hby := Bd.bytes
  have hml : c.maxLocals = 5 := hml0
  have hown : s.vm.findClass "java/lang/StringUTF16" = some m.cls := findClass_of_methodNamed Bd.named
  have hnm := (name_of_methodNamed Bd.named Bd.method).1
  have X0 : Stand p l e ({ frames := 2, cells := 1, slots := 6, locals := 24 } : Room) s m #[(.ref b), (.int (0 : Int32)), (.int (3 : Int32))] below meth c s₁ [] 0 0 := Stand.of_body Bd
  have e0 : s₁.heap = h0 := by rw [← hh, Bd.state]; rfl
  have N0 := Fr.nil n0
  have ef : entryFrame m #[(.ref b), (.int (0 : Int32)), (.int (3 : Int32))] 5 = mkF m 0 #[.val (.ref b), .val (.int (0 : Int32)), .val (.int (3 : Int32)), .unset, .unset] [] := by first | (simp [entryFrame, mkF, argsToLocals, Value.category]; done) | rfl
  refine Fin.start (Q := Q_tob_3 Z b kb c0 c1 c2 h0 n0) ef ?_
  refine Fin.by (fun tt_ kk_ => XS.iloadN X0.here hx rfl (hb hby d_jdk_52_method_14_0) rfl kk_) ?_
  obtain ⟨v101, _, ⟨T101, L101, k101, n101⟩, -, X101, ⟨Lc101, hQ101, l101, y101, z101⟩, st101⟩ := Jvm.LawKit.callS X0 hx (y := y_9) hown (mvT hZ (w_ hw 79 rfl)) (mvT hZ (w_ hw 80 rfl)) (mvT hZ (w_ hw 23 rfl)) (mvT hZ (w_ hw 81 rfl)) (by decide) (backOf (W := 0) (rm_nbf_3 l Z a0 hw []  h0 n0 Z0 ) hZ (w_ hw 81 rfl) (w_ hw 23 rfl) (by decide) (by decide)) (g := (mkF m 1 #[.val (.ref b), .val (.int 0), .val (.int 3), .unset, .unset] [(.int 3)])) rfl (by rw [hml]; rfl) (argsL := [(.int 3)]) (rest := []) (lenOf pd_159 rfl) rfl (by show 2 * 0 + _ ≤ _; exact Nat.le_of_eq rfl) (hb hby d_jdk_52_method_14_1) (fun _ _ => ⟨rfl, e0, (by decide : 0 + 1 ≤ _), (by decide : 0 + 6 ≤ _)⟩)
  dsimp only [Pt.U, Pt.locs, Pt.cells, Pt.slots] at X101 l101 y101 z101 st101 hQ101
  subst l101 y101 z101
  obtain ⟨t102, k103, rfl, Nq101, p101_0, p101_1, p101_2⟩ := hQ101
  have N101_ := Fr.app N0 Nq101
  refine Fin.by (fun tt_ kk_ => st101 tt_ kk_) ?_
  refine Fin.by (fun tt_ kk_ => XS.astoreN X101.here hx rfl (hb hby d_jdk_52_method_14_4) rfl rfl (l' := #[.val (.ref b), .val (.int 0), .val (.int 3), .val (.ref t102), .unset]) rfl (XS.iconst X101.here hx rfl (hb hby d_jdk_52_method_14_5) (XS.istore X101.here hx rfl (hb hby d_jdk_52_method_14_6) rfl (l' := #[.val (.ref b), .val (.int 0), .val (.int 3), .val (.ref t102), .val (.int 0)]) rfl (XS.iload X101.here hx rfl (hb hby d_jdk_52_method_14_8) rfl (XS.iloadN X101.here hx rfl (hb hby d_jdk_52_method_14_10) rfl kk_))))) ?_
  show Fin _ _ _ _ _ _ _ (T101.setTop (mkF m 11 #[.val (.ref b), .val (.int 0), .val (.int 3), .val (.ref t102), .val (.int 0)] [(.int 3), (.int 0)]))
  refine Fin.by (fun tt_ kk_ => XS.icmpNo X101.here hx rfl (hb hby d_jdk_52_method_14_11) rfl (tlt (by decide : (0 : Int32) < (3 : Int32))).2.1 kk_) ?_
  refine Fin.by (fun tt_ kk_ => XS.aloadN X101.here hx rfl (hb hby d_jdk_52_method_14_14) rfl rfl (XS.iload X101.here hx rfl (hb hby d_jdk_52_method_14_15) rfl (XS.aloadN X101.here hx rfl (hb hby d_jdk_52_method_14_17) rfl rfl (XS.iloadN X101.here hx rfl (hb hby d_jdk_52_method_14_18) rfl kk_)))) ?_
  have A104 : Arv Z T101.heap b kb .char (3 : Int32) [(.int c0), (.int c1), (.int c2)] (.int (0 : Int32)) := (Ab.keep p101_0 nin0)
  obtain ⟨cl105, Ar105, q105, S105, N105, H105, G105⟩ := id A104
  have hin105 : ¬ ((0 : Int32) < 0 ∨ cl105.slots.size ≤ (0 : Int32).toNatClampNeg) := inb_of S105 ⟨by decide, by decide⟩
  refine Fin.by (fun tt_ kk_ => X101.caload hx (j := (0 : Int32)) (v := (.int c0)) (Ar105.1) (State.isArrayOf_alike hZ.alike Ar105.2.1) Ar105.2.2 hin105 (Has.at H105 hin105 rfl) (g := (mkF m 19 #[.val (.ref b), .val (.int 0), .val (.int 3), .val (.ref t102), .val (.int 0)] [(.int 0), (.ref b), (.int 0), (.ref t102)])) rfl rfl (hb hby d_jdk_52_method_14_19) _ kk_) ?_
  have g106 : n0 ≤ t102 := Nat.le_trans Z0 p101_1
  have O107 : Old Z n0 T101.heap := (OL.keep p101_0 all0)
  have z108 : n0 ≤ T101.heap.size := Nat.le_trans Z0 p101_0.1
  obtain ⟨v109, _, ⟨T109, L109, k109, n109⟩, -, X109, ⟨Lc109, hQ109, l109, y109, z109⟩, st109⟩ := Jvm.LawKit.callS X101 hx (y := y_10) hown (mvT hZ (w_ hw 86 rfl)) (mvT hZ (w_ hw 87 rfl)) (mvT hZ (w_ hw 23 rfl)) (mvT hZ (w_ hw 88 rfl)) (by decide) (backOf (W := 0) (rm_pch0 l Z a0 hw [] t102 k103 (6 : Int32) ([(.int (0 : Int32)), (.int (0 : Int32)), (.int (0 : Int32)), (.int (0 : Int32)), (.int (0 : Int32)), (.int (0 : Int32))] : List Value) c0 T101.heap n0 z108 (Nat.le_of_ble_eq_true rfl) (Nat.le_of_ble_eq_true rfl) (by decide) (by decide) p101_2 g106 S6 S7 S8 O107) hZ (w_ hw 88 rfl) (w_ hw 23 rfl) (by decide) (by decide)) (g := (mkF m 20 #[.val (.ref b), .val (.int 0), .val (.int 3), .val (.ref t102), .val (.int 0)] [(.int c0), (.int 0), (.ref t102)])) rfl (by rw [hml]; rfl) (argsL := [(.ref t102), (.int 0), (.int c0)]) (rest := []) (lenOf pd_172 rfl) rfl (by show 2 * 0 + _ ≤ _; exact Nat.le_of_eq rfl) (hb hby d_jdk_52_method_14_20) (fun _ _ => ⟨rfl, rfl, (by decide : 1 + 0 ≤ _), (by decide : 6 + 0 ≤ _)⟩)
  dsimp only [Pt.U, Pt.locs, Pt.cells, Pt.slots] at X109 l109 y109 z109 st109 hQ109
  subst l109 y109 z109
  obtain ⟨rfl, Nq109, p109_0, p109_1⟩ := hQ109
  have N109_ := Fr.app N101_ Nq109
  refine Fin.by (fun tt_ kk_ => st109 tt_ kk_) ?_
  have V110 : Arv Z T109.heap t102 k103 .byte (6 : Int32) [(.int (((c0 >>> ((0 : Int32) &&& 31)).toInt8.toInt32).toInt8.toInt32)), (.int (((c0 >>> ((8 : Int32) &&& 31)).toInt8.toInt32).toInt8.toInt32)), (.int (0 : Int32)), (.int (0 : Int32)), (.int (0 : Int32)), (.int (0 : Int32))] (.int (0 : Int32)) := p109_1
  refine Fin.by (fun tt_ kk_ => XS.iinc X109.here hx rfl (hb hby d_jdk_52_method_14_23) rfl (l' := #[.val (.ref b), .val (.int 1), .val (.int 3), .val (.ref t102), .val (.int 0)]) rfl (XS.iinc X109.here hx rfl (hb hby d_jdk_52_method_14_26) rfl (l' := #[.val (.ref b), .val (.int 1), .val (.int 3), .val (.ref t102), .val (.int 1)]) rfl (XS.goto X109.here hx rfl (pc0 := 29) (pc' := 8) rfl (hb hby d_jdk_52_method_14_29) (by decide) (by decide) (XS.iload X109.here hx rfl (hb hby d_jdk_52_method_14_8) rfl (XS.iloadN X109.here hx rfl (hb hby d_jdk_52_method_14_10) rfl kk_))))) ?_
  show Fin _ _ _ _ _ _ _ (T109.setTop (mkF m 11 #[.val (.ref b), .val (.int 1), .val (.int 3), .val (.ref t102), .val (.int 1)] [(.int 3), (.int 1)]))
  refine Fin.by (fun tt_ kk_ => XS.icmpNo X109.here hx rfl (hb hby d_jdk_52_method_14_11) rfl (tlt (by decide : (1 : Int32) < (3 : Int32))).2.1 kk_) ?_
  refine Fin.by (fun tt_ kk_ => XS.aloadN X109.here hx rfl (hb hby d_jdk_52_method_14_14) rfl rfl (XS.iload X109.here hx rfl (hb hby d_jdk_52_method_14_15) rfl (XS.aloadN X109.here hx rfl (hb hby d_jdk_52_method_14_17) rfl rfl (XS.iloadN X109.here hx rfl (hb hby d_jdk_52_method_14_18) rfl kk_)))) ?_
  have ne111 : b ≠ t102 := Nat.ne_of_lt (Nat.lt_of_lt_of_le Ab.lt p101_1)
  have A112 : Arv Z T109.heap b kb .char (3 : Int32) [(.int c0), (.int c1), (.int c2)] (.int (0 : Int32)) := (A104.keep p109_0 (ninS ne111 nin0))
  obtain ⟨cl113, Ar113, q113, S113, N113, H113, G113⟩ := id A112
  have hin113 : ¬ ((1 : Int32) < 0 ∨ cl113.slots.size ≤ (1 : Int32).toNatClampNeg) := inb_of S113 ⟨by decide, by decide⟩
  refine Fin.by (fun tt_ kk_ => X109.caload hx (j := (1 : Int32)) (v := (.int c1)) (Ar113.1) (State.isArrayOf_alike hZ.alike Ar113.2.1) Ar113.2.2 hin113 (Has.at H113 hin113 rfl) (g := (mkF m 19 #[.val (.ref b), .val (.int 1), .val (.int 3), .val (.ref t102), .val (.int 1)] [(.int 1), (.ref b), (.int 1), (.ref t102)])) rfl rfl (hb hby d_jdk_52_method_14_19) _ kk_) ?_
  have O114 : Old Z n0 T109.heap := (O107.keep p109_0 (allS g106 all0))
  have z115 : n0 ≤ T109.heap.size := Nat.le_trans z108 p109_0.1
  obtain ⟨v116, _, ⟨T116, L116, k116, n116⟩, -, X116, ⟨Lc116, hQ116, l116, y116, z116⟩, st116⟩ := Jvm.LawKit.callS X109 hx (y := y_10) hown (mvT hZ (w_ hw 86 rfl)) (mvT hZ (w_ hw 87 rfl)) (mvT hZ (w_ hw 23 rfl)) (mvT hZ (w_ hw 88 rfl)) (by decide) (backOf (W := 0) (rm_pch1 l Z a0 hw [] t102 k103 (6 : Int32) ([(.int (((c0 >>> ((0 : Int32) &&& 31)).toInt8.toInt32).toInt8.toInt32)), (.int (((c0 >>> ((8 : Int32) &&& 31)).toInt8.toInt32).toInt8.toInt32)), (.int (0 : Int32)), (.int (0 : Int32)), (.int (0 : Int32)), (.int (0 : Int32))] : List Value) c1 T109.heap n0 z115 (Nat.le_of_ble_eq_true rfl) (Nat.le_of_ble_eq_true rfl) (by decide) (by decide) V110 g106 S6 S7 S8 O114) hZ (w_ hw 88 rfl) (w_ hw 23 rfl) (by decide) (by decide)) (g := (mkF m 20 #[.val (.ref b), .val (.int 1), .val (.int 3), .val (.ref t102), .val (.int 1)] [(.int c1), (.int 1), (.ref t102)])) rfl (by rw [hml]; rfl) (argsL := [(.ref t102), (.int 1), (.int c1)]) (rest := []) (lenOf pd_172 rfl) rfl (by show 2 * 0 + _ ≤ _; exact Nat.le_of_eq rfl) (hb hby d_jdk_52_method_14_20) (fun _ _ => ⟨rfl, rfl, (by decide : 1 + 0 ≤ _), (by decide : 6 + 0 ≤ _)⟩)
  dsimp only [Pt.U, Pt.locs, Pt.cells, Pt.slots] at X116 l116 y116 z116 st116 hQ116
  subst l116 y116 z116
  obtain ⟨rfl, Nq116, p116_0, p116_1⟩ := hQ116
  have N116_ := Fr.app N109_ Nq116
  refine Fin.by (fun tt_ kk_ => st116 tt_ kk_) ?_
  have V117 : Arv Z T116.heap t102 k103 .byte (6 : Int32) [(.int (((c0 >>> ((0 : Int32) &&& 31)).toInt8.toInt32).toInt8.toInt32)), (.int (((c0 >>> ((8 : Int32) &&& 31)).toInt8.toInt32).toInt8.toInt32)), (.int (((c1 >>> ((0 : Int32) &&& 31)).toInt8.toInt32).toInt8.toInt32)), (.int (((c1 >>> ((8 : Int32) &&& 31)).toInt8.toInt32).toInt8.toInt32)), (.int (0 : Int32)), (.int (0 : Int32))] (.int (0 : Int32)) := p116_1
  refine Fin.by (fun tt_ kk_ => XS.iinc X116.here hx rfl (hb hby d_jdk_52_method_14_23) rfl (l' := #[.val (.ref b), .val (.int 2), .val (.int 3), .val (.ref t102), .val (.int 1)]) rfl (XS.iinc X116.here hx rfl (hb hby d_jdk_52_method_14_26) rfl (l' := #[.val (.ref b), .val (.int 2), .val (.int 3), .val (.ref t102), .val (.int 2)]) rfl (XS.goto X116.here hx rfl (pc0 := 29) (pc' := 8) rfl (hb hby d_jdk_52_method_14_29) (by decide) (by decide) (XS.iload X116.here hx rfl (hb hby d_jdk_52_method_14_8) rfl (XS.iloadN X116.here hx rfl (hb hby d_jdk_52_method_14_10) rfl kk_))))) ?_
  show Fin _ _ _ _ _ _ _ (T116.setTop (mkF m 11 #[.val (.ref b), .val (.int 2), .val (.int 3), .val (.ref t102), .val (.int 2)] [(.int 3), (.int 2)]))
  refine Fin.by (fun tt_ kk_ => XS.icmpNo X116.here hx rfl (hb hby d_jdk_52_method_14_11) rfl (tlt (by decide : (2 : Int32) < (3 : Int32))).2.1 kk_) ?_
  refine Fin.by (fun tt_ kk_ => XS.aloadN X116.here hx rfl (hb hby d_jdk_52_method_14_14) rfl rfl (XS.iload X116.here hx rfl (hb hby d_jdk_52_method_14_15) rfl (XS.aloadN X116.here hx rfl (hb hby d_jdk_52_method_14_17) rfl rfl (XS.iloadN X116.here hx rfl (hb hby d_jdk_52_method_14_18) rfl kk_)))) ?_
  have A118 : Arv Z T116.heap b kb .char (3 : Int32) [(.int c0), (.int c1), (.int c2)] (.int (0 : Int32)) := (A112.keep p116_0 (ninS ne111 nin0))
  obtain ⟨cl119, Ar119, q119, S119, N119, H119, G119⟩ := id A118
  have hin119 : ¬ ((2 : Int32) < 0 ∨ cl119.slots.size ≤ (2 : Int32).toNatClampNeg) := inb_of S119 ⟨by decide, by decide⟩
  refine Fin.by (fun tt_ kk_ => X116.caload hx (j := (2 : Int32)) (v := (.int c2)) (Ar119.1) (State.isArrayOf_alike hZ.alike Ar119.2.1) Ar119.2.2 hin119 (Has.at H119 hin119 rfl) (g := (mkF m 19 #[.val (.ref b), .val (.int 2), .val (.int 3), .val (.ref t102), .val (.int 2)] [(.int 2), (.ref b), (.int 2), (.ref t102)])) rfl rfl (hb hby d_jdk_52_method_14_19) _ kk_) ?_
  have O120 : Old Z n0 T116.heap := (O114.keep p116_0 (allS g106 all0))
  have z121 : n0 ≤ T116.heap.size := Nat.le_trans z115 p116_0.1
  obtain ⟨v122, _, ⟨T122, L122, k122, n122⟩, -, X122, ⟨Lc122, hQ122, l122, y122, z122⟩, st122⟩ := Jvm.LawKit.callS X116 hx (y := y_10) hown (mvT hZ (w_ hw 86 rfl)) (mvT hZ (w_ hw 87 rfl)) (mvT hZ (w_ hw 23 rfl)) (mvT hZ (w_ hw 88 rfl)) (by decide) (backOf (W := 0) (rm_pch2 l Z a0 hw [] t102 k103 (6 : Int32) ([(.int (((c0 >>> ((0 : Int32) &&& 31)).toInt8.toInt32).toInt8.toInt32)), (.int (((c0 >>> ((8 : Int32) &&& 31)).toInt8.toInt32).toInt8.toInt32)), (.int (((c1 >>> ((0 : Int32) &&& 31)).toInt8.toInt32).toInt8.toInt32)), (.int (((c1 >>> ((8 : Int32) &&& 31)).toInt8.toInt32).toInt8.toInt32)), (.int (0 : Int32)), (.int (0 : Int32))] : List Value) c2 T116.heap n0 z121 (Nat.le_of_ble_eq_true rfl) (Nat.le_of_ble_eq_true rfl) (by decide) (by decide) V117 g106 S6 S7 S8 O120) hZ (w_ hw 88 rfl) (w_ hw 23 rfl) (by decide) (by decide)) (g := (mkF m 20 #[.val (.ref b), .val (.int 2), .val (.int 3), .val (.ref t102), .val (.int 2)] [(.int c2), (.int 2), (.ref t102)])) rfl (by rw [hml]; rfl) (argsL := [(.ref t102), (.int 2), (.int c2)]) (rest := []) (lenOf pd_172 rfl) rfl (by show 2 * 0 + _ ≤ _; exact Nat.le_of_eq rfl) (hb hby d_jdk_52_method_14_20) (fun _ _ => ⟨rfl, rfl, (by decide : 1 + 0 ≤ _), (by decide : 6 + 0 ≤ _)⟩)
  dsimp only [Pt.U, Pt.locs, Pt.cells, Pt.slots] at X122 l122 y122 z122 st122 hQ122
  subst l122 y122 z122
  obtain ⟨rfl, Nq122, p122_0, p122_1⟩ := hQ122
  have N122_ := Fr.app N116_ Nq122
  refine Fin.by (fun tt_ kk_ => st122 tt_ kk_) ?_
  have V123 : Arv Z T122.heap t102 k103 .byte (6 : Int32) [(.int (((c0 >>> ((0 : Int32) &&& 31)).toInt8.toInt32).toInt8.toInt32)), (.int (((c0 >>> ((8 : Int32) &&& 31)).toInt8.toInt32).toInt8.toInt32)), (.int (((c1 >>> ((0 : Int32) &&& 31)).toInt8.toInt32).toInt8.toInt32)), (.int (((c1 >>> ((8 : Int32) &&& 31)).toInt8.toInt32).toInt8.toInt32)), (.int (((c2 >>> ((0 : Int32) &&& 31)).toInt8.toInt32).toInt8.toInt32)), (.int (((c2 >>> ((8 : Int32) &&& 31)).toInt8.toInt32).toInt8.toInt32))] (.int (0 : Int32)) := p122_1
  refine Fin.by (fun tt_ kk_ => XS.iinc X122.here hx rfl (hb hby d_jdk_52_method_14_23) rfl (l' := #[.val (.ref b), .val (.int 3), .val (.int 3), .val (.ref t102), .val (.int 2)]) rfl (XS.iinc X122.here hx rfl (hb hby d_jdk_52_method_14_26) rfl (l' := #[.val (.ref b), .val (.int 3), .val (.int 3), .val (.ref t102), .val (.int 3)]) rfl (XS.goto X122.here hx rfl (pc0 := 29) (pc' := 8) rfl (hb hby d_jdk_52_method_14_29) (by decide) (by decide) (XS.iload X122.here hx rfl (hb hby d_jdk_52_method_14_8) rfl (XS.iloadN X122.here hx rfl (hb hby d_jdk_52_method_14_10) rfl kk_))))) ?_
  show Fin _ _ _ _ _ _ _ (T122.setTop (mkF m 11 #[.val (.ref b), .val (.int 3), .val (.int 3), .val (.ref t102), .val (.int 3)] [(.int 3), (.int 3)]))
  refine Fin.by (fun tt_ kk_ => XS.icmpYes X122.here hx rfl (pc0 := 11) (pc' := 32) rfl (hb hby d_jdk_52_method_14_11) rfl (flt (by decide : ¬ (3 : Int32) < (3 : Int32))).2.1 (by decide) (by decide) kk_) ?_
  refine Fin.by (fun tt_ kk_ => XS.aloadN X122.here hx rfl (hb hby d_jdk_52_method_14_32) rfl rfl kk_) ?_
  have kp124 : Keep h0 T101.heap [] := (Keep.refl h0 []).trans p101_0 all0
  have kp125 : Keep h0 T109.heap [] := kp124.trans p109_0 (allS (Or.inr (Nat.le_trans (Nat.le_refl _) p101_1)) all0)
  have kp126 : Keep h0 T116.heap [] := kp125.trans p116_0 (allS (Or.inr (Nat.le_trans (Nat.le_refl _) p101_1)) all0)
  have kp127 : Keep h0 T122.heap [] := kp126.trans p122_0 (allS (Or.inr (Nat.le_trans (Nat.le_refl _) p101_1)) all0)
  show Fin _ _ _ _ _ _ _ (T122.setTop (mkF m 33 #[.val (.ref b), .val (.int 3), .val (.int 3), .val (.ref t102), .val (.int 3)] [(.ref t102)]))
  exact Fin.ret (v := some (.ref t102)) X122 (fun h => by rw [Bd.returns] at h; cases h) Bd.notSynchronized (⟨t102, k103, rfl, N122_, kp127, (Nat.le_trans (Nat.le_refl _) p101_1), V123⟩) (by decide) (by decide) (fun fs hr => retA X122 hx Bd.returns rfl rfl (hb hby d_jdk_52_method_14_33) hr)
def Q_c3_3 (Z : State) (b : Addr) (kb : ClassId) (c0 : Int32) (c1 : Int32) (c2 : Int32) (h0 : Heap) (n0 : Nat) (vv_ : Option Value) (hh_ : Heap) (LL_ : List Loc) : Prop := ∃ (t : Addr), ∃ (k : ClassId), ∃ (cd : Int32), ∃ (N2 : Int32), ∃ (vs : List Value), vv_ = some (.ref t) ∧ Fr n0 LL_ ∧ Keep h0 hh_ [] ∧ h0.size ≤ t ∧ Arv Z hh_ t k .byte N2 vs (.int (0 : Int32)) ∧ (StrChars.Road.CodA ([c0, c1, c2] : List Int32) cd N2 vs)
set_option maxRecDepth 65536 in
set_option maxHeartbeats 40000000 in
theorem rm_c3_3 (l : Launch) (Z : State) (a0 : Array Value) (hw : ∀ d ∈ tables_1, d.before a0 Z = true) (ws : List Jvm.Cond) (b : Addr) (kb : ClassId) (c0 : Int32) (c1 : Int32) (c2 : Int32) (h0 : Heap) (n0 : Nat) (Z0 : n0 ≤ h0.size) (Ab : Arv Z h0 b kb .char (3 : Int32) [(.int c0), (.int c1), (.int c2)] (.int (0 : Int32))) (hb_0 : ¬ c0 < 0 ∧ ¬ (65535 : Int32) < c0) (hb_1 : ¬ c1 < 0 ∧ ¬ (65535 : Int32) < c1) (hb_2 : ¬ c2 < 0 ∧ ¬ (65535 : Int32) < c2) (S6 : Sta Z Z.heap "java/lang/StringUTF16" "$assertionsDisabled" "Z" (.int (1 : Int32))) (S7 : Sta Z Z.heap "java/lang/StringUTF16" "HI_BYTE_SHIFT" "I" (.int (0 : Int32))) (S8 : Sta Z Z.heap "java/lang/StringUTF16" "LO_BYTE_SHIFT" "I" (.int (8 : Int32))) (OL : Old Z n0 h0) :
    MetFree l (⟨"java/lang/StringUTF16", "compress", "([CII)[B"⟩ : MethodName) (head1 (Jvm.Cond.code (⟨"java/lang/StringUTF16", "compress", "([CII)[B"⟩ : MethodName) jdk_52_method_16_code 6 (some (.array .byte)) :: ws) ({ frames := 3, cells := 2, slots := 9, locals := 40 } : Room)) (fun aa_ U => aa_ = #[(.ref b), (.int (0 : Int32)), (.int (3 : Int32))] ∧ Z.Warmed39 U.vm ∧ U.heap = h0) (fun _ _ _ _ _ => True) (fun _ U o U' => ∃ vv_ LL_, o = .returned vv_ ∧ Q_c3_3 Z b kb c0 c1 c2 h0 n0 vv_ U'.heap LL_ ∧ FrameEnd U o U' LL_ 2 9) := by
  refine MetFree.of_bodySF (plainFor_of_name pn_java_lang_StringUTF16) hisR ?_
  intro p e s m args below meth c s₁ Bd hml0 hP hK
  obtain ⟨rfl, hZ, hh⟩ := hP
  have hx := Bd.exec
  have hby := Bd.bytes
  have hml : c.maxLocals = 6 := hml0
  have hown : s.vm.findClass "java/lang/StringUTF16" = some m.cls := findClass_of_methodNamed Bd.named
  have hnm := (name_of_methodNamed Bd.named Bd.method).1
  have X0 : Stand p l e ({ frames := 3, cells := 2, slots := 9, locals := 40 } : Room) s m #[(.ref b), (.int (0 : Int32)), (.int (3 : Int32))] below meth c s₁ [] 0 0 := Stand.of_body Bd
  have e0 : s₁.heap = h0 := by rw [← hh, Bd.state]; rfl
  have N0 := Fr.nil n0
  have ef : entryFrame m #[(.ref b), (.int (0 : Int32)), (.int (3 : Int32))] 6 = mkF m 0 #[.val (.ref b), .val (.int (0 : Int32)), .val (.int (3 : Int32)), .unset, .unset, .unset] [] := by first | (simp [entryFrame, mkF, argsToLocals, Value.category]; done) | rfl
  refine Fin.start (Q := Q_c3_3 Z b kb c0 c1 c2 h0 n0) ef ?_
  refine Fin.by (fun tt_ kk_ => XS.iloadN X0.here hx rfl (hb hby d_jdk_52_method_16_0) rfl kk_) ?_
  obtain ⟨T101, h101, k101, X101, e101, E101, A101, st101⟩ := newP X0 hx hZ (w_ hw 3 rfl) e0 (g := (mkF m 1 #[.val (.ref b), .val (.int 0), .val (.int 3), .unset, .unset, .unset] [(.int 3)])) rfl (hb hby d_jdk_52_method_16_1) rfl (by decide) (cap := 3) (by decide) (by decide) (by decide) (by decide)
  obtain ⟨a101, g101⟩ : ∃ z, z = h0.size := ⟨_, rfl⟩
  rw [← g101] at A101 st101
  refine Fin.by (fun tt_ kk_ => st101 tt_ kk_) ?_
  have V101 : Arv Z h101 a101 k101 .byte (3 : Int32) [(.int (0 : Int32)), (.int (0 : Int32)), (.int (0 : Int32))] (.int (0 : Int32)) := (Arv.new A101 (by decide)).pad (pad_rep [] (.int (0 : Int32)) 3)
  refine Fin.by (fun tt_ kk_ => XS.astoreN X101.here hx rfl (hb hby d_jdk_52_method_16_3) rfl rfl (l' := #[.val (.ref b), .val (.int 0), .val (.int 3), .val (.ref a101), .unset, .unset]) rfl (XS.aloadN X101.here hx rfl (hb hby d_jdk_52_method_16_4) rfl rfl (XS.iloadN X101.here hx rfl (hb hby d_jdk_52_method_16_5) rfl (XS.aloadN X101.here hx rfl (hb hby d_jdk_52_method_16_6) rfl rfl (XS.iconst X101.here hx rfl (hb hby d_jdk_52_method_16_7) (XS.iloadN X101.here hx rfl (hb hby d_jdk_52_method_16_8) rfl kk_)))))) ?_
  have A102 : Arv Z h101 b kb .char (3 : Int32) [(.int c0), (.int c1), (.int c2)] (.int (0 : Int32)) := (Ab.ext E101)
  have g103 : n0 ≤ a101 := Nat.le_trans Z0 (Nat.le_of_eq g101.symm)
  have ne104 : b ≠ a101 := Nat.ne_of_lt (Nat.lt_of_lt_of_le Ab.lt (Nat.le_of_eq g101.symm))
  have z105 : n0 ≤ h101.size := Nat.le_trans Z0 E101.1
  obtain ⟨v106, _, ⟨T106, L106, k106, n106⟩, -, X106, ⟨Lc106, hQ106, l106, y106, z106⟩, st106⟩ := Jvm.LawKit.callS X101 hx (y := y_11) hown (mvT hZ (w_ hw 25 rfl)) (mvT hZ (w_ hw 26 rfl)) (mvT hZ (w_ hw 23 rfl)) (mvT hZ (w_ hw 27 rfl)) (by decide) (backOf (W := 0) (rm_c5_3 l Z a0 hw [] b kb a101 k101 c0 c1 c2 h101 n0 z105 A102 V101 g103 ne104) hZ (w_ hw 27 rfl) (w_ hw 23 rfl) (by decide) (by decide)) (g := (mkF m 9 #[.val (.ref b), .val (.int 0), .val (.int 3), .val (.ref a101), .unset, .unset] [(.int 3), (.int 0), (.ref a101), (.int 0), (.ref b)])) rfl (by rw [hml]; rfl) (argsL := [(.ref b), (.int 0), (.ref a101), (.int 0), (.int 3)]) (rest := []) (lenOf pd_187 rfl) rfl (by show 2 * 0 + _ ≤ _; exact Nat.le_of_eq rfl) (hb hby d_jdk_52_method_16_9) (fun _ _ => ⟨rfl, e101, (by decide : 1 + 0 ≤ _), (by decide : 3 + 0 ≤ _)⟩)
  dsimp only [Pt.U, Pt.locs, Pt.cells, Pt.slots] at X106 l106 y106 z106 st106 hQ106
  subst l106 y106 z106
  obtain ⟨r107, vs108, rfl, Nq106, p106_0, p106_1, p106_2⟩ := hQ106
  have N106_ := Fr.app N0 Nq106
  refine Fin.by (fun tt_ kk_ => st106 tt_ kk_) ?_
  rcases p106_2 with ⟨hr, hvs, hx_0, hx_1, hx_2⟩ | ⟨hr, hx_0⟩ | ⟨hr, hx_1⟩ | ⟨hr, hx_2⟩
  · subst hr
    subst hvs
    refine Fin.by (fun tt_ kk_ => XS.istore X106.here hx rfl (hb hby d_jdk_52_method_16_12) rfl (l' := #[.val (.ref b), .val (.int 0), .val (.int 3), .val (.ref a101), .val (.int 3), .unset]) rfl (XS.iload X106.here hx rfl (hb hby d_jdk_52_method_16_14) rfl (XS.iloadN X106.here hx rfl (hb hby d_jdk_52_method_16_16) rfl kk_))) ?_
    show Fin _ _ _ _ _ _ _ (T106.setTop (mkF m 17 #[.val (.ref b), .val (.int 0), .val (.int 3), .val (.ref a101), .val (.int 3), .unset] [(.int 3), (.int 3)]))
    refine Fin.by (fun tt_ kk_ => XS.icmpYes X106.here hx rfl (pc0 := 17) (pc' := 57) rfl (hb hby d_jdk_52_method_16_17) rfl (teq (rfl : (3 : Int32) = (3 : Int32))).1 (by decide) (by decide) kk_) ?_
    refine Fin.by (fun tt_ kk_ => XS.aloadN X106.here hx rfl (hb hby d_jdk_52_method_16_57) rfl rfl kk_) ?_
    have kp109 : Keep h0 h101 [] := (Keep.refl h0 []).ext E101
    have kp110 : Keep h0 T106.heap [] := kp109.trans p106_0 (allS (Or.inr (Nat.le_trans (Nat.le_refl _) (Nat.le_of_eq g101.symm))) all0)
    show Fin _ _ _ _ _ _ _ (T106.setTop (mkF m 58 #[.val (.ref b), .val (.int 0), .val (.int 3), .val (.ref a101), .val (.int 3), .unset] [(.ref a101)]))
    exact Fin.ret (v := some (.ref a101)) X106 (fun h => by rw [Bd.returns] at h; cases h) Bd.notSynchronized (⟨a101, k101, (0 : Int32), (3 : Int32), [(.int ((c0.toInt8.toInt32).toInt8.toInt32)), (.int ((c1.toInt8.toInt32).toInt8.toInt32)), (.int ((c2.toInt8.toInt32).toInt8.toInt32))], rfl, N106_, kp110, (Nat.le_trans (Nat.le_refl _) (Nat.le_of_eq g101.symm)), p106_1, (Or.inl ⟨rfl, rfl, by simp [StrChars.lo8], (own_cons hx_0 (own_cons hx_1 (own_cons hx_2 own_nil)))⟩)⟩) (by decide) (by decide) (fun fs hr => retA X106 hx Bd.returns rfl rfl (hb hby d_jdk_52_method_16_58) hr)
  · subst hr
    refine Fin.by (fun tt_ kk_ => XS.istore X106.here hx rfl (hb hby d_jdk_52_method_16_12) rfl (l' := #[.val (.ref b), .val (.int 0), .val (.int 3), .val (.ref a101), .val (.int 0), .unset]) rfl (XS.iload X106.here hx rfl (hb hby d_jdk_52_method_16_14) rfl (XS.iloadN X106.here hx rfl (hb hby d_jdk_52_method_16_16) rfl kk_))) ?_
    show Fin _ _ _ _ _ _ _ (T106.setTop (mkF m 17 #[.val (.ref b), .val (.int 0), .val (.int 3), .val (.ref a101), .val (.int 0), .unset] [(.int 3), (.int 0)]))
    refine Fin.by (fun tt_ kk_ => XS.icmpNo X106.here hx rfl (hb hby d_jdk_52_method_16_17) rfl (feq (by decide : ¬ (0 : Int32) = (3 : Int32))).1 kk_) ?_
    refine Fin.by (fun tt_ kk_ => XS.aloadN X106.here hx rfl (hb hby d_jdk_52_method_16_20) rfl rfl (XS.iloadN X106.here hx rfl (hb hby d_jdk_52_method_16_21) rfl (XS.iloadN X106.here hx rfl (hb hby d_jdk_52_method_16_22) rfl kk_))) ?_
    have A111 : Arv Z T106.heap b kb .char (3 : Int32) [(.int c0), (.int c1), (.int c2)] (.int (0 : Int32)) := (A102.keep p106_0 (ninS ne104 nin0))
    have O112 : Old Z n0 T106.heap := ((OL.ext E101).keep p106_0 (allS g103 all0))
    have z113 : n0 ≤ T106.heap.size := Nat.le_trans z105 p106_0.1
    obtain ⟨v114, _, ⟨T114, L114, k114, n114⟩, -, X114, ⟨Lc114, hQ114, l114, y114, z114⟩, st114⟩ := Jvm.LawKit.callS X106 hx (y := y_12) hown (mvT hZ (w_ hw 76 rfl)) (mvT hZ (w_ hw 77 rfl)) (mvT hZ (w_ hw 23 rfl)) (mvT hZ (w_ hw 78 rfl)) (by decide) (backOf (W := 0) (rm_tob_3 l Z a0 hw [] b kb c0 c1 c2 T106.heap n0 z113 A111 S6 S7 S8 O112) hZ (w_ hw 78 rfl) (w_ hw 23 rfl) (by decide) (by decide)) (g := (mkF m 23 #[.val (.ref b), .val (.int 0), .val (.int 3), .val (.ref a101), .val (.int 0), .unset] [(.int 3), (.int 0), (.ref b)])) rfl (by rw [hml]; rfl) (argsL := [(.ref b), (.int 0), (.int 3)]) (rest := []) (lenOf pd_198 rfl) rfl (by show 2 * 0 + _ ≤ _; exact Nat.le_of_eq rfl) (hb hby d_jdk_52_method_16_23) (fun _ _ => ⟨rfl, rfl, (by decide : 1 + 1 ≤ _), (by decide : 3 + 6 ≤ _)⟩)
    dsimp only [Pt.U, Pt.locs, Pt.cells, Pt.slots] at X114 l114 y114 z114 st114 hQ114
    subst l114 y114 z114
    obtain ⟨t115, k116, rfl, Nq114, p114_0, p114_1, p114_2⟩ := hQ114
    have N114_ := Fr.app N106_ Nq114
    refine Fin.by (fun tt_ kk_ => st114 tt_ kk_) ?_
    refine Fin.by (fun tt_ kk_ => XS.astore X114.here hx rfl (hb hby d_jdk_52_method_16_26) rfl rfl (l' := #[.val (.ref b), .val (.int 0), .val (.int 3), .val (.ref a101), .val (.int 0), .val (.ref t115)]) rfl (XS.aload X114.here hx rfl (hb hby d_jdk_52_method_16_28) rfl rfl (XS.iload X114.here hx rfl (hb hby d_jdk_52_method_16_30) rfl kk_))) ?_
    have O117 : Old Z n0 T114.heap := (O112.keep p114_0 all0)
    have z118 : n0 ≤ T114.heap.size := Nat.le_trans z113 p114_0.1
    obtain ⟨v119, _, ⟨T119, L119, k119, n119⟩, -, X119, ⟨Lc119, hQ119, l119, y119, z119⟩, st119⟩ := Jvm.LawKit.callS X114 hx (y := y_4) hown (mvT hZ (w_ hw 92 rfl)) (mvT hZ (w_ hw 93 rfl)) (mvT hZ (w_ hw 23 rfl)) (mvT hZ (w_ hw 94 rfl)) (by decide) (backOf (W := 0) (rm_uge l Z a0 hw [] t115 k116 (6 : Int32) ([(.int (((c0 >>> ((0 : Int32) &&& 31)).toInt8.toInt32).toInt8.toInt32)), (.int (((c0 >>> ((8 : Int32) &&& 31)).toInt8.toInt32).toInt8.toInt32)), (.int (((c1 >>> ((0 : Int32) &&& 31)).toInt8.toInt32).toInt8.toInt32)), (.int (((c1 >>> ((8 : Int32) &&& 31)).toInt8.toInt32).toInt8.toInt32)), (.int (((c2 >>> ((0 : Int32) &&& 31)).toInt8.toInt32).toInt8.toInt32)), (.int (((c2 >>> ((8 : Int32) &&& 31)).toInt8.toInt32).toInt8.toInt32))] : List Value) 0 (0 : Int32) (((c0 >>> ((0 : Int32) &&& 31)).toInt8.toInt32).toInt8.toInt32) (((c0 >>> ((8 : Int32) &&& 31)).toInt8.toInt32).toInt8.toInt32) T114.heap n0 z118 rfl (by decide) (by decide) rfl rfl p114_2 S6 S7 S8 O117) hZ (w_ hw 94 rfl) (w_ hw 23 rfl) (by decide) (by decide)) (g := (mkF m 32 #[.val (.ref b), .val (.int 0), .val (.int 3), .val (.ref a101), .val (.int 0), .val (.ref t115)] [(.int 0), (.ref t115)])) rfl (by rw [hml]; rfl) (argsL := [(.ref t115), (.int 0)]) (rest := []) (lenOf pd_71 rfl) rfl (by show 2 * 0 + _ ≤ _; exact Nat.le_of_eq rfl) (hb hby d_jdk_52_method_16_32) (fun _ _ => ⟨rfl, rfl, (by decide : 2 + 0 ≤ _), (by decide : 9 + 0 ≤ _)⟩)
    dsimp only [Pt.U, Pt.locs, Pt.cells, Pt.slots] at X119 l119 y119 z119 st119 hQ119
    subst l119 y119 z119
    obtain ⟨rfl, Nq119, e119_⟩ := hQ119
    have N119_ := Fr.app N114_ Nq119
    refine Fin.by (fun tt_ kk_ => st119 tt_ kk_) ?_
    have e119 := e119_
    refine Fin.by (fun tt_ kk_ => XS.sipush X119.here hx rfl (hb hby d_jdk_52_method_16_35) kk_) ?_
    show Fin _ _ _ _ _ _ _ (T119.setTop (mkF m 38 #[.val (.ref b), .val (.int 0), .val (.int 3), .val (.ref a101), .val (.int 0), .val (.ref t115)] [(.int 255), (.int (nar .char (StrChars.pairCh (((c0 >>> (0 &&& 31)).toInt8.toInt32).toInt8.toInt32) (((c0 >>> (8 &&& 31)).toInt8.toInt32).toInt8.toInt32))))]))
    refine Fin.by (fun tt_ kk_ => XS.icmpYes X119.here hx rfl (pc0 := 38) (pc' := 54) rfl (hb hby d_jdk_52_method_16_38) rfl (tlt (by rw [own_pw hb_0]; exact hx_0 : (255 : Int32) < (nar .char (StrChars.pairCh (((c0 >>> ((0 : Int32) &&& 31)).toInt8.toInt32).toInt8.toInt32) (((c0 >>> ((8 : Int32) &&& 31)).toInt8.toInt32).toInt8.toInt32))))).2.2.1 (by decide) (by decide) kk_) ?_
    refine Fin.by (fun tt_ kk_ => XS.aload X119.here hx rfl (hb hby d_jdk_52_method_16_54) rfl rfl kk_) ?_
    have kp120 : Keep h0 h101 [] := (Keep.refl h0 []).ext E101
    have kp121 : Keep h0 T106.heap [] := kp120.trans p106_0 (allS (Or.inr (Nat.le_trans (Nat.le_refl _) (Nat.le_of_eq g101.symm))) all0)
    have kp122 : Keep h0 T114.heap [] := kp121.trans p114_0 all0
    show Fin _ _ _ _ _ _ _ (T119.setTop (mkF m 56 #[.val (.ref b), .val (.int 0), .val (.int 3), .val (.ref a101), .val (.int 0), .val (.ref t115)] [(.ref t115)]))
    exact Fin.ret (v := some (.ref t115)) X119 (fun h => by rw [Bd.returns] at h; cases h) Bd.notSynchronized (by rw [e119]; exact ⟨t115, k116, (1 : Int32), (6 : Int32), [(.int (((c0 >>> ((0 : Int32) &&& 31)).toInt8.toInt32).toInt8.toInt32)), (.int (((c0 >>> ((8 : Int32) &&& 31)).toInt8.toInt32).toInt8.toInt32)), (.int (((c1 >>> ((0 : Int32) &&& 31)).toInt8.toInt32).toInt8.toInt32)), (.int (((c1 >>> ((8 : Int32) &&& 31)).toInt8.toInt32).toInt8.toInt32)), (.int (((c2 >>> ((0 : Int32) &&& 31)).toInt8.toInt32).toInt8.toInt32)), (.int (((c2 >>> ((8 : Int32) &&& 31)).toInt8.toInt32).toInt8.toInt32))], rfl, N119_, kp122, (Nat.le_trans (Nat.le_trans E101.1 p106_0.1) p114_1), p114_2, (Or.inr ⟨rfl, rfl, by simp only [StrChars.Road.wideBytes, own_raw_lo, own_raw_hi], ⟨c0, by simp, hx_0⟩⟩)⟩) (by decide) (by decide) (fun fs hr => retA X119 hx Bd.returns rfl rfl (hb hby d_jdk_52_method_16_56) hr)
  · subst hr
    refine Fin.by (fun tt_ kk_ => XS.istore X106.here hx rfl (hb hby d_jdk_52_method_16_12) rfl (l' := #[.val (.ref b), .val (.int 0), .val (.int 3), .val (.ref a101), .val (.int 1), .unset]) rfl (XS.iload X106.here hx rfl (hb hby d_jdk_52_method_16_14) rfl (XS.iloadN X106.here hx rfl (hb hby d_jdk_52_method_16_16) rfl kk_))) ?_
    show Fin _ _ _ _ _ _ _ (T106.setTop (mkF m 17 #[.val (.ref b), .val (.int 0), .val (.int 3), .val (.ref a101), .val (.int 1), .unset] [(.int 3), (.int 1)]))
    refine Fin.by (fun tt_ kk_ => XS.icmpNo X106.here hx rfl (hb hby d_jdk_52_method_16_17) rfl (feq (by decide : ¬ (1 : Int32) = (3 : Int32))).1 kk_) ?_
    refine Fin.by (fun tt_ kk_ => XS.aloadN X106.here hx rfl (hb hby d_jdk_52_method_16_20) rfl rfl (XS.iloadN X106.here hx rfl (hb hby d_jdk_52_method_16_21) rfl (XS.iloadN X106.here hx rfl (hb hby d_jdk_52_method_16_22) rfl kk_))) ?_
    have A123 : Arv Z T106.heap b kb .char (3 : Int32) [(.int c0), (.int c1), (.int c2)] (.int (0 : Int32)) := (A102.keep p106_0 (ninS ne104 nin0))
    have O124 : Old Z n0 T106.heap := ((OL.ext E101).keep p106_0 (allS g103 all0))
    have z125 : n0 ≤ T106.heap.size := Nat.le_trans z105 p106_0.1
    obtain ⟨v126, _, ⟨T126, L126, k126, n126⟩, -, X126, ⟨Lc126, hQ126, l126, y126, z126⟩, st126⟩ := Jvm.LawKit.callS X106 hx (y := y_12) hown (mvT hZ (w_ hw 76 rfl)) (mvT hZ (w_ hw 77 rfl)) (mvT hZ (w_ hw 23 rfl)) (mvT hZ (w_ hw 78 rfl)) (by decide) (backOf (W := 0) (rm_tob_3 l Z a0 hw [] b kb c0 c1 c2 T106.heap n0 z125 A123 S6 S7 S8 O124) hZ (w_ hw 78 rfl) (w_ hw 23 rfl) (by decide) (by decide)) (g := (mkF m 23 #[.val (.ref b), .val (.int 0), .val (.int 3), .val (.ref a101), .val (.int 1), .unset] [(.int 3), (.int 0), (.ref b)])) rfl (by rw [hml]; rfl) (argsL := [(.ref b), (.int 0), (.int 3)]) (rest := []) (lenOf pd_198 rfl) rfl (by show 2 * 0 + _ ≤ _; exact Nat.le_of_eq rfl) (hb hby d_jdk_52_method_16_23) (fun _ _ => ⟨rfl, rfl, (by decide : 1 + 1 ≤ _), (by decide : 3 + 6 ≤ _)⟩)
    dsimp only [Pt.U, Pt.locs, Pt.cells, Pt.slots] at X126 l126 y126 z126 st126 hQ126
    subst l126 y126 z126
    obtain ⟨t127, k128, rfl, Nq126, p126_0, p126_1, p126_2⟩ := hQ126
    have N126_ := Fr.app N106_ Nq126
    refine Fin.by (fun tt_ kk_ => st126 tt_ kk_) ?_
    refine Fin.by (fun tt_ kk_ => XS.astore X126.here hx rfl (hb hby d_jdk_52_method_16_26) rfl rfl (l' := #[.val (.ref b), .val (.int 0), .val (.int 3), .val (.ref a101), .val (.int 1), .val (.ref t127)]) rfl (XS.aload X126.here hx rfl (hb hby d_jdk_52_method_16_28) rfl rfl (XS.iload X126.here hx rfl (hb hby d_jdk_52_method_16_30) rfl kk_))) ?_
    have O129 : Old Z n0 T126.heap := (O124.keep p126_0 all0)
    have z130 : n0 ≤ T126.heap.size := Nat.le_trans z125 p126_0.1
    obtain ⟨v131, _, ⟨T131, L131, k131, n131⟩, -, X131, ⟨Lc131, hQ131, l131, y131, z131⟩, st131⟩ := Jvm.LawKit.callS X126 hx (y := y_4) hown (mvT hZ (w_ hw 92 rfl)) (mvT hZ (w_ hw 93 rfl)) (mvT hZ (w_ hw 23 rfl)) (mvT hZ (w_ hw 94 rfl)) (by decide) (backOf (W := 0) (rm_uge l Z a0 hw [] t127 k128 (6 : Int32) ([(.int (((c0 >>> ((0 : Int32) &&& 31)).toInt8.toInt32).toInt8.toInt32)), (.int (((c0 >>> ((8 : Int32) &&& 31)).toInt8.toInt32).toInt8.toInt32)), (.int (((c1 >>> ((0 : Int32) &&& 31)).toInt8.toInt32).toInt8.toInt32)), (.int (((c1 >>> ((8 : Int32) &&& 31)).toInt8.toInt32).toInt8.toInt32)), (.int (((c2 >>> ((0 : Int32) &&& 31)).toInt8.toInt32).toInt8.toInt32)), (.int (((c2 >>> ((8 : Int32) &&& 31)).toInt8.toInt32).toInt8.toInt32))] : List Value) 1 (1 : Int32) (((c1 >>> ((0 : Int32) &&& 31)).toInt8.toInt32).toInt8.toInt32) (((c1 >>> ((8 : Int32) &&& 31)).toInt8.toInt32).toInt8.toInt32) T126.heap n0 z130 rfl (by decide) (by decide) rfl rfl p126_2 S6 S7 S8 O129) hZ (w_ hw 94 rfl) (w_ hw 23 rfl) (by decide) (by decide)) (g := (mkF m 32 #[.val (.ref b), .val (.int 0), .val (.int 3), .val (.ref a101), .val (.int 1), .val (.ref t127)] [(.int 1), (.ref t127)])) rfl (by rw [hml]; rfl) (argsL := [(.ref t127), (.int 1)]) (rest := []) (lenOf pd_71 rfl) rfl (by show 2 * 0 + _ ≤ _; exact Nat.le_of_eq rfl) (hb hby d_jdk_52_method_16_32) (fun _ _ => ⟨rfl, rfl, (by decide : 2 + 0 ≤ _), (by decide : 9 + 0 ≤ _)⟩)
    dsimp only [Pt.U, Pt.locs, Pt.cells, Pt.slots] at X131 l131 y131 z131 st131 hQ131
    subst l131 y131 z131
    obtain ⟨rfl, Nq131, e131_⟩ := hQ131
    have N131_ := Fr.app N126_ Nq131
    refine Fin.by (fun tt_ kk_ => st131 tt_ kk_) ?_
    have e131 := e131_
    refine Fin.by (fun tt_ kk_ => XS.sipush X131.here hx rfl (hb hby d_jdk_52_method_16_35) kk_) ?_
    show Fin _ _ _ _ _ _ _ (T131.setTop (mkF m 38 #[.val (.ref b), .val (.int 0), .val (.int 3), .val (.ref a101), .val (.int 1), .val (.ref t127)] [(.int 255), (.int (nar .char (StrChars.pairCh (((c1 >>> (0 &&& 31)).toInt8.toInt32).toInt8.toInt32) (((c1 >>> (8 &&& 31)).toInt8.toInt32).toInt8.toInt32))))]))
    refine Fin.by (fun tt_ kk_ => XS.icmpYes X131.here hx rfl (pc0 := 38) (pc' := 54) rfl (hb hby d_jdk_52_method_16_38) rfl (tlt (by rw [own_pw hb_1]; exact hx_1 : (255 : Int32) < (nar .char (StrChars.pairCh (((c1 >>> ((0 : Int32) &&& 31)).toInt8.toInt32).toInt8.toInt32) (((c1 >>> ((8 : Int32) &&& 31)).toInt8.toInt32).toInt8.toInt32))))).2.2.1 (by decide) (by decide) kk_) ?_
    refine Fin.by (fun tt_ kk_ => XS.aload X131.here hx rfl (hb hby d_jdk_52_method_16_54) rfl rfl kk_) ?_
    have kp132 : Keep h0 h101 [] := (Keep.refl h0 []).ext E101
    have kp133 : Keep h0 T106.heap [] := kp132.trans p106_0 (allS (Or.inr (Nat.le_trans (Nat.le_refl _) (Nat.le_of_eq g101.symm))) all0)
    have kp134 : Keep h0 T126.heap [] := kp133.trans p126_0 all0
    show Fin _ _ _ _ _ _ _ (T131.setTop (mkF m 56 #[.val (.ref b), .val (.int 0), .val (.int 3), .val (.ref a101), .val (.int 1), .val (.ref t127)] [(.ref t127)]))
    exact Fin.ret (v := some (.ref t127)) X131 (fun h => by rw [Bd.returns] at h; cases h) Bd.notSynchronized (by rw [e131]; exact ⟨t127, k128, (1 : Int32), (6 : Int32), [(.int (((c0 >>> ((0 : Int32) &&& 31)).toInt8.toInt32).toInt8.toInt32)), (.int (((c0 >>> ((8 : Int32) &&& 31)).toInt8.toInt32).toInt8.toInt32)), (.int (((c1 >>> ((0 : Int32) &&& 31)).toInt8.toInt32).toInt8.toInt32)), (.int (((c1 >>> ((8 : Int32) &&& 31)).toInt8.toInt32).toInt8.toInt32)), (.int (((c2 >>> ((0 : Int32) &&& 31)).toInt8.toInt32).toInt8.toInt32)), (.int (((c2 >>> ((8 : Int32) &&& 31)).toInt8.toInt32).toInt8.toInt32))], rfl, N131_, kp134, (Nat.le_trans (Nat.le_trans E101.1 p106_0.1) p126_1), p126_2, (Or.inr ⟨rfl, rfl, by simp only [StrChars.Road.wideBytes, own_raw_lo, own_raw_hi], ⟨c1, by simp, hx_1⟩⟩)⟩) (by decide) (by decide) (fun fs hr => retA X131 hx Bd.returns rfl rfl (hb hby d_jdk_52_method_16_56) hr)
  · subst hr
    refine Fin.by (fun tt_ kk_ => XS.istore X106.here hx rfl (hb hby d_jdk_52_method_16_12) rfl (l' := #[.val (.ref b), .val (.int 0), .val (.int 3), .val (.ref a101), .val (.int 2), .unset]) rfl (XS.iload X106.here hx rfl (hb hby d_jdk_52_method_16_14) rfl (XS.iloadN X106.here hx rfl (hb hby d_jdk_52_method_16_16) rfl kk_))) ?_
    show Fin _ _ _ _ _ _ _ (T106.setTop (mkF m 17 #[.val (.ref b), .val (.int 0), .val (.int 3), .val (.ref a101), .val (.int 2), .unset] [(.int 3), (.int 2)]))
    refine Fin.by (fun tt_ kk_ => XS.icmpNo X106.here hx rfl (hb hby d_jdk_52_method_16_17) rfl (feq (by decide : ¬ (2 : Int32) = (3 : Int32))).1 kk_) ?_
    refine Fin.by (fun tt_ kk_ => XS.aloadN X106.here hx rfl (hb hby d_jdk_52_method_16_20) rfl rfl (XS.iloadN X106.here hx rfl (hb hby d_jdk_52_method_16_21) rfl (XS.iloadN X106.here hx rfl (hb hby d_jdk_52_method_16_22) rfl kk_))) ?_
    have A135 : Arv Z T106.heap b kb .char (3 : Int32) [(.int c0), (.int c1), (.int c2)] (.int (0 : Int32)) := (A102.keep p106_0 (ninS ne104 nin0))
    have O136 : Old Z n0 T106.heap := ((OL.ext E101).keep p106_0 (allS g103 all0))
    have z137 : n0 ≤ T106.heap.size := Nat.le_trans z105 p106_0.1
    obtain ⟨v138, _, ⟨T138, L138, k138, n138⟩, -, X138, ⟨Lc138, hQ138, l138, y138, z138⟩, st138⟩ := Jvm.LawKit.callS X106 hx (y := y_12) hown (mvT hZ (w_ hw 76 rfl)) (mvT hZ (w_ hw 77 rfl)) (mvT hZ (w_ hw 23 rfl)) (mvT hZ (w_ hw 78 rfl)) (by decide) (backOf (W := 0) (rm_tob_3 l Z a0 hw [] b kb c0 c1 c2 T106.heap n0 z137 A135 S6 S7 S8 O136) hZ (w_ hw 78 rfl) (w_ hw 23 rfl) (by decide) (by decide)) (g := (mkF m 23 #[.val (.ref b), .val (.int 0), .val (.int 3), .val (.ref a101), .val (.int 2), .unset] [(.int 3), (.int 0), (.ref b)])) rfl (by rw [hml]; rfl) (argsL := [(.ref b), (.int 0), (.int 3)]) (rest := []) (lenOf pd_198 rfl) rfl (by show 2 * 0 + _ ≤ _; exact Nat.le_of_eq rfl) (hb hby d_jdk_52_method_16_23) (fun _ _ => ⟨rfl, rfl, (by decide : 1 + 1 ≤ _), (by decide : 3 + 6 ≤ _)⟩)
    dsimp only [Pt.U, Pt.locs, Pt.cells, Pt.slots] at X138 l138 y138 z138 st138 hQ138
    subst l138 y138 z138
    obtain ⟨t139, k140, rfl, Nq138, p138_0, p138_1, p138_2⟩ := hQ138
    have N138_ := Fr.app N106_ Nq138
    refine Fin.by (fun tt_ kk_ => st138 tt_ kk_) ?_
    refine Fin.by (fun tt_ kk_ => XS.astore X138.here hx rfl (hb hby d_jdk_52_method_16_26) rfl rfl (l' := #[.val (.ref b), .val (.int 0), .val (.int 3), .val (.ref a101), .val (.int 2), .val (.ref t139)]) rfl (XS.aload X138.here hx rfl (hb hby d_jdk_52_method_16_28) rfl rfl (XS.iload X138.here hx rfl (hb hby d_jdk_52_method_16_30) rfl kk_))) ?_
    have O141 : Old Z n0 T138.heap := (O136.keep p138_0 all0)
    have z142 : n0 ≤ T138.heap.size := Nat.le_trans z137 p138_0.1
    obtain ⟨v143, _, ⟨T143, L143, k143, n143⟩, -, X143, ⟨Lc143, hQ143, l143, y143, z143⟩, st143⟩ := Jvm.LawKit.callS X138 hx (y := y_4) hown (mvT hZ (w_ hw 92 rfl)) (mvT hZ (w_ hw 93 rfl)) (mvT hZ (w_ hw 23 rfl)) (mvT hZ (w_ hw 94 rfl)) (by decide) (backOf (W := 0) (rm_uge l Z a0 hw [] t139 k140 (6 : Int32) ([(.int (((c0 >>> ((0 : Int32) &&& 31)).toInt8.toInt32).toInt8.toInt32)), (.int (((c0 >>> ((8 : Int32) &&& 31)).toInt8.toInt32).toInt8.toInt32)), (.int (((c1 >>> ((0 : Int32) &&& 31)).toInt8.toInt32).toInt8.toInt32)), (.int (((c1 >>> ((8 : Int32) &&& 31)).toInt8.toInt32).toInt8.toInt32)), (.int (((c2 >>> ((0 : Int32) &&& 31)).toInt8.toInt32).toInt8.toInt32)), (.int (((c2 >>> ((8 : Int32) &&& 31)).toInt8.toInt32).toInt8.toInt32))] : List Value) 2 (2 : Int32) (((c2 >>> ((0 : Int32) &&& 31)).toInt8.toInt32).toInt8.toInt32) (((c2 >>> ((8 : Int32) &&& 31)).toInt8.toInt32).toInt8.toInt32) T138.heap n0 z142 rfl (by decide) (by decide) rfl rfl p138_2 S6 S7 S8 O141) hZ (w_ hw 94 rfl) (w_ hw 23 rfl) (by decide) (by decide)) (g := (mkF m 32 #[.val (.ref b), .val (.int 0), .val (.int 3), .val (.ref a101), .val (.int 2), .val (.ref t139)] [(.int 2), (.ref t139)])) rfl (by rw [hml]; rfl) (argsL := [(.ref t139), (.int 2)]) (rest := []) (lenOf pd_71 rfl) rfl (by show 2 * 0 + _ ≤ _; exact Nat.le_of_eq rfl) (hb hby d_jdk_52_method_16_32) (fun _ _ => ⟨rfl, rfl, (by decide : 2 + 0 ≤ _), (by decide : 9 + 0 ≤ _)⟩)
    dsimp only [Pt.U, Pt.locs, Pt.cells, Pt.slots] at X143 l143 y143 z143 st143 hQ143
    subst l143 y143 z143
    obtain ⟨rfl, Nq143, e143_⟩ := hQ143
    have N143_ := Fr.app N138_ Nq143
    refine Fin.by (fun tt_ kk_ => st143 tt_ kk_) ?_
    have e143 := e143_
    refine Fin.by (fun tt_ kk_ => XS.sipush X143.here hx rfl (hb hby d_jdk_52_method_16_35) kk_) ?_
    show Fin _ _ _ _ _ _ _ (T143.setTop (mkF m 38 #[.val (.ref b), .val (.int 0), .val (.int 3), .val (.ref a101), .val (.int 2), .val (.ref t139)] [(.int 255), (.int (nar .char (StrChars.pairCh (((c2 >>> (0 &&& 31)).toInt8.toInt32).toInt8.toInt32) (((c2 >>> (8 &&& 31)).toInt8.toInt32).toInt8.toInt32))))]))
    refine Fin.by (fun tt_ kk_ => XS.icmpYes X143.here hx rfl (pc0 := 38) (pc' := 54) rfl (hb hby d_jdk_52_method_16_38) rfl (tlt (by rw [own_pw hb_2]; exact hx_2 : (255 : Int32) < (nar .char (StrChars.pairCh (((c2 >>> ((0 : Int32) &&& 31)).toInt8.toInt32).toInt8.toInt32) (((c2 >>> ((8 : Int32) &&& 31)).toInt8.toInt32).toInt8.toInt32))))).2.2.1 (by decide) (by decide) kk_) ?_
    refine Fin.by (fun tt_ kk_ => XS.aload X143.here hx rfl (hb hby d_jdk_52_method_16_54) rfl rfl kk_) ?_
    have kp144 : Keep h0 h101 [] := (Keep.refl h0 []).ext E101
    have kp145 : Keep h0 T106.heap [] := kp144.trans p106_0 (allS (Or.inr (Nat.le_trans (Nat.le_refl _) (Nat.le_of_eq g101.symm))) all0)
    have kp146 : Keep h0 T138.heap [] := kp145.trans p138_0 all0
    show Fin _ _ _ _ _ _ _ (T143.setTop (mkF m 56 #[.val (.ref b), .val (.int 0), .val (.int 3), .val (.ref a101), .val (.int 2), .val (.ref t139)] [(.ref t139)]))
    exact Fin.ret (v := some (.ref t139)) X143 (fun h => by rw [Bd.returns] at h; cases h) Bd.notSynchronized (by rw [e143]; exact ⟨t139, k140, (1 : Int32), (6 : Int32), [(.int (((c0 >>> ((0 : Int32) &&& 31)).toInt8.toInt32).toInt8.toInt32)), (.int (((c0 >>> ((8 : Int32) &&& 31)).toInt8.toInt32).toInt8.toInt32)), (.int (((c1 >>> ((0 : Int32) &&& 31)).toInt8.toInt32).toInt8.toInt32)), (.int (((c1 >>> ((8 : Int32) &&& 31)).toInt8.toInt32).toInt8.toInt32)), (.int (((c2 >>> ((0 : Int32) &&& 31)).toInt8.toInt32).toInt8.toInt32)), (.int (((c2 >>> ((8 : Int32) &&& 31)).toInt8.toInt32).toInt8.toInt32))], rfl, N143_, kp146, (Nat.le_trans (Nat.le_trans E101.1 p106_0.1) p138_1), p138_2, (Or.inr ⟨rfl, rfl, by simp only [StrChars.Road.wideBytes, own_raw_lo, own_raw_hi], ⟨c2, by simp, hx_2⟩⟩)⟩) (by decide) (by decide) (fun fs hr => retA X143 hx Bd.returns rfl rfl (hb hby d_jdk_52_method_16_56) hr)
def Q_cod_3_0 (Z : State) (t : Addr) (kt : ClassId) (vs : List Value) (h0 : Heap) (n0 : Nat) (vv_ : Option Value) (hh_ : Heap) (LL_ : List Loc) : Prop := vv_ = some (.int (nar .byte (0 : Int32))) ∧ Fr n0 LL_ ∧ hh_ = h0
set_option maxRecDepth 65536 in
set_option maxHeartbeats 40000000 in
theorem rm_cod_3_0 (l : Launch) (Z : State) (a0 : Array Value) (hw : ∀ d ∈ tables_1, d.before a0 Z = true) (ws : List Jvm.Cond) (t : Addr) (kt : ClassId) (vs : List Value) (h0 : Heap) (n0 : Nat) (Z0 : n0 ≤ h0.size) (A0 : Arv Z h0 t kt .byte (3 : Int32) vs (.int (0 : Int32))) :
    MetFree l (⟨"java/lang/StringUTF16", "coderFromArrayLen", "([BI)B"⟩ : MethodName) (head1 (Jvm.Cond.code (⟨"java/lang/StringUTF16", "coderFromArrayLen", "([BI)B"⟩ : MethodName) jdk_52_method_15_code 2 (some .byte) :: ws) ({ frames := 0, cells := 0, slots := 0, locals := 0 } : Room)) (fun aa_ U => aa_ = #[(.ref t), (.int (3 : Int32))] ∧ Z.Warmed39 U.vm ∧ U.heap = h0) (fun _ _ _ _ _ => True) (fun _ U o U' => ∃ vv_ LL_, o = .returned vv_ ∧ Q_cod_3_0 Z t kt vs h0 n0 vv_ U'.heap LL_ ∧ FrameEnd U o U' LL_ 0 0) := by
  refine MetFree.of_bodySF (plainFor_of_name pn_java_lang_StringUTF16) hisR ?_
  intro p e s m args below meth c s₁ Bd hml0 hP hK
  obtain ⟨rfl, hZ, hh⟩ := hP
  have hx := Bd.exec
  have hby := Bd.bytes
  have hml : c.maxLocals = 2 := hml0
  have hown : s.vm.findClass "java/lang/StringUTF16" = some m.cls := findClass_of_methodNamed Bd.named
  have hnm := (name_of_methodNamed Bd.named Bd.method).1
  have X0 : Stand p l e ({ frames := 0, cells := 0, slots := 0, locals := 0 } : Room) s m #[(.ref t), (.int (3 : Int32))] below meth c s₁ [] 0 0 := Stand.of_body Bd
  have e0 : s₁.heap = h0 := by rw [← hh, Bd.state]; rfl
  have N0 := Fr.nil n0
  have ef : entryFrame m #[(.ref t), (.int (3 : Int32))] 2 = mkF m 0 #[.val (.ref t), .val (.int (3 : Int32))] [] := by first | (simp [entryFrame, mkF, argsToLocals, Value.category]; done) | rfl
  refine Fin.start (Q := Q_cod_3_0 Z t kt vs h0 n0) ef ?_
  refine Fin.by (fun tt_ kk_ => XS.iloadN X0.here hx rfl (hb hby d_jdk_52_method_15_0) rfl (XS.aloadN X0.here hx rfl (hb hby d_jdk_52_method_15_1) rfl rfl kk_)) ?_
  obtain ⟨cl101, Ar101, q101, S101, N101, H101, G101⟩ := id A0
  refine Fin.by (fun tt_ kk_ => X0.arraylength hx (by rw [e0]; exact Ar101.1) (State.isArrayOf_alike hZ.alike Ar101.2.1) (g := (mkF m 2 #[.val (.ref t), .val (.int 3)] [(.ref t), (.int 3)])) rfl rfl (hb hby d_jdk_52_method_15_2) _ kk_) ?_
  rw [len_of S101 N101]
  refine Fin.by (fun tt_ kk_ => XS.isub X0.here hx rfl (hb hby d_jdk_52_method_15_3) rfl (XS.bipush X0.here hx rfl (hb hby d_jdk_52_method_15_4) (XS.iushr X0.here hx rfl (hb hby d_jdk_52_method_15_6) rfl (XS.i2b X0.here hx rfl (hb hby d_jdk_52_method_15_7) rfl kk_)))) ?_
  show Fin _ _ _ _ _ _ _ (s₁.setTop (mkF m 8 #[.val (.ref t), .val (.int 3)] [(.int 0)]))
  exact Fin.ret (v := some (.int (nar .byte (0 : Int32)))) X0 (fun h => by rw [Bd.returns] at h; cases h) Bd.notSynchronized (by rw [e0]; exact ⟨rfl, N0, rfl⟩) (by decide) (by decide) (fun fs hr => retN X0 hx (t := .byte) Bd.returns (by simp) (hb hby d_jdk_52_method_15_8) hr)
def Q_cod_3_1 (Z : State) (t : Addr) (kt : ClassId) (vs : List Value) (h0 : Heap) (n0 : Nat) (vv_ : Option Value) (hh_ : Heap) (LL_ : List Loc) : Prop := vv_ = some (.int (nar .byte (1 : Int32))) ∧ Fr n0 LL_ ∧ hh_ = h0
set_option maxRecDepth 65536 in
set_option maxHeartbeats 40000000 in
theorem rm_cod_3_1 (l : Launch) (Z : State) (a0 : Array Value) (hw : ∀ d ∈ tables_1, d.before a0 Z = true) (ws : List Jvm.Cond) (t : Addr) (kt : ClassId) (vs : List Value) (h0 : Heap) (n0 : Nat) (Z0 : n0 ≤ h0.size) (A0 : Arv Z h0 t kt .byte (6 : Int32) vs (.int (0 : Int32))) :
    MetFree l (⟨"java/lang/StringUTF16", "coderFromArrayLen", "([BI)B"⟩ : MethodName) (head1 (Jvm.Cond.code (⟨"java/lang/StringUTF16", "coderFromArrayLen", "([BI)B"⟩ : MethodName) jdk_52_method_15_code 2 (some .byte) :: ws) ({ frames := 0, cells := 0, slots := 0, locals := 0 } : Room)) (fun aa_ U => aa_ = #[(.ref t), (.int (3 : Int32))] ∧ Z.Warmed39 U.vm ∧ U.heap = h0) (fun _ _ _ _ _ => True) (fun _ U o U' => ∃ vv_ LL_, o = .returned vv_ ∧ Q_cod_3_1 Z t kt vs h0 n0 vv_ U'.heap LL_ ∧ FrameEnd U o U' LL_ 0 0) := by
  refine MetFree.of_bodySF (plainFor_of_name pn_java_lang_StringUTF16) hisR ?_
  intro p e s m args below meth c s₁ Bd hml0 hP hK
  obtain ⟨rfl, hZ, hh⟩ := hP
  have hx := Bd.exec
  have hby := Bd.bytes
  have hml : c.maxLocals = 2 := hml0
  have hown : s.vm.findClass "java/lang/StringUTF16" = some m.cls := findClass_of_methodNamed Bd.named
  have hnm := (name_of_methodNamed Bd.named Bd.method).1
  have X0 : Stand p l e ({ frames := 0, cells := 0, slots := 0, locals := 0 } : Room) s m #[(.ref t), (.int (3 : Int32))] below meth c s₁ [] 0 0 := Stand.of_body Bd
  have e0 : s₁.heap = h0 := by rw [← hh, Bd.state]; rfl
  have N0 := Fr.nil n0
  have ef : entryFrame m #[(.ref t), (.int (3 : Int32))] 2 = mkF m 0 #[.val (.ref t), .val (.int (3 : Int32))] [] := by first | (simp [entryFrame, mkF, argsToLocals, Value.category]; done) | rfl
  refine Fin.start (Q := Q_cod_3_1 Z t kt vs h0 n0) ef ?_
  refine Fin.by (fun tt_ kk_ => XS.iloadN X0.here hx rfl (hb hby d_jdk_52_method_15_0) rfl (XS.aloadN X0.here hx rfl (hb hby d_jdk_52_method_15_1) rfl rfl kk_)) ?_
  obtain ⟨cl101, Ar101, q101, S101, N101, H101, G101⟩ := id A0
  refine Fin.by (fun tt_ kk_ => X0.arraylength hx (by rw [e0]; exact Ar101.1) (State.isArrayOf_alike hZ.alike Ar101.2.1) (g := (mkF m 2 #[.val (.ref t), .val (.int 3)] [(.ref t), (.int 3)])) rfl rfl (hb hby d_jdk_52_method_15_2) _ kk_) ?_
  rw [len_of S101 N101]
  refine Fin.by (fun tt_ kk_ => XS.isub X0.here hx rfl (hb hby d_jdk_52_method_15_3) rfl (XS.bipush X0.here hx rfl (hb hby d_jdk_52_method_15_4) (XS.iushr X0.here hx rfl (hb hby d_jdk_52_method_15_6) rfl (XS.i2b X0.here hx rfl (hb hby d_jdk_52_method_15_7) rfl kk_)))) ?_
  show Fin _ _ _ _ _ _ _ (s₁.setTop (mkF m 8 #[.val (.ref t), .val (.int 3)] [(.int 1)]))
  exact Fin.ret (v := some (.int (nar .byte (1 : Int32)))) X0 (fun h => by rw [Bd.returns] at h; cases h) Bd.notSynchronized (by rw [e0]; exact ⟨rfl, N0, rfl⟩) (by decide) (by decide) (fun fs hr => retN X0 hx (t := .byte) Bd.returns (by simp) (hb hby d_jdk_52_method_15_8) hr)
def Q_n4_3 (Z : State) (a : Addr) (b : Addr) (kb : ClassId) (c0 : Int32) (c1 : Int32) (c2 : Int32) (G1 : Int32) (h0 : Heap) (n0 : Nat) (vv_ : Option Value) (hh_ : Heap) (LL_ : List Loc) : Prop := ∃ (t : Addr), ∃ (k : ClassId), ∃ (cd : Int32), ∃ (N2 : Int32), ∃ (vs : List Value), vv_ = none ∧ Fr n0 LL_ ∧ Keep h0 hh_ [a] ∧ h0.size ≤ t ∧ Exa Z hh_ a "java/lang/String" ∧ Fld Z hh_ a "java/lang/String" "value" "[B" (.ref t) ∧ Fld Z hh_ a "java/lang/String" "coder" "B" (.int cd) ∧ Arv Z hh_ t k .byte N2 vs (.int (0 : Int32)) ∧ (StrChars.Road.CodA ([c0, c1, c2] : List Int32) cd N2 vs)
set_option maxRecDepth 65536 in
set_option maxHeartbeats 40000000 in
theorem rm_n4_3 (l : Launch) (Z : State) (a0 : Array Value) (hw : ∀ d ∈ tables_1, d.before a0 Z = true) (ws : List Jvm.Cond) (a : Addr) (b : Addr) (kb : ClassId) (c0 : Int32) (c1 : Int32) (c2 : Int32) (G1 : Int32) (h0 : Heap) (n0 : Nat) (Z0 : n0 ≤ h0.size) (E0 : Exa Z h0 a "java/lang/String") (F0 : Fld Z h0 a "java/lang/String" "value" "[B" .null) (F1 : Fld Z h0 a "java/lang/String" "coder" "B" (.int (0 : Int32))) (ga : n0 ≤ a) (Ab : Arv Z h0 b kb .char (3 : Int32) [(.int c0), (.int c1), (.int c2)] (.int (0 : Int32))) (hb_0 : ¬ c0 < 0 ∧ ¬ (65535 : Int32) < c0) (hb_1 : ¬ c1 < 0 ∧ ¬ (65535 : Int32) < c1) (hb_2 : ¬ c2 < 0 ∧ ¬ (65535 : Int32) < c2) (S1 : Sta Z Z.heap "java/lang/String" "COMPACT_STRINGS" "Z" (.int G1)) (P1 : ¬ G1 = 0) (S6 : Sta Z Z.heap "java/lang/StringUTF16" "$assertionsDisabled" "Z" (.int (1 : Int32))) (S7 : Sta Z Z.heap "java/lang/StringUTF16" "HI_BYTE_SHIFT" "I" (.int (0 : Int32))) (S8 : Sta Z Z.heap "java/lang/StringUTF16" "LO_BYTE_SHIFT" "I" (.int (8 : Int32))) (OL : Old Z n0 h0) :
    MetFree l (⟨"java/lang/String", "<init>", "([CIILjava/lang/Void;)V"⟩ : MethodName) (head1 (Jvm.Cond.code (⟨"java/lang/String", "<init>", "([CIILjava/lang/Void;)V"⟩ : MethodName) jdk_42_method_149_code 6 none :: ws) ({ frames := 4, cells := 2, slots := 9, locals := 57 } : Room)) (fun aa_ U => aa_ = #[(.ref a), (.ref b), (.int (0 : Int32)), (.int (3 : Int32)), .null] ∧ Z.Warmed39 U.vm ∧ U.heap = h0) (fun _ _ _ _ _ => True) (fun _ U o U' => ∃ vv_ LL_, o = .returned vv_ ∧ Q_n4_3 Z a b kb c0 c1 c2 G1 h0 n0 vv_ U'.heap LL_ ∧ FrameEnd U o U' LL_ 2 9) := by
  refine MetFree.of_bodySF (plainFor_of_name pn_java_lang_String) hisR ?_
  intro p e s m args below meth c s₁ Bd hml0 hP hK
  obtain ⟨rfl, hZ, hh⟩ := hP
  have hx := Bd.exec
  have hby := Bd.bytes
  have hml : c.maxLocals = 6 := hml0
  have hown : s.vm.findClass "java/lang/String" = some m.cls := findClass_of_methodNamed Bd.named
  have hnm := (name_of_methodNamed Bd.named Bd.method).1
  have X0 : Stand p l e ({ frames := 4, cells := 2, slots := 9, locals := 57 } : Room) s m #[(.ref a), (.ref b), (.int (0 : Int32)), (.int (3 : Int32)), .null] below meth c s₁ [] 0 0 := Stand.of_body Bd
  have e0 : s₁.heap = h0 := by rw [← hh, Bd.state]; rfl
  have N0 := Fr.nil n0
  have ef : entryFrame m #[(.ref a), (.ref b), (.int (0 : Int32)), (.int (3 : Int32)), .null] 6 = mkF m 0 #[.val (.ref a), .val (.ref b), .val (.int (0 : Int32)), .val (.int (3 : Int32)), .val .null, .unset] [] := by first | (simp [entryFrame, mkF, argsToLocals, Value.category]; done) | rfl
  refine Fin.start (Q := Q_n4_3 Z a b kb c0 c1 c2 G1 h0 n0) ef ?_
  refine Fin.by (fun tt_ kk_ => XS.aloadN X0.here hx rfl (hb hby d_jdk_42_method_149_0) rfl rfl kk_) ?_
  obtain ⟨T101, X101, e101, st101⟩ := initO X0 hx hZ hown (w_ hw 17 rfl) (w_ hw 18 rfl) (w_ hw 19 rfl) e0 (g := (mkF m 1 #[.val (.ref a), .val (.ref b), .val (.int 0), .val (.int 3), .val .null, .unset] [(.ref a)])) rfl (by rw [hml]; rfl) rfl (hb hby d_jdk_42_method_149_1) (by decide) (W := 0) (by show 2 * 0 + _ ≤ _; exact Nat.le_of_eq rfl) (by decide)
  refine Fin.by (fun tt_ kk_ => st101 tt_ kk_) ?_
  refine Fin.by (fun tt_ kk_ => XS.iloadN X101.here hx rfl (hb hby d_jdk_42_method_149_4) rfl kk_) ?_
  show Fin _ _ _ _ _ _ _ (T101.setTop (mkF m 5 #[.val (.ref a), .val (.ref b), .val (.int 0), .val (.int 3), .val .null, .unset] [(.int 3)]))
  refine Fin.by (fun tt_ kk_ => XS.ifYes X101.here hx rfl (pc0 := 5) (pc' := 27) rfl (hb hby d_jdk_42_method_149_5) rfl ((if0 _ _).trans (feq (by decide : ¬ (3 : Int32) = (0 : Int32))).2) (by decide) (by decide) kk_) ?_
  obtain ⟨T102, X102, e102, st102⟩ := getS X101 hx hZ (host := "") hown (w_ hw 20 rfl) Via.refl e101 (S1.ext OL.2) (g := (mkF m 27 #[.val (.ref a), .val (.ref b), .val (.int 0), .val (.int 3), .val .null, .unset] [])) rfl (hb hby d_jdk_42_method_149_27)
  refine Fin.by (fun tt_ kk_ => st102 tt_ kk_) ?_
  show Fin _ _ _ _ _ _ _ (T102.setTop (mkF m 30 #[.val (.ref a), .val (.ref b), .val (.int 0), .val (.int 3), .val .null, .unset] [(.int G1)]))
  refine Fin.by (fun tt_ kk_ => XS.ifNo X102.here hx rfl (hb hby d_jdk_42_method_149_30) rfl ((if0 _ _).trans (feq (P1 : ¬ G1 = (0 : Int32))).1) kk_) ?_
  refine Fin.by (fun tt_ kk_ => XS.aloadN X102.here hx rfl (hb hby d_jdk_42_method_149_33) rfl rfl (XS.iloadN X102.here hx rfl (hb hby d_jdk_42_method_149_34) rfl (XS.iloadN X102.here hx rfl (hb hby d_jdk_42_method_149_35) rfl kk_))) ?_
  obtain ⟨v103, _, ⟨T103, L103, k103, n103⟩, -, X103, ⟨Lc103, hQ103, l103, y103, z103⟩, st103⟩ := Jvm.LawKit.callS X102 hx (y := y_13) hown (mvT hZ (w_ hw 21 rfl)) (mvT hZ (w_ hw 22 rfl)) (mvT hZ (w_ hw 23 rfl)) (mvT hZ (w_ hw 24 rfl)) (by decide) (backOf (W := 0) (rm_c3_3 l Z a0 hw [] b kb c0 c1 c2 h0 n0 Z0 Ab hb_0 hb_1 hb_2 S6 S7 S8 OL) hZ (w_ hw 24 rfl) (w_ hw 23 rfl) (by decide) (by decide)) (g := (mkF m 36 #[.val (.ref a), .val (.ref b), .val (.int 0), .val (.int 3), .val .null, .unset] [(.int 3), (.int 0), (.ref b)])) rfl (by rw [hml]; rfl) (argsL := [(.ref b), (.int 0), (.int 3)]) (rest := []) (lenOf pd_198 rfl) rfl (by show 2 * 0 + _ ≤ _; exact Nat.le_of_eq rfl) (hb hby d_jdk_42_method_149_36) (fun _ _ => ⟨rfl, e102, (by decide : 0 + 2 ≤ _), (by decide : 0 + 9 ≤ _)⟩)
  dsimp only [Pt.U, Pt.locs, Pt.cells, Pt.slots] at X103 l103 y103 z103 st103 hQ103
  subst l103 y103 z103
  obtain ⟨t104, k105, cd106, N107, vs108, rfl, Nq103, p103_0, p103_1, p103_2, p103_3⟩ := hQ103
  have N103_ := Fr.app N0 Nq103
  refine Fin.by (fun tt_ kk_ => st103 tt_ kk_) ?_
  rcases id p103_3 with ⟨hcd, hN2, hvs, -⟩ | ⟨hcd, hN2, hvs, -⟩
  · have hN2' : N107 = (3 : Int32) := hN2
    clear hN2
    subst hcd
    subst hN2'
    refine Fin.by (fun tt_ kk_ => XS.astore X103.here hx rfl (hb hby d_jdk_42_method_149_39) rfl rfl (l' := #[.val (.ref a), .val (.ref b), .val (.int 0), .val (.int 3), .val .null, .val (.ref t104)]) rfl (XS.aloadN X103.here hx rfl (hb hby d_jdk_42_method_149_41) rfl rfl (XS.aload X103.here hx rfl (hb hby d_jdk_42_method_149_42) rfl rfl (XS.iloadN X103.here hx rfl (hb hby d_jdk_42_method_149_44) rfl kk_)))) ?_
    have z109 : n0 ≤ T103.heap.size := Nat.le_trans Z0 p103_0.1
    obtain ⟨v110, _, ⟨T110, L110, k110, n110⟩, -, X110, ⟨Lc110, hQ110, l110, y110, z110⟩, st110⟩ := Jvm.LawKit.callS X103 hx (y := y_14) hown (mvT hZ (w_ hw 28 rfl)) (mvT hZ (w_ hw 29 rfl)) (mvT hZ (w_ hw 23 rfl)) (mvT hZ (w_ hw 30 rfl)) (by decide) (backOf (W := 1) (rm_cod_3_0 l Z a0 hw [] t104 k105 (vs108 : List Value) T103.heap n0 z109 p103_2) hZ (w_ hw 30 rfl) (w_ hw 23 rfl) (by decide) (by decide)) (g := (mkF m 45 #[.val (.ref a), .val (.ref b), .val (.int 0), .val (.int 3), .val .null, .val (.ref t104)] [(.int 3), (.ref t104), (.ref a)])) rfl (by rw [hml]; rfl) (argsL := [(.ref t104), (.int 3)]) (rest := [(.ref a)]) (lenOf pd_230 rfl) rfl (by show 2 * 0 + _ ≤ _; exact Nat.le_of_eq rfl) (hb hby d_jdk_42_method_149_45) (fun _ _ => ⟨rfl, rfl, (by decide : 2 + 0 ≤ _), (by decide : 9 + 0 ≤ _)⟩)
    dsimp only [Pt.U, Pt.locs, Pt.cells, Pt.slots] at X110 l110 y110 z110 st110 hQ110
    subst l110 y110 z110
    obtain ⟨rfl, Nq110, e110_⟩ := hQ110
    have N110_ := Fr.app N103_ Nq110
    refine Fin.by (fun tt_ kk_ => st110 tt_ kk_) ?_
    have e110 := e110_
    have F111 : Fld Z T103.heap a "java/lang/String" "coder" "B" (.int (0 : Int32)) := (F1.keep p103_0 nin0)
    have E112 : Exa Z T103.heap a "java/lang/String" := (E0.keep p103_0)
    obtain ⟨T113, h113, X113, e113, W113, st113⟩ := putFN X110 hx hZ hown (w_ hw 31 rfl) Via.refl e110 F111 E112 (Or.inr ⟨(w_ hw 5 rfl), rfl, hnm⟩) (w_ hw 2 rfl) (ty := .byte) (v' := .int (0 : Int32)) (by decide) rfl rfl (g := (mkF m 48 #[.val (.ref a), .val (.ref b), .val (.int 0), .val (.int 3), .val .null, .val (.ref t104)] [(.int (nar .byte 0)), (.ref a)])) rfl rfl (hb hby d_jdk_42_method_149_48)
    refine Fin.by (fun tt_ kk_ => st113 tt_ kk_) ?_
    have N113_ := Fr.snoc X113 N110_ ga
    refine Fin.by (fun tt_ kk_ => XS.aloadN X113.here hx rfl (hb hby d_jdk_42_method_149_51) rfl rfl (XS.aload X113.here hx rfl (hb hby d_jdk_42_method_149_52) rfl rfl kk_)) ?_
    have F114 : Fld Z h113 a "java/lang/String" "value" "[B" .null := ((F0.keep p103_0 nin0).other W113 (Or.inr (slot_ne (Or.inr (w_ hw 4 rfl)) (Or.inr (w_ hw 5 rfl)) (by decide) (t := (.array .byte)) (t' := .byte) (by decide) (by decide))))
    have E115 : Exa Z h113 a "java/lang/String" := (E112.wr W113)
    obtain ⟨T116, h116, X116, e116, W116, st116⟩ := putF X113 hx hZ hown (host := "") (Or.inl (w_ hw 32 rfl)) Via.refl e113 F114 E115 (Or.inr ⟨(w_ hw 4 rfl), rfl, hnm⟩) (w_ hw 2 rfl) (ty := (.array .byte)) (by decide) rfl rfl (g := (mkF m 54 #[.val (.ref a), .val (.ref b), .val (.int 0), .val (.int 3), .val .null, .val (.ref t104)] [(.ref t104), (.ref a)])) rfl rfl (hb hby d_jdk_42_method_149_54)
    refine Fin.by (fun tt_ kk_ => st116 tt_ kk_) ?_
    have N116_ := Fr.snoc X116 N113_ ga
    have kp117 : Keep h0 T103.heap [a] := (Keep.refl h0 [a]).trans p103_0 all0
    have kp118 : Keep h0 h113 [a] := kp117.wr W113 (Or.inl (List.mem_of_getElem? (i := 0) rfl))
    have kp119 : Keep h0 h116 [a] := kp118.wr W116 (Or.inl (List.mem_of_getElem? (i := 0) rfl))
    have E120 : Exa Z h116 a "java/lang/String" := (E115.wr W116)
    have F121 : Fld Z h116 a "java/lang/String" "coder" "B" (.int (0 : Int32)) := ((F111.same W113).other W116 (Or.inr (slot_ne (Or.inr (w_ hw 5 rfl)) (Or.inr (w_ hw 4 rfl)) (by decide) (t := .byte) (t' := (.array .byte)) (by decide) (by decide))))
    have ne122 : a ≠ t104 := Nat.ne_of_lt (Nat.lt_of_lt_of_le E0.lt p103_1)
    have A123 : Arv Z h116 t104 k105 .byte (3 : Int32) vs108 (.int (0 : Int32)) := ((p103_2.other W113 (Ne.symm ne122)).other W116 (Ne.symm ne122))
    show Fin _ _ _ _ _ _ _ (T116.setTop (mkF m 57 #[.val (.ref a), .val (.ref b), .val (.int 0), .val (.int 3), .val .null, .val (.ref t104)] []))
    exact Fin.ret (v := none) X116 (fun _ => rfl) Bd.notSynchronized (by rw [e116]; exact ⟨t104, k105, (0 : Int32), (3 : Int32), vs108, rfl, N116_, kp119, (Nat.le_trans (Nat.le_refl _) p103_1), E120, (F114.same W116), F121, A123, p103_3⟩) (by decide) (by decide) (fun fs hr => X116.returnOut hx Bd.returns (hb hby d_jdk_42_method_149_57) hr)
  · have hN2' : N107 = (6 : Int32) := hN2
    clear hN2
    subst hcd
    subst hN2'
    refine Fin.by (fun tt_ kk_ => XS.astore X103.here hx rfl (hb hby d_jdk_42_method_149_39) rfl rfl (l' := #[.val (.ref a), .val (.ref b), .val (.int 0), .val (.int 3), .val .null, .val (.ref t104)]) rfl (XS.aloadN X103.here hx rfl (hb hby d_jdk_42_method_149_41) rfl rfl (XS.aload X103.here hx rfl (hb hby d_jdk_42_method_149_42) rfl rfl (XS.iloadN X103.here hx rfl (hb hby d_jdk_42_method_149_44) rfl kk_)))) ?_
    have z124 : n0 ≤ T103.heap.size := Nat.le_trans Z0 p103_0.1
    obtain ⟨v125, _, ⟨T125, L125, k125, n125⟩, -, X125, ⟨Lc125, hQ125, l125, y125, z125⟩, st125⟩ := Jvm.LawKit.callS X103 hx (y := y_14) hown (mvT hZ (w_ hw 28 rfl)) (mvT hZ (w_ hw 29 rfl)) (mvT hZ (w_ hw 23 rfl)) (mvT hZ (w_ hw 30 rfl)) (by decide) (backOf (W := 1) (rm_cod_3_1 l Z a0 hw [] t104 k105 (vs108 : List Value) T103.heap n0 z124 p103_2) hZ (w_ hw 30 rfl) (w_ hw 23 rfl) (by decide) (by decide)) (g := (mkF m 45 #[.val (.ref a), .val (.ref b), .val (.int 0), .val (.int 3), .val .null, .val (.ref t104)] [(.int 3), (.ref t104), (.ref a)])) rfl (by rw [hml]; rfl) (argsL := [(.ref t104), (.int 3)]) (rest := [(.ref a)]) (lenOf pd_230 rfl) rfl (by show 2 * 0 + _ ≤ _; exact Nat.le_of_eq rfl) (hb hby d_jdk_42_method_149_45) (fun _ _ => ⟨rfl, rfl, (by decide : 2 + 0 ≤ _), (by decide : 9 + 0 ≤ _)⟩)
    dsimp only [Pt.U, Pt.locs, Pt.cells, Pt.slots] at X125 l125 y125 z125 st125 hQ125
    subst l125 y125 z125
    obtain ⟨rfl, Nq125, e125_⟩ := hQ125
    have N125_ := Fr.app N103_ Nq125
    refine Fin.by (fun tt_ kk_ => st125 tt_ kk_) ?_
    have e125 := e125_
    have F126 : Fld Z T103.heap a "java/lang/String" "coder" "B" (.int (0 : Int32)) := (F1.keep p103_0 nin0)
    have E127 : Exa Z T103.heap a "java/lang/String" := (E0.keep p103_0)
    obtain ⟨T128, h128, X128, e128, W128, st128⟩ := putFN X125 hx hZ hown (w_ hw 31 rfl) Via.refl e125 F126 E127 (Or.inr ⟨(w_ hw 5 rfl), rfl, hnm⟩) (w_ hw 2 rfl) (ty := .byte) (v' := .int (1 : Int32)) (by decide) rfl rfl (g := (mkF m 48 #[.val (.ref a), .val (.ref b), .val (.int 0), .val (.int 3), .val .null, .val (.ref t104)] [(.int (nar .byte 1)), (.ref a)])) rfl rfl (hb hby d_jdk_42_method_149_48)
    refine Fin.by (fun tt_ kk_ => st128 tt_ kk_) ?_
    have N128_ := Fr.snoc X128 N125_ ga
    refine Fin.by (fun tt_ kk_ => XS.aloadN X128.here hx rfl (hb hby d_jdk_42_method_149_51) rfl rfl (XS.aload X128.here hx rfl (hb hby d_jdk_42_method_149_52) rfl rfl kk_)) ?_
    have F129 : Fld Z h128 a "java/lang/String" "value" "[B" .null := ((F0.keep p103_0 nin0).other W128 (Or.inr (slot_ne (Or.inr (w_ hw 4 rfl)) (Or.inr (w_ hw 5 rfl)) (by decide) (t := (.array .byte)) (t' := .byte) (by decide) (by decide))))
    have E130 : Exa Z h128 a "java/lang/String" := (E127.wr W128)
    obtain ⟨T131, h131, X131, e131, W131, st131⟩ := putF X128 hx hZ hown (host := "") (Or.inl (w_ hw 32 rfl)) Via.refl e128 F129 E130 (Or.inr ⟨(w_ hw 4 rfl), rfl, hnm⟩) (w_ hw 2 rfl) (ty := (.array .byte)) (by decide) rfl rfl (g := (mkF m 54 #[.val (.ref a), .val (.ref b), .val (.int 0), .val (.int 3), .val .null, .val (.ref t104)] [(.ref t104), (.ref a)])) rfl rfl (hb hby d_jdk_42_method_149_54)
    refine Fin.by (fun tt_ kk_ => st131 tt_ kk_) ?_
    have N131_ := Fr.snoc X131 N128_ ga
    have kp132 : Keep h0 T103.heap [a] := (Keep.refl h0 [a]).trans p103_0 all0
    have kp133 : Keep h0 h128 [a] := kp132.wr W128 (Or.inl (List.mem_of_getElem? (i := 0) rfl))
    have kp134 : Keep h0 h131 [a] := kp133.wr W131 (Or.inl (List.mem_of_getElem? (i := 0) rfl))
    have E135 : Exa Z h131 a "java/lang/String" := (E130.wr W131)
    have F136 : Fld Z h131 a "java/lang/String" "coder" "B" (.int (1 : Int32)) := ((F126.same W128).other W131 (Or.inr (slot_ne (Or.inr (w_ hw 5 rfl)) (Or.inr (w_ hw 4 rfl)) (by decide) (t := .byte) (t' := (.array .byte)) (by decide) (by decide))))
    have ne137 : a ≠ t104 := Nat.ne_of_lt (Nat.lt_of_lt_of_le E0.lt p103_1)
    have A138 : Arv Z h131 t104 k105 .byte (6 : Int32) vs108 (.int (0 : Int32)) := ((p103_2.other W128 (Ne.symm ne137)).other W131 (Ne.symm ne137))
    show Fin _ _ _ _ _ _ _ (T131.setTop (mkF m 57 #[.val (.ref a), .val (.ref b), .val (.int 0), .val (.int 3), .val .null, .val (.ref t104)] []))
    exact Fin.ret (v := none) X131 (fun _ => rfl) Bd.notSynchronized (by rw [e131]; exact ⟨t104, k105, (1 : Int32), (6 : Int32), vs108, rfl, N131_, kp134, (Nat.le_trans (Nat.le_refl _) p103_1), E135, (F129.same W131), F136, A138, p103_3⟩) (by decide) (by decide) (fun fs hr => X131.returnOut hx Bd.returns (hb hby d_jdk_42_method_149_57) hr)
def Q_n1_3 (Z : State) (a : Addr) (b : Addr) (kb : ClassId) (c0 : Int32) (c1 : Int32) (c2 : Int32) (G1 : Int32) (h0 : Heap) (n0 : Nat) (vv_ : Option Value) (hh_ : Heap) (LL_ : List Loc) : Prop := ∃ (t : Addr), ∃ (k : ClassId), ∃ (cd : Int32), ∃ (N2 : Int32), ∃ (vs : List Value), vv_ = none ∧ Fr n0 LL_ ∧ Keep h0 hh_ [a] ∧ h0.size ≤ t ∧ Exa Z hh_ a "java/lang/String" ∧ Fld Z hh_ a "java/lang/String" "value" "[B" (.ref t) ∧ Fld Z hh_ a "java/lang/String" "coder" "B" (.int cd) ∧ Arv Z hh_ t k .byte N2 vs (.int (0 : Int32)) ∧ (StrChars.Road.CodA ([c0, c1, c2] : List Int32) cd N2 vs)
set_option maxRecDepth 65536 in
set_option maxHeartbeats 40000000 in
theorem rm_n1_3 (l : Launch) (Z : State) (a0 : Array Value) (hw : ∀ d ∈ tables_1, d.before a0 Z = true) (ws : List Jvm.Cond) (a : Addr) (b : Addr) (kb : ClassId) (c0 : Int32) (c1 : Int32) (c2 : Int32) (G1 : Int32) (h0 : Heap) (n0 : Nat) (Z0 : n0 ≤ h0.size) (E0 : Exa Z h0 a "java/lang/String") (F0 : Fld Z h0 a "java/lang/String" "value" "[B" .null) (F1 : Fld Z h0 a "java/lang/String" "coder" "B" (.int (0 : Int32))) (ga : n0 ≤ a) (Ab : Arv Z h0 b kb .char (3 : Int32) [(.int c0), (.int c1), (.int c2)] (.int (0 : Int32))) (hb_0 : ¬ c0 < 0 ∧ ¬ (65535 : Int32) < c0) (hb_1 : ¬ c1 < 0 ∧ ¬ (65535 : Int32) < c1) (hb_2 : ¬ c2 < 0 ∧ ¬ (65535 : Int32) < c2) (S1 : Sta Z Z.heap "java/lang/String" "COMPACT_STRINGS" "Z" (.int G1)) (P1 : ¬ G1 = 0) (S6 : Sta Z Z.heap "java/lang/StringUTF16" "$assertionsDisabled" "Z" (.int (1 : Int32))) (S7 : Sta Z Z.heap "java/lang/StringUTF16" "HI_BYTE_SHIFT" "I" (.int (0 : Int32))) (S8 : Sta Z Z.heap "java/lang/StringUTF16" "LO_BYTE_SHIFT" "I" (.int (8 : Int32))) (OL : Old Z n0 h0) :
    MetFree l (⟨"java/lang/String", "<init>", "([C)V"⟩ : MethodName) (head1 (Jvm.Cond.code (⟨"java/lang/String", "<init>", "([C)V"⟩ : MethodName) jdk_42_method_3_code 2 none :: ws) ({ frames := 5, cells := 2, slots := 9, locals := 74 } : Room)) (fun aa_ U => aa_ = #[(.ref a), (.ref b)] ∧ Z.Warmed39 U.vm ∧ U.heap = h0) (fun _ _ _ _ _ => True) (fun _ U o U' => ∃ vv_ LL_, o = .returned vv_ ∧ Q_n1_3 Z a b kb c0 c1 c2 G1 h0 n0 vv_ U'.heap LL_ ∧ FrameEnd U o U' LL_ 2 9) := by
  refine MetFree.of_bodySF (plainFor_of_name pn_java_lang_String) hisR ?_
  intro p e s m args below meth c s₁ Bd hml0 hP hK
  obtain ⟨rfl, hZ, hh⟩ := hP
  have hx := Bd.exec
  have hby := Bd.bytes
  have hml : c.maxLocals = 2 := hml0
  have hown : s.vm.findClass "java/lang/String" = some m.cls := findClass_of_methodNamed Bd.named
  have hnm := (name_of_methodNamed Bd.named Bd.method).1
  have X0 : Stand p l e ({ frames := 5, cells := 2, slots := 9, locals := 74 } : Room) s m #[(.ref a), (.ref b)] below meth c s₁ [] 0 0 := Stand.of_body Bd
  have e0 : s₁.heap = h0 := by rw [← hh, Bd.state]; rfl
  have N0 := Fr.nil n0
  have ef : entryFrame m #[(.ref a), (.ref b)] 2 = mkF m 0 #[.val (.ref a), .val (.ref b)] [] := by first | (simp [entryFrame, mkF, argsToLocals, Value.category]; done) | rfl
  refine Fin.start (Q := Q_n1_3 Z a b kb c0 c1 c2 G1 h0 n0) ef ?_
  refine Fin.by (fun tt_ kk_ => XS.aloadN X0.here hx rfl (hb hby d_jdk_42_method_3_0) rfl rfl (XS.aloadN X0.here hx rfl (hb hby d_jdk_42_method_3_1) rfl rfl (XS.iconst X0.here hx rfl (hb hby d_jdk_42_method_3_2) (XS.aloadN X0.here hx rfl (hb hby d_jdk_42_method_3_3) rfl rfl kk_)))) ?_
  obtain ⟨cl101, Ar101, q101, S101, N101, H101, G101⟩ := id Ab
  refine Fin.by (fun tt_ kk_ => X0.arraylength hx (by rw [e0]; exact Ar101.1) (State.isArrayOf_alike hZ.alike Ar101.2.1) (g := (mkF m 4 #[.val (.ref a), .val (.ref b)] [(.ref b), (.int 0), (.ref b), (.ref a)])) rfl rfl (hb hby d_jdk_42_method_3_4) _ kk_) ?_
  rw [len_of S101 N101]
  refine Fin.by (fun tt_ kk_ => XS.aconstNull X0.here hx rfl (hb hby d_jdk_42_method_3_5) kk_) ?_
  obtain ⟨v102, _, ⟨T102, L102, k102, n102⟩, -, X102, ⟨Lc102, hQ102, l102, y102, z102⟩, st102⟩ := X0.specialBack hx (y := y_15) rfl hown (mvT hZ (w_ hw 13 rfl)) (mvT hZ (w_ hw 14 rfl)) (mvT hZ (w_ hw 16 rfl)) (by decide) (backOf (W := 0) (rm_n4_3 l Z a0 hw [] a b kb c0 c1 c2 G1 h0 n0 Z0 E0 F0 F1 ga Ab hb_0 hb_1 hb_2 S1 P1 S6 S7 S8 OL) hZ (w_ hw 16 rfl) (w_ hw 1 rfl) (by decide) (by decide)) (g := (mkF m 6 #[.val (.ref a), .val (.ref b)] [.null, (.int 3), (.int 0), (.ref b), (.ref a)])) rfl (by rw [hml]; rfl) (Steps.refl _) (a := a) (argsL := [(.ref b), (.int 0), (.int 3), .null]) (rest := []) (lenOf pd_243 rfl) rfl (by show 2 * 0 + _ ≤ _; exact Nat.le_of_eq rfl) (hb hby d_jdk_42_method_3_6) (fun _ _ => ⟨rfl, e0, (by decide : 0 + 2 ≤ _), (by decide : 0 + 9 ≤ _)⟩)
  dsimp only [Pt.U, Pt.locs, Pt.cells, Pt.slots] at X102 l102 y102 z102 st102 hQ102
  subst l102 y102 z102
  obtain ⟨t103, k104, cd105, N106, vs107, rfl, Nq102, p102_0, p102_1, p102_2, p102_3, p102_4, p102_5, p102_6⟩ := hQ102
  have N102_ := Fr.app N0 Nq102
  refine Fin.byS st102 ?_
  have kp108 : Keep h0 T102.heap [a] := (Keep.refl h0 [a]).trans p102_0 (allS (Or.inl (List.mem_of_getElem? (i := 0) rfl)) all0)
  show Fin _ _ _ _ _ _ _ (T102.setTop (mkF m 9 #[.val (.ref a), .val (.ref b)] []))
  exact Fin.ret (v := none) X102 (fun _ => rfl) Bd.notSynchronized (⟨t103, k104, cd105, N106, vs107, rfl, N102_, kp108, (Nat.le_trans (Nat.le_refl _) p102_1), p102_2, p102_3, p102_4, p102_5, p102_6⟩) (by decide) (by decide) (fun fs hr => X102.returnOut hx Bd.returns (hb hby d_jdk_42_method_3_9) hr)
theorem d_jdk_42_method_152_0 : decode jdk_42_method_152_code 0 = .ok (.getstatic 38, 3) := by decide +kernel
theorem d_jdk_42_method_152_3 : decode jdk_42_method_152_code 3 = .ok (.ifCond .eq 10, 3) := by decide +kernel
theorem d_jdk_42_method_152_6 : decode jdk_42_method_152_code 6 = .ok (.aload_n 0, 1) := by decide +kernel
theorem d_jdk_42_method_152_7 : decode jdk_42_method_152_code 7 = .ok (.getfield 15, 3) := by decide +kernel
theorem d_jdk_42_method_152_10 : decode jdk_42_method_152_code 10 = .ok (.goto 4, 3) := by decide +kernel
theorem d_jdk_42_method_152_14 : decode jdk_42_method_152_code 14 = .ok (.ireturn, 1) := by decide +kernel
def Q_cdr (Z : State) (x : Addr) (cd : Int32) (G1 : Int32) (h0 : Heap) (n0 : Nat) (vv_ : Option Value) (hh_ : Heap) (LL_ : List Loc) : Prop := vv_ = some (.int (nar .byte cd)) ∧ Fr n0 LL_ ∧ hh_ = h0
set_option maxRecDepth 65536 in
set_option maxHeartbeats 40000000 in
theorem rm_cdr (l : Launch) (Z : State) (a0 : Array Value) (hw : ∀ d ∈ tables_1, d.before a0 Z = true) (ws : List Jvm.Cond) (x : Addr) (cd : Int32) (G1 : Int32) (h0 : Heap) (n0 : Nat) (Z0 : n0 ≤ h0.size) (F1 : Fld Z h0 x "java/lang/String" "coder" "B" (.int cd)) (S1 : Sta Z Z.heap "java/lang/String" "COMPACT_STRINGS" "Z" (.int G1)) (P1 : ¬ G1 = 0) (OL : Old Z n0 h0) :
    MetFree l (⟨"java/lang/String", "coder", "()B"⟩ : MethodName) (head1 (Jvm.Cond.code (⟨"java/lang/String", "coder", "()B"⟩ : MethodName) jdk_42_method_152_code 1 (some .byte) :: ws) ({ frames := 0, cells := 0, slots := 0, locals := 0 } : Room)) (fun aa_ U => aa_ = #[(.ref x)] ∧ Z.Warmed39 U.vm ∧ U.heap = h0) (fun _ _ _ _ _ => True) (fun _ U o U' => ∃ vv_ LL_, o = .returned vv_ ∧ Q_cdr Z x cd G1 h0 n0 vv_ U'.heap LL_ ∧ FrameEnd U o U' LL_ 0 0) := by
  refine MetFree.of_bodySF (plainFor_of_name pn_java_lang_String) hisR ?_
  intro p e s m args below meth c s₁ Bd hml0 hP hK
  obtain ⟨rfl, hZ, hh⟩ := hP
  have hx := Bd.exec
  have hby := Bd.bytes
  have hml : c.maxLocals = 1 := hml0
  have hown : s.vm.findClass "java/lang/String" = some m.cls := findClass_of_methodNamed Bd.named
  have hnm := (name_of_methodNamed Bd.named Bd.method).1
  have X0 : Stand p l e ({ frames := 0, cells := 0, slots := 0, locals := 0 } : Room) s m #[(.ref x)] below meth c s₁ [] 0 0 := Stand.of_body Bd
  have e0 : s₁.heap = h0 := by rw [← hh, Bd.state]; rfl
  have N0 := Fr.nil n0
  have ef : entryFrame m #[(.ref x)] 1 = mkF m 0 #[.val (.ref x)] [] := by first | (simp [entryFrame, mkF, argsToLocals, Value.category]; done) | rfl
  refine Fin.start (Q := Q_cdr Z x cd G1 h0 n0) ef ?_
  obtain ⟨T101, X101, e101, st101⟩ := getS X0 hx hZ (host := "") hown (w_ hw 20 rfl) Via.refl e0 (S1.ext OL.2) (g := (mkF m 0 #[.val (.ref x)] [])) rfl (hb hby d_jdk_42_method_152_0)
  refine Fin.by (fun tt_ kk_ => st101 tt_ kk_) ?_
  show Fin _ _ _ _ _ _ _ (T101.setTop (mkF m 3 #[.val (.ref x)] [(.int G1)]))
  refine Fin.by (fun tt_ kk_ => XS.ifNo X101.here hx rfl (hb hby d_jdk_42_method_152_3) rfl ((if0 _ _).trans (feq (P1 : ¬ G1 = (0 : Int32))).1) kk_) ?_
  refine Fin.by (fun tt_ kk_ => XS.aloadN X101.here hx rfl (hb hby d_jdk_42_method_152_6) rfl rfl kk_) ?_
  obtain ⟨T102, X102, e102, st102⟩ := getF X101 hx hZ hown (host := "") (Or.inl (w_ hw 31 rfl)) Via.refl e101 F1 (g := (mkF m 7 #[.val (.ref x)] [(.ref x)])) rfl rfl (hb hby d_jdk_42_method_152_7)
  refine Fin.by (fun tt_ kk_ => st102 tt_ kk_) ?_
  refine Fin.by (fun tt_ kk_ => XS.goto X102.here hx rfl (pc0 := 10) (pc' := 14) rfl (hb hby d_jdk_42_method_152_10) (by decide) (by decide) kk_) ?_
  show Fin _ _ _ _ _ _ _ (T102.setTop (mkF m 14 #[.val (.ref x)] [(.int cd)]))
  exact Fin.ret (v := some (.int (nar .byte cd))) X102 (fun h => by rw [Bd.returns] at h; cases h) Bd.notSynchronized (by rw [e102]; exact ⟨rfl, N0, rfl⟩) (by decide) (by decide) (fun fs hr => retN X102 hx (t := .byte) Bd.returns (by simp) (hb hby d_jdk_42_method_152_14) hr)
abbrev y_16 : MethodName := (⟨"java/lang/String", "coder", "()B"⟩ : MethodName)
theorem d_jdk_42_method_54_0 : decode jdk_42_method_54_code 0 = .ok (.aload_n 0, 1) := by decide +kernel
theorem d_jdk_42_method_54_1 : decode jdk_42_method_54_code 1 = .ok (.getfield 9, 3) := by decide +kernel
theorem d_jdk_42_method_54_4 : decode jdk_42_method_54_code 4 = .ok (.arraylength, 1) := by decide +kernel
theorem d_jdk_42_method_54_5 : decode jdk_42_method_54_code 5 = .ok (.aload_n 0, 1) := by decide +kernel
theorem pd_256 : parseMethodDescriptor "()B" = some ⟨[], some .byte⟩ := by decide +kernel
theorem d_jdk_42_method_54_6 : decode jdk_42_method_54_code 6 = .ok (.invokevirtual 335, 3) := by decide +kernel
theorem d_jdk_42_method_54_9 : decode jdk_42_method_54_code 9 = .ok (.ishr, 1) := by decide +kernel
theorem d_jdk_42_method_54_10 : decode jdk_42_method_54_code 10 = .ok (.ireturn, 1) := by decide +kernel
def Q_sle (Z : State) (x : Addr) (t : Addr) (kb : ClassId) (N2 : Int32) (vs : List Value) (cs : List Int32) (cd : Int32) (G1 : Int32) (h0 : Heap) (n0 : Nat) (vv_ : Option Value) (hh_ : Heap) (LL_ : List Loc) : Prop := vv_ = some (.int (Int32.ofNat cs.length)) ∧ Fr n0 LL_ ∧ hh_ = h0
set_option maxRecDepth 65536 in
set_option maxHeartbeats 40000000 in
theorem rm_sle (l : Launch) (Z : State) (a0 : Array Value) (hw : ∀ d ∈ tables_1, d.before a0 Z = true) (ws : List Jvm.Cond) (x : Addr) (t : Addr) (kb : ClassId) (N2 : Int32) (vs : List Value) (cs : List Int32) (cd : Int32) (G1 : Int32) (h0 : Heap) (n0 : Nat) (Z0 : n0 ≤ h0.size) (hc : StrChars.Road.CodA cs cd N2 vs) (l2 : cs.length ≤ 4000) (E0 : Exa Z h0 x "java/lang/String") (F0 : Fld Z h0 x "java/lang/String" "value" "[B" (.ref t)) (F1 : Fld Z h0 x "java/lang/String" "coder" "B" (.int cd)) (A0 : Arv Z h0 t kb .byte N2 vs (.int 0)) (S1 : Sta Z Z.heap "java/lang/String" "COMPACT_STRINGS" "Z" (.int G1)) (P1 : ¬ G1 = 0) (OL : Old Z n0 h0) :
    MetFree l (⟨"java/lang/String", "length", "()I"⟩ : MethodName) (head1 (Jvm.Cond.code (⟨"java/lang/String", "length", "()I"⟩ : MethodName) jdk_42_method_54_code 1 (some .int) :: ws) ({ frames := 1, cells := 0, slots := 0, locals := 13 } : Room)) (fun aa_ U => aa_ = #[(.ref x)] ∧ Z.Warmed39 U.vm ∧ U.heap = h0) (fun _ _ _ _ _ => True) (fun _ U o U' => ∃ vv_ LL_, o = .returned vv_ ∧ Q_sle Z x t kb N2 vs cs cd G1 h0 n0 vv_ U'.heap LL_ ∧ FrameEnd U o U' LL_ 0 0) := by
  refine MetFree.of_bodySF (plainFor_of_name pn_java_lang_String) hisR ?_
  intro p e s m args below meth c s₁ Bd hml0 hP hK
  obtain ⟨rfl, hZ, hh⟩ := hP
  have hx := Bd.exec
  have hby := Bd.bytes
  have hml : c.maxLocals = 1 := hml0
  have hown : s.vm.findClass "java/lang/String" = some m.cls := findClass_of_methodNamed Bd.named
  have hnm := (name_of_methodNamed Bd.named Bd.method).1
  have X0 : Stand p l e ({ frames := 1, cells := 0, slots := 0, locals := 13 } : Room) s m #[(.ref x)] below meth c s₁ [] 0 0 := Stand.of_body Bd
  have e0 : s₁.heap = h0 := by rw [← hh, Bd.state]; rfl
  have N0 := Fr.nil n0
  have ef : entryFrame m #[(.ref x)] 1 = mkF m 0 #[.val (.ref x)] [] := by first | (simp [entryFrame, mkF, argsToLocals, Value.category]; done) | rfl
  refine Fin.start (Q := Q_sle Z x t kb N2 vs cs cd G1 h0 n0) ef ?_
  refine Fin.by (fun tt_ kk_ => XS.aloadN X0.here hx rfl (hb hby d_jdk_42_method_54_0) rfl rfl kk_) ?_
  obtain ⟨T101, X101, e101, st101⟩ := getF X0 hx hZ hown (host := "") (Or.inl (w_ hw 32 rfl)) Via.refl e0 F0 (g := (mkF m 1 #[.val (.ref x)] [(.ref x)])) rfl rfl (hb hby d_jdk_42_method_54_1)
  refine Fin.by (fun tt_ kk_ => st101 tt_ kk_) ?_
  obtain ⟨cl102, Ar102, q102, S102, N102, H102, G102⟩ := id A0
  refine Fin.by (fun tt_ kk_ => X101.arraylength hx (by rw [e101]; exact Ar102.1) (State.isArrayOf_alike hZ.alike Ar102.2.1) (g := (mkF m 4 #[.val (.ref x)] [(.ref t)])) rfl rfl (hb hby d_jdk_42_method_54_4) _ kk_) ?_
  rw [len_of S102 N102]
  refine Fin.by (fun tt_ kk_ => XS.aloadN X101.here hx rfl (hb hby d_jdk_42_method_54_5) rfl rfl kk_) ?_
  obtain ⟨cq103, kq103, qa103, qb103, qc103⟩ := isOf hZ e101 E0
  obtain ⟨v103, _, ⟨T103, L103, k103, n103⟩, -, X103, ⟨Lc103, hQ103, l103, y103, z103⟩, st103⟩ := X101.virtualBack hx (y := y_16) (z := y_16) hown (mvT hZ (w_ hw 46 rfl)) (mvT hZ (w_ hw 47 rfl)) (notFace_of_selects (args := #[]) (mvT hZ (w_ hw 49 rfl))) (mvT hZ (w_ hw 49 rfl)) (mvT hZ (w_ hw 48 rfl)) (by decide) (backOf (W := 1) (rm_cdr l Z a0 hw [] x cd G1 h0 n0 Z0 F1 S1 P1 OL) hZ (w_ hw 50 rfl) (w_ hw 1 rfl) (by decide) (by decide)) qa103 qc103 (g := (mkF m 6 #[.val (.ref x)] [(.ref x), (.int N2)])) rfl (by rw [hml]; rfl) (Steps.refl _) (argsL := []) (rest := [(.int N2)]) (lenOf pd_256 rfl) rfl (by show 2 * 0 + _ ≤ _; exact Nat.le_of_eq rfl) (hb hby d_jdk_42_method_54_6) (fun _ _ => ⟨rfl, e101, (by decide : 0 + 0 ≤ _), (by decide : 0 + 0 ≤ _)⟩)
  dsimp only [Pt.U, Pt.locs, Pt.cells, Pt.slots] at X103 l103 y103 z103 st103 hQ103
  subst l103 y103 z103
  obtain ⟨rfl, Nq103, e103_⟩ := hQ103
  have N103_ := Fr.app N0 Nq103
  refine Fin.byS st103 ?_
  have e103 := e103_
  refine Fin.by (fun tt_ kk_ => XS.ishr X103.here hx rfl (hb hby d_jdk_42_method_54_9) rfl kk_) ?_
  show Fin _ _ _ _ _ _ _ (T103.setTop (mkF m 10 #[.val (.ref x)] [(.int (N2 >>> ((nar .byte cd) &&& 31)))]))
  exact Fin.ret (v := some (.int (N2 >>> ((nar .byte cd) &&& 31)))) X103 (fun h => by rw [Bd.returns] at h; cases h) Bd.notSynchronized (by rw [e103]; exact ⟨(congrArg (fun q => some (Value.int q)) (own_slen hc l2)), N103_, rfl⟩) (by decide) (by decide) (fun fs hr => retI X103 hx Bd.returns (hb hby d_jdk_42_method_54_10) hr)
theorem d_method_2_0 : decode method_2_code 0 = .ok (.iload_n 0, 1) := by decide +kernel
theorem d_method_2_1 : decode method_2_code 1 = .ok (.bipush 97, 2) := by decide +kernel
theorem d_method_2_3 : decode method_2_code 3 = .ok (.if_icmp .lt 11, 3) := by decide +kernel
theorem d_method_2_6 : decode method_2_code 6 = .ok (.iload_n 0, 1) := by decide +kernel
theorem d_method_2_7 : decode method_2_code 7 = .ok (.bipush 122, 2) := by decide +kernel
theorem d_method_2_9 : decode method_2_code 9 = .ok (.if_icmp .gt 5, 3) := by decide +kernel
theorem d_method_2_12 : decode method_2_code 12 = .ok (.iconst 1, 1) := by decide +kernel
theorem d_method_2_13 : decode method_2_code 13 = .ok (.ireturn, 1) := by decide +kernel
theorem d_method_2_14 : decode method_2_code 14 = .ok (.iload_n 0, 1) := by decide +kernel
theorem d_method_2_15 : decode method_2_code 15 = .ok (.bipush 65, 2) := by decide +kernel
theorem d_method_2_17 : decode method_2_code 17 = .ok (.if_icmp .lt 11, 3) := by decide +kernel
theorem d_method_2_20 : decode method_2_code 20 = .ok (.iload_n 0, 1) := by decide +kernel
theorem d_method_2_21 : decode method_2_code 21 = .ok (.bipush 90, 2) := by decide +kernel
theorem d_method_2_23 : decode method_2_code 23 = .ok (.if_icmp .gt 5, 3) := by decide +kernel
theorem d_method_2_26 : decode method_2_code 26 = .ok (.iconst 1, 1) := by decide +kernel
theorem d_method_2_27 : decode method_2_code 27 = .ok (.ireturn, 1) := by decide +kernel
theorem d_method_2_28 : decode method_2_code 28 = .ok (.iload_n 0, 1) := by decide +kernel
theorem d_method_2_29 : decode method_2_code 29 = .ok (.bipush 48, 2) := by decide +kernel
theorem d_method_2_31 : decode method_2_code 31 = .ok (.if_icmp .lt 11, 3) := by decide +kernel
theorem d_method_2_34 : decode method_2_code 34 = .ok (.iload_n 0, 1) := by decide +kernel
theorem d_method_2_35 : decode method_2_code 35 = .ok (.bipush 57, 2) := by decide +kernel
theorem d_method_2_37 : decode method_2_code 37 = .ok (.if_icmp .gt 5, 3) := by decide +kernel
theorem d_method_2_40 : decode method_2_code 40 = .ok (.iconst 1, 1) := by decide +kernel
theorem d_method_2_41 : decode method_2_code 41 = .ok (.ireturn, 1) := by decide +kernel
theorem d_method_2_66 : decode method_2_code 66 = .ok (.iconst 1, 1) := by decide +kernel
theorem d_method_2_67 : decode method_2_code 67 = .ok (.goto 4, 3) := by decide +kernel
theorem d_method_2_71 : decode method_2_code 71 = .ok (.ireturn, 1) := by decide +kernel
theorem d_method_2_42 : decode method_2_code 42 = .ok (.iload_n 0, 1) := by decide +kernel
theorem d_method_2_43 : decode method_2_code 43 = .ok (.bipush 46, 2) := by decide +kernel
theorem d_method_2_45 : decode method_2_code 45 = .ok (.if_icmp .eq 21, 3) := by decide +kernel
theorem d_method_2_48 : decode method_2_code 48 = .ok (.iload_n 0, 1) := by decide +kernel
theorem d_method_2_49 : decode method_2_code 49 = .ok (.bipush 95, 2) := by decide +kernel
theorem d_method_2_51 : decode method_2_code 51 = .ok (.if_icmp .eq 15, 3) := by decide +kernel
theorem d_method_2_54 : decode method_2_code 54 = .ok (.iload_n 0, 1) := by decide +kernel
theorem d_method_2_55 : decode method_2_code 55 = .ok (.bipush 45, 2) := by decide +kernel
theorem d_method_2_57 : decode method_2_code 57 = .ok (.if_icmp .eq 9, 3) := by decide +kernel
theorem d_method_2_60 : decode method_2_code 60 = .ok (.iload_n 0, 1) := by decide +kernel
theorem d_method_2_61 : decode method_2_code 61 = .ok (.bipush 64, 2) := by decide +kernel
theorem d_method_2_63 : decode method_2_code 63 = .ok (.if_icmp .ne 7, 3) := by decide +kernel
theorem d_method_2_70 : decode method_2_code 70 = .ok (.iconst 0, 1) := by decide +kernel
theorem pn_com_example_portcullis_portcullis_IdsValidPinLaw : plainName "com/example/portcullis/portcullis/IdsValidPinLaw" = true := by first | (simp [plainName, overriddenIn]; done) | decide +kernel
def Q_okc (Z : State) (z : Int32) (h0 : Heap) (n0 : Nat) (vv_ : Option Value) (hh_ : Heap) (LL_ : List Loc) : Prop := vv_ = some (.int (nar .boolean (own_bi (own_ok z)))) ∧ Fr n0 LL_ ∧ hh_ = h0
set_option maxRecDepth 65536 in
set_option maxHeartbeats 40000000 in
theorem rm_okc (l : Launch) (Z : State) (a0 : Array Value) (hw : ∀ d ∈ tables_1, d.before a0 Z = true) (ws : List Jvm.Cond) (z : Int32) (h0 : Heap) (n0 : Nat) (Z0 : n0 ≤ h0.size) :
    MetFree l (⟨"com/example/portcullis/portcullis/IdsValidPinLaw", "ok", "(C)Z"⟩ : MethodName) (head1 (Jvm.Cond.code (⟨"com/example/portcullis/portcullis/IdsValidPinLaw", "ok", "(C)Z"⟩ : MethodName) method_2_code 1 (some .boolean) :: ws) ({ frames := 0, cells := 0, slots := 0, locals := 0 } : Room)) (fun aa_ U => aa_ = #[(.int z)] ∧ Z.Warmed39 U.vm ∧ U.heap = h0) (fun _ _ _ _ _ => True) (fun _ U o U' => ∃ vv_ LL_, o = .returned vv_ ∧ Q_okc Z z h0 n0 vv_ U'.heap LL_ ∧ FrameEnd U o U' LL_ 0 0) := by
  refine MetFree.of_bodySF (plainFor_of_name pn_com_example_portcullis_portcullis_IdsValidPinLaw) hisR ?_
  intro p e s m args below meth c s₁ Bd hml0 hP hK
  obtain ⟨rfl, hZ, hh⟩ := hP
  have hx := Bd.exec
  have hby := Bd.bytes
  have hml : c.maxLocals = 1 := hml0
  have hown : s.vm.findClass "com/example/portcullis/portcullis/IdsValidPinLaw" = some m.cls := findClass_of_methodNamed Bd.named
  have hnm := (name_of_methodNamed Bd.named Bd.method).1
  have X0 : Stand p l e ({ frames := 0, cells := 0, slots := 0, locals := 0 } : Room) s m #[(.int z)] below meth c s₁ [] 0 0 := Stand.of_body Bd
  have e0 : s₁.heap = h0 := by rw [← hh, Bd.state]; rfl
  have N0 := Fr.nil n0
  have ef : entryFrame m #[(.int z)] 1 = mkF m 0 #[.val (.int z)] [] := by first | (simp [entryFrame, mkF, argsToLocals, Value.category]; done) | rfl
  refine Fin.start (Q := Q_okc Z z h0 n0) ef ?_
  have J14 : ∀ (_ : True), (own_r 97 122 z = false) → Fin p e below s (Q_okc Z z h0 n0) 0 0 (s₁.setTop (mkF m 14 #[.val (.int z)] [])) := by
    intro _ hr0
    have J28 : ∀ (_ : True), (own_r 65 90 z = false) → Fin p e below s (Q_okc Z z h0 n0) 0 0 (s₁.setTop (mkF m 28 #[.val (.int z)] [])) := by
      intro _ hr1
      have J42 : ∀ (_ : True), (own_r 48 57 z = false) → Fin p e below s (Q_okc Z z h0 n0) 0 0 (s₁.setTop (mkF m 42 #[.val (.int z)] [])) := by
        intro _ hr2
        have J66 : ∀ (_ : True), (own_ok z = true) → Fin p e below s (Q_okc Z z h0 n0) 0 0 (s₁.setTop (mkF m 66 #[.val (.int z)] [])) := by
          intro _ hok
          refine Fin.by (fun tt_ kk_ => XS.iconst X0.here hx rfl (hb hby d_method_2_66) (XS.goto X0.here hx rfl (pc0 := 67) (pc' := 71) rfl (hb hby d_method_2_67) (by decide) (by decide) kk_)) ?_
          show Fin _ _ _ _ _ _ _ (s₁.setTop (mkF m 71 #[.val (.int z)] [(.int 1)]))
          exact Fin.ret (v := some (.int (nar .boolean (1 : Int32)))) X0 (fun h => by rw [Bd.returns] at h; cases h) Bd.notSynchronized (by rw [e0]; exact ⟨(by rw [hok]; rfl), N0, rfl⟩) (by decide) (by decide) (fun fs hr => retN X0 hx (t := .boolean) Bd.returns (by simp) (hb hby d_method_2_71) hr)
        refine Fin.by (fun tt_ kk_ => XS.iloadN X0.here hx rfl (hb hby d_method_2_42) rfl (XS.bipush X0.here hx rfl (hb hby d_method_2_43) kk_)) ?_
        show Fin _ _ _ _ _ _ _ (s₁.setTop (mkF m 45 #[.val (.int z)] [(.int 46), (.int z)]))
        by_cases hd0 : z = (46 : Int32)
        · refine Fin.by (fun tt_ kk_ => XS.icmpYes X0.here hx rfl (pc0 := 45) (pc' := 66) rfl (hb hby d_method_2_45) rfl (teq hd0).1 (by decide) (by decide) kk_) ?_
          show Fin _ _ _ _ _ _ _ (s₁.setTop (mkF m 66 #[.val (.int z)] []))
          exact J66 trivial (by unfold own_ok; rw [decide_eq_true hd0]; simp)
        · refine Fin.by (fun tt_ kk_ => XS.icmpNo X0.here hx rfl (hb hby d_method_2_45) rfl (feq hd0).1 kk_) ?_
          refine Fin.by (fun tt_ kk_ => XS.iloadN X0.here hx rfl (hb hby d_method_2_48) rfl (XS.bipush X0.here hx rfl (hb hby d_method_2_49) kk_)) ?_
          show Fin _ _ _ _ _ _ _ (s₁.setTop (mkF m 51 #[.val (.int z)] [(.int 95), (.int z)]))
          by_cases hd1 : z = (95 : Int32)
          · refine Fin.by (fun tt_ kk_ => XS.icmpYes X0.here hx rfl (pc0 := 51) (pc' := 66) rfl (hb hby d_method_2_51) rfl (teq hd1).1 (by decide) (by decide) kk_) ?_
            show Fin _ _ _ _ _ _ _ (s₁.setTop (mkF m 66 #[.val (.int z)] []))
            exact J66 trivial (by unfold own_ok; rw [decide_eq_true hd1]; simp)
          · refine Fin.by (fun tt_ kk_ => XS.icmpNo X0.here hx rfl (hb hby d_method_2_51) rfl (feq hd1).1 kk_) ?_
            refine Fin.by (fun tt_ kk_ => XS.iloadN X0.here hx rfl (hb hby d_method_2_54) rfl (XS.bipush X0.here hx rfl (hb hby d_method_2_55) kk_)) ?_
            show Fin _ _ _ _ _ _ _ (s₁.setTop (mkF m 57 #[.val (.int z)] [(.int 45), (.int z)]))
            by_cases hd2 : z = (45 : Int32)
            · refine Fin.by (fun tt_ kk_ => XS.icmpYes X0.here hx rfl (pc0 := 57) (pc' := 66) rfl (hb hby d_method_2_57) rfl (teq hd2).1 (by decide) (by decide) kk_) ?_
              show Fin _ _ _ _ _ _ _ (s₁.setTop (mkF m 66 #[.val (.int z)] []))
              exact J66 trivial (by unfold own_ok; rw [decide_eq_true hd2]; simp)
            · refine Fin.by (fun tt_ kk_ => XS.icmpNo X0.here hx rfl (hb hby d_method_2_57) rfl (feq hd2).1 kk_) ?_
              refine Fin.by (fun tt_ kk_ => XS.iloadN X0.here hx rfl (hb hby d_method_2_60) rfl (XS.bipush X0.here hx rfl (hb hby d_method_2_61) kk_)) ?_
              show Fin _ _ _ _ _ _ _ (s₁.setTop (mkF m 63 #[.val (.int z)] [(.int 64), (.int z)]))
              by_cases hd3 : z = (64 : Int32)
              · refine Fin.by (fun tt_ kk_ => XS.icmpNo X0.here hx rfl (hb hby d_method_2_63) rfl (teq hd3).2 kk_) ?_
                show Fin _ _ _ _ _ _ _ (s₁.setTop (mkF m 66 #[.val (.int z)] []))
                exact J66 trivial (by unfold own_ok; rw [decide_eq_true hd3]; simp)
              · refine Fin.by (fun tt_ kk_ => XS.icmpYes X0.here hx rfl (pc0 := 63) (pc' := 70) rfl (hb hby d_method_2_63) rfl (feq hd3).2 (by decide) (by decide) kk_) ?_
                refine Fin.by (fun tt_ kk_ => XS.iconst X0.here hx rfl (hb hby d_method_2_70) kk_) ?_
                show Fin _ _ _ _ _ _ _ (s₁.setTop (mkF m 71 #[.val (.int z)] [(.int 0)]))
                exact Fin.ret (v := some (.int (nar .boolean (0 : Int32)))) X0 (fun h => by rw [Bd.returns] at h; cases h) Bd.notSynchronized (by rw [e0]; exact ⟨(by rw [show own_ok z = false from by unfold own_ok; rw [hr0, hr1, hr2, decide_eq_false hd0, decide_eq_false hd1, decide_eq_false hd2, decide_eq_false hd3]; rfl]; rfl), N0, rfl⟩) (by decide) (by decide) (fun fs hr => retN X0 hx (t := .boolean) Bd.returns (by simp) (hb hby d_method_2_71) hr)
      refine Fin.by (fun tt_ kk_ => XS.iloadN X0.here hx rfl (hb hby d_method_2_28) rfl (XS.bipush X0.here hx rfl (hb hby d_method_2_29) kk_)) ?_
      show Fin _ _ _ _ _ _ _ (s₁.setTop (mkF m 31 #[.val (.int z)] [(.int 48), (.int z)]))
      by_cases ha2 : z < (48 : Int32)
      · refine Fin.by (fun tt_ kk_ => XS.icmpYes X0.here hx rfl (pc0 := 31) (pc' := 42) rfl (hb hby d_method_2_31) rfl (tlt ha2).1 (by decide) (by decide) kk_) ?_
        show Fin _ _ _ _ _ _ _ (s₁.setTop (mkF m 42 #[.val (.int z)] []))
        exact J42 trivial (own_r0 ha2)
      · refine Fin.by (fun tt_ kk_ => XS.icmpNo X0.here hx rfl (hb hby d_method_2_31) rfl (flt ha2).1 kk_) ?_
        refine Fin.by (fun tt_ kk_ => XS.iloadN X0.here hx rfl (hb hby d_method_2_34) rfl (XS.bipush X0.here hx rfl (hb hby d_method_2_35) kk_)) ?_
        show Fin _ _ _ _ _ _ _ (s₁.setTop (mkF m 37 #[.val (.int z)] [(.int 57), (.int z)]))
        by_cases hb2_ : (57 : Int32) < z
        · refine Fin.by (fun tt_ kk_ => XS.icmpYes X0.here hx rfl (pc0 := 37) (pc' := 42) rfl (hb hby d_method_2_37) rfl (tlt hb2_).2.2.1 (by decide) (by decide) kk_) ?_
          show Fin _ _ _ _ _ _ _ (s₁.setTop (mkF m 42 #[.val (.int z)] []))
          exact J42 trivial (own_r1 hb2_)
        · refine Fin.by (fun tt_ kk_ => XS.icmpNo X0.here hx rfl (hb hby d_method_2_37) rfl (flt hb2_).2.2.1 kk_) ?_
          refine Fin.by (fun tt_ kk_ => XS.iconst X0.here hx rfl (hb hby d_method_2_40) kk_) ?_
          show Fin _ _ _ _ _ _ _ (s₁.setTop (mkF m 41 #[.val (.int z)] [(.int 1)]))
          exact Fin.ret (v := some (.int (nar .boolean (1 : Int32)))) X0 (fun h => by rw [Bd.returns] at h; cases h) Bd.notSynchronized (by rw [e0]; exact ⟨(by rw [show own_ok z = true from (by unfold own_ok; rw [hr0, hr1, own_r2 ha2 hb2_]; simp)]; rfl), N0, rfl⟩) (by decide) (by decide) (fun fs hr => retN X0 hx (t := .boolean) Bd.returns (by simp) (hb hby d_method_2_41) hr)
    refine Fin.by (fun tt_ kk_ => XS.iloadN X0.here hx rfl (hb hby d_method_2_14) rfl (XS.bipush X0.here hx rfl (hb hby d_method_2_15) kk_)) ?_
    show Fin _ _ _ _ _ _ _ (s₁.setTop (mkF m 17 #[.val (.int z)] [(.int 65), (.int z)]))
    by_cases ha1 : z < (65 : Int32)
    · refine Fin.by (fun tt_ kk_ => XS.icmpYes X0.here hx rfl (pc0 := 17) (pc' := 28) rfl (hb hby d_method_2_17) rfl (tlt ha1).1 (by decide) (by decide) kk_) ?_
      show Fin _ _ _ _ _ _ _ (s₁.setTop (mkF m 28 #[.val (.int z)] []))
      exact J28 trivial (own_r0 ha1)
    · refine Fin.by (fun tt_ kk_ => XS.icmpNo X0.here hx rfl (hb hby d_method_2_17) rfl (flt ha1).1 kk_) ?_
      refine Fin.by (fun tt_ kk_ => XS.iloadN X0.here hx rfl (hb hby d_method_2_20) rfl (XS.bipush X0.here hx rfl (hb hby d_method_2_21) kk_)) ?_
      show Fin _ _ _ _ _ _ _ (s₁.setTop (mkF m 23 #[.val (.int z)] [(.int 90), (.int z)]))
      by_cases hb1_ : (90 : Int32) < z
      · refine Fin.by (fun tt_ kk_ => XS.icmpYes X0.here hx rfl (pc0 := 23) (pc' := 28) rfl (hb hby d_method_2_23) rfl (tlt hb1_).2.2.1 (by decide) (by decide) kk_) ?_
        show Fin _ _ _ _ _ _ _ (s₁.setTop (mkF m 28 #[.val (.int z)] []))
        exact J28 trivial (own_r1 hb1_)
      · refine Fin.by (fun tt_ kk_ => XS.icmpNo X0.here hx rfl (hb hby d_method_2_23) rfl (flt hb1_).2.2.1 kk_) ?_
        refine Fin.by (fun tt_ kk_ => XS.iconst X0.here hx rfl (hb hby d_method_2_26) kk_) ?_
        show Fin _ _ _ _ _ _ _ (s₁.setTop (mkF m 27 #[.val (.int z)] [(.int 1)]))
        exact Fin.ret (v := some (.int (nar .boolean (1 : Int32)))) X0 (fun h => by rw [Bd.returns] at h; cases h) Bd.notSynchronized (by rw [e0]; exact ⟨(by rw [show own_ok z = true from (by unfold own_ok; rw [hr0, own_r2 ha1 hb1_]; simp)]; rfl), N0, rfl⟩) (by decide) (by decide) (fun fs hr => retN X0 hx (t := .boolean) Bd.returns (by simp) (hb hby d_method_2_27) hr)
  refine Fin.by (fun tt_ kk_ => XS.iloadN X0.here hx rfl (hb hby d_method_2_0) rfl (XS.bipush X0.here hx rfl (hb hby d_method_2_1) kk_)) ?_
  show Fin _ _ _ _ _ _ _ (s₁.setTop (mkF m 3 #[.val (.int z)] [(.int 97), (.int z)]))
  by_cases ha0 : z < (97 : Int32)
  · refine Fin.by (fun tt_ kk_ => XS.icmpYes X0.here hx rfl (pc0 := 3) (pc' := 14) rfl (hb hby d_method_2_3) rfl (tlt ha0).1 (by decide) (by decide) kk_) ?_
    show Fin _ _ _ _ _ _ _ (s₁.setTop (mkF m 14 #[.val (.int z)] []))
    exact J14 trivial (own_r0 ha0)
  · refine Fin.by (fun tt_ kk_ => XS.icmpNo X0.here hx rfl (hb hby d_method_2_3) rfl (flt ha0).1 kk_) ?_
    refine Fin.by (fun tt_ kk_ => XS.iloadN X0.here hx rfl (hb hby d_method_2_6) rfl (XS.bipush X0.here hx rfl (hb hby d_method_2_7) kk_)) ?_
    show Fin _ _ _ _ _ _ _ (s₁.setTop (mkF m 9 #[.val (.int z)] [(.int 122), (.int z)]))
    by_cases hb0_ : (122 : Int32) < z
    · refine Fin.by (fun tt_ kk_ => XS.icmpYes X0.here hx rfl (pc0 := 9) (pc' := 14) rfl (hb hby d_method_2_9) rfl (tlt hb0_).2.2.1 (by decide) (by decide) kk_) ?_
      show Fin _ _ _ _ _ _ _ (s₁.setTop (mkF m 14 #[.val (.int z)] []))
      exact J14 trivial (own_r1 hb0_)
    · refine Fin.by (fun tt_ kk_ => XS.icmpNo X0.here hx rfl (hb hby d_method_2_9) rfl (flt hb0_).2.2.1 kk_) ?_
      refine Fin.by (fun tt_ kk_ => XS.iconst X0.here hx rfl (hb hby d_method_2_12) kk_) ?_
      show Fin _ _ _ _ _ _ _ (s₁.setTop (mkF m 13 #[.val (.int z)] [(.int 1)]))
      exact Fin.ret (v := some (.int (nar .boolean (1 : Int32)))) X0 (fun h => by rw [Bd.returns] at h; cases h) Bd.notSynchronized (by rw [e0]; exact ⟨(by rw [show own_ok z = true from (by unfold own_ok; rw [own_r2 ha0 hb0_]; simp)]; rfl), N0, rfl⟩) (by decide) (by decide) (fun fs hr => retN X0 hx (t := .boolean) Bd.returns (by simp) (hb hby d_method_2_13) hr)
abbrev y_17 : MethodName := (⟨"java/lang/String", "length", "()I"⟩ : MethodName)
abbrev y_18 : MethodName := (⟨"java/lang/String", "charAt", "(I)C"⟩ : MethodName)
theorem d_prog_15_method_2_0 : decode prog_15_method_2_code 0 = .ok (.aload_n 0, 1) := by decide +kernel
theorem pd_302 : parseMethodDescriptor "()I" = some ⟨[], some .int⟩ := by decide +kernel
theorem d_prog_15_method_2_1 : decode prog_15_method_2_code 1 = .ok (.invokevirtual 7, 3) := by decide +kernel
theorem d_prog_15_method_2_4 : decode prog_15_method_2_code 4 = .ok (.istore_n 1, 1) := by decide +kernel
theorem d_prog_15_method_2_5 : decode prog_15_method_2_code 5 = .ok (.iload_n 1, 1) := by decide +kernel
theorem d_prog_15_method_2_6 : decode prog_15_method_2_code 6 = .ok (.ifCond .eq 10, 3) := by decide +kernel
theorem d_prog_15_method_2_16 : decode prog_15_method_2_code 16 = .ok (.iconst 0, 1) := by decide +kernel
theorem d_prog_15_method_2_17 : decode prog_15_method_2_code 17 = .ok (.ireturn, 1) := by decide +kernel
theorem d_prog_15_method_2_9 : decode prog_15_method_2_code 9 = .ok (.iload_n 1, 1) := by decide +kernel
theorem d_prog_15_method_2_10 : decode prog_15_method_2_code 10 = .ok (.sipush 128, 3) := by decide +kernel
theorem d_prog_15_method_2_13 : decode prog_15_method_2_code 13 = .ok (.if_icmp .le 5, 3) := by decide +kernel
theorem d_prog_15_method_2_18 : decode prog_15_method_2_code 18 = .ok (.iconst 0, 1) := by decide +kernel
theorem d_prog_15_method_2_19 : decode prog_15_method_2_code 19 = .ok (.istore_n 2, 1) := by decide +kernel
theorem d_prog_15_method_2_20 : decode prog_15_method_2_code 20 = .ok (.iload_n 2, 1) := by decide +kernel
theorem d_prog_15_method_2_21 : decode prog_15_method_2_code 21 = .ok (.iload_n 1, 1) := by decide +kernel
theorem d_prog_15_method_2_22 : decode prog_15_method_2_code 22 = .ok (.if_icmp .ge 89, 3) := by decide +kernel
theorem d_prog_15_method_2_111 : decode prog_15_method_2_code 111 = .ok (.iconst 1, 1) := by decide +kernel
theorem d_prog_15_method_2_112 : decode prog_15_method_2_code 112 = .ok (.ireturn, 1) := by decide +kernel
theorem d_prog_15_method_2_25 : decode prog_15_method_2_code 25 = .ok (.aload_n 0, 1) := by decide +kernel
theorem d_prog_15_method_2_26 : decode prog_15_method_2_code 26 = .ok (.iload_n 2, 1) := by decide +kernel
theorem pd_321 : parseMethodDescriptor "(I)C" = some ⟨[.int], some .char⟩ := by decide +kernel
theorem d_prog_15_method_2_27 : decode prog_15_method_2_code 27 = .ok (.invokevirtual 15, 3) := by decide +kernel
theorem d_prog_15_method_2_30 : decode prog_15_method_2_code 30 = .ok (.istore_n 3, 1) := by decide +kernel
theorem d_prog_15_method_2_91 : decode prog_15_method_2_code 91 = .ok (.iconst 1, 1) := by decide +kernel
theorem d_prog_15_method_2_92 : decode prog_15_method_2_code 92 = .ok (.goto 4, 3) := by decide +kernel
theorem d_prog_15_method_2_96 : decode prog_15_method_2_code 96 = .ok (.istore 4, 2) := by decide +kernel
theorem d_prog_15_method_2_98 : decode prog_15_method_2_code 98 = .ok (.iload 4, 2) := by decide +kernel
theorem d_prog_15_method_2_100 : decode prog_15_method_2_code 100 = .ok (.ifCond .ne 5, 3) := by decide +kernel
theorem d_prog_15_method_2_105 : decode prog_15_method_2_code 105 = .ok (.iinc 2 1, 3) := by decide +kernel
theorem d_prog_15_method_2_108 : decode prog_15_method_2_code 108 = .ok (.goto (-88), 3) := by decide +kernel
theorem d_prog_15_method_2_31 : decode prog_15_method_2_code 31 = .ok (.iload_n 3, 1) := by decide +kernel
theorem d_prog_15_method_2_32 : decode prog_15_method_2_code 32 = .ok (.bipush 97, 2) := by decide +kernel
theorem d_prog_15_method_2_34 : decode prog_15_method_2_code 34 = .ok (.if_icmp .lt 9, 3) := by decide +kernel
theorem d_prog_15_method_2_37 : decode prog_15_method_2_code 37 = .ok (.iload_n 3, 1) := by decide +kernel
theorem d_prog_15_method_2_38 : decode prog_15_method_2_code 38 = .ok (.bipush 122, 2) := by decide +kernel
theorem d_prog_15_method_2_40 : decode prog_15_method_2_code 40 = .ok (.if_icmp .le 51, 3) := by decide +kernel
theorem d_prog_15_method_2_43 : decode prog_15_method_2_code 43 = .ok (.iload_n 3, 1) := by decide +kernel
theorem d_prog_15_method_2_44 : decode prog_15_method_2_code 44 = .ok (.bipush 65, 2) := by decide +kernel
theorem d_prog_15_method_2_46 : decode prog_15_method_2_code 46 = .ok (.if_icmp .lt 9, 3) := by decide +kernel
theorem d_prog_15_method_2_49 : decode prog_15_method_2_code 49 = .ok (.iload_n 3, 1) := by decide +kernel
theorem d_prog_15_method_2_50 : decode prog_15_method_2_code 50 = .ok (.bipush 90, 2) := by decide +kernel
theorem d_prog_15_method_2_52 : decode prog_15_method_2_code 52 = .ok (.if_icmp .le 39, 3) := by decide +kernel
theorem d_prog_15_method_2_55 : decode prog_15_method_2_code 55 = .ok (.iload_n 3, 1) := by decide +kernel
theorem d_prog_15_method_2_56 : decode prog_15_method_2_code 56 = .ok (.bipush 48, 2) := by decide +kernel
theorem d_prog_15_method_2_58 : decode prog_15_method_2_code 58 = .ok (.if_icmp .lt 9, 3) := by decide +kernel
theorem d_prog_15_method_2_61 : decode prog_15_method_2_code 61 = .ok (.iload_n 3, 1) := by decide +kernel
theorem d_prog_15_method_2_62 : decode prog_15_method_2_code 62 = .ok (.bipush 57, 2) := by decide +kernel
theorem d_prog_15_method_2_64 : decode prog_15_method_2_code 64 = .ok (.if_icmp .le 27, 3) := by decide +kernel
theorem d_prog_15_method_2_67 : decode prog_15_method_2_code 67 = .ok (.iload_n 3, 1) := by decide +kernel
theorem d_prog_15_method_2_68 : decode prog_15_method_2_code 68 = .ok (.bipush 46, 2) := by decide +kernel
theorem d_prog_15_method_2_70 : decode prog_15_method_2_code 70 = .ok (.if_icmp .eq 21, 3) := by decide +kernel
theorem d_prog_15_method_2_73 : decode prog_15_method_2_code 73 = .ok (.iload_n 3, 1) := by decide +kernel
theorem d_prog_15_method_2_74 : decode prog_15_method_2_code 74 = .ok (.bipush 95, 2) := by decide +kernel
theorem d_prog_15_method_2_76 : decode prog_15_method_2_code 76 = .ok (.if_icmp .eq 15, 3) := by decide +kernel
theorem d_prog_15_method_2_79 : decode prog_15_method_2_code 79 = .ok (.iload_n 3, 1) := by decide +kernel
theorem d_prog_15_method_2_80 : decode prog_15_method_2_code 80 = .ok (.bipush 45, 2) := by decide +kernel
theorem d_prog_15_method_2_82 : decode prog_15_method_2_code 82 = .ok (.if_icmp .eq 9, 3) := by decide +kernel
theorem d_prog_15_method_2_85 : decode prog_15_method_2_code 85 = .ok (.iload_n 3, 1) := by decide +kernel
theorem d_prog_15_method_2_86 : decode prog_15_method_2_code 86 = .ok (.bipush 64, 2) := by decide +kernel
theorem d_prog_15_method_2_88 : decode prog_15_method_2_code 88 = .ok (.if_icmp .ne 7, 3) := by decide +kernel
theorem d_prog_15_method_2_95 : decode prog_15_method_2_code 95 = .ok (.iconst 0, 1) := by decide +kernel
theorem d_prog_15_method_2_103 : decode prog_15_method_2_code 103 = .ok (.iconst 0, 1) := by decide +kernel
theorem d_prog_15_method_2_104 : decode prog_15_method_2_code 104 = .ok (.ireturn, 1) := by decide +kernel
theorem pn_com_example_portcullis_portcullis_Ids : plainName "com/example/portcullis/portcullis/Ids" = true := by first | (simp [plainName, overriddenIn]; done) | decide +kernel
def Q_val (Z : State) (x : Addr) (t : Addr) (kb : ClassId) (N2 : Int32) (vs : List Value) (cd : Int32) (cs : List Int32) (G1 : Int32) (G9 : Value) (h0 : Heap) (n0 : Nat) (vv_ : Option Value) (hh_ : Heap) (LL_ : List Loc) : Prop := vv_ = some (.int (nar .boolean (own_valid cs))) ∧ Fr n0 LL_ ∧ hh_ = h0
set_option maxRecDepth 65536 in
set_option maxHeartbeats 40000000 in
theorem rm_val (l : Launch) (Z : State) (a0 : Array Value) (hw : ∀ d ∈ tables_1, d.before a0 Z = true) (ws : List Jvm.Cond) (x : Addr) (t : Addr) (kb : ClassId) (N2 : Int32) (vs : List Value) (cd : Int32) (cs : List Int32) (G1 : Int32) (G9 : Value) (h0 : Heap) (n0 : Nat) (Z0 : n0 ≤ h0.size) (hc : StrChars.Road.CodA cs cd N2 vs) (hb3 : ∀ c ∈ cs, ¬ c < 0 ∧ ¬ (65535 : Int32) < c) (l2 : List.length cs ≤ 4000) (E1 : Exa Z h0 x "java/lang/String") (F0 : Fld Z h0 x "java/lang/String" "value" "[B" (.ref t)) (F1 : Fld Z h0 x "java/lang/String" "coder" "B" (.int cd)) (A0 : Arv Z h0 t kb .byte N2 vs (.int 0)) (S1 : Sta Z Z.heap "java/lang/String" "COMPACT_STRINGS" "Z" (.int G1)) (P1 : ¬ G1 = 0) (S6 : Sta Z Z.heap "java/lang/StringUTF16" "$assertionsDisabled" "Z" (.int (1 : Int32))) (S7 : Sta Z Z.heap "java/lang/StringUTF16" "HI_BYTE_SHIFT" "I" (.int (0 : Int32))) (S8 : Sta Z Z.heap "java/lang/StringUTF16" "LO_BYTE_SHIFT" "I" (.int (8 : Int32))) (S9 : Sta Z Z.heap "jdk/internal/util/Preconditions" "SIOOBE_FORMATTER" "Ljava/util/function/BiFunction;" G9) (r9 : G9.isRef = true) (OL : Old Z n0 h0) :
    MetFree l (⟨"com/example/portcullis/portcullis/Ids", "valid", "(Ljava/lang/String;)Z"⟩ : MethodName) (head1 (Jvm.Cond.code (⟨"com/example/portcullis/portcullis/Ids", "valid", "(Ljava/lang/String;)Z"⟩ : MethodName) prog_15_method_2_code 5 (some .boolean) :: ws) ({ frames := 5, cells := 0, slots := 0, locals := 66 } : Room)) (fun aa_ U => aa_ = #[(.ref x)] ∧ Z.Warmed39 U.vm ∧ U.heap = h0) (fun _ _ _ _ _ => True) (fun _ U o U' => ∃ vv_ LL_, o = .returned vv_ ∧ Q_val Z x t kb N2 vs cd cs G1 G9 h0 n0 vv_ U'.heap LL_ ∧ FrameEnd U o U' LL_ 0 0) := by
  refine MetFree.of_bodySF (plainFor_of_name pn_com_example_portcullis_portcullis_Ids) hisR ?_
  intro p e s m args below meth c s₁ Bd hml0 hP hK
  obtain ⟨rfl, hZ, hh⟩ := hP
  have hx := Bd.exec
  have hby := Bd.bytes
  have hml : c.maxLocals = 5 := hml0
  have hown : s.vm.findClass "com/example/portcullis/portcullis/Ids" = some m.cls := findClass_of_methodNamed Bd.named
  have hnm := (name_of_methodNamed Bd.named Bd.method).1
  have X0 : Stand p l e ({ frames := 5, cells := 0, slots := 0, locals := 66 } : Room) s m #[(.ref x)] below meth c s₁ [] 0 0 := Stand.of_body Bd
  have e0 : s₁.heap = h0 := by rw [← hh, Bd.state]; rfl
  have N0 := Fr.nil n0
  have ef : entryFrame m #[(.ref x)] 5 = mkF m 0 #[.val (.ref x), .unset, .unset, .unset, .unset] [] := by first | (simp [entryFrame, mkF, argsToLocals, Value.category]; done) | rfl
  refine Fin.start (Q := Q_val Z x t kb N2 vs cd cs G1 G9 h0 n0) ef ?_
  refine Fin.by (fun tt_ kk_ => XS.aloadN X0.here hx rfl (hb hby d_prog_15_method_2_0) rfl rfl kk_) ?_
  obtain ⟨cq101, kq101, qa101, qb101, qc101⟩ := isOf hZ e0 E1
  obtain ⟨v101, _, ⟨T101, L101, k101, n101⟩, -, X101, ⟨Lc101, hQ101, l101, y101, z101⟩, st101⟩ := X0.virtualBack hx (y := y_17) (z := y_17) hown (mvT hZ (w_ hw 41 rfl)) (mvT hZ (w_ hw 42 rfl)) (notFace_of_selects (args := #[]) (mvT hZ (w_ hw 44 rfl))) (mvT hZ (w_ hw 44 rfl)) (mvT hZ (w_ hw 43 rfl)) (by decide) (backOf (W := 0) (rm_sle l Z a0 hw [] x t kb N2 (vs : List Value) cs cd G1 h0 n0 Z0 hc l2 E1 F0 F1 A0 S1 P1 OL) hZ (w_ hw 45 rfl) (w_ hw 1 rfl) (by decide) (by decide)) qa101 qc101 (g := (mkF m 1 #[.val (.ref x), .unset, .unset, .unset, .unset] [(.ref x)])) rfl (by rw [hml]; rfl) (Steps.refl _) (argsL := []) (rest := []) (lenOf pd_302 rfl) rfl (by show 2 * 0 + _ ≤ _; exact Nat.le_of_eq rfl) (hb hby d_prog_15_method_2_1) (fun _ _ => ⟨rfl, e0, (by decide : 0 + 0 ≤ _), (by decide : 0 + 0 ≤ _)⟩)
  dsimp only [Pt.U, Pt.locs, Pt.cells, Pt.slots] at X101 l101 y101 z101 st101 hQ101
  subst l101 y101 z101
  obtain ⟨rfl, Nq101, e101_⟩ := hQ101
  have N101_ := Fr.app N0 Nq101
  refine Fin.byS st101 ?_
  have e101 := e101_
  refine Fin.by (fun tt_ kk_ => XS.istoreN X101.here hx rfl (hb hby d_prog_15_method_2_4) rfl (l' := #[.val (.ref x), .val (.int (Int32.ofNat cs.length)), .unset, .unset, .unset]) rfl (XS.iloadN X101.here hx rfl (hb hby d_prog_15_method_2_5) rfl kk_)) ?_
  show Fin _ _ _ _ _ _ _ (T101.setTop (mkF m 6 #[.val (.ref x), .val (.int (Int32.ofNat cs.length)), .unset, .unset, .unset] [(.int (Int32.ofNat cs.length))]))
  by_cases hl0 : (Int32.ofNat cs.length) = (0 : Int32)
  · refine Fin.by (fun tt_ kk_ => XS.ifYes X101.here hx rfl (pc0 := 6) (pc' := 16) rfl (hb hby d_prog_15_method_2_6) rfl ((if0 _ _).trans (teq hl0).1) (by decide) (by decide) kk_) ?_
    refine Fin.by (fun tt_ kk_ => XS.iconst X101.here hx rfl (hb hby d_prog_15_method_2_16) kk_) ?_
    show Fin _ _ _ _ _ _ _ (T101.setTop (mkF m 17 #[.val (.ref x), .val (.int (Int32.ofNat cs.length)), .unset, .unset, .unset] [(.int 0)]))
    exact Fin.ret (v := some (.int (nar .boolean (0 : Int32)))) X101 (fun h => by rw [Bd.returns] at h; cases h) Bd.notSynchronized (by rw [e101]; exact ⟨(by unfold own_valid; rw [if_pos hl0]), N101_, rfl⟩) (by decide) (by decide) (fun fs hr => retN X101 hx (t := .boolean) Bd.returns (by simp) (hb hby d_prog_15_method_2_17) hr)
  · refine Fin.by (fun tt_ kk_ => XS.ifNo X101.here hx rfl (hb hby d_prog_15_method_2_6) rfl ((if0 _ _).trans (feq hl0).1) kk_) ?_
    refine Fin.by (fun tt_ kk_ => XS.iloadN X101.here hx rfl (hb hby d_prog_15_method_2_9) rfl (XS.sipush X101.here hx rfl (hb hby d_prog_15_method_2_10) kk_)) ?_
    show Fin _ _ _ _ _ _ _ (T101.setTop (mkF m 13 #[.val (.ref x), .val (.int (Int32.ofNat cs.length)), .unset, .unset, .unset] [(.int 128), (.int (Int32.ofNat cs.length))]))
    by_cases hl1 : (128 : Int32) < (Int32.ofNat cs.length)
    · refine Fin.by (fun tt_ kk_ => XS.icmpNo X101.here hx rfl (hb hby d_prog_15_method_2_13) rfl (tlt hl1).2.2.2 kk_) ?_
      refine Fin.by (fun tt_ kk_ => XS.iconst X101.here hx rfl (hb hby d_prog_15_method_2_16) kk_) ?_
      show Fin _ _ _ _ _ _ _ (T101.setTop (mkF m 17 #[.val (.ref x), .val (.int (Int32.ofNat cs.length)), .unset, .unset, .unset] [(.int 0)]))
      exact Fin.ret (v := some (.int (nar .boolean (0 : Int32)))) X101 (fun h => by rw [Bd.returns] at h; cases h) Bd.notSynchronized (by rw [e101]; exact ⟨(by unfold own_valid; rw [if_neg hl0, if_pos hl1]), N101_, rfl⟩) (by decide) (by decide) (fun fs hr => retN X101 hx (t := .boolean) Bd.returns (by simp) (hb hby d_prog_15_method_2_17) hr)
    · refine Fin.by (fun tt_ kk_ => XS.icmpYes X101.here hx rfl (pc0 := 13) (pc' := 18) rfl (hb hby d_prog_15_method_2_13) rfl (flt hl1).2.2.2 (by decide) (by decide) kk_) ?_
      refine Fin.by (fun tt_ kk_ => XS.iconst X101.here hx rfl (hb hby d_prog_15_method_2_18) (XS.istoreN X101.here hx rfl (hb hby d_prog_15_method_2_19) rfl (l' := #[.val (.ref x), .val (.int (Int32.ofNat cs.length)), .val (.int 0), .unset, .unset]) rfl kk_)) ?_
      have J20 : ∀ fu : Nat, ∀ (T102 : State) (lc103 : List Loc) (i : Nat) (j : Int32) (s3 : Slot) (s4 : Slot), Stand p l e ({ frames := 5, cells := 0, slots := 0, locals := 66 } : Room) s m #[(.ref x)] below meth c T102 lc103 0 0 → T102.heap = h0 → Fr n0 lc103 → (fu = cs.length - i) → (j = Int32.ofNat i) → (i ≤ cs.length) → (s3 = Slot.unset ∨ ∃ v, s3 = Slot.val v ∧ v.category = 1) → (s4 = Slot.unset ∨ ∃ v, s4 = Slot.val v ∧ v.category = 1) → (cs.all own_ok = (cs.drop i).all own_ok) → Fin p e below s (Q_val Z x t kb N2 vs cd cs G1 G9 h0 n0) 0 0 (T102.setTop (mkF m 20 #[.val (.ref x), .val (.int (Int32.ofNat cs.length)), .val (.int j), s3, s4] [])) := by
        intro fu
        induction fu using Nat.strongRecOn with
        | ind fu ih =>
          intro T102 lc103 i j s3 s4 X104 e105 N106 hf hj hil hs3 hs4 hal
          refine Fin.by (fun tt_ kk_ => XS.iloadN X104.here hx rfl (hb hby d_prog_15_method_2_20) rfl (XS.iloadN X104.here hx rfl (hb hby d_prog_15_method_2_21) rfl kk_)) ?_
          show Fin _ _ _ _ _ _ _ (T102.setTop (mkF m 22 #[.val (.ref x), .val (.int (Int32.ofNat cs.length)), .val (.int j), s3, s4] [(.int (Int32.ofNat cs.length)), (.int j)]))
          by_cases hlt : j < (Int32.ofNat cs.length)
          · refine Fin.by (fun tt_ kk_ => XS.icmpNo X104.here hx rfl (hb hby d_prog_15_method_2_22) rfl (tlt hlt).2.1 kk_) ?_
            have hi := own_ltof hj hlt hil l2
            refine Fin.by (fun tt_ kk_ => XS.aloadN X104.here hx rfl (hb hby d_prog_15_method_2_25) rfl rfl (XS.iloadN X104.here hx rfl (hb hby d_prog_15_method_2_26) rfl kk_)) ?_
            obtain ⟨cq107, kq107, qa107, qb107, qc107⟩ := isOf hZ e105 E1
            obtain ⟨v107, _, ⟨T107, L107, k107, n107⟩, -, X107, ⟨Lc107, hQ107, l107, y107, z107⟩, st107⟩ := X104.virtualBack hx (y := y_18) (z := y_18) hown (mvT hZ (w_ hw 51 rfl)) (mvT hZ (w_ hw 52 rfl)) (notFace_of_selects (args := #[]) (mvT hZ (w_ hw 54 rfl))) (mvT hZ (w_ hw 54 rfl)) (mvT hZ (w_ hw 53 rfl)) (by decide) (backOf (W := 0) (rm_chA l Z a0 hw [] x t kb N2 (vs : List Value) cs cd i j G1 G9 h0 n0 Z0 hc hb3 l2 hi hj E1 F0 F1 A0 S1 P1 S6 S7 S8 S9 r9 OL) hZ (w_ hw 55 rfl) (w_ hw 1 rfl) (by decide) (by decide)) qa107 qc107 (g := (mkF m 27 #[.val (.ref x), .val (.int (Int32.ofNat cs.length)), .val (.int j), s3, s4] [(.int j), (.ref x)])) rfl (by rw [hml]; rfl) (Steps.refl _) (argsL := [(.int j)]) (rest := []) (lenOf pd_321 rfl) rfl (by show 2 * 0 + _ ≤ _; exact Nat.le_of_eq rfl) (hb hby d_prog_15_method_2_27) (fun _ _ => ⟨rfl, e105, (by decide : 0 + 0 ≤ _), (by decide : 0 + 0 ≤ _)⟩)
            dsimp only [Pt.U, Pt.locs, Pt.cells, Pt.slots] at X107 l107 y107 z107 st107 hQ107
            subst l107 y107 z107
            obtain ⟨rfl, Nq107, e107_⟩ := hQ107
            have N107_ := Fr.app N106 Nq107
            refine Fin.byS st107 ?_
            have e107 := e107_
            refine Fin.by (fun tt_ kk_ => XS.istoreN X107.here hx rfl (hb hby d_prog_15_method_2_30) rfl (l' := #[.val (.ref x), .val (.int (Int32.ofNat cs.length)), .val (.int j), .val (.int (cs.getD i 0)), s4]) (XS.store1 (o := s3) rfl hs3 rfl) kk_) ?_
            have J91 : ∀ (_ : True), (own_ok (cs.getD i 0) = true) → Fin p e below s (Q_val Z x t kb N2 vs cd cs G1 G9 h0 n0) 0 0 (T107.setTop (mkF m 91 #[.val (.ref x), .val (.int (Int32.ofNat cs.length)), .val (.int j), .val (.int (cs.getD i 0)), s4] [])) := by
              intro _ hok
              refine Fin.by (fun tt_ kk_ => XS.iconst X107.here hx rfl (hb hby d_prog_15_method_2_91) (XS.goto X107.here hx rfl (pc0 := 92) (pc' := 96) rfl (hb hby d_prog_15_method_2_92) (by decide) (by decide) (XS.istore X107.here hx rfl (hb hby d_prog_15_method_2_96) rfl (l' := #[.val (.ref x), .val (.int (Int32.ofNat cs.length)), .val (.int j), .val (.int (cs.getD i 0)), .val (.int 1)]) (XS.store1 (o := s4) rfl hs4 rfl) (XS.iload X107.here hx rfl (hb hby d_prog_15_method_2_98) rfl kk_)))) ?_
              show Fin _ _ _ _ _ _ _ (T107.setTop (mkF m 100 #[.val (.ref x), .val (.int (Int32.ofNat cs.length)), .val (.int j), .val (.int (cs.getD i 0)), .val (.int 1)] [(.int 1)]))
              refine Fin.by (fun tt_ kk_ => XS.ifYes X107.here hx rfl (pc0 := 100) (pc' := 105) rfl (hb hby d_prog_15_method_2_100) rfl ((if0 _ _).trans (feq (by decide : ¬ (1 : Int32) = (0 : Int32))).2) (by decide) (by decide) kk_) ?_
              refine Fin.by (fun tt_ kk_ => XS.iinc X107.here hx rfl (hb hby d_prog_15_method_2_105) rfl (l' := #[.val (.ref x), .val (.int (Int32.ofNat cs.length)), .val (.int (j + 1)), .val (.int (cs.getD i 0)), .val (.int 1)]) rfl (XS.goto X107.here hx rfl (pc0 := 108) (pc' := 20) rfl (hb hby d_prog_15_method_2_108) (by decide) (by decide) kk_)) ?_
              show Fin _ _ _ _ _ _ _ (T107.setTop (mkF m 20 #[.val (.ref x), .val (.int (Int32.ofNat cs.length)), .val (.int (j + 1)), .val (.int (cs.getD i 0)), .val (.int 1)] []))
              exact ih (cs.length - (i + 1)) (by omega) T107 _ (i + 1) (j + (1 : Int32)) (Slot.val (.int (cs.getD i 0))) (Slot.val (.int 1)) X107 e107 N107_ rfl (own_ext hj) hi (Or.inr ⟨_, rfl, rfl⟩) (Or.inr ⟨_, rfl, rfl⟩) (by rw [hal, own_drop hi, hok]; rfl)
            have J43 : ∀ (_ : True), (own_r 97 122 (cs.getD i 0) = false) → Fin p e below s (Q_val Z x t kb N2 vs cd cs G1 G9 h0 n0) 0 0 (T107.setTop (mkF m 43 #[.val (.ref x), .val (.int (Int32.ofNat cs.length)), .val (.int j), .val (.int (cs.getD i 0)), s4] [])) := by
              intro _ hr0
              have J55 : ∀ (_ : True), (own_r 65 90 (cs.getD i 0) = false) → Fin p e below s (Q_val Z x t kb N2 vs cd cs G1 G9 h0 n0) 0 0 (T107.setTop (mkF m 55 #[.val (.ref x), .val (.int (Int32.ofNat cs.length)), .val (.int j), .val (.int (cs.getD i 0)), s4] [])) := by
                intro _ hr1
                have J67 : ∀ (_ : True), (own_r 48 57 (cs.getD i 0) = false) → Fin p e below s (Q_val Z x t kb N2 vs cd cs G1 G9 h0 n0) 0 0 (T107.setTop (mkF m 67 #[.val (.ref x), .val (.int (Int32.ofNat cs.length)), .val (.int j), .val (.int (cs.getD i 0)), s4] [])) := by
                  intro _ hr2
                  refine Fin.by (fun tt_ kk_ => XS.iloadN X107.here hx rfl (hb hby d_prog_15_method_2_67) rfl (XS.bipush X107.here hx rfl (hb hby d_prog_15_method_2_68) kk_)) ?_
                  show Fin _ _ _ _ _ _ _ (T107.setTop (mkF m 70 #[.val (.ref x), .val (.int (Int32.ofNat cs.length)), .val (.int j), .val (.int (cs.getD i 0)), s4] [(.int 46), (.int (cs.getD i 0))]))
                  by_cases hd0 : (cs.getD i 0) = (46 : Int32)
                  · refine Fin.by (fun tt_ kk_ => XS.icmpYes X107.here hx rfl (pc0 := 70) (pc' := 91) rfl (hb hby d_prog_15_method_2_70) rfl (teq hd0).1 (by decide) (by decide) kk_) ?_
                    show Fin _ _ _ _ _ _ _ (T107.setTop (mkF m 91 #[.val (.ref x), .val (.int (Int32.ofNat cs.length)), .val (.int j), .val (.int (cs.getD i 0)), s4] []))
                    exact J91 trivial (by unfold own_ok; rw [decide_eq_true hd0]; simp)
                  · refine Fin.by (fun tt_ kk_ => XS.icmpNo X107.here hx rfl (hb hby d_prog_15_method_2_70) rfl (feq hd0).1 kk_) ?_
                    refine Fin.by (fun tt_ kk_ => XS.iloadN X107.here hx rfl (hb hby d_prog_15_method_2_73) rfl (XS.bipush X107.here hx rfl (hb hby d_prog_15_method_2_74) kk_)) ?_
                    show Fin _ _ _ _ _ _ _ (T107.setTop (mkF m 76 #[.val (.ref x), .val (.int (Int32.ofNat cs.length)), .val (.int j), .val (.int (cs.getD i 0)), s4] [(.int 95), (.int (cs.getD i 0))]))
                    by_cases hd1 : (cs.getD i 0) = (95 : Int32)
                    · refine Fin.by (fun tt_ kk_ => XS.icmpYes X107.here hx rfl (pc0 := 76) (pc' := 91) rfl (hb hby d_prog_15_method_2_76) rfl (teq hd1).1 (by decide) (by decide) kk_) ?_
                      show Fin _ _ _ _ _ _ _ (T107.setTop (mkF m 91 #[.val (.ref x), .val (.int (Int32.ofNat cs.length)), .val (.int j), .val (.int (cs.getD i 0)), s4] []))
                      exact J91 trivial (by unfold own_ok; rw [decide_eq_true hd1]; simp)
                    · refine Fin.by (fun tt_ kk_ => XS.icmpNo X107.here hx rfl (hb hby d_prog_15_method_2_76) rfl (feq hd1).1 kk_) ?_
                      refine Fin.by (fun tt_ kk_ => XS.iloadN X107.here hx rfl (hb hby d_prog_15_method_2_79) rfl (XS.bipush X107.here hx rfl (hb hby d_prog_15_method_2_80) kk_)) ?_
                      show Fin _ _ _ _ _ _ _ (T107.setTop (mkF m 82 #[.val (.ref x), .val (.int (Int32.ofNat cs.length)), .val (.int j), .val (.int (cs.getD i 0)), s4] [(.int 45), (.int (cs.getD i 0))]))
                      by_cases hd2 : (cs.getD i 0) = (45 : Int32)
                      · refine Fin.by (fun tt_ kk_ => XS.icmpYes X107.here hx rfl (pc0 := 82) (pc' := 91) rfl (hb hby d_prog_15_method_2_82) rfl (teq hd2).1 (by decide) (by decide) kk_) ?_
                        show Fin _ _ _ _ _ _ _ (T107.setTop (mkF m 91 #[.val (.ref x), .val (.int (Int32.ofNat cs.length)), .val (.int j), .val (.int (cs.getD i 0)), s4] []))
                        exact J91 trivial (by unfold own_ok; rw [decide_eq_true hd2]; simp)
                      · refine Fin.by (fun tt_ kk_ => XS.icmpNo X107.here hx rfl (hb hby d_prog_15_method_2_82) rfl (feq hd2).1 kk_) ?_
                        refine Fin.by (fun tt_ kk_ => XS.iloadN X107.here hx rfl (hb hby d_prog_15_method_2_85) rfl (XS.bipush X107.here hx rfl (hb hby d_prog_15_method_2_86) kk_)) ?_
                        show Fin _ _ _ _ _ _ _ (T107.setTop (mkF m 88 #[.val (.ref x), .val (.int (Int32.ofNat cs.length)), .val (.int j), .val (.int (cs.getD i 0)), s4] [(.int 64), (.int (cs.getD i 0))]))
                        by_cases hd3 : (cs.getD i 0) = (64 : Int32)
                        · refine Fin.by (fun tt_ kk_ => XS.icmpNo X107.here hx rfl (hb hby d_prog_15_method_2_88) rfl (teq hd3).2 kk_) ?_
                          show Fin _ _ _ _ _ _ _ (T107.setTop (mkF m 91 #[.val (.ref x), .val (.int (Int32.ofNat cs.length)), .val (.int j), .val (.int (cs.getD i 0)), s4] []))
                          exact J91 trivial (by unfold own_ok; rw [decide_eq_true hd3]; simp)
                        · refine Fin.by (fun tt_ kk_ => XS.icmpYes X107.here hx rfl (pc0 := 88) (pc' := 95) rfl (hb hby d_prog_15_method_2_88) rfl (feq hd3).2 (by decide) (by decide) kk_) ?_
                          refine Fin.by (fun tt_ kk_ => XS.iconst X107.here hx rfl (hb hby d_prog_15_method_2_95) (XS.istore X107.here hx rfl (hb hby d_prog_15_method_2_96) rfl (l' := #[.val (.ref x), .val (.int (Int32.ofNat cs.length)), .val (.int j), .val (.int (cs.getD i 0)), .val (.int 0)]) (XS.store1 (o := s4) rfl hs4 rfl) (XS.iload X107.here hx rfl (hb hby d_prog_15_method_2_98) rfl kk_))) ?_
                          show Fin _ _ _ _ _ _ _ (T107.setTop (mkF m 100 #[.val (.ref x), .val (.int (Int32.ofNat cs.length)), .val (.int j), .val (.int (cs.getD i 0)), .val (.int 0)] [(.int 0)]))
                          refine Fin.by (fun tt_ kk_ => XS.ifNo X107.here hx rfl (hb hby d_prog_15_method_2_100) rfl ((if0 _ _).trans (teq (by decide : (0 : Int32) = (0 : Int32))).2) kk_) ?_
                          refine Fin.by (fun tt_ kk_ => XS.iconst X107.here hx rfl (hb hby d_prog_15_method_2_103) kk_) ?_
                          show Fin _ _ _ _ _ _ _ (T107.setTop (mkF m 104 #[.val (.ref x), .val (.int (Int32.ofNat cs.length)), .val (.int j), .val (.int (cs.getD i 0)), .val (.int 0)] [(.int 0)]))
                          exact Fin.ret (v := some (.int (nar .boolean (0 : Int32)))) X107 (fun h => by rw [Bd.returns] at h; cases h) Bd.notSynchronized (by rw [e107]; exact ⟨(by unfold own_valid; rw [if_neg hl0, if_neg hl1, hal, own_drop hi, show own_ok (cs.getD i 0) = false from by unfold own_ok; rw [hr0, hr1, hr2, decide_eq_false hd0, decide_eq_false hd1, decide_eq_false hd2, decide_eq_false hd3]; rfl]; rfl), N107_, rfl⟩) (by decide) (by decide) (fun fs hr => retN X107 hx (t := .boolean) Bd.returns (by simp) (hb hby d_prog_15_method_2_104) hr)
                refine Fin.by (fun tt_ kk_ => XS.iloadN X107.here hx rfl (hb hby d_prog_15_method_2_55) rfl (XS.bipush X107.here hx rfl (hb hby d_prog_15_method_2_56) kk_)) ?_
                show Fin _ _ _ _ _ _ _ (T107.setTop (mkF m 58 #[.val (.ref x), .val (.int (Int32.ofNat cs.length)), .val (.int j), .val (.int (cs.getD i 0)), s4] [(.int 48), (.int (cs.getD i 0))]))
                by_cases ha2 : (cs.getD i 0) < (48 : Int32)
                · refine Fin.by (fun tt_ kk_ => XS.icmpYes X107.here hx rfl (pc0 := 58) (pc' := 67) rfl (hb hby d_prog_15_method_2_58) rfl (tlt ha2).1 (by decide) (by decide) kk_) ?_
                  show Fin _ _ _ _ _ _ _ (T107.setTop (mkF m 67 #[.val (.ref x), .val (.int (Int32.ofNat cs.length)), .val (.int j), .val (.int (cs.getD i 0)), s4] []))
                  exact J67 trivial (own_r0 ha2)
                · refine Fin.by (fun tt_ kk_ => XS.icmpNo X107.here hx rfl (hb hby d_prog_15_method_2_58) rfl (flt ha2).1 kk_) ?_
                  refine Fin.by (fun tt_ kk_ => XS.iloadN X107.here hx rfl (hb hby d_prog_15_method_2_61) rfl (XS.bipush X107.here hx rfl (hb hby d_prog_15_method_2_62) kk_)) ?_
                  show Fin _ _ _ _ _ _ _ (T107.setTop (mkF m 64 #[.val (.ref x), .val (.int (Int32.ofNat cs.length)), .val (.int j), .val (.int (cs.getD i 0)), s4] [(.int 57), (.int (cs.getD i 0))]))
                  by_cases hb2_ : (57 : Int32) < (cs.getD i 0)
                  · refine Fin.by (fun tt_ kk_ => XS.icmpNo X107.here hx rfl (hb hby d_prog_15_method_2_64) rfl (tlt hb2_).2.2.2 kk_) ?_
                    show Fin _ _ _ _ _ _ _ (T107.setTop (mkF m 67 #[.val (.ref x), .val (.int (Int32.ofNat cs.length)), .val (.int j), .val (.int (cs.getD i 0)), s4] []))
                    exact J67 trivial (own_r1 hb2_)
                  · refine Fin.by (fun tt_ kk_ => XS.icmpYes X107.here hx rfl (pc0 := 64) (pc' := 91) rfl (hb hby d_prog_15_method_2_64) rfl (flt hb2_).2.2.2 (by decide) (by decide) kk_) ?_
                    show Fin _ _ _ _ _ _ _ (T107.setTop (mkF m 91 #[.val (.ref x), .val (.int (Int32.ofNat cs.length)), .val (.int j), .val (.int (cs.getD i 0)), s4] []))
                    exact J91 trivial (by unfold own_ok; rw [hr0, hr1, own_r2 ha2 hb2_]; simp)
              refine Fin.by (fun tt_ kk_ => XS.iloadN X107.here hx rfl (hb hby d_prog_15_method_2_43) rfl (XS.bipush X107.here hx rfl (hb hby d_prog_15_method_2_44) kk_)) ?_
              show Fin _ _ _ _ _ _ _ (T107.setTop (mkF m 46 #[.val (.ref x), .val (.int (Int32.ofNat cs.length)), .val (.int j), .val (.int (cs.getD i 0)), s4] [(.int 65), (.int (cs.getD i 0))]))
              by_cases ha1 : (cs.getD i 0) < (65 : Int32)
              · refine Fin.by (fun tt_ kk_ => XS.icmpYes X107.here hx rfl (pc0 := 46) (pc' := 55) rfl (hb hby d_prog_15_method_2_46) rfl (tlt ha1).1 (by decide) (by decide) kk_) ?_
                show Fin _ _ _ _ _ _ _ (T107.setTop (mkF m 55 #[.val (.ref x), .val (.int (Int32.ofNat cs.length)), .val (.int j), .val (.int (cs.getD i 0)), s4] []))
                exact J55 trivial (own_r0 ha1)
              · refine Fin.by (fun tt_ kk_ => XS.icmpNo X107.here hx rfl (hb hby d_prog_15_method_2_46) rfl (flt ha1).1 kk_) ?_
                refine Fin.by (fun tt_ kk_ => XS.iloadN X107.here hx rfl (hb hby d_prog_15_method_2_49) rfl (XS.bipush X107.here hx rfl (hb hby d_prog_15_method_2_50) kk_)) ?_
                show Fin _ _ _ _ _ _ _ (T107.setTop (mkF m 52 #[.val (.ref x), .val (.int (Int32.ofNat cs.length)), .val (.int j), .val (.int (cs.getD i 0)), s4] [(.int 90), (.int (cs.getD i 0))]))
                by_cases hb1_ : (90 : Int32) < (cs.getD i 0)
                · refine Fin.by (fun tt_ kk_ => XS.icmpNo X107.here hx rfl (hb hby d_prog_15_method_2_52) rfl (tlt hb1_).2.2.2 kk_) ?_
                  show Fin _ _ _ _ _ _ _ (T107.setTop (mkF m 55 #[.val (.ref x), .val (.int (Int32.ofNat cs.length)), .val (.int j), .val (.int (cs.getD i 0)), s4] []))
                  exact J55 trivial (own_r1 hb1_)
                · refine Fin.by (fun tt_ kk_ => XS.icmpYes X107.here hx rfl (pc0 := 52) (pc' := 91) rfl (hb hby d_prog_15_method_2_52) rfl (flt hb1_).2.2.2 (by decide) (by decide) kk_) ?_
                  show Fin _ _ _ _ _ _ _ (T107.setTop (mkF m 91 #[.val (.ref x), .val (.int (Int32.ofNat cs.length)), .val (.int j), .val (.int (cs.getD i 0)), s4] []))
                  exact J91 trivial (by unfold own_ok; rw [hr0, own_r2 ha1 hb1_]; simp)
            refine Fin.by (fun tt_ kk_ => XS.iloadN X107.here hx rfl (hb hby d_prog_15_method_2_31) rfl (XS.bipush X107.here hx rfl (hb hby d_prog_15_method_2_32) kk_)) ?_
            show Fin _ _ _ _ _ _ _ (T107.setTop (mkF m 34 #[.val (.ref x), .val (.int (Int32.ofNat cs.length)), .val (.int j), .val (.int (cs.getD i 0)), s4] [(.int 97), (.int (cs.getD i 0))]))
            by_cases ha0 : (cs.getD i 0) < (97 : Int32)
            · refine Fin.by (fun tt_ kk_ => XS.icmpYes X107.here hx rfl (pc0 := 34) (pc' := 43) rfl (hb hby d_prog_15_method_2_34) rfl (tlt ha0).1 (by decide) (by decide) kk_) ?_
              show Fin _ _ _ _ _ _ _ (T107.setTop (mkF m 43 #[.val (.ref x), .val (.int (Int32.ofNat cs.length)), .val (.int j), .val (.int (cs.getD i 0)), s4] []))
              exact J43 trivial (own_r0 ha0)
            · refine Fin.by (fun tt_ kk_ => XS.icmpNo X107.here hx rfl (hb hby d_prog_15_method_2_34) rfl (flt ha0).1 kk_) ?_
              refine Fin.by (fun tt_ kk_ => XS.iloadN X107.here hx rfl (hb hby d_prog_15_method_2_37) rfl (XS.bipush X107.here hx rfl (hb hby d_prog_15_method_2_38) kk_)) ?_
              show Fin _ _ _ _ _ _ _ (T107.setTop (mkF m 40 #[.val (.ref x), .val (.int (Int32.ofNat cs.length)), .val (.int j), .val (.int (cs.getD i 0)), s4] [(.int 122), (.int (cs.getD i 0))]))
              by_cases hb0_ : (122 : Int32) < (cs.getD i 0)
              · refine Fin.by (fun tt_ kk_ => XS.icmpNo X107.here hx rfl (hb hby d_prog_15_method_2_40) rfl (tlt hb0_).2.2.2 kk_) ?_
                show Fin _ _ _ _ _ _ _ (T107.setTop (mkF m 43 #[.val (.ref x), .val (.int (Int32.ofNat cs.length)), .val (.int j), .val (.int (cs.getD i 0)), s4] []))
                exact J43 trivial (own_r1 hb0_)
              · refine Fin.by (fun tt_ kk_ => XS.icmpYes X107.here hx rfl (pc0 := 40) (pc' := 91) rfl (hb hby d_prog_15_method_2_40) rfl (flt hb0_).2.2.2 (by decide) (by decide) kk_) ?_
                show Fin _ _ _ _ _ _ _ (T107.setTop (mkF m 91 #[.val (.ref x), .val (.int (Int32.ofNat cs.length)), .val (.int j), .val (.int (cs.getD i 0)), s4] []))
                exact J91 trivial (by unfold own_ok; rw [own_r2 ha0 hb0_]; simp)
          · refine Fin.by (fun tt_ kk_ => XS.icmpYes X104.here hx rfl (pc0 := 22) (pc' := 111) rfl (hb hby d_prog_15_method_2_22) rfl (flt hlt).2.1 (by decide) (by decide) kk_) ?_
            refine Fin.by (fun tt_ kk_ => XS.iconst X104.here hx rfl (hb hby d_prog_15_method_2_111) kk_) ?_
            show Fin _ _ _ _ _ _ _ (T102.setTop (mkF m 112 #[.val (.ref x), .val (.int (Int32.ofNat cs.length)), .val (.int j), s3, s4] [(.int 1)]))
            exact Fin.ret (v := some (.int (nar .boolean (1 : Int32)))) X104 (fun h => by rw [Bd.returns] at h; cases h) Bd.notSynchronized (by rw [e105]; exact ⟨(by unfold own_valid; rw [if_neg hl0, if_neg hl1, hal, own_geof hj hlt hil l2, List.drop_length]; rfl), N106, rfl⟩) (by decide) (by decide) (fun fs hr => retN X104 hx (t := .boolean) Bd.returns (by simp) (hb hby d_prog_15_method_2_112) hr)
      show Fin _ _ _ _ _ _ _ (T101.setTop (mkF m 20 #[.val (.ref x), .val (.int (Int32.ofNat cs.length)), .val (.int 0), .unset, .unset] []))
      exact J20 (cs.length - 0) T101 _ 0 (0 : Int32) Slot.unset Slot.unset X101 e101 N101_ rfl rfl (Nat.zero_le _) (Or.inl rfl) (Or.inl rfl) rfl
abbrev y_19 : MethodName := (⟨"java/lang/String", "<init>", "([C)V"⟩ : MethodName)
abbrev y_20 : MethodName := (⟨"com/example/portcullis/portcullis/Ids", "valid", "(Ljava/lang/String;)Z"⟩ : MethodName)
abbrev y_21 : MethodName := (⟨"com/example/portcullis/portcullis/IdsValidPinLaw", "ok", "(C)Z"⟩ : MethodName)
theorem pd_365 : parseMethodDescriptor "([C)V" = some ⟨[(.array .char)], none⟩ := by decide +kernel
theorem pd_366 : parseMethodDescriptor "(Ljava/lang/String;)Z" = some ⟨[(.object "java/lang/String")], some .boolean⟩ := by decide +kernel
theorem pd_367 : parseMethodDescriptor "(C)Z" = some ⟨[.char], some .boolean⟩ := by decide +kernel
def Q_law (Z : State) (p1 : Int32) (p2 : Int32) (p3 : Int32) (p4 : Int32) (G1 : Int32) (G9 : Value) (h0 : Heap) (n0 : Nat) (vv_ : Option Value) (hh_ : Heap) (LL_ : List Loc) : Prop := vv_ = some (.int (1 : Int32)) ∧ Fr n0 LL_
set_option maxRecDepth 65536 in
set_option maxHeartbeats 40000000 in
theorem rm_law (l : Launch) (Z : State) (a0 : Array Value) (hw : ∀ d ∈ tables_1, d.before a0 Z = true) (ws : List Jvm.Cond) (p1 : Int32) (p2 : Int32) (p3 : Int32) (p4 : Int32) (G1 : Int32) (G9 : Value) (h0 : Heap) (n0 : Nat) (Z0 : n0 ≤ h0.size) (S1 : Sta Z Z.heap "java/lang/String" "COMPACT_STRINGS" "Z" (.int G1)) (P1 : ¬ G1 = 0) (S6 : Sta Z Z.heap "java/lang/StringUTF16" "$assertionsDisabled" "Z" (.int (1 : Int32))) (S7 : Sta Z Z.heap "java/lang/StringUTF16" "HI_BYTE_SHIFT" "I" (.int (0 : Int32))) (S8 : Sta Z Z.heap "java/lang/StringUTF16" "LO_BYTE_SHIFT" "I" (.int (8 : Int32))) (S9 : Sta Z Z.heap "jdk/internal/util/Preconditions" "SIOOBE_FORMATTER" "Ljava/util/function/BiFunction;" G9) (r9 : G9.isRef = true) (OL : Old Z n0 h0) :
    MetFree l x (head1 (Jvm.Cond.code x code maxLocals ret :: ws) room_1) (fun aa_ U => aa_ = #[(.int p1), (.int p2), (.int p3), (.int p4)] ∧ Z.Warmed39 U.vm ∧ U.heap = h0 ∧ CHv Z consts_1 U.vm h0) (fun _ _ _ _ _ => True) (fun _ U o U' => ∃ vv_ LL_, o = .returned vv_ ∧ Q_law Z p1 p2 p3 p4 G1 G9 h0 n0 vv_ U'.heap LL_ ∧ CHr Z consts_1 U.vm U.heap U'.vm U'.heap ∧ ReturnedEndW U o U' LL_ 40 3264) := by
  refine MetFree.of_bodySF (plainFor_of_name pn_com_example_portcullis_portcullis_IdsValidPinLaw) hisR ?_
  intro p e s m args below meth c s₁ Bd hml0 hP hK
  obtain ⟨rfl, hZ, hh, hC0⟩ := hP
  have hx := Bd.exec
  have hby := Bd.bytes
  have hml : c.maxLocals = 16 := hml0
  have hown : s.vm.findClass "com/example/portcullis/portcullis/IdsValidPinLaw" = some m.cls := findClass_of_methodNamed Bd.named
  have hnm := (name_of_methodNamed Bd.named Bd.method).1
  have X0 : Stand p l e room_1 (s.setVm s.vm) m #[(.int p1), (.int p2), (.int p3), (.int p4)] below meth c s₁ [] 0 0 := Stand.of_body Bd
  have e0 : s₁.heap = h0 := by rw [← hh, Bd.state]; rfl
  have N0 := Fr.nil n0
  have ef : entryFrame m #[(.int p1), (.int p2), (.int p3), (.int p4)] maxLocals = mkF m 0 #[.val (.int p1), .val (.int p2), .val (.int p3), .val (.int p4), .unset, .unset, .unset, .unset, .unset, .unset, .unset, .unset, .unset, .unset, .unset, .unset] [] := by first | (simp [entryFrame, mkF, argsToLocals, Value.category, maxLocals]; done) | rfl
  have hS0 : s.Since s.vm h0.size := (State.WarmedH.refl s).since _
  have hk0 : h0.size ≤ h0.size := Nat.le_refl _
  have own_EW := own_EW0 hw
  have ch0 : CHr Z consts_1 s.vm h0 s.vm h0 := CHr.refl hC0
  refine FinH.start (Q := Q_law Z p1 p2 p3 p4 G1 G9 h0 n0) ef ?_
  refine FinH.by (fun tt_ kk_ => XS.iloadN X0.here hx rfl (hb hby at_0) rfl (XS.iconst X0.here hx rfl (hb hby at_1) (XS.iand X0.here hx rfl (hb hby at_2) rfl (XS.istore X0.here hx rfl (hb hby at_3) rfl (l' := #[.val (.int p1), .val (.int p2), .val (.int p3), .val (.int p4), .val (.int (p4 &&& 3)), .unset, .unset, .unset, .unset, .unset, .unset, .unset, .unset, .unset, .unset, .unset]) rfl (XS.iloadN X0.here hx rfl (hb hby at_5) rfl (XS.i2c X0.here hx rfl (hb hby at_6) rfl (XS.istore X0.here hx rfl (hb hby at_7) rfl (l' := #[.val (.int p1), .val (.int p2), .val (.int p3), .val (.int p4), .val (.int (p4 &&& 3)), .val (.int (p1.toUInt32.toUInt16.toUInt32.toInt32)), .unset, .unset, .unset, .unset, .unset, .unset, .unset, .unset, .unset, .unset]) rfl (XS.iloadN X0.here hx rfl (hb hby at_9) rfl (XS.i2c X0.here hx rfl (hb hby at_10) rfl (XS.istore X0.here hx rfl (hb hby at_11) rfl (l' := #[.val (.int p1), .val (.int p2), .val (.int p3), .val (.int p4), .val (.int (p4 &&& 3)), .val (.int (p1.toUInt32.toUInt16.toUInt32.toInt32)), .val (.int (p2.toUInt32.toUInt16.toUInt32.toInt32)), .unset, .unset, .unset, .unset, .unset, .unset, .unset, .unset, .unset]) rfl (XS.iloadN X0.here hx rfl (hb hby at_13) rfl (XS.i2c X0.here hx rfl (hb hby at_14) rfl kk_)))))))))))) ?_
  show FinH _ _ _ _ _ _ _ _ _ (s₁.setTop (mkF m 15 #[.val (.int p1), .val (.int p2), .val (.int p3), .val (.int p4), .val (.int (p4 &&& 3)), .val (.int (p1.toUInt32.toUInt16.toUInt32.toInt32)), .val (.int (p2.toUInt32.toUInt16.toUInt32.toInt32)), .unset, .unset, .unset, .unset, .unset, .unset, .unset, .unset, .unset] [(.int (p3.toUInt32.toUInt16.toUInt32.toInt32))]))
  refine FinH.by (fun tt_ kk_ => XS.istore X0.here hx rfl (hb hby at_15) rfl (l' := #[.val (.int p1), .val (.int p2), .val (.int p3), .val (.int p4), .val (.int (p4 &&& 3)), .val (.int (p1.toUInt32.toUInt16.toUInt32.toInt32)), .val (.int (p2.toUInt32.toUInt16.toUInt32.toInt32)), .val (.int (p3.toUInt32.toUInt16.toUInt32.toInt32)), .unset, .unset, .unset, .unset, .unset, .unset, .unset, .unset]) rfl kk_) ?_
  obtain ⟨a101, T101, h101, k101, b101, kk101, X101, e101, E101, hS101, hk101, hZ101, hown101, xE101, xC101, xV101, xA101, la101, lb101, hC101, hL101, hne101, st101⟩ := ldcCH X0 hx hZ hown (w_ hw 0 rfl) (fun d hd => hw d (own_strAtoms d hd)) e0 hS0 hk0 own_EW (by decide) ch0.1 (vs := []) (z := (0 : Int32)) ⟨by decide, by rfl⟩ (by decide) rfl (g := (mkF m 17 #[.val (.int p1), .val (.int p2), .val (.int p3), .val (.int p4), .val (.int (p4 &&& 3)), .val (.int (p1.toUInt32.toUInt16.toUInt32.toInt32)), .val (.int (p2.toUInt32.toUInt16.toUInt32.toInt32)), .val (.int (p3.toUInt32.toUInt16.toUInt32.toInt32)), .unset, .unset, .unset, .unset, .unset, .unset, .unset, .unset] [])) rfl (hb hby at_17) (n := 0) (by decide) (by decide) (by decide) (by decide)
  refine FinH.by (fun tt_ kk_ => st101 tt_ kk_) ?_
  have ch102 : CHr Z consts_1 s.vm h0 T101.vm h101 := ch0.trans hC101
  refine FinH.by (fun tt_ kk_ => XS.astore X101.here hx rfl (hb hby at_19) rfl rfl (l' := #[.val (.int p1), .val (.int p2), .val (.int p3), .val (.int p4), .val (.int (p4 &&& 3)), .val (.int (p1.toUInt32.toUInt16.toUInt32.toInt32)), .val (.int (p2.toUInt32.toUInt16.toUInt32.toInt32)), .val (.int (p3.toUInt32.toUInt16.toUInt32.toInt32)), .val (.ref a101), .unset, .unset, .unset, .unset, .unset, .unset, .unset]) rfl kk_) ?_
  obtain ⟨T103, h103, X103, e103, E103, A103, D103, -, st103⟩ := newO X101 hx hZ101 hown101 (w_ hw 8 rfl) (w_ hw 2 rfl) (w_ hw 1 rfl) e101 (g := (mkF m 21 #[.val (.int p1), .val (.int p2), .val (.int p3), .val (.int p4), .val (.int (p4 &&& 3)), .val (.int (p1.toUInt32.toUInt16.toUInt32.toInt32)), .val (.int (p2.toUInt32.toUInt16.toUInt32.toInt32)), .val (.int (p3.toUInt32.toUInt16.toUInt32.toInt32)), .val (.ref a101), .unset, .unset, .unset, .unset, .unset, .unset, .unset] [])) rfl (hb hby at_21) (by decide) (by decide)
  obtain ⟨a103, g103⟩ : ∃ z, z = h101.size := ⟨_, rfl⟩
  rw [← g103] at A103 D103 st103
  refine FinH.by (fun tt_ kk_ => st103 tt_ kk_) ?_
  have ch104 : CHr Z consts_1 s.vm h0 T101.vm h103 := ch102.trans (CHr.ext E103 ch102.1)
  refine FinH.by (fun tt_ kk_ => XS.dup X103.here hx rfl (hb hby at_24) rfl rfl (XS.iconst X103.here hx rfl (hb hby at_25) kk_)) ?_
  obtain ⟨T105, h105, k105, X105, e105, E105, A105, st105⟩ := newP X103 hx hZ101 (w_ hw 9 rfl) e103 (g := (mkF m 26 #[.val (.int p1), .val (.int p2), .val (.int p3), .val (.int p4), .val (.int (p4 &&& 3)), .val (.int (p1.toUInt32.toUInt16.toUInt32.toInt32)), .val (.int (p2.toUInt32.toUInt16.toUInt32.toInt32)), .val (.int (p3.toUInt32.toUInt16.toUInt32.toInt32)), .val (.ref a101), .unset, .unset, .unset, .unset, .unset, .unset, .unset] [(.int 1), (.ref a103), (.ref a103)])) rfl (hb hby at_26) rfl (by decide) (cap := 1) (by decide) (by decide) (by decide) (by decide)
  obtain ⟨a105, g105⟩ : ∃ z, z = h103.size := ⟨_, rfl⟩
  rw [← g105] at A105 st105
  refine FinH.by (fun tt_ kk_ => st105 tt_ kk_) ?_
  have ch106 : CHr Z consts_1 s.vm h0 T101.vm h105 := ch104.trans (CHr.ext E105 ch104.1)
  have V105 : Arv Z h105 a105 k105 .char (1 : Int32) [(.int (0 : Int32))] (.int (0 : Int32)) := (Arv.new A105 (by decide)).pad (pad_rep [] (.int (0 : Int32)) 1)
  refine FinH.by (fun tt_ kk_ => XS.dup X105.here hx rfl (hb hby at_28) rfl rfl (XS.iconst X105.here hx rfl (hb hby at_29) (XS.iload X105.here hx rfl (hb hby at_30) rfl kk_))) ?_
  obtain ⟨cl107, Ar107, q107, S107, N107, H107, G107⟩ := id V105
  obtain ⟨T107, h107, X107, e107, W107, st107⟩ := stC X105 hx hZ101 e105 Ar107 (j := (0 : Int32)) (inb_of S107 ⟨by decide, by decide⟩) (g := (mkF m 32 #[.val (.int p1), .val (.int p2), .val (.int p3), .val (.int p4), .val (.int (p4 &&& 3)), .val (.int (p1.toUInt32.toUInt16.toUInt32.toInt32)), .val (.int (p2.toUInt32.toUInt16.toUInt32.toInt32)), .val (.int (p3.toUInt32.toUInt16.toUInt32.toInt32)), .val (.ref a101), .unset, .unset, .unset, .unset, .unset, .unset, .unset] [(.int (p1.toUInt32.toUInt16.toUInt32.toInt32)), (.int 0), (.ref a105), (.ref a105), (.ref a103), (.ref a103)])) rfl rfl (hb hby at_32)
  have V107 : Arv Z h107 a105 k105 .char (1 : Int32) [(.int (nar .char (p1.toUInt32.toUInt16.toUInt32.toInt32)))] (.int (0 : Int32)) := Arv.set Ar107 q107 S107 N107 H107 G107 (fits_nar_char _) W107 0 rfl (Nat.le_of_ble_eq_true rfl)
  have z109 : n0 ≤ h103.size := Nat.le_trans Z0 (Nat.le_trans E101.1 E103.1)
  have g108 : n0 ≤ a105 := Nat.le_trans z109 (Nat.le_of_eq g105.symm)
  refine FinH.by (fun tt_ kk_ => st107 tt_ kk_) ?_
  have N107_ := Fr.snoc X107 N0 g108
  have sf111 : Safe Z consts_1 T101.vm h105 a105 := (Safe.ext E105 ch104.1 (Safe.new (Nat.le_of_eq g105.symm)))
  have ch110 : CHr Z consts_1 s.vm h0 T101.vm h107 := ch106.trans (CHr.wr W107 sf111 ch106.1)
  have E112 : Exa Z h107 a103 "java/lang/String" := ((A103.ext E105).wr W107)
  have ne113 : a103 ≠ a105 := Nat.ne_of_lt (Nat.lt_of_lt_of_le A103.lt (Nat.le_of_eq g105.symm))
  have F114 : Fld Z h107 a103 "java/lang/String" "value" "[B" .null := (((D103 (Or.inr (w_ hw 4 rfl)) (ty := (.array .byte)) (by decide) : Fld Z h103 a103 "java/lang/String" "value" "[B" .null).ext E105).other W107 (Or.inl ne113))
  have F115 : Fld Z h107 a103 "java/lang/String" "coder" "B" (.int (0 : Int32)) := (((D103 (Or.inr (w_ hw 5 rfl)) (ty := .byte) (by decide) : Fld Z h103 a103 "java/lang/String" "coder" "B" (.int (0 : Int32))).ext E105).other W107 (Or.inl ne113))
  have z117 : n0 ≤ h101.size := Nat.le_trans Z0 E101.1
  have g116 : n0 ≤ a103 := Nat.le_trans z117 (Nat.le_of_eq g103.symm)
  have O118 : Old Z n0 h107 := ((((OL.ext E101).ext E103).ext E105).wr W107 g108)
  have z119 : n0 ≤ h107.size := Nat.le_trans Z0 (Nat.le_trans (Nat.le_trans (Nat.le_trans E101.1 E103.1) E105.1) (Keep.of_wr W107).1)
  obtain ⟨v120, _, ⟨T120, L120, k120, n120⟩, -, X120, ⟨Lc120, hQ120, l120, y120, z120⟩, st120⟩ := X107.specialBack hx (y := y_19) rfl hown101 (mvT hZ101 (w_ hw 10 rfl)) (mvT hZ101 (w_ hw 11 rfl)) (mvT hZ101 (w_ hw 12 rfl)) (by decide) (backOf (W := 1) (rm_n1_1 l Z a0 hw [] a103 a105 k105 (nar .char (p1.toUInt32.toUInt16.toUInt32.toInt32)) G1 h107 n0 z119 E112 F114 F115 g116 V107 (own_nb _) S1 P1 S6 S7 S8 O118) hZ101 (w_ hw 12 rfl) (w_ hw 1 rfl) (by decide) (by decide)) (g := (mkF m 33 #[.val (.int p1), .val (.int p2), .val (.int p3), .val (.int p4), .val (.int (p4 &&& 3)), .val (.int (p1.toUInt32.toUInt16.toUInt32.toInt32)), .val (.int (p2.toUInt32.toUInt16.toUInt32.toInt32)), .val (.int (p3.toUInt32.toUInt16.toUInt32.toInt32)), .val (.ref a101), .unset, .unset, .unset, .unset, .unset, .unset, .unset] [(.ref a105), (.ref a103), (.ref a103)])) rfl (by rw [hml]; rfl) (Steps.refl _) (a := a103) (argsL := [(.ref a105)]) (rest := [(.ref a103)]) (lenOf pd_365 rfl) rfl (by show 2 * 0 + _ ≤ _; exact Nat.le_of_eq rfl) (hb hby at_33) (fun _ _ => ⟨rfl, e107, (by decide : 4 + 2 ≤ _), (by decide : 9 + 3 ≤ _)⟩)
  dsimp only [Pt.U, Pt.locs, Pt.cells, Pt.slots] at X120 l120 y120 z120 st120 hQ120
  subst l120 y120 z120
  obtain ⟨t121, k122, cd123, N124, vs125, rfl, Nq120, p120_0, p120_1, p120_2, p120_3, p120_4, p120_5, p120_6⟩ := hQ120
  have N120_ := Fr.app N107_ Nq120
  refine FinH.byS st120 ?_
  have sf127 : Safe Z consts_1 T101.vm h103 a103 := (Safe.ext E103 ch102.1 (Safe.new (Nat.le_of_eq g103.symm)))
  have sf128 : Safe Z consts_1 T101.vm h105 a103 := (Safe.ext E105 ch104.1 sf127)
  have sf129 : Safe Z consts_1 T101.vm h107 a103 := (Safe.wr W107 sf111 ch106.1 sf128)
  have ch126 : CHr Z consts_1 s.vm h0 T101.vm T120.heap := ch110.trans (CHr.keep p120_0 (allS sf129 all0) ch110.1)
  refine FinH.by (fun tt_ kk_ => XS.astore X120.here hx rfl (hb hby at_36) rfl rfl (l' := #[.val (.int p1), .val (.int p2), .val (.int p3), .val (.int p4), .val (.int (p4 &&& 3)), .val (.int (p1.toUInt32.toUInt16.toUInt32.toInt32)), .val (.int (p2.toUInt32.toUInt16.toUInt32.toInt32)), .val (.int (p3.toUInt32.toUInt16.toUInt32.toInt32)), .val (.ref a101), .val (.ref a103), .unset, .unset, .unset, .unset, .unset, .unset]) rfl kk_) ?_
  obtain ⟨T130, h130, X130, e130, E130, A130, D130, -, st130⟩ := newO X120 hx hZ101 hown101 (w_ hw 8 rfl) (w_ hw 2 rfl) (w_ hw 1 rfl) rfl (g := (mkF m 38 #[.val (.int p1), .val (.int p2), .val (.int p3), .val (.int p4), .val (.int (p4 &&& 3)), .val (.int (p1.toUInt32.toUInt16.toUInt32.toInt32)), .val (.int (p2.toUInt32.toUInt16.toUInt32.toInt32)), .val (.int (p3.toUInt32.toUInt16.toUInt32.toInt32)), .val (.ref a101), .val (.ref a103), .unset, .unset, .unset, .unset, .unset, .unset] [])) rfl (hb hby at_38) (by decide) (by decide)
  obtain ⟨a130, g130⟩ : ∃ z, z = T120.heap.size := ⟨_, rfl⟩
  rw [← g130] at A130 D130 st130
  refine FinH.by (fun tt_ kk_ => st130 tt_ kk_) ?_
  have ch131 : CHr Z consts_1 s.vm h0 T101.vm h130 := ch126.trans (CHr.ext E130 ch126.1)
  refine FinH.by (fun tt_ kk_ => XS.dup X130.here hx rfl (hb hby at_41) rfl rfl (XS.iconst X130.here hx rfl (hb hby at_42) kk_)) ?_
  obtain ⟨T132, h132, k132, X132, e132, E132, A132, st132⟩ := newP X130 hx hZ101 (w_ hw 9 rfl) e130 (g := (mkF m 43 #[.val (.int p1), .val (.int p2), .val (.int p3), .val (.int p4), .val (.int (p4 &&& 3)), .val (.int (p1.toUInt32.toUInt16.toUInt32.toInt32)), .val (.int (p2.toUInt32.toUInt16.toUInt32.toInt32)), .val (.int (p3.toUInt32.toUInt16.toUInt32.toInt32)), .val (.ref a101), .val (.ref a103), .unset, .unset, .unset, .unset, .unset, .unset] [(.int 2), (.ref a130), (.ref a130)])) rfl (hb hby at_43) rfl (by decide) (cap := 2) (by decide) (by decide) (by decide) (by decide)
  obtain ⟨a132, g132⟩ : ∃ z, z = h130.size := ⟨_, rfl⟩
  rw [← g132] at A132 st132
  refine FinH.by (fun tt_ kk_ => st132 tt_ kk_) ?_
  have ch133 : CHr Z consts_1 s.vm h0 T101.vm h132 := ch131.trans (CHr.ext E132 ch131.1)
  have V132 : Arv Z h132 a132 k132 .char (2 : Int32) [(.int (0 : Int32)), (.int (0 : Int32))] (.int (0 : Int32)) := (Arv.new A132 (by decide)).pad (pad_rep [] (.int (0 : Int32)) 2)
  refine FinH.by (fun tt_ kk_ => XS.dup X132.here hx rfl (hb hby at_45) rfl rfl (XS.iconst X132.here hx rfl (hb hby at_46) (XS.iload X132.here hx rfl (hb hby at_47) rfl kk_))) ?_
  obtain ⟨cl134, Ar134, q134, S134, N134, H134, G134⟩ := id V132
  obtain ⟨T134, h134, X134, e134, W134, st134⟩ := stC X132 hx hZ101 e132 Ar134 (j := (0 : Int32)) (inb_of S134 ⟨by decide, by decide⟩) (g := (mkF m 49 #[.val (.int p1), .val (.int p2), .val (.int p3), .val (.int p4), .val (.int (p4 &&& 3)), .val (.int (p1.toUInt32.toUInt16.toUInt32.toInt32)), .val (.int (p2.toUInt32.toUInt16.toUInt32.toInt32)), .val (.int (p3.toUInt32.toUInt16.toUInt32.toInt32)), .val (.ref a101), .val (.ref a103), .unset, .unset, .unset, .unset, .unset, .unset] [(.int (p1.toUInt32.toUInt16.toUInt32.toInt32)), (.int 0), (.ref a132), (.ref a132), (.ref a130), (.ref a130)])) rfl rfl (hb hby at_49)
  have V134 : Arv Z h134 a132 k132 .char (2 : Int32) [(.int (nar .char (p1.toUInt32.toUInt16.toUInt32.toInt32))), (.int (0 : Int32))] (.int (0 : Int32)) := Arv.set Ar134 q134 S134 N134 H134 G134 (fits_nar_char _) W134 0 rfl (Nat.le_of_ble_eq_true rfl)
  have z136 : n0 ≤ h130.size := Nat.le_trans z119 (Nat.le_trans p120_0.1 E130.1)
  have g135 : n0 ≤ a132 := Nat.le_trans z136 (Nat.le_of_eq g132.symm)
  refine FinH.by (fun tt_ kk_ => st134 tt_ kk_) ?_
  have N134_ := Fr.snoc X134 N120_ g135
  have sf138 : Safe Z consts_1 T101.vm h132 a132 := (Safe.ext E132 ch131.1 (Safe.new (Nat.le_of_eq g132.symm)))
  have ch137 : CHr Z consts_1 s.vm h0 T101.vm h134 := ch133.trans (CHr.wr W134 sf138 ch133.1)
  refine FinH.by (fun tt_ kk_ => XS.dup X134.here hx rfl (hb hby at_50) rfl rfl (XS.iconst X134.here hx rfl (hb hby at_51) (XS.iload X134.here hx rfl (hb hby at_52) rfl kk_))) ?_
  obtain ⟨cl139, Ar139, q139, S139, N139, H139, G139⟩ := id V134
  obtain ⟨T139, h139, X139, e139, W139, st139⟩ := stC X134 hx hZ101 e134 Ar139 (j := (1 : Int32)) (inb_of S139 ⟨by decide, by decide⟩) (g := (mkF m 54 #[.val (.int p1), .val (.int p2), .val (.int p3), .val (.int p4), .val (.int (p4 &&& 3)), .val (.int (p1.toUInt32.toUInt16.toUInt32.toInt32)), .val (.int (p2.toUInt32.toUInt16.toUInt32.toInt32)), .val (.int (p3.toUInt32.toUInt16.toUInt32.toInt32)), .val (.ref a101), .val (.ref a103), .unset, .unset, .unset, .unset, .unset, .unset] [(.int (p2.toUInt32.toUInt16.toUInt32.toInt32)), (.int 1), (.ref a132), (.ref a132), (.ref a130), (.ref a130)])) rfl rfl (hb hby at_54)
  have V139 : Arv Z h139 a132 k132 .char (2 : Int32) [(.int (nar .char (p1.toUInt32.toUInt16.toUInt32.toInt32))), (.int (nar .char (p2.toUInt32.toUInt16.toUInt32.toInt32)))] (.int (0 : Int32)) := Arv.set Ar139 q139 S139 N139 H139 G139 (fits_nar_char _) W139 1 rfl (Nat.le_of_ble_eq_true rfl)
  refine FinH.by (fun tt_ kk_ => st139 tt_ kk_) ?_
  have N139_ := Fr.snoc X139 N134_ g135
  have sf141 : Safe Z consts_1 T101.vm h134 a132 := (Safe.wr W134 sf138 ch133.1 sf138)
  have ch140 : CHr Z consts_1 s.vm h0 T101.vm h139 := ch137.trans (CHr.wr W139 sf141 ch137.1)
  have E142 : Exa Z h139 a130 "java/lang/String" := (((A130.ext E132).wr W134).wr W139)
  have ne143 : a130 ≠ a132 := Nat.ne_of_lt (Nat.lt_of_lt_of_le A130.lt (Nat.le_of_eq g132.symm))
  have F144 : Fld Z h139 a130 "java/lang/String" "value" "[B" .null := ((((D130 (Or.inr (w_ hw 4 rfl)) (ty := (.array .byte)) (by decide) : Fld Z h130 a130 "java/lang/String" "value" "[B" .null).ext E132).other W134 (Or.inl ne143)).other W139 (Or.inl ne143))
  have F145 : Fld Z h139 a130 "java/lang/String" "coder" "B" (.int (0 : Int32)) := ((((D130 (Or.inr (w_ hw 5 rfl)) (ty := .byte) (by decide) : Fld Z h130 a130 "java/lang/String" "coder" "B" (.int (0 : Int32))).ext E132).other W134 (Or.inl ne143)).other W139 (Or.inl ne143))
  have z147 : n0 ≤ T120.heap.size := Nat.le_trans z119 p120_0.1
  have g146 : n0 ≤ a130 := Nat.le_trans z147 (Nat.le_of_eq g130.symm)
  have O148 : Old Z n0 h139 := (((((O118.keep p120_0 (allS g116 all0)).ext E130).ext E132).wr W134 g135).wr W139 g135)
  have z149 : n0 ≤ h139.size := Nat.le_trans z119 (Nat.le_trans (Nat.le_trans (Nat.le_trans (Nat.le_trans p120_0.1 E130.1) E132.1) (Keep.of_wr W134).1) (Keep.of_wr W139).1)
  obtain ⟨v150, _, ⟨T150, L150, k150, n150⟩, -, X150, ⟨Lc150, hQ150, l150, y150, z150⟩, st150⟩ := X139.specialBack hx (y := y_19) rfl hown101 (mvT hZ101 (w_ hw 10 rfl)) (mvT hZ101 (w_ hw 11 rfl)) (mvT hZ101 (w_ hw 12 rfl)) (by decide) (backOf (W := 1) (rm_n1_2 l Z a0 hw [] a130 a132 k132 (nar .char (p1.toUInt32.toUInt16.toUInt32.toInt32)) (nar .char (p2.toUInt32.toUInt16.toUInt32.toInt32)) G1 h139 n0 z149 E142 F144 F145 g146 V139 (own_nb _) (own_nb _) S1 P1 S6 S7 S8 O148) hZ101 (w_ hw 12 rfl) (w_ hw 1 rfl) (by decide) (by decide)) (g := (mkF m 55 #[.val (.int p1), .val (.int p2), .val (.int p3), .val (.int p4), .val (.int (p4 &&& 3)), .val (.int (p1.toUInt32.toUInt16.toUInt32.toInt32)), .val (.int (p2.toUInt32.toUInt16.toUInt32.toInt32)), .val (.int (p3.toUInt32.toUInt16.toUInt32.toInt32)), .val (.ref a101), .val (.ref a103), .unset, .unset, .unset, .unset, .unset, .unset] [(.ref a132), (.ref a130), (.ref a130)])) rfl (by rw [hml]; rfl) (Steps.refl _) (a := a130) (argsL := [(.ref a132)]) (rest := [(.ref a130)]) (lenOf pd_365 rfl) rfl (by show 2 * 0 + _ ≤ _; exact Nat.le_of_eq rfl) (hb hby at_55) (fun _ _ => ⟨rfl, e139, (by decide : 8 + 2 ≤ _), (by decide : 18 + 6 ≤ _)⟩)
  dsimp only [Pt.U, Pt.locs, Pt.cells, Pt.slots] at X150 l150 y150 z150 st150 hQ150
  subst l150 y150 z150
  obtain ⟨t151, k152, cd153, N154, vs155, rfl, Nq150, p150_0, p150_1, p150_2, p150_3, p150_4, p150_5, p150_6⟩ := hQ150
  have N150_ := Fr.app N139_ Nq150
  refine FinH.byS st150 ?_
  have sf157 : Safe Z consts_1 T101.vm h130 a130 := (Safe.ext E130 ch126.1 (Safe.new (Nat.le_of_eq g130.symm)))
  have sf158 : Safe Z consts_1 T101.vm h132 a130 := (Safe.ext E132 ch131.1 sf157)
  have sf159 : Safe Z consts_1 T101.vm h134 a130 := (Safe.wr W134 sf138 ch133.1 sf158)
  have sf160 : Safe Z consts_1 T101.vm h139 a130 := (Safe.wr W139 sf141 ch137.1 sf159)
  have ch156 : CHr Z consts_1 s.vm h0 T101.vm T150.heap := ch140.trans (CHr.keep p150_0 (allS sf160 all0) ch140.1)
  refine FinH.by (fun tt_ kk_ => XS.astore X150.here hx rfl (hb hby at_58) rfl rfl (l' := #[.val (.int p1), .val (.int p2), .val (.int p3), .val (.int p4), .val (.int (p4 &&& 3)), .val (.int (p1.toUInt32.toUInt16.toUInt32.toInt32)), .val (.int (p2.toUInt32.toUInt16.toUInt32.toInt32)), .val (.int (p3.toUInt32.toUInt16.toUInt32.toInt32)), .val (.ref a101), .val (.ref a103), .val (.ref a130), .unset, .unset, .unset, .unset, .unset]) rfl kk_) ?_
  obtain ⟨T161, h161, X161, e161, E161, A161, D161, -, st161⟩ := newO X150 hx hZ101 hown101 (w_ hw 8 rfl) (w_ hw 2 rfl) (w_ hw 1 rfl) rfl (g := (mkF m 60 #[.val (.int p1), .val (.int p2), .val (.int p3), .val (.int p4), .val (.int (p4 &&& 3)), .val (.int (p1.toUInt32.toUInt16.toUInt32.toInt32)), .val (.int (p2.toUInt32.toUInt16.toUInt32.toInt32)), .val (.int (p3.toUInt32.toUInt16.toUInt32.toInt32)), .val (.ref a101), .val (.ref a103), .val (.ref a130), .unset, .unset, .unset, .unset, .unset] [])) rfl (hb hby at_60) (by decide) (by decide)
  obtain ⟨a161, g161⟩ : ∃ z, z = T150.heap.size := ⟨_, rfl⟩
  rw [← g161] at A161 D161 st161
  refine FinH.by (fun tt_ kk_ => st161 tt_ kk_) ?_
  have ch162 : CHr Z consts_1 s.vm h0 T101.vm h161 := ch156.trans (CHr.ext E161 ch156.1)
  refine FinH.by (fun tt_ kk_ => XS.dup X161.here hx rfl (hb hby at_63) rfl rfl (XS.iconst X161.here hx rfl (hb hby at_64) kk_)) ?_
  obtain ⟨T163, h163, k163, X163, e163, E163, A163, st163⟩ := newP X161 hx hZ101 (w_ hw 9 rfl) e161 (g := (mkF m 65 #[.val (.int p1), .val (.int p2), .val (.int p3), .val (.int p4), .val (.int (p4 &&& 3)), .val (.int (p1.toUInt32.toUInt16.toUInt32.toInt32)), .val (.int (p2.toUInt32.toUInt16.toUInt32.toInt32)), .val (.int (p3.toUInt32.toUInt16.toUInt32.toInt32)), .val (.ref a101), .val (.ref a103), .val (.ref a130), .unset, .unset, .unset, .unset, .unset] [(.int 3), (.ref a161), (.ref a161)])) rfl (hb hby at_65) rfl (by decide) (cap := 3) (by decide) (by decide) (by decide) (by decide)
  obtain ⟨a163, g163⟩ : ∃ z, z = h161.size := ⟨_, rfl⟩
  rw [← g163] at A163 st163
  refine FinH.by (fun tt_ kk_ => st163 tt_ kk_) ?_
  have ch164 : CHr Z consts_1 s.vm h0 T101.vm h163 := ch162.trans (CHr.ext E163 ch162.1)
  have V163 : Arv Z h163 a163 k163 .char (3 : Int32) [(.int (0 : Int32)), (.int (0 : Int32)), (.int (0 : Int32))] (.int (0 : Int32)) := (Arv.new A163 (by decide)).pad (pad_rep [] (.int (0 : Int32)) 3)
  refine FinH.by (fun tt_ kk_ => XS.dup X163.here hx rfl (hb hby at_67) rfl rfl (XS.iconst X163.here hx rfl (hb hby at_68) (XS.iload X163.here hx rfl (hb hby at_69) rfl kk_))) ?_
  obtain ⟨cl165, Ar165, q165, S165, N165, H165, G165⟩ := id V163
  obtain ⟨T165, h165, X165, e165, W165, st165⟩ := stC X163 hx hZ101 e163 Ar165 (j := (0 : Int32)) (inb_of S165 ⟨by decide, by decide⟩) (g := (mkF m 71 #[.val (.int p1), .val (.int p2), .val (.int p3), .val (.int p4), .val (.int (p4 &&& 3)), .val (.int (p1.toUInt32.toUInt16.toUInt32.toInt32)), .val (.int (p2.toUInt32.toUInt16.toUInt32.toInt32)), .val (.int (p3.toUInt32.toUInt16.toUInt32.toInt32)), .val (.ref a101), .val (.ref a103), .val (.ref a130), .unset, .unset, .unset, .unset, .unset] [(.int (p1.toUInt32.toUInt16.toUInt32.toInt32)), (.int 0), (.ref a163), (.ref a163), (.ref a161), (.ref a161)])) rfl rfl (hb hby at_71)
  have V165 : Arv Z h165 a163 k163 .char (3 : Int32) [(.int (nar .char (p1.toUInt32.toUInt16.toUInt32.toInt32))), (.int (0 : Int32)), (.int (0 : Int32))] (.int (0 : Int32)) := Arv.set Ar165 q165 S165 N165 H165 G165 (fits_nar_char _) W165 0 rfl (Nat.le_of_ble_eq_true rfl)
  have z167 : n0 ≤ h161.size := Nat.le_trans z149 (Nat.le_trans p150_0.1 E161.1)
  have g166 : n0 ≤ a163 := Nat.le_trans z167 (Nat.le_of_eq g163.symm)
  refine FinH.by (fun tt_ kk_ => st165 tt_ kk_) ?_
  have N165_ := Fr.snoc X165 N150_ g166
  have sf169 : Safe Z consts_1 T101.vm h163 a163 := (Safe.ext E163 ch162.1 (Safe.new (Nat.le_of_eq g163.symm)))
  have ch168 : CHr Z consts_1 s.vm h0 T101.vm h165 := ch164.trans (CHr.wr W165 sf169 ch164.1)
  refine FinH.by (fun tt_ kk_ => XS.dup X165.here hx rfl (hb hby at_72) rfl rfl (XS.iconst X165.here hx rfl (hb hby at_73) (XS.iload X165.here hx rfl (hb hby at_74) rfl kk_))) ?_
  obtain ⟨cl170, Ar170, q170, S170, N170, H170, G170⟩ := id V165
  obtain ⟨T170, h170, X170, e170, W170, st170⟩ := stC X165 hx hZ101 e165 Ar170 (j := (1 : Int32)) (inb_of S170 ⟨by decide, by decide⟩) (g := (mkF m 76 #[.val (.int p1), .val (.int p2), .val (.int p3), .val (.int p4), .val (.int (p4 &&& 3)), .val (.int (p1.toUInt32.toUInt16.toUInt32.toInt32)), .val (.int (p2.toUInt32.toUInt16.toUInt32.toInt32)), .val (.int (p3.toUInt32.toUInt16.toUInt32.toInt32)), .val (.ref a101), .val (.ref a103), .val (.ref a130), .unset, .unset, .unset, .unset, .unset] [(.int (p2.toUInt32.toUInt16.toUInt32.toInt32)), (.int 1), (.ref a163), (.ref a163), (.ref a161), (.ref a161)])) rfl rfl (hb hby at_76)
  have V170 : Arv Z h170 a163 k163 .char (3 : Int32) [(.int (nar .char (p1.toUInt32.toUInt16.toUInt32.toInt32))), (.int (nar .char (p2.toUInt32.toUInt16.toUInt32.toInt32))), (.int (0 : Int32))] (.int (0 : Int32)) := Arv.set Ar170 q170 S170 N170 H170 G170 (fits_nar_char _) W170 1 rfl (Nat.le_of_ble_eq_true rfl)
  refine FinH.by (fun tt_ kk_ => st170 tt_ kk_) ?_
  have N170_ := Fr.snoc X170 N165_ g166
  have sf172 : Safe Z consts_1 T101.vm h165 a163 := (Safe.wr W165 sf169 ch164.1 sf169)
  have ch171 : CHr Z consts_1 s.vm h0 T101.vm h170 := ch168.trans (CHr.wr W170 sf172 ch168.1)
  refine FinH.by (fun tt_ kk_ => XS.dup X170.here hx rfl (hb hby at_77) rfl rfl (XS.iconst X170.here hx rfl (hb hby at_78) (XS.iload X170.here hx rfl (hb hby at_79) rfl kk_))) ?_
  obtain ⟨cl173, Ar173, q173, S173, N173, H173, G173⟩ := id V170
  obtain ⟨T173, h173, X173, e173, W173, st173⟩ := stC X170 hx hZ101 e170 Ar173 (j := (2 : Int32)) (inb_of S173 ⟨by decide, by decide⟩) (g := (mkF m 81 #[.val (.int p1), .val (.int p2), .val (.int p3), .val (.int p4), .val (.int (p4 &&& 3)), .val (.int (p1.toUInt32.toUInt16.toUInt32.toInt32)), .val (.int (p2.toUInt32.toUInt16.toUInt32.toInt32)), .val (.int (p3.toUInt32.toUInt16.toUInt32.toInt32)), .val (.ref a101), .val (.ref a103), .val (.ref a130), .unset, .unset, .unset, .unset, .unset] [(.int (p3.toUInt32.toUInt16.toUInt32.toInt32)), (.int 2), (.ref a163), (.ref a163), (.ref a161), (.ref a161)])) rfl rfl (hb hby at_81)
  have V173 : Arv Z h173 a163 k163 .char (3 : Int32) [(.int (nar .char (p1.toUInt32.toUInt16.toUInt32.toInt32))), (.int (nar .char (p2.toUInt32.toUInt16.toUInt32.toInt32))), (.int (nar .char (p3.toUInt32.toUInt16.toUInt32.toInt32)))] (.int (0 : Int32)) := Arv.set Ar173 q173 S173 N173 H173 G173 (fits_nar_char _) W173 2 rfl (Nat.le_of_ble_eq_true rfl)
  refine FinH.by (fun tt_ kk_ => st173 tt_ kk_) ?_
  have N173_ := Fr.snoc X173 N170_ g166
  have sf175 : Safe Z consts_1 T101.vm h170 a163 := (Safe.wr W170 sf172 ch168.1 sf172)
  have ch174 : CHr Z consts_1 s.vm h0 T101.vm h173 := ch171.trans (CHr.wr W173 sf175 ch171.1)
  have E176 : Exa Z h173 a161 "java/lang/String" := ((((A161.ext E163).wr W165).wr W170).wr W173)
  have ne177 : a161 ≠ a163 := Nat.ne_of_lt (Nat.lt_of_lt_of_le A161.lt (Nat.le_of_eq g163.symm))
  have F178 : Fld Z h173 a161 "java/lang/String" "value" "[B" .null := (((((D161 (Or.inr (w_ hw 4 rfl)) (ty := (.array .byte)) (by decide) : Fld Z h161 a161 "java/lang/String" "value" "[B" .null).ext E163).other W165 (Or.inl ne177)).other W170 (Or.inl ne177)).other W173 (Or.inl ne177))
  have F179 : Fld Z h173 a161 "java/lang/String" "coder" "B" (.int (0 : Int32)) := (((((D161 (Or.inr (w_ hw 5 rfl)) (ty := .byte) (by decide) : Fld Z h161 a161 "java/lang/String" "coder" "B" (.int (0 : Int32))).ext E163).other W165 (Or.inl ne177)).other W170 (Or.inl ne177)).other W173 (Or.inl ne177))
  have z181 : n0 ≤ T150.heap.size := Nat.le_trans z149 p150_0.1
  have g180 : n0 ≤ a161 := Nat.le_trans z181 (Nat.le_of_eq g161.symm)
  have O182 : Old Z n0 h173 := ((((((O148.keep p150_0 (allS g146 all0)).ext E161).ext E163).wr W165 g166).wr W170 g166).wr W173 g166)
  have z183 : n0 ≤ h173.size := Nat.le_trans z149 (Nat.le_trans (Nat.le_trans (Nat.le_trans (Nat.le_trans (Nat.le_trans p150_0.1 E161.1) E163.1) (Keep.of_wr W165).1) (Keep.of_wr W170).1) (Keep.of_wr W173).1)
  obtain ⟨v184, _, ⟨T184, L184, k184, n184⟩, -, X184, ⟨Lc184, hQ184, l184, y184, z184⟩, st184⟩ := X173.specialBack hx (y := y_19) rfl hown101 (mvT hZ101 (w_ hw 10 rfl)) (mvT hZ101 (w_ hw 11 rfl)) (mvT hZ101 (w_ hw 12 rfl)) (by decide) (backOf (W := 1) (rm_n1_3 l Z a0 hw [] a161 a163 k163 (nar .char (p1.toUInt32.toUInt16.toUInt32.toInt32)) (nar .char (p2.toUInt32.toUInt16.toUInt32.toInt32)) (nar .char (p3.toUInt32.toUInt16.toUInt32.toInt32)) G1 h173 n0 z183 E176 F178 F179 g180 V173 (own_nb _) (own_nb _) (own_nb _) S1 P1 S6 S7 S8 O182) hZ101 (w_ hw 12 rfl) (w_ hw 1 rfl) (by decide) (by decide)) (g := (mkF m 82 #[.val (.int p1), .val (.int p2), .val (.int p3), .val (.int p4), .val (.int (p4 &&& 3)), .val (.int (p1.toUInt32.toUInt16.toUInt32.toInt32)), .val (.int (p2.toUInt32.toUInt16.toUInt32.toInt32)), .val (.int (p3.toUInt32.toUInt16.toUInt32.toInt32)), .val (.ref a101), .val (.ref a103), .val (.ref a130), .unset, .unset, .unset, .unset, .unset] [(.ref a163), (.ref a161), (.ref a161)])) rfl (by rw [hml]; rfl) (Steps.refl _) (a := a161) (argsL := [(.ref a163)]) (rest := [(.ref a161)]) (lenOf pd_365 rfl) rfl (by show 2 * 0 + _ ≤ _; exact Nat.le_of_eq rfl) (hb hby at_82) (fun _ _ => ⟨rfl, e173, (by decide : 12 + 2 ≤ _), (by decide : 31 + 9 ≤ _)⟩)
  dsimp only [Pt.U, Pt.locs, Pt.cells, Pt.slots] at X184 l184 y184 z184 st184 hQ184
  subst l184 y184 z184
  obtain ⟨t185, k186, cd187, N188, vs189, rfl, Nq184, p184_0, p184_1, p184_2, p184_3, p184_4, p184_5, p184_6⟩ := hQ184
  have N184_ := Fr.app N173_ Nq184
  refine FinH.byS st184 ?_
  have sf191 : Safe Z consts_1 T101.vm h161 a161 := (Safe.ext E161 ch156.1 (Safe.new (Nat.le_of_eq g161.symm)))
  have sf192 : Safe Z consts_1 T101.vm h163 a161 := (Safe.ext E163 ch162.1 sf191)
  have sf193 : Safe Z consts_1 T101.vm h165 a161 := (Safe.wr W165 sf169 ch164.1 sf192)
  have sf194 : Safe Z consts_1 T101.vm h170 a161 := (Safe.wr W170 sf172 ch168.1 sf193)
  have sf195 : Safe Z consts_1 T101.vm h173 a161 := (Safe.wr W173 sf175 ch171.1 sf194)
  have ch190 : CHr Z consts_1 s.vm h0 T101.vm T184.heap := ch174.trans (CHr.keep p184_0 (allS sf195 all0) ch174.1)
  refine FinH.by (fun tt_ kk_ => XS.astore X184.here hx rfl (hb hby at_85) rfl rfl (l' := #[.val (.int p1), .val (.int p2), .val (.int p3), .val (.int p4), .val (.int (p4 &&& 3)), .val (.int (p1.toUInt32.toUInt16.toUInt32.toInt32)), .val (.int (p2.toUInt32.toUInt16.toUInt32.toInt32)), .val (.int (p3.toUInt32.toUInt16.toUInt32.toInt32)), .val (.ref a101), .val (.ref a103), .val (.ref a130), .val (.ref a161), .unset, .unset, .unset, .unset]) rfl (XS.aload X184.here hx rfl (hb hby at_87) rfl rfl (XS.astore X184.here hx rfl (hb hby at_89) rfl rfl (l' := #[.val (.int p1), .val (.int p2), .val (.int p3), .val (.int p4), .val (.int (p4 &&& 3)), .val (.int (p1.toUInt32.toUInt16.toUInt32.toInt32)), .val (.int (p2.toUInt32.toUInt16.toUInt32.toInt32)), .val (.int (p3.toUInt32.toUInt16.toUInt32.toInt32)), .val (.ref a101), .val (.ref a103), .val (.ref a130), .val (.ref a161), .val (.ref a101), .unset, .unset, .unset]) rfl kk_))) ?_
  have J228 : ∀ (T196 : State) (h197 : Heap) (lc198 : List Loc) (V203 : Vm) (k204 : Nat) (ln : Int32) (sv : Addr) (ev : Int32), Stand p l e room_1 (s.setVm V203) m #[(.int p1), (.int p2), (.int p3), (.int p4)] below meth c T196 lc198 14 40 → T196.heap = h197 → Fr n0 lc198 → Keep T184.heap h197 [] → s.Since V203 k204 → k204 ≤ h197.size → Z.Warmed39 (s.setVm V203).vm → (s.setVm V203).vm.findClass "com/example/portcullis/portcullis/IdsValidPinLaw" = some m.cls → CHr Z consts_1 T101.vm T184.heap V203 h197 → FinH p e below Z consts_1 s (Q_law Z p1 p2 p3 p4 G1 G9 h0 n0) 40 3264 (T196.setTop (mkF m 228 #[.val (.int p1), .val (.int p2), .val (.int p3), .val (.int p4), .val (.int ln), .val (.int (p1.toUInt32.toUInt16.toUInt32.toInt32)), .val (.int (p2.toUInt32.toUInt16.toUInt32.toInt32)), .val (.int (p3.toUInt32.toUInt16.toUInt32.toInt32)), .val (.ref a101), .val (.ref a103), .val (.ref a130), .val (.ref a161), .val (.ref sv), .val (.int ev), .val (.int (1 : Int32)), .unset] [])) := by
    intro T196 h197 lc198 V203 k204 ln sv ev X199 e200 N201 K202 hS205 hk206 hZ207 hown208 hC209
    have ch210 : CHr Z consts_1 s.vm h0 V203 h197 := ch190.trans hC209
    obtain ⟨a211, T211, h211, k211, b211, kk211, X211, e211, E211, hS211, hk211, hZ211, hown211, xE211, xC211, xV211, xA211, la211, lb211, hC211, hL211, hne211, st211⟩ := ldcCH X199 hx hZ207 hown208 (w_ hw 73 rfl) (fun d hd => hw d (own_strAtoms d hd)) e200 hS205 hk206 own_EW (by decide) ch210.1 (vs := own_v128) (z := (128 : Int32)) own_h128 (by decide) own_z128 (g := (mkF m 228 #[.val (.int p1), .val (.int p2), .val (.int p3), .val (.int p4), .val (.int ln), .val (.int (p1.toUInt32.toUInt16.toUInt32.toInt32)), .val (.int (p2.toUInt32.toUInt16.toUInt32.toInt32)), .val (.int (p3.toUInt32.toUInt16.toUInt32.toInt32)), .val (.ref a101), .val (.ref a103), .val (.ref a130), .val (.ref a161), .val (.ref sv), .val (.int ev), .val (.int 1), .unset] [])) rfl (hb hby at_228) (n := 512) (by decide +kernel) (by decide) (by decide) (by decide)
    refine FinH.by (fun tt_ kk_ => st211 tt_ kk_) ?_
    have ch212 : CHr Z consts_1 s.vm h0 T211.vm h211 := ch210.trans hC211
    have O213 : Old Z n0 h211 := (((O182.keep p184_0 (allS g180 all0)).keep K202 all0).ext E211)
    have z214 : n0 ≤ h211.size := Nat.le_trans z183 (Nat.le_trans (Nat.le_trans p184_0.1 K202.1) E211.1)
    obtain ⟨cq215, kq215, qa215, qb215, qc215⟩ := isOf hZ211 e211 xE211
    obtain ⟨v215, _, ⟨T215, L215, k215, n215⟩, -, X215, ⟨Lc215, hQ215, l215, y215, z215⟩, st215⟩ := X211.virtualBack hx (y := y_17) (z := y_17) hown211 (mvT hZ211 (w_ hw 74 rfl)) (mvT hZ211 (w_ hw 42 rfl)) (notFace_of_selects (args := #[]) (mvT hZ211 (w_ hw 44 rfl))) (mvT hZ211 (w_ hw 44 rfl)) (mvT hZ211 (w_ hw 43 rfl)) (by decide) (backOf (W := 0) (rm_sle l Z a0 hw [] a211 b211 kk211 (128 : Int32) (own_v128 : List Value) own_l128 (0 : Int32) G1 h211 n0 z214 own_c128 (by rw [own_n128]; decide) xE211 xV211 xC211 xA211 S1 P1 O213) hZ211 (w_ hw 45 rfl) (w_ hw 1 rfl) (by decide) (by decide)) qa215 qc215 (g := (mkF m 230 #[.val (.int p1), .val (.int p2), .val (.int p3), .val (.int p4), .val (.int ln), .val (.int (p1.toUInt32.toUInt16.toUInt32.toInt32)), .val (.int (p2.toUInt32.toUInt16.toUInt32.toInt32)), .val (.int (p3.toUInt32.toUInt16.toUInt32.toInt32)), .val (.ref a101), .val (.ref a103), .val (.ref a130), .val (.ref a161), .val (.ref sv), .val (.int ev), .val (.int 1), .unset] [(.ref a211)])) rfl (by rw [hml]; rfl) (Steps.refl _) (argsL := []) (rest := []) (lenOf pd_302 rfl) rfl (by show 2 * 0 + _ ≤ _; exact Nat.le_of_eq rfl) (hb hby at_230) (fun _ _ => ⟨rfl, e211, (by decide : 16 + 0 ≤ _), (by decide : 556 + 0 ≤ _)⟩)
    dsimp only [Pt.U, Pt.locs, Pt.cells, Pt.slots] at X215 l215 y215 z215 st215 hQ215
    subst l215 y215 z215
    obtain ⟨rfl, Nq215, e215_⟩ := hQ215
    have N215_ := Fr.app N201 Nq215
    refine FinH.byS st215 ?_
    have e215 := e215_
    refine FinH.by (fun tt_ kk_ => XS.sipush X215.here hx rfl (hb hby at_233) kk_) ?_
    show FinH _ _ _ _ _ _ _ _ _ (T215.setTop (mkF m 236 #[.val (.int p1), .val (.int p2), .val (.int p3), .val (.int p4), .val (.int ln), .val (.int (p1.toUInt32.toUInt16.toUInt32.toInt32)), .val (.int (p2.toUInt32.toUInt16.toUInt32.toInt32)), .val (.int (p3.toUInt32.toUInt16.toUInt32.toInt32)), .val (.ref a101), .val (.ref a103), .val (.ref a130), .val (.ref a161), .val (.ref sv), .val (.int ev), .val (.int 1), .unset] [(.int 128), (.int (Int32.ofNat own_l128.length))]))
    refine FinH.by (fun tt_ kk_ => XS.icmpNo X215.here hx rfl (hb hby at_236) rfl (teq (by rw [own_n128]; decide : (Int32.ofNat own_l128.length) = (128 : Int32))).2 kk_) ?_
    obtain ⟨a216, T216, h216, k216, b216, kk216, X216, e216, E216, hS216, hk216, hZ216, hown216, xE216, xC216, xV216, xA216, la216, lb216, hC216, hL216, hne216, st216⟩ := ldcCH X215 hx hZ211 hown211 (w_ hw 75 rfl) (fun d hd => hw d (own_strAtoms d hd)) e215 hS211 hk211 own_EW (by decide) ch212.1 (vs := own_v129) (z := (129 : Int32)) own_h129 (by decide) own_z129 (g := (mkF m 239 #[.val (.int p1), .val (.int p2), .val (.int p3), .val (.int p4), .val (.int ln), .val (.int (p1.toUInt32.toUInt16.toUInt32.toInt32)), .val (.int (p2.toUInt32.toUInt16.toUInt32.toInt32)), .val (.int (p3.toUInt32.toUInt16.toUInt32.toInt32)), .val (.ref a101), .val (.ref a103), .val (.ref a130), .val (.ref a161), .val (.ref sv), .val (.int ev), .val (.int 1), .unset] [])) rfl (hb hby at_239) (n := 516) (by decide +kernel) (by decide) (by decide) (by decide)
    refine FinH.by (fun tt_ kk_ => st216 tt_ kk_) ?_
    have ch217 : CHr Z consts_1 s.vm h0 T216.vm h216 := ch212.trans hC216
    have O218 : Old Z n0 h216 := (O213.ext E216)
    have z219 : n0 ≤ h216.size := Nat.le_trans z214 E216.1
    obtain ⟨cq220, kq220, qa220, qb220, qc220⟩ := isOf hZ216 e216 xE216
    obtain ⟨v220, _, ⟨T220, L220, k220, n220⟩, -, X220, ⟨Lc220, hQ220, l220, y220, z220⟩, st220⟩ := X216.virtualBack hx (y := y_17) (z := y_17) hown216 (mvT hZ216 (w_ hw 74 rfl)) (mvT hZ216 (w_ hw 42 rfl)) (notFace_of_selects (args := #[]) (mvT hZ216 (w_ hw 44 rfl))) (mvT hZ216 (w_ hw 44 rfl)) (mvT hZ216 (w_ hw 43 rfl)) (by decide) (backOf (W := 0) (rm_sle l Z a0 hw [] a216 b216 kk216 (129 : Int32) (own_v129 : List Value) own_l129 (0 : Int32) G1 h216 n0 z219 own_c129 (by rw [own_n129]; decide) xE216 xV216 xC216 xA216 S1 P1 O218) hZ216 (w_ hw 45 rfl) (w_ hw 1 rfl) (by decide) (by decide)) qa220 qc220 (g := (mkF m 241 #[.val (.int p1), .val (.int p2), .val (.int p3), .val (.int p4), .val (.int ln), .val (.int (p1.toUInt32.toUInt16.toUInt32.toInt32)), .val (.int (p2.toUInt32.toUInt16.toUInt32.toInt32)), .val (.int (p3.toUInt32.toUInt16.toUInt32.toInt32)), .val (.ref a101), .val (.ref a103), .val (.ref a130), .val (.ref a161), .val (.ref sv), .val (.int ev), .val (.int 1), .unset] [(.ref a216)])) rfl (by rw [hml]; rfl) (Steps.refl _) (argsL := []) (rest := []) (lenOf pd_302 rfl) rfl (by show 2 * 0 + _ ≤ _; exact Nat.le_of_eq rfl) (hb hby at_241) (fun _ _ => ⟨rfl, e216, (by decide : 18 + 0 ≤ _), (by decide : 1076 + 0 ≤ _)⟩)
    dsimp only [Pt.U, Pt.locs, Pt.cells, Pt.slots] at X220 l220 y220 z220 st220 hQ220
    subst l220 y220 z220
    obtain ⟨rfl, Nq220, e220_⟩ := hQ220
    have N220_ := Fr.app N215_ Nq220
    refine FinH.byS st220 ?_
    have e220 := e220_
    refine FinH.by (fun tt_ kk_ => XS.sipush X220.here hx rfl (hb hby at_244) kk_) ?_
    show FinH _ _ _ _ _ _ _ _ _ (T220.setTop (mkF m 247 #[.val (.int p1), .val (.int p2), .val (.int p3), .val (.int p4), .val (.int ln), .val (.int (p1.toUInt32.toUInt16.toUInt32.toInt32)), .val (.int (p2.toUInt32.toUInt16.toUInt32.toInt32)), .val (.int (p3.toUInt32.toUInt16.toUInt32.toInt32)), .val (.ref a101), .val (.ref a103), .val (.ref a130), .val (.ref a161), .val (.ref sv), .val (.int ev), .val (.int 1), .unset] [(.int 129), (.int (Int32.ofNat own_l129.length))]))
    refine FinH.by (fun tt_ kk_ => XS.icmpNo X220.here hx rfl (hb hby at_247) rfl (teq (by rw [own_n129]; decide : (Int32.ofNat own_l129.length) = (129 : Int32))).2 kk_) ?_
    obtain ⟨a221, T221, h221, k221, b221, kk221, X221, e221, E221, hS221, hk221, hZ221, hown221, xE221, xC221, xV221, xA221, la221, lb221, hC221, hL221, hne221, st221⟩ := ldcCH X220 hx hZ216 hown216 (w_ hw 73 rfl) (fun d hd => hw d (own_strAtoms d hd)) e220 hS216 hk216 own_EW (by decide) ch217.1 (vs := own_v128) (z := (128 : Int32)) own_h128 (by decide) own_z128 (g := (mkF m 250 #[.val (.int p1), .val (.int p2), .val (.int p3), .val (.int p4), .val (.int ln), .val (.int (p1.toUInt32.toUInt16.toUInt32.toInt32)), .val (.int (p2.toUInt32.toUInt16.toUInt32.toInt32)), .val (.int (p3.toUInt32.toUInt16.toUInt32.toInt32)), .val (.ref a101), .val (.ref a103), .val (.ref a130), .val (.ref a161), .val (.ref sv), .val (.int ev), .val (.int 1), .unset] [])) rfl (hb hby at_250) (n := 512) (by decide +kernel) (by decide) (by decide) (by decide)
    refine FinH.by (fun tt_ kk_ => st221 tt_ kk_) ?_
    have ch222 : CHr Z consts_1 s.vm h0 T221.vm h221 := ch217.trans hC221
    have O223 : Old Z n0 h221 := (O218.ext E221)
    have z224 : n0 ≤ h221.size := Nat.le_trans z219 E221.1
    obtain ⟨v225, _, ⟨T225, L225, k225, n225⟩, -, X225, ⟨Lc225, hQ225, l225, y225, z225⟩, st225⟩ := Jvm.LawKit.callS X221 hx (y := y_20) hown221 (mvT hZ221 (w_ hw 37 rfl)) (mvT hZ221 (w_ hw 38 rfl)) (mvT hZ221 (w_ hw 39 rfl)) (mvT hZ221 (w_ hw 40 rfl)) (by decide) (backOf (W := 0) (rm_val l Z a0 hw [] a221 b221 kk221 (128 : Int32) (own_v128 : List Value) (0 : Int32) own_l128 G1 G9 h221 n0 z224 own_c128 own_b128 (by rw [own_n128]; decide) xE221 xV221 xC221 xA221 S1 P1 S6 S7 S8 S9 r9 O223) hZ221 (w_ hw 40 rfl) (w_ hw 39 rfl) (by decide) (by decide)) (g := (mkF m 252 #[.val (.int p1), .val (.int p2), .val (.int p3), .val (.int p4), .val (.int ln), .val (.int (p1.toUInt32.toUInt16.toUInt32.toInt32)), .val (.int (p2.toUInt32.toUInt16.toUInt32.toInt32)), .val (.int (p3.toUInt32.toUInt16.toUInt32.toInt32)), .val (.ref a101), .val (.ref a103), .val (.ref a130), .val (.ref a161), .val (.ref sv), .val (.int ev), .val (.int 1), .unset] [(.ref a221)])) rfl (by rw [hml]; rfl) (argsL := [(.ref a221)]) (rest := []) (lenOf pd_366 rfl) rfl (by show 2 * 0 + _ ≤ _; exact Nat.le_of_eq rfl) (hb hby at_252) (fun _ _ => ⟨rfl, e221, (by decide : 20 + 0 ≤ _), (by decide : 1592 + 0 ≤ _)⟩)
    dsimp only [Pt.U, Pt.locs, Pt.cells, Pt.slots] at X225 l225 y225 z225 st225 hQ225
    subst l225 y225 z225
    obtain ⟨rfl, Nq225, e225_⟩ := hQ225
    have N225_ := Fr.app N220_ Nq225
    refine FinH.by (fun tt_ kk_ => st225 tt_ kk_) ?_
    have e225 := e225_
    show FinH _ _ _ _ _ _ _ _ _ (T225.setTop (mkF m 255 #[.val (.int p1), .val (.int p2), .val (.int p3), .val (.int p4), .val (.int ln), .val (.int (p1.toUInt32.toUInt16.toUInt32.toInt32)), .val (.int (p2.toUInt32.toUInt16.toUInt32.toInt32)), .val (.int (p3.toUInt32.toUInt16.toUInt32.toInt32)), .val (.ref a101), .val (.ref a103), .val (.ref a130), .val (.ref a161), .val (.ref sv), .val (.int ev), .val (.int 1), .unset] [(.int (nar .boolean (own_valid own_l128)))]))
    refine FinH.by (fun tt_ kk_ => XS.ifNo X225.here hx rfl (hb hby at_255) rfl ((if0 _ _).trans (feq (by rw [own_val128]; decide : ¬ (nar .boolean (own_valid own_l128)) = (0 : Int32))).1) kk_) ?_
    obtain ⟨a226, T226, h226, k226, b226, kk226, X226, e226, E226, hS226, hk226, hZ226, hown226, xE226, xC226, xV226, xA226, la226, lb226, hC226, hL226, hne226, st226⟩ := ldcCH X225 hx hZ221 hown221 (w_ hw 75 rfl) (fun d hd => hw d (own_strAtoms d hd)) e225 hS221 hk221 own_EW (by decide) ch222.1 (vs := own_v129) (z := (129 : Int32)) own_h129 (by decide) own_z129 (g := (mkF m 258 #[.val (.int p1), .val (.int p2), .val (.int p3), .val (.int p4), .val (.int ln), .val (.int (p1.toUInt32.toUInt16.toUInt32.toInt32)), .val (.int (p2.toUInt32.toUInt16.toUInt32.toInt32)), .val (.int (p3.toUInt32.toUInt16.toUInt32.toInt32)), .val (.ref a101), .val (.ref a103), .val (.ref a130), .val (.ref a161), .val (.ref sv), .val (.int ev), .val (.int 1), .unset] [])) rfl (hb hby at_258) (n := 516) (by decide +kernel) (by decide) (by decide) (by decide)
    refine FinH.by (fun tt_ kk_ => st226 tt_ kk_) ?_
    have ch227 : CHr Z consts_1 s.vm h0 T226.vm h226 := ch222.trans hC226
    have O228 : Old Z n0 h226 := (O223.ext E226)
    have z229 : n0 ≤ h226.size := Nat.le_trans z224 E226.1
    obtain ⟨v230, _, ⟨T230, L230, k230, n230⟩, -, X230, ⟨Lc230, hQ230, l230, y230, z230⟩, st230⟩ := Jvm.LawKit.callS X226 hx (y := y_20) hown226 (mvT hZ226 (w_ hw 37 rfl)) (mvT hZ226 (w_ hw 38 rfl)) (mvT hZ226 (w_ hw 39 rfl)) (mvT hZ226 (w_ hw 40 rfl)) (by decide) (backOf (W := 0) (rm_val l Z a0 hw [] a226 b226 kk226 (129 : Int32) (own_v129 : List Value) (0 : Int32) own_l129 G1 G9 h226 n0 z229 own_c129 own_b129 (by rw [own_n129]; decide) xE226 xV226 xC226 xA226 S1 P1 S6 S7 S8 S9 r9 O228) hZ226 (w_ hw 40 rfl) (w_ hw 39 rfl) (by decide) (by decide)) (g := (mkF m 260 #[.val (.int p1), .val (.int p2), .val (.int p3), .val (.int p4), .val (.int ln), .val (.int (p1.toUInt32.toUInt16.toUInt32.toInt32)), .val (.int (p2.toUInt32.toUInt16.toUInt32.toInt32)), .val (.int (p3.toUInt32.toUInt16.toUInt32.toInt32)), .val (.ref a101), .val (.ref a103), .val (.ref a130), .val (.ref a161), .val (.ref sv), .val (.int ev), .val (.int 1), .unset] [(.ref a226)])) rfl (by rw [hml]; rfl) (argsL := [(.ref a226)]) (rest := []) (lenOf pd_366 rfl) rfl (by show 2 * 0 + _ ≤ _; exact Nat.le_of_eq rfl) (hb hby at_260) (fun _ _ => ⟨rfl, e226, (by decide : 22 + 0 ≤ _), (by decide : 2112 + 0 ≤ _)⟩)
    dsimp only [Pt.U, Pt.locs, Pt.cells, Pt.slots] at X230 l230 y230 z230 st230 hQ230
    subst l230 y230 z230
    obtain ⟨rfl, Nq230, e230_⟩ := hQ230
    have N230_ := Fr.app N225_ Nq230
    refine FinH.by (fun tt_ kk_ => st230 tt_ kk_) ?_
    have e230 := e230_
    show FinH _ _ _ _ _ _ _ _ _ (T230.setTop (mkF m 263 #[.val (.int p1), .val (.int p2), .val (.int p3), .val (.int p4), .val (.int ln), .val (.int (p1.toUInt32.toUInt16.toUInt32.toInt32)), .val (.int (p2.toUInt32.toUInt16.toUInt32.toInt32)), .val (.int (p3.toUInt32.toUInt16.toUInt32.toInt32)), .val (.ref a101), .val (.ref a103), .val (.ref a130), .val (.ref a161), .val (.ref sv), .val (.int ev), .val (.int 1), .unset] [(.int (nar .boolean (own_valid own_l129)))]))
    refine FinH.by (fun tt_ kk_ => XS.ifNo X230.here hx rfl (hb hby at_263) rfl ((if0 _ _).trans (teq (by rw [own_val129]; decide : (nar .boolean (own_valid own_l129)) = (0 : Int32))).2) kk_) ?_
    refine FinH.by (fun tt_ kk_ => XS.iconst X230.here hx rfl (hb hby at_266) (XS.goto X230.here hx rfl (pc0 := 267) (pc' := 271) rfl (hb hby at_267) (by decide) (by decide) (XS.istore X230.here hx rfl (hb hby at_271) rfl (l' := #[.val (.int p1), .val (.int p2), .val (.int p3), .val (.int p4), .val (.int ln), .val (.int (p1.toUInt32.toUInt16.toUInt32.toInt32)), .val (.int (p2.toUInt32.toUInt16.toUInt32.toInt32)), .val (.int (p3.toUInt32.toUInt16.toUInt32.toInt32)), .val (.ref a101), .val (.ref a103), .val (.ref a130), .val (.ref a161), .val (.ref sv), .val (.int ev), .val (.int 1), .val (.int 1)]) rfl (XS.iload X230.here hx rfl (hb hby at_273) rfl kk_)))) ?_
    show FinH _ _ _ _ _ _ _ _ _ (T230.setTop (mkF m 275 #[.val (.int p1), .val (.int p2), .val (.int p3), .val (.int p4), .val (.int ln), .val (.int (p1.toUInt32.toUInt16.toUInt32.toInt32)), .val (.int (p2.toUInt32.toUInt16.toUInt32.toInt32)), .val (.int (p3.toUInt32.toUInt16.toUInt32.toInt32)), .val (.ref a101), .val (.ref a103), .val (.ref a130), .val (.ref a161), .val (.ref sv), .val (.int ev), .val (.int 1), .val (.int 1)] [(.int 1)]))
    refine FinH.by (fun tt_ kk_ => XS.ifNo X230.here hx rfl (hb hby at_275) rfl ((if0 _ _).trans (feq (by decide : ¬ (1 : Int32) = (0 : Int32))).1) kk_) ?_
    refine FinH.by (fun tt_ kk_ => XS.iload X230.here hx rfl (hb hby at_278) rfl kk_) ?_
    show FinH _ _ _ _ _ _ _ _ _ (T230.setTop (mkF m 280 #[.val (.int p1), .val (.int p2), .val (.int p3), .val (.int p4), .val (.int ln), .val (.int (p1.toUInt32.toUInt16.toUInt32.toInt32)), .val (.int (p2.toUInt32.toUInt16.toUInt32.toInt32)), .val (.int (p3.toUInt32.toUInt16.toUInt32.toInt32)), .val (.ref a101), .val (.ref a103), .val (.ref a130), .val (.ref a161), .val (.ref sv), .val (.int ev), .val (.int 1), .val (.int 1)] [(.int 1)]))
    refine FinH.by (fun tt_ kk_ => XS.ifNo X230.here hx rfl (hb hby at_280) rfl ((if0 _ _).trans (feq (by decide : ¬ (1 : Int32) = (0 : Int32))).1) kk_) ?_
    refine FinH.by (fun tt_ kk_ => XS.iconst X230.here hx rfl (hb hby at_283) (XS.goto X230.here hx rfl (pc0 := 284) (pc' := 288) rfl (hb hby at_284) (by decide) (by decide) kk_)) ?_
    show FinH _ _ _ _ _ _ _ _ _ (T230.setTop (mkF m 288 #[.val (.int p1), .val (.int p2), .val (.int p3), .val (.int p4), .val (.int ln), .val (.int (p1.toUInt32.toUInt16.toUInt32.toInt32)), .val (.int (p2.toUInt32.toUInt16.toUInt32.toInt32)), .val (.int (p3.toUInt32.toUInt16.toUInt32.toInt32)), .val (.ref a101), .val (.ref a103), .val (.ref a130), .val (.ref a161), .val (.ref sv), .val (.int ev), .val (.int 1), .val (.int 1)] [(.int 1)]))
    exact FinH.ret (v := some (.int (nar .boolean (1 : Int32)))) X230 hS226 (by rw [e230]; exact hk226) (fun h => by rw [Bd.returns] at h; cases h) Bd.notSynchronized (by rw [e230]; exact ⟨rfl, N230_⟩) (by rw [hh, e230]; exact ch227.trans (CHv.at X230 hZ226 own_EW ch227.1)) (by decide) (by decide) (fun fs hr => retN X230 hx (t := .boolean) Bd.returns (by simp) (hb hby at_288) hr)
  have J91 : ∀ (ln : Int32), (ln = 0 ∨ ln = 1 ∨ ln = 2 ∨ ln = 3) → FinH p e below Z consts_1 s (Q_law Z p1 p2 p3 p4 G1 G9 h0 n0) 40 3264 (T184.setTop (mkF m 91 #[.val (.int p1), .val (.int p2), .val (.int p3), .val (.int p4), .val (.int ln), .val (.int (p1.toUInt32.toUInt16.toUInt32.toInt32)), .val (.int (p2.toUInt32.toUInt16.toUInt32.toInt32)), .val (.int (p3.toUInt32.toUInt16.toUInt32.toInt32)), .val (.ref a101), .val (.ref a103), .val (.ref a130), .val (.ref a161), .val (.ref a101), .unset, .unset, .unset] [])) := by
    intro ln hln
    rcases hln with rfl | rfl | rfl | rfl
    · refine FinH.by (fun tt_ kk_ => XS.iload X184.here hx rfl (hb hby at_91) rfl (XS.iconst X184.here hx rfl (hb hby at_93) kk_)) ?_
      show FinH _ _ _ _ _ _ _ _ _ (T184.setTop (mkF m 94 #[.val (.int p1), .val (.int p2), .val (.int p3), .val (.int p4), .val (.int 0), .val (.int (p1.toUInt32.toUInt16.toUInt32.toInt32)), .val (.int (p2.toUInt32.toUInt16.toUInt32.toInt32)), .val (.int (p3.toUInt32.toUInt16.toUInt32.toInt32)), .val (.ref a101), .val (.ref a103), .val (.ref a130), .val (.ref a161), .val (.ref a101), .unset, .unset, .unset] [(.int 1), (.int 0)]))
      refine FinH.by (fun tt_ kk_ => XS.icmpYes X184.here hx rfl (pc0 := 94) (pc' := 101) rfl (hb hby at_94) rfl (feq (by decide : ¬ (0 : Int32) = (1 : Int32))).2 (by decide) (by decide) kk_) ?_
      refine FinH.by (fun tt_ kk_ => XS.iload X184.here hx rfl (hb hby at_101) rfl (XS.iconst X184.here hx rfl (hb hby at_103) kk_)) ?_
      show FinH _ _ _ _ _ _ _ _ _ (T184.setTop (mkF m 104 #[.val (.int p1), .val (.int p2), .val (.int p3), .val (.int p4), .val (.int 0), .val (.int (p1.toUInt32.toUInt16.toUInt32.toInt32)), .val (.int (p2.toUInt32.toUInt16.toUInt32.toInt32)), .val (.int (p3.toUInt32.toUInt16.toUInt32.toInt32)), .val (.ref a101), .val (.ref a103), .val (.ref a130), .val (.ref a161), .val (.ref a101), .unset, .unset, .unset] [(.int 2), (.int 0)]))
      refine FinH.by (fun tt_ kk_ => XS.icmpYes X184.here hx rfl (pc0 := 104) (pc' := 111) rfl (hb hby at_104) rfl (feq (by decide : ¬ (0 : Int32) = (2 : Int32))).2 (by decide) (by decide) kk_) ?_
      refine FinH.by (fun tt_ kk_ => XS.iload X184.here hx rfl (hb hby at_111) rfl (XS.iconst X184.here hx rfl (hb hby at_113) kk_)) ?_
      show FinH _ _ _ _ _ _ _ _ _ (T184.setTop (mkF m 114 #[.val (.int p1), .val (.int p2), .val (.int p3), .val (.int p4), .val (.int 0), .val (.int (p1.toUInt32.toUInt16.toUInt32.toInt32)), .val (.int (p2.toUInt32.toUInt16.toUInt32.toInt32)), .val (.int (p3.toUInt32.toUInt16.toUInt32.toInt32)), .val (.ref a101), .val (.ref a103), .val (.ref a130), .val (.ref a161), .val (.ref a101), .unset, .unset, .unset] [(.int 3), (.int 0)]))
      refine FinH.by (fun tt_ kk_ => XS.icmpYes X184.here hx rfl (pc0 := 114) (pc' := 121) rfl (hb hby at_114) rfl (feq (by decide : ¬ (0 : Int32) = (3 : Int32))).2 (by decide) (by decide) kk_) ?_
      refine FinH.by (fun tt_ kk_ => XS.iload X184.here hx rfl (hb hby at_121) rfl kk_) ?_
      show FinH _ _ _ _ _ _ _ _ _ (T184.setTop (mkF m 123 #[.val (.int p1), .val (.int p2), .val (.int p3), .val (.int p4), .val (.int 0), .val (.int (p1.toUInt32.toUInt16.toUInt32.toInt32)), .val (.int (p2.toUInt32.toUInt16.toUInt32.toInt32)), .val (.int (p3.toUInt32.toUInt16.toUInt32.toInt32)), .val (.ref a101), .val (.ref a103), .val (.ref a130), .val (.ref a161), .val (.ref a101), .unset, .unset, .unset] [(.int 0)]))
      refine FinH.by (fun tt_ kk_ => XS.ifNo X184.here hx rfl (hb hby at_123) rfl ((if0 _ _).trans (teq (by decide : (0 : Int32) = (0 : Int32))).2) kk_) ?_
      refine FinH.by (fun tt_ kk_ => XS.iconst X184.here hx rfl (hb hby at_126) (XS.istore X184.here hx rfl (hb hby at_127) rfl (l' := #[.val (.int p1), .val (.int p2), .val (.int p3), .val (.int p4), .val (.int 0), .val (.int (p1.toUInt32.toUInt16.toUInt32.toInt32)), .val (.int (p2.toUInt32.toUInt16.toUInt32.toInt32)), .val (.int (p3.toUInt32.toUInt16.toUInt32.toInt32)), .val (.ref a101), .val (.ref a103), .val (.ref a130), .val (.ref a161), .val (.ref a101), .val (.int 0), .unset, .unset]) rfl (XS.goto X184.here hx rfl (pc0 := 129) (pc' := 211) rfl (hb hby at_129) (by decide) (by decide) (XS.aload X184.here hx rfl (hb hby at_211) rfl rfl kk_)))) ?_
      have E231 : Exa Z T184.heap a101 "java/lang/String" := (((((((((((((((xE101.ext E103).ext E105).wr W107).keep p120_0).ext E130).ext E132).wr W134).wr W139).keep p150_0).ext E161).ext E163).wr W165).wr W170).wr W173).keep p184_0)
      have lt233 : a101 < h103.size := Nat.lt_of_lt_of_le xE101.lt E103.1
      have ne232 : a101 ≠ a105 := Nat.ne_of_lt (Nat.lt_of_lt_of_le lt233 (Nat.le_of_eq g105.symm))
      have ne234 : a101 ≠ a103 := Nat.ne_of_lt (Nat.lt_of_lt_of_le (Nat.lt_of_lt_of_le xE101.lt (Nat.le_refl _)) (Nat.le_of_eq g103.symm))
      have lt236 : a101 < h130.size := Nat.lt_of_lt_of_le lt233 (Nat.le_trans (Nat.le_trans (Nat.le_trans E105.1 (Keep.of_wr W107).1) p120_0.1) E130.1)
      have ne235 : a101 ≠ a132 := Nat.ne_of_lt (Nat.lt_of_lt_of_le lt236 (Nat.le_of_eq g132.symm))
      have ne237 : a101 ≠ a130 := Nat.ne_of_lt (Nat.lt_of_lt_of_le (Nat.lt_of_lt_of_le xE101.lt (Nat.le_trans (Nat.le_trans (Nat.le_trans E103.1 E105.1) (Keep.of_wr W107).1) p120_0.1)) (Nat.le_of_eq g130.symm))
      have lt239 : a101 < h161.size := Nat.lt_of_lt_of_le lt236 (Nat.le_trans (Nat.le_trans (Nat.le_trans (Nat.le_trans E132.1 (Keep.of_wr W134).1) (Keep.of_wr W139).1) p150_0.1) E161.1)
      have ne238 : a101 ≠ a163 := Nat.ne_of_lt (Nat.lt_of_lt_of_le lt239 (Nat.le_of_eq g163.symm))
      have ne240 : a101 ≠ a161 := Nat.ne_of_lt (Nat.lt_of_lt_of_le (Nat.lt_of_lt_of_le xE101.lt (Nat.le_trans (Nat.le_trans (Nat.le_trans (Nat.le_trans (Nat.le_trans (Nat.le_trans (Nat.le_trans (Nat.le_trans E103.1 E105.1) (Keep.of_wr W107).1) p120_0.1) E130.1) E132.1) (Keep.of_wr W134).1) (Keep.of_wr W139).1) p150_0.1)) (Nat.le_of_eq g161.symm))
      have F241 : Fld Z T184.heap a101 "java/lang/String" "value" "[B" (.ref b101) := (((((((((((((((xV101.ext E103).ext E105).other W107 (Or.inl ne232)).keep p120_0 (ninS ne234 nin0)).ext E130).ext E132).other W134 (Or.inl ne235)).other W139 (Or.inl ne235)).keep p150_0 (ninS ne237 nin0)).ext E161).ext E163).other W165 (Or.inl ne238)).other W170 (Or.inl ne238)).other W173 (Or.inl ne238)).keep p184_0 (ninS ne240 nin0))
      have F242 : Fld Z T184.heap a101 "java/lang/String" "coder" "B" (.int (0 : Int32)) := (((((((((((((((xC101.ext E103).ext E105).other W107 (Or.inl ne232)).keep p120_0 (ninS ne234 nin0)).ext E130).ext E132).other W134 (Or.inl ne235)).other W139 (Or.inl ne235)).keep p150_0 (ninS ne237 nin0)).ext E161).ext E163).other W165 (Or.inl ne238)).other W170 (Or.inl ne238)).other W173 (Or.inl ne238)).keep p184_0 (ninS ne240 nin0))
      have lt244 : b101 < h103.size := Nat.lt_of_lt_of_le xA101.lt E103.1
      have ne243 : b101 ≠ a105 := Nat.ne_of_lt (Nat.lt_of_lt_of_le lt244 (Nat.le_of_eq g105.symm))
      have ne245 : b101 ≠ a103 := Nat.ne_of_lt (Nat.lt_of_lt_of_le (Nat.lt_of_lt_of_le xA101.lt (Nat.le_refl _)) (Nat.le_of_eq g103.symm))
      have lt247 : b101 < h130.size := Nat.lt_of_lt_of_le lt244 (Nat.le_trans (Nat.le_trans (Nat.le_trans E105.1 (Keep.of_wr W107).1) p120_0.1) E130.1)
      have ne246 : b101 ≠ a132 := Nat.ne_of_lt (Nat.lt_of_lt_of_le lt247 (Nat.le_of_eq g132.symm))
      have ne248 : b101 ≠ a130 := Nat.ne_of_lt (Nat.lt_of_lt_of_le (Nat.lt_of_lt_of_le xA101.lt (Nat.le_trans (Nat.le_trans (Nat.le_trans E103.1 E105.1) (Keep.of_wr W107).1) p120_0.1)) (Nat.le_of_eq g130.symm))
      have lt250 : b101 < h161.size := Nat.lt_of_lt_of_le lt247 (Nat.le_trans (Nat.le_trans (Nat.le_trans (Nat.le_trans E132.1 (Keep.of_wr W134).1) (Keep.of_wr W139).1) p150_0.1) E161.1)
      have ne249 : b101 ≠ a163 := Nat.ne_of_lt (Nat.lt_of_lt_of_le lt250 (Nat.le_of_eq g163.symm))
      have ne251 : b101 ≠ a161 := Nat.ne_of_lt (Nat.lt_of_lt_of_le (Nat.lt_of_lt_of_le xA101.lt (Nat.le_trans (Nat.le_trans (Nat.le_trans (Nat.le_trans (Nat.le_trans (Nat.le_trans (Nat.le_trans (Nat.le_trans E103.1 E105.1) (Keep.of_wr W107).1) p120_0.1) E130.1) E132.1) (Keep.of_wr W134).1) (Keep.of_wr W139).1) p150_0.1)) (Nat.le_of_eq g161.symm))
      have A252 : Arv Z T184.heap b101 kk101 .byte (0 : Int32) [] (.int 0) := (((((((((((((((xA101.ext E103).ext E105).other W107 ne243).keep p120_0 (ninS ne245 nin0)).ext E130).ext E132).other W134 ne246).other W139 ne246).keep p150_0 (ninS ne248 nin0)).ext E161).ext E163).other W165 ne249).other W170 ne249).other W173 ne249).keep p184_0 (ninS ne251 nin0))
      have O253 : Old Z n0 T184.heap := (O182.keep p184_0 (allS g180 all0))
      have z254 : n0 ≤ T184.heap.size := Nat.le_trans z183 p184_0.1
      obtain ⟨v255, _, ⟨T255, L255, k255, n255⟩, -, X255, ⟨Lc255, hQ255, l255, y255, z255⟩, st255⟩ := Jvm.LawKit.callS X184 hx (y := y_20) hown101 (mvT hZ101 (w_ hw 37 rfl)) (mvT hZ101 (w_ hw 38 rfl)) (mvT hZ101 (w_ hw 39 rfl)) (mvT hZ101 (w_ hw 40 rfl)) (by decide) (backOf (W := 0) (rm_val l Z a0 hw [] a101 b101 kk101 (0 : Int32) ([] : List Value) (0 : Int32) ([] : List Int32) G1 G9 T184.heap n0 z254 (Or.inl ⟨rfl, rfl, rfl, own_nil⟩) own_nil (Nat.le_of_ble_eq_true rfl) E231 F241 F242 A252 S1 P1 S6 S7 S8 S9 r9 O253) hZ101 (w_ hw 40 rfl) (w_ hw 39 rfl) (by decide) (by decide)) (g := (mkF m 213 #[.val (.int p1), .val (.int p2), .val (.int p3), .val (.int p4), .val (.int 0), .val (.int (p1.toUInt32.toUInt16.toUInt32.toInt32)), .val (.int (p2.toUInt32.toUInt16.toUInt32.toInt32)), .val (.int (p3.toUInt32.toUInt16.toUInt32.toInt32)), .val (.ref a101), .val (.ref a103), .val (.ref a130), .val (.ref a161), .val (.ref a101), .val (.int 0), .unset, .unset] [(.ref a101)])) rfl (by rw [hml]; rfl) (argsL := [(.ref a101)]) (rest := []) (lenOf pd_366 rfl) rfl (by show 2 * 0 + _ ≤ _; exact Nat.le_of_eq rfl) (hb hby at_213) (fun _ _ => ⟨rfl, rfl, (by decide : 14 + 0 ≤ _), (by decide : 40 + 0 ≤ _)⟩)
      dsimp only [Pt.U, Pt.locs, Pt.cells, Pt.slots] at X255 l255 y255 z255 st255 hQ255
      subst l255 y255 z255
      obtain ⟨rfl, Nq255, e255_⟩ := hQ255
      have N255_ := Fr.app N184_ Nq255
      refine FinH.by (fun tt_ kk_ => st255 tt_ kk_) ?_
      have e255 := e255_
      refine FinH.by (fun tt_ kk_ => XS.iload X255.here hx rfl (hb hby at_216) rfl kk_) ?_
      show FinH _ _ _ _ _ _ _ _ _ (T255.setTop (mkF m 218 #[.val (.int p1), .val (.int p2), .val (.int p3), .val (.int p4), .val (.int 0), .val (.int (p1.toUInt32.toUInt16.toUInt32.toInt32)), .val (.int (p2.toUInt32.toUInt16.toUInt32.toInt32)), .val (.int (p3.toUInt32.toUInt16.toUInt32.toInt32)), .val (.ref a101), .val (.ref a103), .val (.ref a130), .val (.ref a161), .val (.ref a101), .val (.int 0), .unset, .unset] [(.int 0), (.int (nar .boolean (own_valid ([] : List Int32))))]))
      refine FinH.by (fun tt_ kk_ => XS.icmpNo X255.here hx rfl (hb hby at_218) rfl (teq (by rw [own_val0]; decide : (nar .boolean (own_valid ([] : List Int32))) = (0 : Int32))).2 kk_) ?_
      refine FinH.by (fun tt_ kk_ => XS.iconst X255.here hx rfl (hb hby at_221) (XS.goto X255.here hx rfl (pc0 := 222) (pc' := 226) rfl (hb hby at_222) (by decide) (by decide) (XS.istore X255.here hx rfl (hb hby at_226) rfl (l' := #[.val (.int p1), .val (.int p2), .val (.int p3), .val (.int p4), .val (.int 0), .val (.int (p1.toUInt32.toUInt16.toUInt32.toInt32)), .val (.int (p2.toUInt32.toUInt16.toUInt32.toInt32)), .val (.int (p3.toUInt32.toUInt16.toUInt32.toInt32)), .val (.ref a101), .val (.ref a103), .val (.ref a130), .val (.ref a161), .val (.ref a101), .val (.int 0), .val (.int 1), .unset]) rfl kk_))) ?_
      show FinH _ _ _ _ _ _ _ _ _ (T255.setTop (mkF m 228 #[.val (.int p1), .val (.int p2), .val (.int p3), .val (.int p4), .val (.int 0), .val (.int (p1.toUInt32.toUInt16.toUInt32.toInt32)), .val (.int (p2.toUInt32.toUInt16.toUInt32.toInt32)), .val (.int (p3.toUInt32.toUInt16.toUInt32.toInt32)), .val (.ref a101), .val (.ref a103), .val (.ref a130), .val (.ref a161), .val (.ref a101), .val (.int 0), .val (.int 1), .unset] []))
      exact J228 T255 T184.heap _ T101.vm _ (0 : Int32) a101 (0 : Int32) X255 e255 N255_ (Keep.refl T184.heap []) hS101 (Nat.le_trans hk101 (Nat.le_trans (Nat.le_trans (Nat.le_trans (Nat.le_trans (Nat.le_trans (Nat.le_trans (Nat.le_trans (Nat.le_trans (Nat.le_trans (Nat.le_trans (Nat.le_trans (Nat.le_trans (Nat.le_trans (Nat.le_trans E103.1 E105.1) (Keep.of_wr W107).1) p120_0.1) E130.1) E132.1) (Keep.of_wr W134).1) (Keep.of_wr W139).1) p150_0.1) E161.1) E163.1) (Keep.of_wr W165).1) (Keep.of_wr W170).1) (Keep.of_wr W173).1) p184_0.1)) hZ101 hown101 (CHr.refl ch190.1)
    · refine FinH.by (fun tt_ kk_ => XS.iload X184.here hx rfl (hb hby at_91) rfl (XS.iconst X184.here hx rfl (hb hby at_93) kk_)) ?_
      show FinH _ _ _ _ _ _ _ _ _ (T184.setTop (mkF m 94 #[.val (.int p1), .val (.int p2), .val (.int p3), .val (.int p4), .val (.int 1), .val (.int (p1.toUInt32.toUInt16.toUInt32.toInt32)), .val (.int (p2.toUInt32.toUInt16.toUInt32.toInt32)), .val (.int (p3.toUInt32.toUInt16.toUInt32.toInt32)), .val (.ref a101), .val (.ref a103), .val (.ref a130), .val (.ref a161), .val (.ref a101), .unset, .unset, .unset] [(.int 1), (.int 1)]))
      refine FinH.by (fun tt_ kk_ => XS.icmpNo X184.here hx rfl (hb hby at_94) rfl (teq (by decide : (1 : Int32) = (1 : Int32))).2 kk_) ?_
      refine FinH.by (fun tt_ kk_ => XS.aload X184.here hx rfl (hb hby at_97) rfl rfl (XS.astore X184.here hx rfl (hb hby at_99) rfl rfl (l' := #[.val (.int p1), .val (.int p2), .val (.int p3), .val (.int p4), .val (.int 1), .val (.int (p1.toUInt32.toUInt16.toUInt32.toInt32)), .val (.int (p2.toUInt32.toUInt16.toUInt32.toInt32)), .val (.int (p3.toUInt32.toUInt16.toUInt32.toInt32)), .val (.ref a101), .val (.ref a103), .val (.ref a130), .val (.ref a161), .val (.ref a103), .unset, .unset, .unset]) rfl (XS.iload X184.here hx rfl (hb hby at_101) rfl (XS.iconst X184.here hx rfl (hb hby at_103) kk_)))) ?_
      show FinH _ _ _ _ _ _ _ _ _ (T184.setTop (mkF m 104 #[.val (.int p1), .val (.int p2), .val (.int p3), .val (.int p4), .val (.int 1), .val (.int (p1.toUInt32.toUInt16.toUInt32.toInt32)), .val (.int (p2.toUInt32.toUInt16.toUInt32.toInt32)), .val (.int (p3.toUInt32.toUInt16.toUInt32.toInt32)), .val (.ref a101), .val (.ref a103), .val (.ref a130), .val (.ref a161), .val (.ref a103), .unset, .unset, .unset] [(.int 2), (.int 1)]))
      refine FinH.by (fun tt_ kk_ => XS.icmpYes X184.here hx rfl (pc0 := 104) (pc' := 111) rfl (hb hby at_104) rfl (feq (by decide : ¬ (1 : Int32) = (2 : Int32))).2 (by decide) (by decide) kk_) ?_
      refine FinH.by (fun tt_ kk_ => XS.iload X184.here hx rfl (hb hby at_111) rfl (XS.iconst X184.here hx rfl (hb hby at_113) kk_)) ?_
      show FinH _ _ _ _ _ _ _ _ _ (T184.setTop (mkF m 114 #[.val (.int p1), .val (.int p2), .val (.int p3), .val (.int p4), .val (.int 1), .val (.int (p1.toUInt32.toUInt16.toUInt32.toInt32)), .val (.int (p2.toUInt32.toUInt16.toUInt32.toInt32)), .val (.int (p3.toUInt32.toUInt16.toUInt32.toInt32)), .val (.ref a101), .val (.ref a103), .val (.ref a130), .val (.ref a161), .val (.ref a103), .unset, .unset, .unset] [(.int 3), (.int 1)]))
      refine FinH.by (fun tt_ kk_ => XS.icmpYes X184.here hx rfl (pc0 := 114) (pc' := 121) rfl (hb hby at_114) rfl (feq (by decide : ¬ (1 : Int32) = (3 : Int32))).2 (by decide) (by decide) kk_) ?_
      refine FinH.by (fun tt_ kk_ => XS.iload X184.here hx rfl (hb hby at_121) rfl kk_) ?_
      show FinH _ _ _ _ _ _ _ _ _ (T184.setTop (mkF m 123 #[.val (.int p1), .val (.int p2), .val (.int p3), .val (.int p4), .val (.int 1), .val (.int (p1.toUInt32.toUInt16.toUInt32.toInt32)), .val (.int (p2.toUInt32.toUInt16.toUInt32.toInt32)), .val (.int (p3.toUInt32.toUInt16.toUInt32.toInt32)), .val (.ref a101), .val (.ref a103), .val (.ref a130), .val (.ref a161), .val (.ref a103), .unset, .unset, .unset] [(.int 1)]))
      refine FinH.by (fun tt_ kk_ => XS.ifYes X184.here hx rfl (pc0 := 123) (pc' := 132) rfl (hb hby at_123) rfl ((if0 _ _).trans (feq (by decide : ¬ (1 : Int32) = (0 : Int32))).2) (by decide) (by decide) kk_) ?_
      refine FinH.by (fun tt_ kk_ => XS.iload X184.here hx rfl (hb hby at_132) rfl (XS.iconst X184.here hx rfl (hb hby at_134) kk_)) ?_
      show FinH _ _ _ _ _ _ _ _ _ (T184.setTop (mkF m 135 #[.val (.int p1), .val (.int p2), .val (.int p3), .val (.int p4), .val (.int 1), .val (.int (p1.toUInt32.toUInt16.toUInt32.toInt32)), .val (.int (p2.toUInt32.toUInt16.toUInt32.toInt32)), .val (.int (p3.toUInt32.toUInt16.toUInt32.toInt32)), .val (.ref a101), .val (.ref a103), .val (.ref a130), .val (.ref a161), .val (.ref a103), .unset, .unset, .unset] [(.int 1), (.int 1)]))
      refine FinH.by (fun tt_ kk_ => XS.icmpNo X184.here hx rfl (hb hby at_135) rfl (teq (by decide : (1 : Int32) = (1 : Int32))).2 kk_) ?_
      refine FinH.by (fun tt_ kk_ => XS.iload X184.here hx rfl (hb hby at_138) rfl kk_) ?_
      have z256 : n0 ≤ T184.heap.size := Nat.le_trans z183 p184_0.1
      obtain ⟨v257, _, ⟨T257, L257, k257, n257⟩, -, X257, ⟨Lc257, hQ257, l257, y257, z257⟩, st257⟩ := Jvm.LawKit.callS X184 hx (y := y_21) hown101 (mvT hZ101 (w_ hw 33 rfl)) (mvT hZ101 (w_ hw 34 rfl)) (mvT hZ101 (w_ hw 35 rfl)) (mvT hZ101 (w_ hw 36 rfl)) (by decide) (backOf (W := 0) (rm_okc l Z a0 hw [] (p1.toUInt32.toUInt16.toUInt32.toInt32) T184.heap n0 z256 ) hZ101 (w_ hw 36 rfl) (w_ hw 35 rfl) (by decide) (by decide)) (g := (mkF m 140 #[.val (.int p1), .val (.int p2), .val (.int p3), .val (.int p4), .val (.int 1), .val (.int (p1.toUInt32.toUInt16.toUInt32.toInt32)), .val (.int (p2.toUInt32.toUInt16.toUInt32.toInt32)), .val (.int (p3.toUInt32.toUInt16.toUInt32.toInt32)), .val (.ref a101), .val (.ref a103), .val (.ref a130), .val (.ref a161), .val (.ref a103), .unset, .unset, .unset] [(.int (p1.toUInt32.toUInt16.toUInt32.toInt32))])) rfl (by rw [hml]; rfl) (argsL := [(.int (p1.toUInt32.toUInt16.toUInt32.toInt32))]) (rest := []) (lenOf pd_367 rfl) rfl (by show 2 * 0 + _ ≤ _; exact Nat.le_of_eq rfl) (hb hby at_140) (fun _ _ => ⟨rfl, rfl, (by decide : 14 + 0 ≤ _), (by decide : 40 + 0 ≤ _)⟩)
      dsimp only [Pt.U, Pt.locs, Pt.cells, Pt.slots] at X257 l257 y257 z257 st257 hQ257
      subst l257 y257 z257
      obtain ⟨rfl, Nq257, e257_⟩ := hQ257
      have N257_ := Fr.app N184_ Nq257
      refine FinH.by (fun tt_ kk_ => st257 tt_ kk_) ?_
      have e257 := e257_
      refine FinH.by (fun tt_ kk_ => XS.istore X257.here hx rfl (hb hby at_143) rfl (l' := #[.val (.int p1), .val (.int p2), .val (.int p3), .val (.int p4), .val (.int 1), .val (.int (p1.toUInt32.toUInt16.toUInt32.toInt32)), .val (.int (p2.toUInt32.toUInt16.toUInt32.toInt32)), .val (.int (p3.toUInt32.toUInt16.toUInt32.toInt32)), .val (.ref a101), .val (.ref a103), .val (.ref a130), .val (.ref a161), .val (.ref a103), .val (.int (nar .boolean (own_bi (own_ok (p1.toUInt32.toUInt16.toUInt32.toInt32))))), .unset, .unset]) rfl (XS.goto X257.here hx rfl (pc0 := 145) (pc' := 211) rfl (hb hby at_145) (by decide) (by decide) (XS.aload X257.here hx rfl (hb hby at_211) rfl rfl kk_))) ?_
      have E258 : Exa Z T184.heap a103 "java/lang/String" := (((((((((((p120_2.ext E130).ext E132).wr W134).wr W139).keep p150_0).ext E161).ext E163).wr W165).wr W170).wr W173).keep p184_0)
      have lt260 : a103 < h130.size := Nat.lt_of_lt_of_le A103.lt (Nat.le_trans (Nat.le_trans (Nat.le_trans E105.1 (Keep.of_wr W107).1) p120_0.1) E130.1)
      have ne259 : a103 ≠ a132 := Nat.ne_of_lt (Nat.lt_of_lt_of_le lt260 (Nat.le_of_eq g132.symm))
      have ne261 : a103 ≠ a130 := Nat.ne_of_lt (Nat.lt_of_lt_of_le (Nat.lt_of_lt_of_le A103.lt (Nat.le_trans (Nat.le_trans E105.1 (Keep.of_wr W107).1) p120_0.1)) (Nat.le_of_eq g130.symm))
      have lt263 : a103 < h161.size := Nat.lt_of_lt_of_le lt260 (Nat.le_trans (Nat.le_trans (Nat.le_trans (Nat.le_trans E132.1 (Keep.of_wr W134).1) (Keep.of_wr W139).1) p150_0.1) E161.1)
      have ne262 : a103 ≠ a163 := Nat.ne_of_lt (Nat.lt_of_lt_of_le lt263 (Nat.le_of_eq g163.symm))
      have ne264 : a103 ≠ a161 := Nat.ne_of_lt (Nat.lt_of_lt_of_le (Nat.lt_of_lt_of_le A103.lt (Nat.le_trans (Nat.le_trans (Nat.le_trans (Nat.le_trans (Nat.le_trans (Nat.le_trans (Nat.le_trans E105.1 (Keep.of_wr W107).1) p120_0.1) E130.1) E132.1) (Keep.of_wr W134).1) (Keep.of_wr W139).1) p150_0.1)) (Nat.le_of_eq g161.symm))
      have F265 : Fld Z T184.heap a103 "java/lang/String" "value" "[B" (.ref t121) := (((((((((((p120_3.ext E130).ext E132).other W134 (Or.inl ne259)).other W139 (Or.inl ne259)).keep p150_0 (ninS ne261 nin0)).ext E161).ext E163).other W165 (Or.inl ne262)).other W170 (Or.inl ne262)).other W173 (Or.inl ne262)).keep p184_0 (ninS ne264 nin0))
      have F266 : Fld Z T184.heap a103 "java/lang/String" "coder" "B" (.int cd123) := (((((((((((p120_4.ext E130).ext E132).other W134 (Or.inl ne259)).other W139 (Or.inl ne259)).keep p150_0 (ninS ne261 nin0)).ext E161).ext E163).other W165 (Or.inl ne262)).other W170 (Or.inl ne262)).other W173 (Or.inl ne262)).keep p184_0 (ninS ne264 nin0))
      have lt268 : t121 < h130.size := Nat.lt_of_lt_of_le p120_5.lt E130.1
      have ne267 : t121 ≠ a132 := Nat.ne_of_lt (Nat.lt_of_lt_of_le lt268 (Nat.le_of_eq g132.symm))
      have ne269 : t121 ≠ a130 := Nat.ne_of_lt (Nat.lt_of_lt_of_le (Nat.lt_of_lt_of_le p120_5.lt (Nat.le_refl _)) (Nat.le_of_eq g130.symm))
      have lt271 : t121 < h161.size := Nat.lt_of_lt_of_le lt268 (Nat.le_trans (Nat.le_trans (Nat.le_trans (Nat.le_trans E132.1 (Keep.of_wr W134).1) (Keep.of_wr W139).1) p150_0.1) E161.1)
      have ne270 : t121 ≠ a163 := Nat.ne_of_lt (Nat.lt_of_lt_of_le lt271 (Nat.le_of_eq g163.symm))
      have ne272 : t121 ≠ a161 := Nat.ne_of_lt (Nat.lt_of_lt_of_le (Nat.lt_of_lt_of_le p120_5.lt (Nat.le_trans (Nat.le_trans (Nat.le_trans (Nat.le_trans E130.1 E132.1) (Keep.of_wr W134).1) (Keep.of_wr W139).1) p150_0.1)) (Nat.le_of_eq g161.symm))
      have A273 : Arv Z T184.heap t121 k122 .byte N124 vs125 (.int (0 : Int32)) := (((((((((((p120_5.ext E130).ext E132).other W134 ne267).other W139 ne267).keep p150_0 (ninS ne269 nin0)).ext E161).ext E163).other W165 ne270).other W170 ne270).other W173 ne270).keep p184_0 (ninS ne272 nin0))
      have O274 : Old Z n0 T184.heap := (O182.keep p184_0 (allS g180 all0))
      obtain ⟨v275, _, ⟨T275, L275, k275, n275⟩, -, X275, ⟨Lc275, hQ275, l275, y275, z275⟩, st275⟩ := Jvm.LawKit.callS X257 hx (y := y_20) hown101 (mvT hZ101 (w_ hw 37 rfl)) (mvT hZ101 (w_ hw 38 rfl)) (mvT hZ101 (w_ hw 39 rfl)) (mvT hZ101 (w_ hw 40 rfl)) (by decide) (backOf (W := 0) (rm_val l Z a0 hw [] a103 t121 k122 N124 (vs125 : List Value) cd123 ([(nar .char (p1.toUInt32.toUInt16.toUInt32.toInt32))] : List Int32) G1 G9 T184.heap n0 z256 p120_6 (own_cons (own_nb _) own_nil) (Nat.le_of_ble_eq_true rfl) E258 F265 F266 A273 S1 P1 S6 S7 S8 S9 r9 O274) hZ101 (w_ hw 40 rfl) (w_ hw 39 rfl) (by decide) (by decide)) (g := (mkF m 213 #[.val (.int p1), .val (.int p2), .val (.int p3), .val (.int p4), .val (.int 1), .val (.int (p1.toUInt32.toUInt16.toUInt32.toInt32)), .val (.int (p2.toUInt32.toUInt16.toUInt32.toInt32)), .val (.int (p3.toUInt32.toUInt16.toUInt32.toInt32)), .val (.ref a101), .val (.ref a103), .val (.ref a130), .val (.ref a161), .val (.ref a103), .val (.int (nar .boolean (own_bi (own_ok (p1.toUInt32.toUInt16.toUInt32.toInt32))))), .unset, .unset] [(.ref a103)])) rfl (by rw [hml]; rfl) (argsL := [(.ref a103)]) (rest := []) (lenOf pd_366 rfl) rfl (by show 2 * 0 + _ ≤ _; exact Nat.le_of_eq rfl) (hb hby at_213) (fun _ _ => ⟨rfl, e257, (by decide : 14 + 0 ≤ _), (by decide : 40 + 0 ≤ _)⟩)
      dsimp only [Pt.U, Pt.locs, Pt.cells, Pt.slots] at X275 l275 y275 z275 st275 hQ275
      subst l275 y275 z275
      obtain ⟨rfl, Nq275, e275_⟩ := hQ275
      have N275_ := Fr.app N257_ Nq275
      refine FinH.by (fun tt_ kk_ => st275 tt_ kk_) ?_
      have e275 := e275_
      refine FinH.by (fun tt_ kk_ => XS.iload X275.here hx rfl (hb hby at_216) rfl kk_) ?_
      show FinH _ _ _ _ _ _ _ _ _ (T275.setTop (mkF m 218 #[.val (.int p1), .val (.int p2), .val (.int p3), .val (.int p4), .val (.int 1), .val (.int (p1.toUInt32.toUInt16.toUInt32.toInt32)), .val (.int (p2.toUInt32.toUInt16.toUInt32.toInt32)), .val (.int (p3.toUInt32.toUInt16.toUInt32.toInt32)), .val (.ref a101), .val (.ref a103), .val (.ref a130), .val (.ref a161), .val (.ref a103), .val (.int (nar .boolean (own_bi (own_ok (p1.toUInt32.toUInt16.toUInt32.toInt32))))), .unset, .unset] [(.int (nar .boolean (own_bi (own_ok (p1.toUInt32.toUInt16.toUInt32.toInt32))))), (.int (nar .boolean (own_valid ([(nar .char (p1.toUInt32.toUInt16.toUInt32.toInt32))] : List Int32))))]))
      refine FinH.by (fun tt_ kk_ => XS.icmpNo X275.here hx rfl (hb hby at_218) rfl (teq (by rw [own_val1, own_nc] : (nar .boolean (own_valid ([(nar .char (p1.toUInt32.toUInt16.toUInt32.toInt32))] : List Int32))) = (nar .boolean (own_bi (own_ok (p1.toUInt32.toUInt16.toUInt32.toInt32)))))).2 kk_) ?_
      refine FinH.by (fun tt_ kk_ => XS.iconst X275.here hx rfl (hb hby at_221) (XS.goto X275.here hx rfl (pc0 := 222) (pc' := 226) rfl (hb hby at_222) (by decide) (by decide) (XS.istore X275.here hx rfl (hb hby at_226) rfl (l' := #[.val (.int p1), .val (.int p2), .val (.int p3), .val (.int p4), .val (.int 1), .val (.int (p1.toUInt32.toUInt16.toUInt32.toInt32)), .val (.int (p2.toUInt32.toUInt16.toUInt32.toInt32)), .val (.int (p3.toUInt32.toUInt16.toUInt32.toInt32)), .val (.ref a101), .val (.ref a103), .val (.ref a130), .val (.ref a161), .val (.ref a103), .val (.int (nar .boolean (own_bi (own_ok (p1.toUInt32.toUInt16.toUInt32.toInt32))))), .val (.int 1), .unset]) rfl kk_))) ?_
      show FinH _ _ _ _ _ _ _ _ _ (T275.setTop (mkF m 228 #[.val (.int p1), .val (.int p2), .val (.int p3), .val (.int p4), .val (.int 1), .val (.int (p1.toUInt32.toUInt16.toUInt32.toInt32)), .val (.int (p2.toUInt32.toUInt16.toUInt32.toInt32)), .val (.int (p3.toUInt32.toUInt16.toUInt32.toInt32)), .val (.ref a101), .val (.ref a103), .val (.ref a130), .val (.ref a161), .val (.ref a103), .val (.int (nar .boolean (own_bi (own_ok (p1.toUInt32.toUInt16.toUInt32.toInt32))))), .val (.int 1), .unset] []))
      exact J228 T275 T184.heap _ T101.vm _ (1 : Int32) a103 (nar .boolean (own_bi (own_ok (p1.toUInt32.toUInt16.toUInt32.toInt32)))) X275 e275 N275_ (Keep.refl T184.heap []) hS101 (Nat.le_trans hk101 (Nat.le_trans (Nat.le_trans (Nat.le_trans (Nat.le_trans (Nat.le_trans (Nat.le_trans (Nat.le_trans (Nat.le_trans (Nat.le_trans (Nat.le_trans (Nat.le_trans (Nat.le_trans (Nat.le_trans (Nat.le_trans E103.1 E105.1) (Keep.of_wr W107).1) p120_0.1) E130.1) E132.1) (Keep.of_wr W134).1) (Keep.of_wr W139).1) p150_0.1) E161.1) E163.1) (Keep.of_wr W165).1) (Keep.of_wr W170).1) (Keep.of_wr W173).1) p184_0.1)) hZ101 hown101 (CHr.refl ch190.1)
    · refine FinH.by (fun tt_ kk_ => XS.iload X184.here hx rfl (hb hby at_91) rfl (XS.iconst X184.here hx rfl (hb hby at_93) kk_)) ?_
      show FinH _ _ _ _ _ _ _ _ _ (T184.setTop (mkF m 94 #[.val (.int p1), .val (.int p2), .val (.int p3), .val (.int p4), .val (.int 2), .val (.int (p1.toUInt32.toUInt16.toUInt32.toInt32)), .val (.int (p2.toUInt32.toUInt16.toUInt32.toInt32)), .val (.int (p3.toUInt32.toUInt16.toUInt32.toInt32)), .val (.ref a101), .val (.ref a103), .val (.ref a130), .val (.ref a161), .val (.ref a101), .unset, .unset, .unset] [(.int 1), (.int 2)]))
      refine FinH.by (fun tt_ kk_ => XS.icmpYes X184.here hx rfl (pc0 := 94) (pc' := 101) rfl (hb hby at_94) rfl (feq (by decide : ¬ (2 : Int32) = (1 : Int32))).2 (by decide) (by decide) kk_) ?_
      refine FinH.by (fun tt_ kk_ => XS.iload X184.here hx rfl (hb hby at_101) rfl (XS.iconst X184.here hx rfl (hb hby at_103) kk_)) ?_
      show FinH _ _ _ _ _ _ _ _ _ (T184.setTop (mkF m 104 #[.val (.int p1), .val (.int p2), .val (.int p3), .val (.int p4), .val (.int 2), .val (.int (p1.toUInt32.toUInt16.toUInt32.toInt32)), .val (.int (p2.toUInt32.toUInt16.toUInt32.toInt32)), .val (.int (p3.toUInt32.toUInt16.toUInt32.toInt32)), .val (.ref a101), .val (.ref a103), .val (.ref a130), .val (.ref a161), .val (.ref a101), .unset, .unset, .unset] [(.int 2), (.int 2)]))
      refine FinH.by (fun tt_ kk_ => XS.icmpNo X184.here hx rfl (hb hby at_104) rfl (teq (by decide : (2 : Int32) = (2 : Int32))).2 kk_) ?_
      refine FinH.by (fun tt_ kk_ => XS.aload X184.here hx rfl (hb hby at_107) rfl rfl (XS.astore X184.here hx rfl (hb hby at_109) rfl rfl (l' := #[.val (.int p1), .val (.int p2), .val (.int p3), .val (.int p4), .val (.int 2), .val (.int (p1.toUInt32.toUInt16.toUInt32.toInt32)), .val (.int (p2.toUInt32.toUInt16.toUInt32.toInt32)), .val (.int (p3.toUInt32.toUInt16.toUInt32.toInt32)), .val (.ref a101), .val (.ref a103), .val (.ref a130), .val (.ref a161), .val (.ref a130), .unset, .unset, .unset]) rfl (XS.iload X184.here hx rfl (hb hby at_111) rfl (XS.iconst X184.here hx rfl (hb hby at_113) kk_)))) ?_
      show FinH _ _ _ _ _ _ _ _ _ (T184.setTop (mkF m 114 #[.val (.int p1), .val (.int p2), .val (.int p3), .val (.int p4), .val (.int 2), .val (.int (p1.toUInt32.toUInt16.toUInt32.toInt32)), .val (.int (p2.toUInt32.toUInt16.toUInt32.toInt32)), .val (.int (p3.toUInt32.toUInt16.toUInt32.toInt32)), .val (.ref a101), .val (.ref a103), .val (.ref a130), .val (.ref a161), .val (.ref a130), .unset, .unset, .unset] [(.int 3), (.int 2)]))
      refine FinH.by (fun tt_ kk_ => XS.icmpYes X184.here hx rfl (pc0 := 114) (pc' := 121) rfl (hb hby at_114) rfl (feq (by decide : ¬ (2 : Int32) = (3 : Int32))).2 (by decide) (by decide) kk_) ?_
      refine FinH.by (fun tt_ kk_ => XS.iload X184.here hx rfl (hb hby at_121) rfl kk_) ?_
      show FinH _ _ _ _ _ _ _ _ _ (T184.setTop (mkF m 123 #[.val (.int p1), .val (.int p2), .val (.int p3), .val (.int p4), .val (.int 2), .val (.int (p1.toUInt32.toUInt16.toUInt32.toInt32)), .val (.int (p2.toUInt32.toUInt16.toUInt32.toInt32)), .val (.int (p3.toUInt32.toUInt16.toUInt32.toInt32)), .val (.ref a101), .val (.ref a103), .val (.ref a130), .val (.ref a161), .val (.ref a130), .unset, .unset, .unset] [(.int 2)]))
      refine FinH.by (fun tt_ kk_ => XS.ifYes X184.here hx rfl (pc0 := 123) (pc' := 132) rfl (hb hby at_123) rfl ((if0 _ _).trans (feq (by decide : ¬ (2 : Int32) = (0 : Int32))).2) (by decide) (by decide) kk_) ?_
      refine FinH.by (fun tt_ kk_ => XS.iload X184.here hx rfl (hb hby at_132) rfl (XS.iconst X184.here hx rfl (hb hby at_134) kk_)) ?_
      show FinH _ _ _ _ _ _ _ _ _ (T184.setTop (mkF m 135 #[.val (.int p1), .val (.int p2), .val (.int p3), .val (.int p4), .val (.int 2), .val (.int (p1.toUInt32.toUInt16.toUInt32.toInt32)), .val (.int (p2.toUInt32.toUInt16.toUInt32.toInt32)), .val (.int (p3.toUInt32.toUInt16.toUInt32.toInt32)), .val (.ref a101), .val (.ref a103), .val (.ref a130), .val (.ref a161), .val (.ref a130), .unset, .unset, .unset] [(.int 1), (.int 2)]))
      refine FinH.by (fun tt_ kk_ => XS.icmpYes X184.here hx rfl (pc0 := 135) (pc' := 148) rfl (hb hby at_135) rfl (feq (by decide : ¬ (2 : Int32) = (1 : Int32))).2 (by decide) (by decide) kk_) ?_
      refine FinH.by (fun tt_ kk_ => XS.iload X184.here hx rfl (hb hby at_148) rfl (XS.iconst X184.here hx rfl (hb hby at_150) kk_)) ?_
      show FinH _ _ _ _ _ _ _ _ _ (T184.setTop (mkF m 151 #[.val (.int p1), .val (.int p2), .val (.int p3), .val (.int p4), .val (.int 2), .val (.int (p1.toUInt32.toUInt16.toUInt32.toInt32)), .val (.int (p2.toUInt32.toUInt16.toUInt32.toInt32)), .val (.int (p3.toUInt32.toUInt16.toUInt32.toInt32)), .val (.ref a101), .val (.ref a103), .val (.ref a130), .val (.ref a161), .val (.ref a130), .unset, .unset, .unset] [(.int 2), (.int 2)]))
      refine FinH.by (fun tt_ kk_ => XS.icmpNo X184.here hx rfl (hb hby at_151) rfl (teq (by decide : (2 : Int32) = (2 : Int32))).2 kk_) ?_
      refine FinH.by (fun tt_ kk_ => XS.iload X184.here hx rfl (hb hby at_154) rfl kk_) ?_
      have z276 : n0 ≤ T184.heap.size := Nat.le_trans z183 p184_0.1
      obtain ⟨v277, _, ⟨T277, L277, k277, n277⟩, -, X277, ⟨Lc277, hQ277, l277, y277, z277⟩, st277⟩ := Jvm.LawKit.callS X184 hx (y := y_21) hown101 (mvT hZ101 (w_ hw 33 rfl)) (mvT hZ101 (w_ hw 34 rfl)) (mvT hZ101 (w_ hw 35 rfl)) (mvT hZ101 (w_ hw 36 rfl)) (by decide) (backOf (W := 0) (rm_okc l Z a0 hw [] (p1.toUInt32.toUInt16.toUInt32.toInt32) T184.heap n0 z276 ) hZ101 (w_ hw 36 rfl) (w_ hw 35 rfl) (by decide) (by decide)) (g := (mkF m 156 #[.val (.int p1), .val (.int p2), .val (.int p3), .val (.int p4), .val (.int 2), .val (.int (p1.toUInt32.toUInt16.toUInt32.toInt32)), .val (.int (p2.toUInt32.toUInt16.toUInt32.toInt32)), .val (.int (p3.toUInt32.toUInt16.toUInt32.toInt32)), .val (.ref a101), .val (.ref a103), .val (.ref a130), .val (.ref a161), .val (.ref a130), .unset, .unset, .unset] [(.int (p1.toUInt32.toUInt16.toUInt32.toInt32))])) rfl (by rw [hml]; rfl) (argsL := [(.int (p1.toUInt32.toUInt16.toUInt32.toInt32))]) (rest := []) (lenOf pd_367 rfl) rfl (by show 2 * 0 + _ ≤ _; exact Nat.le_of_eq rfl) (hb hby at_156) (fun _ _ => ⟨rfl, rfl, (by decide : 14 + 0 ≤ _), (by decide : 40 + 0 ≤ _)⟩)
      dsimp only [Pt.U, Pt.locs, Pt.cells, Pt.slots] at X277 l277 y277 z277 st277 hQ277
      subst l277 y277 z277
      obtain ⟨rfl, Nq277, e277_⟩ := hQ277
      have N277_ := Fr.app N184_ Nq277
      refine FinH.by (fun tt_ kk_ => st277 tt_ kk_) ?_
      have e277 := e277_
      show FinH _ _ _ _ _ _ _ _ _ (T277.setTop (mkF m 159 #[.val (.int p1), .val (.int p2), .val (.int p3), .val (.int p4), .val (.int 2), .val (.int (p1.toUInt32.toUInt16.toUInt32.toInt32)), .val (.int (p2.toUInt32.toUInt16.toUInt32.toInt32)), .val (.int (p3.toUInt32.toUInt16.toUInt32.toInt32)), .val (.ref a101), .val (.ref a103), .val (.ref a130), .val (.ref a161), .val (.ref a130), .unset, .unset, .unset] [(.int (nar .boolean (own_bi (own_ok (p1.toUInt32.toUInt16.toUInt32.toInt32)))))]))
      by_cases ho0 : (nar .boolean (own_bi (own_ok (p1.toUInt32.toUInt16.toUInt32.toInt32)))) = (0 : Int32)
      · refine FinH.by (fun tt_ kk_ => XS.ifYes X277.here hx rfl (pc0 := 159) (pc' := 174) rfl (hb hby at_159) rfl ((if0 _ _).trans (teq ho0).1) (by decide) (by decide) kk_) ?_
        refine FinH.by (fun tt_ kk_ => XS.iconst X277.here hx rfl (hb hby at_174) (XS.istore X277.here hx rfl (hb hby at_175) rfl (l' := #[.val (.int p1), .val (.int p2), .val (.int p3), .val (.int p4), .val (.int 2), .val (.int (p1.toUInt32.toUInt16.toUInt32.toInt32)), .val (.int (p2.toUInt32.toUInt16.toUInt32.toInt32)), .val (.int (p3.toUInt32.toUInt16.toUInt32.toInt32)), .val (.ref a101), .val (.ref a103), .val (.ref a130), .val (.ref a161), .val (.ref a130), .val (.int 0), .unset, .unset]) rfl (XS.goto X277.here hx rfl (pc0 := 177) (pc' := 211) rfl (hb hby at_177) (by decide) (by decide) (XS.aload X277.here hx rfl (hb hby at_211) rfl rfl kk_)))) ?_
        have E278 : Exa Z T184.heap a130 "java/lang/String" := ((((((p150_2.ext E161).ext E163).wr W165).wr W170).wr W173).keep p184_0)
        have lt280 : a130 < h161.size := Nat.lt_of_lt_of_le A130.lt (Nat.le_trans (Nat.le_trans (Nat.le_trans (Nat.le_trans E132.1 (Keep.of_wr W134).1) (Keep.of_wr W139).1) p150_0.1) E161.1)
        have ne279 : a130 ≠ a163 := Nat.ne_of_lt (Nat.lt_of_lt_of_le lt280 (Nat.le_of_eq g163.symm))
        have ne281 : a130 ≠ a161 := Nat.ne_of_lt (Nat.lt_of_lt_of_le (Nat.lt_of_lt_of_le A130.lt (Nat.le_trans (Nat.le_trans (Nat.le_trans E132.1 (Keep.of_wr W134).1) (Keep.of_wr W139).1) p150_0.1)) (Nat.le_of_eq g161.symm))
        have F282 : Fld Z T184.heap a130 "java/lang/String" "value" "[B" (.ref t151) := ((((((p150_3.ext E161).ext E163).other W165 (Or.inl ne279)).other W170 (Or.inl ne279)).other W173 (Or.inl ne279)).keep p184_0 (ninS ne281 nin0))
        have F283 : Fld Z T184.heap a130 "java/lang/String" "coder" "B" (.int cd153) := ((((((p150_4.ext E161).ext E163).other W165 (Or.inl ne279)).other W170 (Or.inl ne279)).other W173 (Or.inl ne279)).keep p184_0 (ninS ne281 nin0))
        have lt285 : t151 < h161.size := Nat.lt_of_lt_of_le p150_5.lt E161.1
        have ne284 : t151 ≠ a163 := Nat.ne_of_lt (Nat.lt_of_lt_of_le lt285 (Nat.le_of_eq g163.symm))
        have ne286 : t151 ≠ a161 := Nat.ne_of_lt (Nat.lt_of_lt_of_le (Nat.lt_of_lt_of_le p150_5.lt (Nat.le_refl _)) (Nat.le_of_eq g161.symm))
        have A287 : Arv Z T184.heap t151 k152 .byte N154 vs155 (.int (0 : Int32)) := ((((((p150_5.ext E161).ext E163).other W165 ne284).other W170 ne284).other W173 ne284).keep p184_0 (ninS ne286 nin0))
        have O288 : Old Z n0 T184.heap := (O182.keep p184_0 (allS g180 all0))
        obtain ⟨v289, _, ⟨T289, L289, k289, n289⟩, -, X289, ⟨Lc289, hQ289, l289, y289, z289⟩, st289⟩ := Jvm.LawKit.callS X277 hx (y := y_20) hown101 (mvT hZ101 (w_ hw 37 rfl)) (mvT hZ101 (w_ hw 38 rfl)) (mvT hZ101 (w_ hw 39 rfl)) (mvT hZ101 (w_ hw 40 rfl)) (by decide) (backOf (W := 0) (rm_val l Z a0 hw [] a130 t151 k152 N154 (vs155 : List Value) cd153 ([(nar .char (p1.toUInt32.toUInt16.toUInt32.toInt32)), (nar .char (p2.toUInt32.toUInt16.toUInt32.toInt32))] : List Int32) G1 G9 T184.heap n0 z276 p150_6 (own_cons (own_nb _) (own_cons (own_nb _) own_nil)) (Nat.le_of_ble_eq_true rfl) E278 F282 F283 A287 S1 P1 S6 S7 S8 S9 r9 O288) hZ101 (w_ hw 40 rfl) (w_ hw 39 rfl) (by decide) (by decide)) (g := (mkF m 213 #[.val (.int p1), .val (.int p2), .val (.int p3), .val (.int p4), .val (.int 2), .val (.int (p1.toUInt32.toUInt16.toUInt32.toInt32)), .val (.int (p2.toUInt32.toUInt16.toUInt32.toInt32)), .val (.int (p3.toUInt32.toUInt16.toUInt32.toInt32)), .val (.ref a101), .val (.ref a103), .val (.ref a130), .val (.ref a161), .val (.ref a130), .val (.int 0), .unset, .unset] [(.ref a130)])) rfl (by rw [hml]; rfl) (argsL := [(.ref a130)]) (rest := []) (lenOf pd_366 rfl) rfl (by show 2 * 0 + _ ≤ _; exact Nat.le_of_eq rfl) (hb hby at_213) (fun _ _ => ⟨rfl, e277, (by decide : 14 + 0 ≤ _), (by decide : 40 + 0 ≤ _)⟩)
        dsimp only [Pt.U, Pt.locs, Pt.cells, Pt.slots] at X289 l289 y289 z289 st289 hQ289
        subst l289 y289 z289
        obtain ⟨rfl, Nq289, e289_⟩ := hQ289
        have N289_ := Fr.app N277_ Nq289
        refine FinH.by (fun tt_ kk_ => st289 tt_ kk_) ?_
        have e289 := e289_
        refine FinH.by (fun tt_ kk_ => XS.iload X289.here hx rfl (hb hby at_216) rfl kk_) ?_
        show FinH _ _ _ _ _ _ _ _ _ (T289.setTop (mkF m 218 #[.val (.int p1), .val (.int p2), .val (.int p3), .val (.int p4), .val (.int 2), .val (.int (p1.toUInt32.toUInt16.toUInt32.toInt32)), .val (.int (p2.toUInt32.toUInt16.toUInt32.toInt32)), .val (.int (p3.toUInt32.toUInt16.toUInt32.toInt32)), .val (.ref a101), .val (.ref a103), .val (.ref a130), .val (.ref a161), .val (.ref a130), .val (.int 0), .unset, .unset] [(.int 0), (.int (nar .boolean (own_valid ([(nar .char (p1.toUInt32.toUInt16.toUInt32.toInt32)), (nar .char (p2.toUInt32.toUInt16.toUInt32.toInt32))] : List Int32))))]))
        refine FinH.by (fun tt_ kk_ => XS.icmpNo X289.here hx rfl (hb hby at_218) rfl (teq (by rw [own_val2, own_nc, own_nc, own_bz ho0]; simp [own_bi]; decide : (nar .boolean (own_valid ([(nar .char (p1.toUInt32.toUInt16.toUInt32.toInt32)), (nar .char (p2.toUInt32.toUInt16.toUInt32.toInt32))] : List Int32))) = (0 : Int32))).2 kk_) ?_
        refine FinH.by (fun tt_ kk_ => XS.iconst X289.here hx rfl (hb hby at_221) (XS.goto X289.here hx rfl (pc0 := 222) (pc' := 226) rfl (hb hby at_222) (by decide) (by decide) (XS.istore X289.here hx rfl (hb hby at_226) rfl (l' := #[.val (.int p1), .val (.int p2), .val (.int p3), .val (.int p4), .val (.int 2), .val (.int (p1.toUInt32.toUInt16.toUInt32.toInt32)), .val (.int (p2.toUInt32.toUInt16.toUInt32.toInt32)), .val (.int (p3.toUInt32.toUInt16.toUInt32.toInt32)), .val (.ref a101), .val (.ref a103), .val (.ref a130), .val (.ref a161), .val (.ref a130), .val (.int 0), .val (.int 1), .unset]) rfl kk_))) ?_
        show FinH _ _ _ _ _ _ _ _ _ (T289.setTop (mkF m 228 #[.val (.int p1), .val (.int p2), .val (.int p3), .val (.int p4), .val (.int 2), .val (.int (p1.toUInt32.toUInt16.toUInt32.toInt32)), .val (.int (p2.toUInt32.toUInt16.toUInt32.toInt32)), .val (.int (p3.toUInt32.toUInt16.toUInt32.toInt32)), .val (.ref a101), .val (.ref a103), .val (.ref a130), .val (.ref a161), .val (.ref a130), .val (.int 0), .val (.int 1), .unset] []))
        exact J228 T289 T184.heap _ T101.vm _ (2 : Int32) a130 (0 : Int32) X289 e289 N289_ (Keep.refl T184.heap []) hS101 (Nat.le_trans hk101 (Nat.le_trans (Nat.le_trans (Nat.le_trans (Nat.le_trans (Nat.le_trans (Nat.le_trans (Nat.le_trans (Nat.le_trans (Nat.le_trans (Nat.le_trans (Nat.le_trans (Nat.le_trans (Nat.le_trans (Nat.le_trans E103.1 E105.1) (Keep.of_wr W107).1) p120_0.1) E130.1) E132.1) (Keep.of_wr W134).1) (Keep.of_wr W139).1) p150_0.1) E161.1) E163.1) (Keep.of_wr W165).1) (Keep.of_wr W170).1) (Keep.of_wr W173).1) p184_0.1)) hZ101 hown101 (CHr.refl ch190.1)
      · refine FinH.by (fun tt_ kk_ => XS.ifNo X277.here hx rfl (hb hby at_159) rfl ((if0 _ _).trans (feq ho0).1) kk_) ?_
        refine FinH.by (fun tt_ kk_ => XS.iload X277.here hx rfl (hb hby at_162) rfl kk_) ?_
        obtain ⟨v290, _, ⟨T290, L290, k290, n290⟩, -, X290, ⟨Lc290, hQ290, l290, y290, z290⟩, st290⟩ := Jvm.LawKit.callS X277 hx (y := y_21) hown101 (mvT hZ101 (w_ hw 33 rfl)) (mvT hZ101 (w_ hw 34 rfl)) (mvT hZ101 (w_ hw 35 rfl)) (mvT hZ101 (w_ hw 36 rfl)) (by decide) (backOf (W := 0) (rm_okc l Z a0 hw [] (p2.toUInt32.toUInt16.toUInt32.toInt32) T184.heap n0 z276 ) hZ101 (w_ hw 36 rfl) (w_ hw 35 rfl) (by decide) (by decide)) (g := (mkF m 164 #[.val (.int p1), .val (.int p2), .val (.int p3), .val (.int p4), .val (.int 2), .val (.int (p1.toUInt32.toUInt16.toUInt32.toInt32)), .val (.int (p2.toUInt32.toUInt16.toUInt32.toInt32)), .val (.int (p3.toUInt32.toUInt16.toUInt32.toInt32)), .val (.ref a101), .val (.ref a103), .val (.ref a130), .val (.ref a161), .val (.ref a130), .unset, .unset, .unset] [(.int (p2.toUInt32.toUInt16.toUInt32.toInt32))])) rfl (by rw [hml]; rfl) (argsL := [(.int (p2.toUInt32.toUInt16.toUInt32.toInt32))]) (rest := []) (lenOf pd_367 rfl) rfl (by show 2 * 0 + _ ≤ _; exact Nat.le_of_eq rfl) (hb hby at_164) (fun _ _ => ⟨rfl, e277, (by decide : 14 + 0 ≤ _), (by decide : 40 + 0 ≤ _)⟩)
        dsimp only [Pt.U, Pt.locs, Pt.cells, Pt.slots] at X290 l290 y290 z290 st290 hQ290
        subst l290 y290 z290
        obtain ⟨rfl, Nq290, e290_⟩ := hQ290
        have N290_ := Fr.app N277_ Nq290
        refine FinH.by (fun tt_ kk_ => st290 tt_ kk_) ?_
        have e290 := e290_
        show FinH _ _ _ _ _ _ _ _ _ (T290.setTop (mkF m 167 #[.val (.int p1), .val (.int p2), .val (.int p3), .val (.int p4), .val (.int 2), .val (.int (p1.toUInt32.toUInt16.toUInt32.toInt32)), .val (.int (p2.toUInt32.toUInt16.toUInt32.toInt32)), .val (.int (p3.toUInt32.toUInt16.toUInt32.toInt32)), .val (.ref a101), .val (.ref a103), .val (.ref a130), .val (.ref a161), .val (.ref a130), .unset, .unset, .unset] [(.int (nar .boolean (own_bi (own_ok (p2.toUInt32.toUInt16.toUInt32.toInt32)))))]))
        by_cases ho1 : (nar .boolean (own_bi (own_ok (p2.toUInt32.toUInt16.toUInt32.toInt32)))) = (0 : Int32)
        · refine FinH.by (fun tt_ kk_ => XS.ifYes X290.here hx rfl (pc0 := 167) (pc' := 174) rfl (hb hby at_167) rfl ((if0 _ _).trans (teq ho1).1) (by decide) (by decide) kk_) ?_
          refine FinH.by (fun tt_ kk_ => XS.iconst X290.here hx rfl (hb hby at_174) (XS.istore X290.here hx rfl (hb hby at_175) rfl (l' := #[.val (.int p1), .val (.int p2), .val (.int p3), .val (.int p4), .val (.int 2), .val (.int (p1.toUInt32.toUInt16.toUInt32.toInt32)), .val (.int (p2.toUInt32.toUInt16.toUInt32.toInt32)), .val (.int (p3.toUInt32.toUInt16.toUInt32.toInt32)), .val (.ref a101), .val (.ref a103), .val (.ref a130), .val (.ref a161), .val (.ref a130), .val (.int 0), .unset, .unset]) rfl (XS.goto X290.here hx rfl (pc0 := 177) (pc' := 211) rfl (hb hby at_177) (by decide) (by decide) (XS.aload X290.here hx rfl (hb hby at_211) rfl rfl kk_)))) ?_
          have E291 : Exa Z T184.heap a130 "java/lang/String" := ((((((p150_2.ext E161).ext E163).wr W165).wr W170).wr W173).keep p184_0)
          have lt293 : a130 < h161.size := Nat.lt_of_lt_of_le A130.lt (Nat.le_trans (Nat.le_trans (Nat.le_trans (Nat.le_trans E132.1 (Keep.of_wr W134).1) (Keep.of_wr W139).1) p150_0.1) E161.1)
          have ne292 : a130 ≠ a163 := Nat.ne_of_lt (Nat.lt_of_lt_of_le lt293 (Nat.le_of_eq g163.symm))
          have ne294 : a130 ≠ a161 := Nat.ne_of_lt (Nat.lt_of_lt_of_le (Nat.lt_of_lt_of_le A130.lt (Nat.le_trans (Nat.le_trans (Nat.le_trans E132.1 (Keep.of_wr W134).1) (Keep.of_wr W139).1) p150_0.1)) (Nat.le_of_eq g161.symm))
          have F295 : Fld Z T184.heap a130 "java/lang/String" "value" "[B" (.ref t151) := ((((((p150_3.ext E161).ext E163).other W165 (Or.inl ne292)).other W170 (Or.inl ne292)).other W173 (Or.inl ne292)).keep p184_0 (ninS ne294 nin0))
          have F296 : Fld Z T184.heap a130 "java/lang/String" "coder" "B" (.int cd153) := ((((((p150_4.ext E161).ext E163).other W165 (Or.inl ne292)).other W170 (Or.inl ne292)).other W173 (Or.inl ne292)).keep p184_0 (ninS ne294 nin0))
          have lt298 : t151 < h161.size := Nat.lt_of_lt_of_le p150_5.lt E161.1
          have ne297 : t151 ≠ a163 := Nat.ne_of_lt (Nat.lt_of_lt_of_le lt298 (Nat.le_of_eq g163.symm))
          have ne299 : t151 ≠ a161 := Nat.ne_of_lt (Nat.lt_of_lt_of_le (Nat.lt_of_lt_of_le p150_5.lt (Nat.le_refl _)) (Nat.le_of_eq g161.symm))
          have A300 : Arv Z T184.heap t151 k152 .byte N154 vs155 (.int (0 : Int32)) := ((((((p150_5.ext E161).ext E163).other W165 ne297).other W170 ne297).other W173 ne297).keep p184_0 (ninS ne299 nin0))
          have O301 : Old Z n0 T184.heap := (O182.keep p184_0 (allS g180 all0))
          obtain ⟨v302, _, ⟨T302, L302, k302, n302⟩, -, X302, ⟨Lc302, hQ302, l302, y302, z302⟩, st302⟩ := Jvm.LawKit.callS X290 hx (y := y_20) hown101 (mvT hZ101 (w_ hw 37 rfl)) (mvT hZ101 (w_ hw 38 rfl)) (mvT hZ101 (w_ hw 39 rfl)) (mvT hZ101 (w_ hw 40 rfl)) (by decide) (backOf (W := 0) (rm_val l Z a0 hw [] a130 t151 k152 N154 (vs155 : List Value) cd153 ([(nar .char (p1.toUInt32.toUInt16.toUInt32.toInt32)), (nar .char (p2.toUInt32.toUInt16.toUInt32.toInt32))] : List Int32) G1 G9 T184.heap n0 z276 p150_6 (own_cons (own_nb _) (own_cons (own_nb _) own_nil)) (Nat.le_of_ble_eq_true rfl) E291 F295 F296 A300 S1 P1 S6 S7 S8 S9 r9 O301) hZ101 (w_ hw 40 rfl) (w_ hw 39 rfl) (by decide) (by decide)) (g := (mkF m 213 #[.val (.int p1), .val (.int p2), .val (.int p3), .val (.int p4), .val (.int 2), .val (.int (p1.toUInt32.toUInt16.toUInt32.toInt32)), .val (.int (p2.toUInt32.toUInt16.toUInt32.toInt32)), .val (.int (p3.toUInt32.toUInt16.toUInt32.toInt32)), .val (.ref a101), .val (.ref a103), .val (.ref a130), .val (.ref a161), .val (.ref a130), .val (.int 0), .unset, .unset] [(.ref a130)])) rfl (by rw [hml]; rfl) (argsL := [(.ref a130)]) (rest := []) (lenOf pd_366 rfl) rfl (by show 2 * 0 + _ ≤ _; exact Nat.le_of_eq rfl) (hb hby at_213) (fun _ _ => ⟨rfl, e290, (by decide : 14 + 0 ≤ _), (by decide : 40 + 0 ≤ _)⟩)
          dsimp only [Pt.U, Pt.locs, Pt.cells, Pt.slots] at X302 l302 y302 z302 st302 hQ302
          subst l302 y302 z302
          obtain ⟨rfl, Nq302, e302_⟩ := hQ302
          have N302_ := Fr.app N290_ Nq302
          refine FinH.by (fun tt_ kk_ => st302 tt_ kk_) ?_
          have e302 := e302_
          refine FinH.by (fun tt_ kk_ => XS.iload X302.here hx rfl (hb hby at_216) rfl kk_) ?_
          show FinH _ _ _ _ _ _ _ _ _ (T302.setTop (mkF m 218 #[.val (.int p1), .val (.int p2), .val (.int p3), .val (.int p4), .val (.int 2), .val (.int (p1.toUInt32.toUInt16.toUInt32.toInt32)), .val (.int (p2.toUInt32.toUInt16.toUInt32.toInt32)), .val (.int (p3.toUInt32.toUInt16.toUInt32.toInt32)), .val (.ref a101), .val (.ref a103), .val (.ref a130), .val (.ref a161), .val (.ref a130), .val (.int 0), .unset, .unset] [(.int 0), (.int (nar .boolean (own_valid ([(nar .char (p1.toUInt32.toUInt16.toUInt32.toInt32)), (nar .char (p2.toUInt32.toUInt16.toUInt32.toInt32))] : List Int32))))]))
          refine FinH.by (fun tt_ kk_ => XS.icmpNo X302.here hx rfl (hb hby at_218) rfl (teq (by rw [own_val2, own_nc, own_nc, own_bnz ho0, own_bz ho1]; decide : (nar .boolean (own_valid ([(nar .char (p1.toUInt32.toUInt16.toUInt32.toInt32)), (nar .char (p2.toUInt32.toUInt16.toUInt32.toInt32))] : List Int32))) = (0 : Int32))).2 kk_) ?_
          refine FinH.by (fun tt_ kk_ => XS.iconst X302.here hx rfl (hb hby at_221) (XS.goto X302.here hx rfl (pc0 := 222) (pc' := 226) rfl (hb hby at_222) (by decide) (by decide) (XS.istore X302.here hx rfl (hb hby at_226) rfl (l' := #[.val (.int p1), .val (.int p2), .val (.int p3), .val (.int p4), .val (.int 2), .val (.int (p1.toUInt32.toUInt16.toUInt32.toInt32)), .val (.int (p2.toUInt32.toUInt16.toUInt32.toInt32)), .val (.int (p3.toUInt32.toUInt16.toUInt32.toInt32)), .val (.ref a101), .val (.ref a103), .val (.ref a130), .val (.ref a161), .val (.ref a130), .val (.int 0), .val (.int 1), .unset]) rfl kk_))) ?_
          show FinH _ _ _ _ _ _ _ _ _ (T302.setTop (mkF m 228 #[.val (.int p1), .val (.int p2), .val (.int p3), .val (.int p4), .val (.int 2), .val (.int (p1.toUInt32.toUInt16.toUInt32.toInt32)), .val (.int (p2.toUInt32.toUInt16.toUInt32.toInt32)), .val (.int (p3.toUInt32.toUInt16.toUInt32.toInt32)), .val (.ref a101), .val (.ref a103), .val (.ref a130), .val (.ref a161), .val (.ref a130), .val (.int 0), .val (.int 1), .unset] []))
          exact J228 T302 T184.heap _ T101.vm _ (2 : Int32) a130 (0 : Int32) X302 e302 N302_ (Keep.refl T184.heap []) hS101 (Nat.le_trans hk101 (Nat.le_trans (Nat.le_trans (Nat.le_trans (Nat.le_trans (Nat.le_trans (Nat.le_trans (Nat.le_trans (Nat.le_trans (Nat.le_trans (Nat.le_trans (Nat.le_trans (Nat.le_trans (Nat.le_trans (Nat.le_trans E103.1 E105.1) (Keep.of_wr W107).1) p120_0.1) E130.1) E132.1) (Keep.of_wr W134).1) (Keep.of_wr W139).1) p150_0.1) E161.1) E163.1) (Keep.of_wr W165).1) (Keep.of_wr W170).1) (Keep.of_wr W173).1) p184_0.1)) hZ101 hown101 (CHr.refl ch190.1)
        · refine FinH.by (fun tt_ kk_ => XS.ifNo X290.here hx rfl (hb hby at_167) rfl ((if0 _ _).trans (feq ho1).1) kk_) ?_
          refine FinH.by (fun tt_ kk_ => XS.iconst X290.here hx rfl (hb hby at_170) (XS.goto X290.here hx rfl (pc0 := 171) (pc' := 175) rfl (hb hby at_171) (by decide) (by decide) (XS.istore X290.here hx rfl (hb hby at_175) rfl (l' := #[.val (.int p1), .val (.int p2), .val (.int p3), .val (.int p4), .val (.int 2), .val (.int (p1.toUInt32.toUInt16.toUInt32.toInt32)), .val (.int (p2.toUInt32.toUInt16.toUInt32.toInt32)), .val (.int (p3.toUInt32.toUInt16.toUInt32.toInt32)), .val (.ref a101), .val (.ref a103), .val (.ref a130), .val (.ref a161), .val (.ref a130), .val (.int 1), .unset, .unset]) rfl (XS.goto X290.here hx rfl (pc0 := 177) (pc' := 211) rfl (hb hby at_177) (by decide) (by decide) (XS.aload X290.here hx rfl (hb hby at_211) rfl rfl kk_))))) ?_
          have E303 : Exa Z T184.heap a130 "java/lang/String" := ((((((p150_2.ext E161).ext E163).wr W165).wr W170).wr W173).keep p184_0)
          have lt305 : a130 < h161.size := Nat.lt_of_lt_of_le A130.lt (Nat.le_trans (Nat.le_trans (Nat.le_trans (Nat.le_trans E132.1 (Keep.of_wr W134).1) (Keep.of_wr W139).1) p150_0.1) E161.1)
          have ne304 : a130 ≠ a163 := Nat.ne_of_lt (Nat.lt_of_lt_of_le lt305 (Nat.le_of_eq g163.symm))
          have ne306 : a130 ≠ a161 := Nat.ne_of_lt (Nat.lt_of_lt_of_le (Nat.lt_of_lt_of_le A130.lt (Nat.le_trans (Nat.le_trans (Nat.le_trans E132.1 (Keep.of_wr W134).1) (Keep.of_wr W139).1) p150_0.1)) (Nat.le_of_eq g161.symm))
          have F307 : Fld Z T184.heap a130 "java/lang/String" "value" "[B" (.ref t151) := ((((((p150_3.ext E161).ext E163).other W165 (Or.inl ne304)).other W170 (Or.inl ne304)).other W173 (Or.inl ne304)).keep p184_0 (ninS ne306 nin0))
          have F308 : Fld Z T184.heap a130 "java/lang/String" "coder" "B" (.int cd153) := ((((((p150_4.ext E161).ext E163).other W165 (Or.inl ne304)).other W170 (Or.inl ne304)).other W173 (Or.inl ne304)).keep p184_0 (ninS ne306 nin0))
          have lt310 : t151 < h161.size := Nat.lt_of_lt_of_le p150_5.lt E161.1
          have ne309 : t151 ≠ a163 := Nat.ne_of_lt (Nat.lt_of_lt_of_le lt310 (Nat.le_of_eq g163.symm))
          have ne311 : t151 ≠ a161 := Nat.ne_of_lt (Nat.lt_of_lt_of_le (Nat.lt_of_lt_of_le p150_5.lt (Nat.le_refl _)) (Nat.le_of_eq g161.symm))
          have A312 : Arv Z T184.heap t151 k152 .byte N154 vs155 (.int (0 : Int32)) := ((((((p150_5.ext E161).ext E163).other W165 ne309).other W170 ne309).other W173 ne309).keep p184_0 (ninS ne311 nin0))
          have O313 : Old Z n0 T184.heap := (O182.keep p184_0 (allS g180 all0))
          obtain ⟨v314, _, ⟨T314, L314, k314, n314⟩, -, X314, ⟨Lc314, hQ314, l314, y314, z314⟩, st314⟩ := Jvm.LawKit.callS X290 hx (y := y_20) hown101 (mvT hZ101 (w_ hw 37 rfl)) (mvT hZ101 (w_ hw 38 rfl)) (mvT hZ101 (w_ hw 39 rfl)) (mvT hZ101 (w_ hw 40 rfl)) (by decide) (backOf (W := 0) (rm_val l Z a0 hw [] a130 t151 k152 N154 (vs155 : List Value) cd153 ([(nar .char (p1.toUInt32.toUInt16.toUInt32.toInt32)), (nar .char (p2.toUInt32.toUInt16.toUInt32.toInt32))] : List Int32) G1 G9 T184.heap n0 z276 p150_6 (own_cons (own_nb _) (own_cons (own_nb _) own_nil)) (Nat.le_of_ble_eq_true rfl) E303 F307 F308 A312 S1 P1 S6 S7 S8 S9 r9 O313) hZ101 (w_ hw 40 rfl) (w_ hw 39 rfl) (by decide) (by decide)) (g := (mkF m 213 #[.val (.int p1), .val (.int p2), .val (.int p3), .val (.int p4), .val (.int 2), .val (.int (p1.toUInt32.toUInt16.toUInt32.toInt32)), .val (.int (p2.toUInt32.toUInt16.toUInt32.toInt32)), .val (.int (p3.toUInt32.toUInt16.toUInt32.toInt32)), .val (.ref a101), .val (.ref a103), .val (.ref a130), .val (.ref a161), .val (.ref a130), .val (.int 1), .unset, .unset] [(.ref a130)])) rfl (by rw [hml]; rfl) (argsL := [(.ref a130)]) (rest := []) (lenOf pd_366 rfl) rfl (by show 2 * 0 + _ ≤ _; exact Nat.le_of_eq rfl) (hb hby at_213) (fun _ _ => ⟨rfl, e290, (by decide : 14 + 0 ≤ _), (by decide : 40 + 0 ≤ _)⟩)
          dsimp only [Pt.U, Pt.locs, Pt.cells, Pt.slots] at X314 l314 y314 z314 st314 hQ314
          subst l314 y314 z314
          obtain ⟨rfl, Nq314, e314_⟩ := hQ314
          have N314_ := Fr.app N290_ Nq314
          refine FinH.by (fun tt_ kk_ => st314 tt_ kk_) ?_
          have e314 := e314_
          refine FinH.by (fun tt_ kk_ => XS.iload X314.here hx rfl (hb hby at_216) rfl kk_) ?_
          show FinH _ _ _ _ _ _ _ _ _ (T314.setTop (mkF m 218 #[.val (.int p1), .val (.int p2), .val (.int p3), .val (.int p4), .val (.int 2), .val (.int (p1.toUInt32.toUInt16.toUInt32.toInt32)), .val (.int (p2.toUInt32.toUInt16.toUInt32.toInt32)), .val (.int (p3.toUInt32.toUInt16.toUInt32.toInt32)), .val (.ref a101), .val (.ref a103), .val (.ref a130), .val (.ref a161), .val (.ref a130), .val (.int 1), .unset, .unset] [(.int 1), (.int (nar .boolean (own_valid ([(nar .char (p1.toUInt32.toUInt16.toUInt32.toInt32)), (nar .char (p2.toUInt32.toUInt16.toUInt32.toInt32))] : List Int32))))]))
          refine FinH.by (fun tt_ kk_ => XS.icmpNo X314.here hx rfl (hb hby at_218) rfl (teq (by rw [own_val2, own_nc, own_nc, own_bnz ho0, own_bnz ho1]; decide : (nar .boolean (own_valid ([(nar .char (p1.toUInt32.toUInt16.toUInt32.toInt32)), (nar .char (p2.toUInt32.toUInt16.toUInt32.toInt32))] : List Int32))) = (1 : Int32))).2 kk_) ?_
          refine FinH.by (fun tt_ kk_ => XS.iconst X314.here hx rfl (hb hby at_221) (XS.goto X314.here hx rfl (pc0 := 222) (pc' := 226) rfl (hb hby at_222) (by decide) (by decide) (XS.istore X314.here hx rfl (hb hby at_226) rfl (l' := #[.val (.int p1), .val (.int p2), .val (.int p3), .val (.int p4), .val (.int 2), .val (.int (p1.toUInt32.toUInt16.toUInt32.toInt32)), .val (.int (p2.toUInt32.toUInt16.toUInt32.toInt32)), .val (.int (p3.toUInt32.toUInt16.toUInt32.toInt32)), .val (.ref a101), .val (.ref a103), .val (.ref a130), .val (.ref a161), .val (.ref a130), .val (.int 1), .val (.int 1), .unset]) rfl kk_))) ?_
          show FinH _ _ _ _ _ _ _ _ _ (T314.setTop (mkF m 228 #[.val (.int p1), .val (.int p2), .val (.int p3), .val (.int p4), .val (.int 2), .val (.int (p1.toUInt32.toUInt16.toUInt32.toInt32)), .val (.int (p2.toUInt32.toUInt16.toUInt32.toInt32)), .val (.int (p3.toUInt32.toUInt16.toUInt32.toInt32)), .val (.ref a101), .val (.ref a103), .val (.ref a130), .val (.ref a161), .val (.ref a130), .val (.int 1), .val (.int 1), .unset] []))
          exact J228 T314 T184.heap _ T101.vm _ (2 : Int32) a130 (1 : Int32) X314 e314 N314_ (Keep.refl T184.heap []) hS101 (Nat.le_trans hk101 (Nat.le_trans (Nat.le_trans (Nat.le_trans (Nat.le_trans (Nat.le_trans (Nat.le_trans (Nat.le_trans (Nat.le_trans (Nat.le_trans (Nat.le_trans (Nat.le_trans (Nat.le_trans (Nat.le_trans (Nat.le_trans E103.1 E105.1) (Keep.of_wr W107).1) p120_0.1) E130.1) E132.1) (Keep.of_wr W134).1) (Keep.of_wr W139).1) p150_0.1) E161.1) E163.1) (Keep.of_wr W165).1) (Keep.of_wr W170).1) (Keep.of_wr W173).1) p184_0.1)) hZ101 hown101 (CHr.refl ch190.1)
    · refine FinH.by (fun tt_ kk_ => XS.iload X184.here hx rfl (hb hby at_91) rfl (XS.iconst X184.here hx rfl (hb hby at_93) kk_)) ?_
      show FinH _ _ _ _ _ _ _ _ _ (T184.setTop (mkF m 94 #[.val (.int p1), .val (.int p2), .val (.int p3), .val (.int p4), .val (.int 3), .val (.int (p1.toUInt32.toUInt16.toUInt32.toInt32)), .val (.int (p2.toUInt32.toUInt16.toUInt32.toInt32)), .val (.int (p3.toUInt32.toUInt16.toUInt32.toInt32)), .val (.ref a101), .val (.ref a103), .val (.ref a130), .val (.ref a161), .val (.ref a101), .unset, .unset, .unset] [(.int 1), (.int 3)]))
      refine FinH.by (fun tt_ kk_ => XS.icmpYes X184.here hx rfl (pc0 := 94) (pc' := 101) rfl (hb hby at_94) rfl (feq (by decide : ¬ (3 : Int32) = (1 : Int32))).2 (by decide) (by decide) kk_) ?_
      refine FinH.by (fun tt_ kk_ => XS.iload X184.here hx rfl (hb hby at_101) rfl (XS.iconst X184.here hx rfl (hb hby at_103) kk_)) ?_
      show FinH _ _ _ _ _ _ _ _ _ (T184.setTop (mkF m 104 #[.val (.int p1), .val (.int p2), .val (.int p3), .val (.int p4), .val (.int 3), .val (.int (p1.toUInt32.toUInt16.toUInt32.toInt32)), .val (.int (p2.toUInt32.toUInt16.toUInt32.toInt32)), .val (.int (p3.toUInt32.toUInt16.toUInt32.toInt32)), .val (.ref a101), .val (.ref a103), .val (.ref a130), .val (.ref a161), .val (.ref a101), .unset, .unset, .unset] [(.int 2), (.int 3)]))
      refine FinH.by (fun tt_ kk_ => XS.icmpYes X184.here hx rfl (pc0 := 104) (pc' := 111) rfl (hb hby at_104) rfl (feq (by decide : ¬ (3 : Int32) = (2 : Int32))).2 (by decide) (by decide) kk_) ?_
      refine FinH.by (fun tt_ kk_ => XS.iload X184.here hx rfl (hb hby at_111) rfl (XS.iconst X184.here hx rfl (hb hby at_113) kk_)) ?_
      show FinH _ _ _ _ _ _ _ _ _ (T184.setTop (mkF m 114 #[.val (.int p1), .val (.int p2), .val (.int p3), .val (.int p4), .val (.int 3), .val (.int (p1.toUInt32.toUInt16.toUInt32.toInt32)), .val (.int (p2.toUInt32.toUInt16.toUInt32.toInt32)), .val (.int (p3.toUInt32.toUInt16.toUInt32.toInt32)), .val (.ref a101), .val (.ref a103), .val (.ref a130), .val (.ref a161), .val (.ref a101), .unset, .unset, .unset] [(.int 3), (.int 3)]))
      refine FinH.by (fun tt_ kk_ => XS.icmpNo X184.here hx rfl (hb hby at_114) rfl (teq (by decide : (3 : Int32) = (3 : Int32))).2 kk_) ?_
      refine FinH.by (fun tt_ kk_ => XS.aload X184.here hx rfl (hb hby at_117) rfl rfl (XS.astore X184.here hx rfl (hb hby at_119) rfl rfl (l' := #[.val (.int p1), .val (.int p2), .val (.int p3), .val (.int p4), .val (.int 3), .val (.int (p1.toUInt32.toUInt16.toUInt32.toInt32)), .val (.int (p2.toUInt32.toUInt16.toUInt32.toInt32)), .val (.int (p3.toUInt32.toUInt16.toUInt32.toInt32)), .val (.ref a101), .val (.ref a103), .val (.ref a130), .val (.ref a161), .val (.ref a161), .unset, .unset, .unset]) rfl (XS.iload X184.here hx rfl (hb hby at_121) rfl kk_))) ?_
      show FinH _ _ _ _ _ _ _ _ _ (T184.setTop (mkF m 123 #[.val (.int p1), .val (.int p2), .val (.int p3), .val (.int p4), .val (.int 3), .val (.int (p1.toUInt32.toUInt16.toUInt32.toInt32)), .val (.int (p2.toUInt32.toUInt16.toUInt32.toInt32)), .val (.int (p3.toUInt32.toUInt16.toUInt32.toInt32)), .val (.ref a101), .val (.ref a103), .val (.ref a130), .val (.ref a161), .val (.ref a161), .unset, .unset, .unset] [(.int 3)]))
      refine FinH.by (fun tt_ kk_ => XS.ifYes X184.here hx rfl (pc0 := 123) (pc' := 132) rfl (hb hby at_123) rfl ((if0 _ _).trans (feq (by decide : ¬ (3 : Int32) = (0 : Int32))).2) (by decide) (by decide) kk_) ?_
      refine FinH.by (fun tt_ kk_ => XS.iload X184.here hx rfl (hb hby at_132) rfl (XS.iconst X184.here hx rfl (hb hby at_134) kk_)) ?_
      show FinH _ _ _ _ _ _ _ _ _ (T184.setTop (mkF m 135 #[.val (.int p1), .val (.int p2), .val (.int p3), .val (.int p4), .val (.int 3), .val (.int (p1.toUInt32.toUInt16.toUInt32.toInt32)), .val (.int (p2.toUInt32.toUInt16.toUInt32.toInt32)), .val (.int (p3.toUInt32.toUInt16.toUInt32.toInt32)), .val (.ref a101), .val (.ref a103), .val (.ref a130), .val (.ref a161), .val (.ref a161), .unset, .unset, .unset] [(.int 1), (.int 3)]))
      refine FinH.by (fun tt_ kk_ => XS.icmpYes X184.here hx rfl (pc0 := 135) (pc' := 148) rfl (hb hby at_135) rfl (feq (by decide : ¬ (3 : Int32) = (1 : Int32))).2 (by decide) (by decide) kk_) ?_
      refine FinH.by (fun tt_ kk_ => XS.iload X184.here hx rfl (hb hby at_148) rfl (XS.iconst X184.here hx rfl (hb hby at_150) kk_)) ?_
      show FinH _ _ _ _ _ _ _ _ _ (T184.setTop (mkF m 151 #[.val (.int p1), .val (.int p2), .val (.int p3), .val (.int p4), .val (.int 3), .val (.int (p1.toUInt32.toUInt16.toUInt32.toInt32)), .val (.int (p2.toUInt32.toUInt16.toUInt32.toInt32)), .val (.int (p3.toUInt32.toUInt16.toUInt32.toInt32)), .val (.ref a101), .val (.ref a103), .val (.ref a130), .val (.ref a161), .val (.ref a161), .unset, .unset, .unset] [(.int 2), (.int 3)]))
      refine FinH.by (fun tt_ kk_ => XS.icmpYes X184.here hx rfl (pc0 := 151) (pc' := 180) rfl (hb hby at_151) rfl (feq (by decide : ¬ (3 : Int32) = (2 : Int32))).2 (by decide) (by decide) kk_) ?_
      refine FinH.by (fun tt_ kk_ => XS.iload X184.here hx rfl (hb hby at_180) rfl kk_) ?_
      have z315 : n0 ≤ T184.heap.size := Nat.le_trans z183 p184_0.1
      obtain ⟨v316, _, ⟨T316, L316, k316, n316⟩, -, X316, ⟨Lc316, hQ316, l316, y316, z316⟩, st316⟩ := Jvm.LawKit.callS X184 hx (y := y_21) hown101 (mvT hZ101 (w_ hw 33 rfl)) (mvT hZ101 (w_ hw 34 rfl)) (mvT hZ101 (w_ hw 35 rfl)) (mvT hZ101 (w_ hw 36 rfl)) (by decide) (backOf (W := 0) (rm_okc l Z a0 hw [] (p1.toUInt32.toUInt16.toUInt32.toInt32) T184.heap n0 z315 ) hZ101 (w_ hw 36 rfl) (w_ hw 35 rfl) (by decide) (by decide)) (g := (mkF m 182 #[.val (.int p1), .val (.int p2), .val (.int p3), .val (.int p4), .val (.int 3), .val (.int (p1.toUInt32.toUInt16.toUInt32.toInt32)), .val (.int (p2.toUInt32.toUInt16.toUInt32.toInt32)), .val (.int (p3.toUInt32.toUInt16.toUInt32.toInt32)), .val (.ref a101), .val (.ref a103), .val (.ref a130), .val (.ref a161), .val (.ref a161), .unset, .unset, .unset] [(.int (p1.toUInt32.toUInt16.toUInt32.toInt32))])) rfl (by rw [hml]; rfl) (argsL := [(.int (p1.toUInt32.toUInt16.toUInt32.toInt32))]) (rest := []) (lenOf pd_367 rfl) rfl (by show 2 * 0 + _ ≤ _; exact Nat.le_of_eq rfl) (hb hby at_182) (fun _ _ => ⟨rfl, rfl, (by decide : 14 + 0 ≤ _), (by decide : 40 + 0 ≤ _)⟩)
      dsimp only [Pt.U, Pt.locs, Pt.cells, Pt.slots] at X316 l316 y316 z316 st316 hQ316
      subst l316 y316 z316
      obtain ⟨rfl, Nq316, e316_⟩ := hQ316
      have N316_ := Fr.app N184_ Nq316
      refine FinH.by (fun tt_ kk_ => st316 tt_ kk_) ?_
      have e316 := e316_
      show FinH _ _ _ _ _ _ _ _ _ (T316.setTop (mkF m 185 #[.val (.int p1), .val (.int p2), .val (.int p3), .val (.int p4), .val (.int 3), .val (.int (p1.toUInt32.toUInt16.toUInt32.toInt32)), .val (.int (p2.toUInt32.toUInt16.toUInt32.toInt32)), .val (.int (p3.toUInt32.toUInt16.toUInt32.toInt32)), .val (.ref a101), .val (.ref a103), .val (.ref a130), .val (.ref a161), .val (.ref a161), .unset, .unset, .unset] [(.int (nar .boolean (own_bi (own_ok (p1.toUInt32.toUInt16.toUInt32.toInt32)))))]))
      by_cases ho0 : (nar .boolean (own_bi (own_ok (p1.toUInt32.toUInt16.toUInt32.toInt32)))) = (0 : Int32)
      · refine FinH.by (fun tt_ kk_ => XS.ifYes X316.here hx rfl (pc0 := 185) (pc' := 208) rfl (hb hby at_185) rfl ((if0 _ _).trans (teq ho0).1) (by decide) (by decide) kk_) ?_
        refine FinH.by (fun tt_ kk_ => XS.iconst X316.here hx rfl (hb hby at_208) (XS.istore X316.here hx rfl (hb hby at_209) rfl (l' := #[.val (.int p1), .val (.int p2), .val (.int p3), .val (.int p4), .val (.int 3), .val (.int (p1.toUInt32.toUInt16.toUInt32.toInt32)), .val (.int (p2.toUInt32.toUInt16.toUInt32.toInt32)), .val (.int (p3.toUInt32.toUInt16.toUInt32.toInt32)), .val (.ref a101), .val (.ref a103), .val (.ref a130), .val (.ref a161), .val (.ref a161), .val (.int 0), .unset, .unset]) rfl (XS.aload X316.here hx rfl (hb hby at_211) rfl rfl kk_))) ?_
        have O317 : Old Z n0 T184.heap := (O182.keep p184_0 (allS g180 all0))
        obtain ⟨v318, _, ⟨T318, L318, k318, n318⟩, -, X318, ⟨Lc318, hQ318, l318, y318, z318⟩, st318⟩ := Jvm.LawKit.callS X316 hx (y := y_20) hown101 (mvT hZ101 (w_ hw 37 rfl)) (mvT hZ101 (w_ hw 38 rfl)) (mvT hZ101 (w_ hw 39 rfl)) (mvT hZ101 (w_ hw 40 rfl)) (by decide) (backOf (W := 0) (rm_val l Z a0 hw [] a161 t185 k186 N188 (vs189 : List Value) cd187 ([(nar .char (p1.toUInt32.toUInt16.toUInt32.toInt32)), (nar .char (p2.toUInt32.toUInt16.toUInt32.toInt32)), (nar .char (p3.toUInt32.toUInt16.toUInt32.toInt32))] : List Int32) G1 G9 T184.heap n0 z315 p184_6 (own_cons (own_nb _) (own_cons (own_nb _) (own_cons (own_nb _) own_nil))) (Nat.le_of_ble_eq_true rfl) p184_2 p184_3 p184_4 p184_5 S1 P1 S6 S7 S8 S9 r9 O317) hZ101 (w_ hw 40 rfl) (w_ hw 39 rfl) (by decide) (by decide)) (g := (mkF m 213 #[.val (.int p1), .val (.int p2), .val (.int p3), .val (.int p4), .val (.int 3), .val (.int (p1.toUInt32.toUInt16.toUInt32.toInt32)), .val (.int (p2.toUInt32.toUInt16.toUInt32.toInt32)), .val (.int (p3.toUInt32.toUInt16.toUInt32.toInt32)), .val (.ref a101), .val (.ref a103), .val (.ref a130), .val (.ref a161), .val (.ref a161), .val (.int 0), .unset, .unset] [(.ref a161)])) rfl (by rw [hml]; rfl) (argsL := [(.ref a161)]) (rest := []) (lenOf pd_366 rfl) rfl (by show 2 * 0 + _ ≤ _; exact Nat.le_of_eq rfl) (hb hby at_213) (fun _ _ => ⟨rfl, e316, (by decide : 14 + 0 ≤ _), (by decide : 40 + 0 ≤ _)⟩)
        dsimp only [Pt.U, Pt.locs, Pt.cells, Pt.slots] at X318 l318 y318 z318 st318 hQ318
        subst l318 y318 z318
        obtain ⟨rfl, Nq318, e318_⟩ := hQ318
        have N318_ := Fr.app N316_ Nq318
        refine FinH.by (fun tt_ kk_ => st318 tt_ kk_) ?_
        have e318 := e318_
        refine FinH.by (fun tt_ kk_ => XS.iload X318.here hx rfl (hb hby at_216) rfl kk_) ?_
        show FinH _ _ _ _ _ _ _ _ _ (T318.setTop (mkF m 218 #[.val (.int p1), .val (.int p2), .val (.int p3), .val (.int p4), .val (.int 3), .val (.int (p1.toUInt32.toUInt16.toUInt32.toInt32)), .val (.int (p2.toUInt32.toUInt16.toUInt32.toInt32)), .val (.int (p3.toUInt32.toUInt16.toUInt32.toInt32)), .val (.ref a101), .val (.ref a103), .val (.ref a130), .val (.ref a161), .val (.ref a161), .val (.int 0), .unset, .unset] [(.int 0), (.int (nar .boolean (own_valid ([(nar .char (p1.toUInt32.toUInt16.toUInt32.toInt32)), (nar .char (p2.toUInt32.toUInt16.toUInt32.toInt32)), (nar .char (p3.toUInt32.toUInt16.toUInt32.toInt32))] : List Int32))))]))
        refine FinH.by (fun tt_ kk_ => XS.icmpNo X318.here hx rfl (hb hby at_218) rfl (teq (by rw [own_val3, own_nc, own_nc, own_nc, own_bz ho0]; simp [own_bi]; decide : (nar .boolean (own_valid ([(nar .char (p1.toUInt32.toUInt16.toUInt32.toInt32)), (nar .char (p2.toUInt32.toUInt16.toUInt32.toInt32)), (nar .char (p3.toUInt32.toUInt16.toUInt32.toInt32))] : List Int32))) = (0 : Int32))).2 kk_) ?_
        refine FinH.by (fun tt_ kk_ => XS.iconst X318.here hx rfl (hb hby at_221) (XS.goto X318.here hx rfl (pc0 := 222) (pc' := 226) rfl (hb hby at_222) (by decide) (by decide) (XS.istore X318.here hx rfl (hb hby at_226) rfl (l' := #[.val (.int p1), .val (.int p2), .val (.int p3), .val (.int p4), .val (.int 3), .val (.int (p1.toUInt32.toUInt16.toUInt32.toInt32)), .val (.int (p2.toUInt32.toUInt16.toUInt32.toInt32)), .val (.int (p3.toUInt32.toUInt16.toUInt32.toInt32)), .val (.ref a101), .val (.ref a103), .val (.ref a130), .val (.ref a161), .val (.ref a161), .val (.int 0), .val (.int 1), .unset]) rfl kk_))) ?_
        show FinH _ _ _ _ _ _ _ _ _ (T318.setTop (mkF m 228 #[.val (.int p1), .val (.int p2), .val (.int p3), .val (.int p4), .val (.int 3), .val (.int (p1.toUInt32.toUInt16.toUInt32.toInt32)), .val (.int (p2.toUInt32.toUInt16.toUInt32.toInt32)), .val (.int (p3.toUInt32.toUInt16.toUInt32.toInt32)), .val (.ref a101), .val (.ref a103), .val (.ref a130), .val (.ref a161), .val (.ref a161), .val (.int 0), .val (.int 1), .unset] []))
        exact J228 T318 T184.heap _ T101.vm _ (3 : Int32) a161 (0 : Int32) X318 e318 N318_ (Keep.refl T184.heap []) hS101 (Nat.le_trans hk101 (Nat.le_trans (Nat.le_trans (Nat.le_trans (Nat.le_trans (Nat.le_trans (Nat.le_trans (Nat.le_trans (Nat.le_trans (Nat.le_trans (Nat.le_trans (Nat.le_trans (Nat.le_trans (Nat.le_trans (Nat.le_trans E103.1 E105.1) (Keep.of_wr W107).1) p120_0.1) E130.1) E132.1) (Keep.of_wr W134).1) (Keep.of_wr W139).1) p150_0.1) E161.1) E163.1) (Keep.of_wr W165).1) (Keep.of_wr W170).1) (Keep.of_wr W173).1) p184_0.1)) hZ101 hown101 (CHr.refl ch190.1)
      · refine FinH.by (fun tt_ kk_ => XS.ifNo X316.here hx rfl (hb hby at_185) rfl ((if0 _ _).trans (feq ho0).1) kk_) ?_
        refine FinH.by (fun tt_ kk_ => XS.iload X316.here hx rfl (hb hby at_188) rfl kk_) ?_
        obtain ⟨v319, _, ⟨T319, L319, k319, n319⟩, -, X319, ⟨Lc319, hQ319, l319, y319, z319⟩, st319⟩ := Jvm.LawKit.callS X316 hx (y := y_21) hown101 (mvT hZ101 (w_ hw 33 rfl)) (mvT hZ101 (w_ hw 34 rfl)) (mvT hZ101 (w_ hw 35 rfl)) (mvT hZ101 (w_ hw 36 rfl)) (by decide) (backOf (W := 0) (rm_okc l Z a0 hw [] (p2.toUInt32.toUInt16.toUInt32.toInt32) T184.heap n0 z315 ) hZ101 (w_ hw 36 rfl) (w_ hw 35 rfl) (by decide) (by decide)) (g := (mkF m 190 #[.val (.int p1), .val (.int p2), .val (.int p3), .val (.int p4), .val (.int 3), .val (.int (p1.toUInt32.toUInt16.toUInt32.toInt32)), .val (.int (p2.toUInt32.toUInt16.toUInt32.toInt32)), .val (.int (p3.toUInt32.toUInt16.toUInt32.toInt32)), .val (.ref a101), .val (.ref a103), .val (.ref a130), .val (.ref a161), .val (.ref a161), .unset, .unset, .unset] [(.int (p2.toUInt32.toUInt16.toUInt32.toInt32))])) rfl (by rw [hml]; rfl) (argsL := [(.int (p2.toUInt32.toUInt16.toUInt32.toInt32))]) (rest := []) (lenOf pd_367 rfl) rfl (by show 2 * 0 + _ ≤ _; exact Nat.le_of_eq rfl) (hb hby at_190) (fun _ _ => ⟨rfl, e316, (by decide : 14 + 0 ≤ _), (by decide : 40 + 0 ≤ _)⟩)
        dsimp only [Pt.U, Pt.locs, Pt.cells, Pt.slots] at X319 l319 y319 z319 st319 hQ319
        subst l319 y319 z319
        obtain ⟨rfl, Nq319, e319_⟩ := hQ319
        have N319_ := Fr.app N316_ Nq319
        refine FinH.by (fun tt_ kk_ => st319 tt_ kk_) ?_
        have e319 := e319_
        show FinH _ _ _ _ _ _ _ _ _ (T319.setTop (mkF m 193 #[.val (.int p1), .val (.int p2), .val (.int p3), .val (.int p4), .val (.int 3), .val (.int (p1.toUInt32.toUInt16.toUInt32.toInt32)), .val (.int (p2.toUInt32.toUInt16.toUInt32.toInt32)), .val (.int (p3.toUInt32.toUInt16.toUInt32.toInt32)), .val (.ref a101), .val (.ref a103), .val (.ref a130), .val (.ref a161), .val (.ref a161), .unset, .unset, .unset] [(.int (nar .boolean (own_bi (own_ok (p2.toUInt32.toUInt16.toUInt32.toInt32)))))]))
        by_cases ho1 : (nar .boolean (own_bi (own_ok (p2.toUInt32.toUInt16.toUInt32.toInt32)))) = (0 : Int32)
        · refine FinH.by (fun tt_ kk_ => XS.ifYes X319.here hx rfl (pc0 := 193) (pc' := 208) rfl (hb hby at_193) rfl ((if0 _ _).trans (teq ho1).1) (by decide) (by decide) kk_) ?_
          refine FinH.by (fun tt_ kk_ => XS.iconst X319.here hx rfl (hb hby at_208) (XS.istore X319.here hx rfl (hb hby at_209) rfl (l' := #[.val (.int p1), .val (.int p2), .val (.int p3), .val (.int p4), .val (.int 3), .val (.int (p1.toUInt32.toUInt16.toUInt32.toInt32)), .val (.int (p2.toUInt32.toUInt16.toUInt32.toInt32)), .val (.int (p3.toUInt32.toUInt16.toUInt32.toInt32)), .val (.ref a101), .val (.ref a103), .val (.ref a130), .val (.ref a161), .val (.ref a161), .val (.int 0), .unset, .unset]) rfl (XS.aload X319.here hx rfl (hb hby at_211) rfl rfl kk_))) ?_
          have O320 : Old Z n0 T184.heap := (O182.keep p184_0 (allS g180 all0))
          obtain ⟨v321, _, ⟨T321, L321, k321, n321⟩, -, X321, ⟨Lc321, hQ321, l321, y321, z321⟩, st321⟩ := Jvm.LawKit.callS X319 hx (y := y_20) hown101 (mvT hZ101 (w_ hw 37 rfl)) (mvT hZ101 (w_ hw 38 rfl)) (mvT hZ101 (w_ hw 39 rfl)) (mvT hZ101 (w_ hw 40 rfl)) (by decide) (backOf (W := 0) (rm_val l Z a0 hw [] a161 t185 k186 N188 (vs189 : List Value) cd187 ([(nar .char (p1.toUInt32.toUInt16.toUInt32.toInt32)), (nar .char (p2.toUInt32.toUInt16.toUInt32.toInt32)), (nar .char (p3.toUInt32.toUInt16.toUInt32.toInt32))] : List Int32) G1 G9 T184.heap n0 z315 p184_6 (own_cons (own_nb _) (own_cons (own_nb _) (own_cons (own_nb _) own_nil))) (Nat.le_of_ble_eq_true rfl) p184_2 p184_3 p184_4 p184_5 S1 P1 S6 S7 S8 S9 r9 O320) hZ101 (w_ hw 40 rfl) (w_ hw 39 rfl) (by decide) (by decide)) (g := (mkF m 213 #[.val (.int p1), .val (.int p2), .val (.int p3), .val (.int p4), .val (.int 3), .val (.int (p1.toUInt32.toUInt16.toUInt32.toInt32)), .val (.int (p2.toUInt32.toUInt16.toUInt32.toInt32)), .val (.int (p3.toUInt32.toUInt16.toUInt32.toInt32)), .val (.ref a101), .val (.ref a103), .val (.ref a130), .val (.ref a161), .val (.ref a161), .val (.int 0), .unset, .unset] [(.ref a161)])) rfl (by rw [hml]; rfl) (argsL := [(.ref a161)]) (rest := []) (lenOf pd_366 rfl) rfl (by show 2 * 0 + _ ≤ _; exact Nat.le_of_eq rfl) (hb hby at_213) (fun _ _ => ⟨rfl, e319, (by decide : 14 + 0 ≤ _), (by decide : 40 + 0 ≤ _)⟩)
          dsimp only [Pt.U, Pt.locs, Pt.cells, Pt.slots] at X321 l321 y321 z321 st321 hQ321
          subst l321 y321 z321
          obtain ⟨rfl, Nq321, e321_⟩ := hQ321
          have N321_ := Fr.app N319_ Nq321
          refine FinH.by (fun tt_ kk_ => st321 tt_ kk_) ?_
          have e321 := e321_
          refine FinH.by (fun tt_ kk_ => XS.iload X321.here hx rfl (hb hby at_216) rfl kk_) ?_
          show FinH _ _ _ _ _ _ _ _ _ (T321.setTop (mkF m 218 #[.val (.int p1), .val (.int p2), .val (.int p3), .val (.int p4), .val (.int 3), .val (.int (p1.toUInt32.toUInt16.toUInt32.toInt32)), .val (.int (p2.toUInt32.toUInt16.toUInt32.toInt32)), .val (.int (p3.toUInt32.toUInt16.toUInt32.toInt32)), .val (.ref a101), .val (.ref a103), .val (.ref a130), .val (.ref a161), .val (.ref a161), .val (.int 0), .unset, .unset] [(.int 0), (.int (nar .boolean (own_valid ([(nar .char (p1.toUInt32.toUInt16.toUInt32.toInt32)), (nar .char (p2.toUInt32.toUInt16.toUInt32.toInt32)), (nar .char (p3.toUInt32.toUInt16.toUInt32.toInt32))] : List Int32))))]))
          refine FinH.by (fun tt_ kk_ => XS.icmpNo X321.here hx rfl (hb hby at_218) rfl (teq (by rw [own_val3, own_nc, own_nc, own_nc, own_bnz ho0, own_bz ho1]; simp [own_bi]; decide : (nar .boolean (own_valid ([(nar .char (p1.toUInt32.toUInt16.toUInt32.toInt32)), (nar .char (p2.toUInt32.toUInt16.toUInt32.toInt32)), (nar .char (p3.toUInt32.toUInt16.toUInt32.toInt32))] : List Int32))) = (0 : Int32))).2 kk_) ?_
          refine FinH.by (fun tt_ kk_ => XS.iconst X321.here hx rfl (hb hby at_221) (XS.goto X321.here hx rfl (pc0 := 222) (pc' := 226) rfl (hb hby at_222) (by decide) (by decide) (XS.istore X321.here hx rfl (hb hby at_226) rfl (l' := #[.val (.int p1), .val (.int p2), .val (.int p3), .val (.int p4), .val (.int 3), .val (.int (p1.toUInt32.toUInt16.toUInt32.toInt32)), .val (.int (p2.toUInt32.toUInt16.toUInt32.toInt32)), .val (.int (p3.toUInt32.toUInt16.toUInt32.toInt32)), .val (.ref a101), .val (.ref a103), .val (.ref a130), .val (.ref a161), .val (.ref a161), .val (.int 0), .val (.int 1), .unset]) rfl kk_))) ?_
          show FinH _ _ _ _ _ _ _ _ _ (T321.setTop (mkF m 228 #[.val (.int p1), .val (.int p2), .val (.int p3), .val (.int p4), .val (.int 3), .val (.int (p1.toUInt32.toUInt16.toUInt32.toInt32)), .val (.int (p2.toUInt32.toUInt16.toUInt32.toInt32)), .val (.int (p3.toUInt32.toUInt16.toUInt32.toInt32)), .val (.ref a101), .val (.ref a103), .val (.ref a130), .val (.ref a161), .val (.ref a161), .val (.int 0), .val (.int 1), .unset] []))
          exact J228 T321 T184.heap _ T101.vm _ (3 : Int32) a161 (0 : Int32) X321 e321 N321_ (Keep.refl T184.heap []) hS101 (Nat.le_trans hk101 (Nat.le_trans (Nat.le_trans (Nat.le_trans (Nat.le_trans (Nat.le_trans (Nat.le_trans (Nat.le_trans (Nat.le_trans (Nat.le_trans (Nat.le_trans (Nat.le_trans (Nat.le_trans (Nat.le_trans (Nat.le_trans E103.1 E105.1) (Keep.of_wr W107).1) p120_0.1) E130.1) E132.1) (Keep.of_wr W134).1) (Keep.of_wr W139).1) p150_0.1) E161.1) E163.1) (Keep.of_wr W165).1) (Keep.of_wr W170).1) (Keep.of_wr W173).1) p184_0.1)) hZ101 hown101 (CHr.refl ch190.1)
        · refine FinH.by (fun tt_ kk_ => XS.ifNo X319.here hx rfl (hb hby at_193) rfl ((if0 _ _).trans (feq ho1).1) kk_) ?_
          refine FinH.by (fun tt_ kk_ => XS.iload X319.here hx rfl (hb hby at_196) rfl kk_) ?_
          obtain ⟨v322, _, ⟨T322, L322, k322, n322⟩, -, X322, ⟨Lc322, hQ322, l322, y322, z322⟩, st322⟩ := Jvm.LawKit.callS X319 hx (y := y_21) hown101 (mvT hZ101 (w_ hw 33 rfl)) (mvT hZ101 (w_ hw 34 rfl)) (mvT hZ101 (w_ hw 35 rfl)) (mvT hZ101 (w_ hw 36 rfl)) (by decide) (backOf (W := 0) (rm_okc l Z a0 hw [] (p3.toUInt32.toUInt16.toUInt32.toInt32) T184.heap n0 z315 ) hZ101 (w_ hw 36 rfl) (w_ hw 35 rfl) (by decide) (by decide)) (g := (mkF m 198 #[.val (.int p1), .val (.int p2), .val (.int p3), .val (.int p4), .val (.int 3), .val (.int (p1.toUInt32.toUInt16.toUInt32.toInt32)), .val (.int (p2.toUInt32.toUInt16.toUInt32.toInt32)), .val (.int (p3.toUInt32.toUInt16.toUInt32.toInt32)), .val (.ref a101), .val (.ref a103), .val (.ref a130), .val (.ref a161), .val (.ref a161), .unset, .unset, .unset] [(.int (p3.toUInt32.toUInt16.toUInt32.toInt32))])) rfl (by rw [hml]; rfl) (argsL := [(.int (p3.toUInt32.toUInt16.toUInt32.toInt32))]) (rest := []) (lenOf pd_367 rfl) rfl (by show 2 * 0 + _ ≤ _; exact Nat.le_of_eq rfl) (hb hby at_198) (fun _ _ => ⟨rfl, e319, (by decide : 14 + 0 ≤ _), (by decide : 40 + 0 ≤ _)⟩)
          dsimp only [Pt.U, Pt.locs, Pt.cells, Pt.slots] at X322 l322 y322 z322 st322 hQ322
          subst l322 y322 z322
          obtain ⟨rfl, Nq322, e322_⟩ := hQ322
          have N322_ := Fr.app N319_ Nq322
          refine FinH.by (fun tt_ kk_ => st322 tt_ kk_) ?_
          have e322 := e322_
          show FinH _ _ _ _ _ _ _ _ _ (T322.setTop (mkF m 201 #[.val (.int p1), .val (.int p2), .val (.int p3), .val (.int p4), .val (.int 3), .val (.int (p1.toUInt32.toUInt16.toUInt32.toInt32)), .val (.int (p2.toUInt32.toUInt16.toUInt32.toInt32)), .val (.int (p3.toUInt32.toUInt16.toUInt32.toInt32)), .val (.ref a101), .val (.ref a103), .val (.ref a130), .val (.ref a161), .val (.ref a161), .unset, .unset, .unset] [(.int (nar .boolean (own_bi (own_ok (p3.toUInt32.toUInt16.toUInt32.toInt32)))))]))
          by_cases ho2 : (nar .boolean (own_bi (own_ok (p3.toUInt32.toUInt16.toUInt32.toInt32)))) = (0 : Int32)
          · refine FinH.by (fun tt_ kk_ => XS.ifYes X322.here hx rfl (pc0 := 201) (pc' := 208) rfl (hb hby at_201) rfl ((if0 _ _).trans (teq ho2).1) (by decide) (by decide) kk_) ?_
            refine FinH.by (fun tt_ kk_ => XS.iconst X322.here hx rfl (hb hby at_208) (XS.istore X322.here hx rfl (hb hby at_209) rfl (l' := #[.val (.int p1), .val (.int p2), .val (.int p3), .val (.int p4), .val (.int 3), .val (.int (p1.toUInt32.toUInt16.toUInt32.toInt32)), .val (.int (p2.toUInt32.toUInt16.toUInt32.toInt32)), .val (.int (p3.toUInt32.toUInt16.toUInt32.toInt32)), .val (.ref a101), .val (.ref a103), .val (.ref a130), .val (.ref a161), .val (.ref a161), .val (.int 0), .unset, .unset]) rfl (XS.aload X322.here hx rfl (hb hby at_211) rfl rfl kk_))) ?_
            have O323 : Old Z n0 T184.heap := (O182.keep p184_0 (allS g180 all0))
            obtain ⟨v324, _, ⟨T324, L324, k324, n324⟩, -, X324, ⟨Lc324, hQ324, l324, y324, z324⟩, st324⟩ := Jvm.LawKit.callS X322 hx (y := y_20) hown101 (mvT hZ101 (w_ hw 37 rfl)) (mvT hZ101 (w_ hw 38 rfl)) (mvT hZ101 (w_ hw 39 rfl)) (mvT hZ101 (w_ hw 40 rfl)) (by decide) (backOf (W := 0) (rm_val l Z a0 hw [] a161 t185 k186 N188 (vs189 : List Value) cd187 ([(nar .char (p1.toUInt32.toUInt16.toUInt32.toInt32)), (nar .char (p2.toUInt32.toUInt16.toUInt32.toInt32)), (nar .char (p3.toUInt32.toUInt16.toUInt32.toInt32))] : List Int32) G1 G9 T184.heap n0 z315 p184_6 (own_cons (own_nb _) (own_cons (own_nb _) (own_cons (own_nb _) own_nil))) (Nat.le_of_ble_eq_true rfl) p184_2 p184_3 p184_4 p184_5 S1 P1 S6 S7 S8 S9 r9 O323) hZ101 (w_ hw 40 rfl) (w_ hw 39 rfl) (by decide) (by decide)) (g := (mkF m 213 #[.val (.int p1), .val (.int p2), .val (.int p3), .val (.int p4), .val (.int 3), .val (.int (p1.toUInt32.toUInt16.toUInt32.toInt32)), .val (.int (p2.toUInt32.toUInt16.toUInt32.toInt32)), .val (.int (p3.toUInt32.toUInt16.toUInt32.toInt32)), .val (.ref a101), .val (.ref a103), .val (.ref a130), .val (.ref a161), .val (.ref a161), .val (.int 0), .unset, .unset] [(.ref a161)])) rfl (by rw [hml]; rfl) (argsL := [(.ref a161)]) (rest := []) (lenOf pd_366 rfl) rfl (by show 2 * 0 + _ ≤ _; exact Nat.le_of_eq rfl) (hb hby at_213) (fun _ _ => ⟨rfl, e322, (by decide : 14 + 0 ≤ _), (by decide : 40 + 0 ≤ _)⟩)
            dsimp only [Pt.U, Pt.locs, Pt.cells, Pt.slots] at X324 l324 y324 z324 st324 hQ324
            subst l324 y324 z324
            obtain ⟨rfl, Nq324, e324_⟩ := hQ324
            have N324_ := Fr.app N322_ Nq324
            refine FinH.by (fun tt_ kk_ => st324 tt_ kk_) ?_
            have e324 := e324_
            refine FinH.by (fun tt_ kk_ => XS.iload X324.here hx rfl (hb hby at_216) rfl kk_) ?_
            show FinH _ _ _ _ _ _ _ _ _ (T324.setTop (mkF m 218 #[.val (.int p1), .val (.int p2), .val (.int p3), .val (.int p4), .val (.int 3), .val (.int (p1.toUInt32.toUInt16.toUInt32.toInt32)), .val (.int (p2.toUInt32.toUInt16.toUInt32.toInt32)), .val (.int (p3.toUInt32.toUInt16.toUInt32.toInt32)), .val (.ref a101), .val (.ref a103), .val (.ref a130), .val (.ref a161), .val (.ref a161), .val (.int 0), .unset, .unset] [(.int 0), (.int (nar .boolean (own_valid ([(nar .char (p1.toUInt32.toUInt16.toUInt32.toInt32)), (nar .char (p2.toUInt32.toUInt16.toUInt32.toInt32)), (nar .char (p3.toUInt32.toUInt16.toUInt32.toInt32))] : List Int32))))]))
            refine FinH.by (fun tt_ kk_ => XS.icmpNo X324.here hx rfl (hb hby at_218) rfl (teq (by rw [own_val3, own_nc, own_nc, own_nc, own_bnz ho0, own_bnz ho1, own_bz ho2]; decide : (nar .boolean (own_valid ([(nar .char (p1.toUInt32.toUInt16.toUInt32.toInt32)), (nar .char (p2.toUInt32.toUInt16.toUInt32.toInt32)), (nar .char (p3.toUInt32.toUInt16.toUInt32.toInt32))] : List Int32))) = (0 : Int32))).2 kk_) ?_
            refine FinH.by (fun tt_ kk_ => XS.iconst X324.here hx rfl (hb hby at_221) (XS.goto X324.here hx rfl (pc0 := 222) (pc' := 226) rfl (hb hby at_222) (by decide) (by decide) (XS.istore X324.here hx rfl (hb hby at_226) rfl (l' := #[.val (.int p1), .val (.int p2), .val (.int p3), .val (.int p4), .val (.int 3), .val (.int (p1.toUInt32.toUInt16.toUInt32.toInt32)), .val (.int (p2.toUInt32.toUInt16.toUInt32.toInt32)), .val (.int (p3.toUInt32.toUInt16.toUInt32.toInt32)), .val (.ref a101), .val (.ref a103), .val (.ref a130), .val (.ref a161), .val (.ref a161), .val (.int 0), .val (.int 1), .unset]) rfl kk_))) ?_
            show FinH _ _ _ _ _ _ _ _ _ (T324.setTop (mkF m 228 #[.val (.int p1), .val (.int p2), .val (.int p3), .val (.int p4), .val (.int 3), .val (.int (p1.toUInt32.toUInt16.toUInt32.toInt32)), .val (.int (p2.toUInt32.toUInt16.toUInt32.toInt32)), .val (.int (p3.toUInt32.toUInt16.toUInt32.toInt32)), .val (.ref a101), .val (.ref a103), .val (.ref a130), .val (.ref a161), .val (.ref a161), .val (.int 0), .val (.int 1), .unset] []))
            exact J228 T324 T184.heap _ T101.vm _ (3 : Int32) a161 (0 : Int32) X324 e324 N324_ (Keep.refl T184.heap []) hS101 (Nat.le_trans hk101 (Nat.le_trans (Nat.le_trans (Nat.le_trans (Nat.le_trans (Nat.le_trans (Nat.le_trans (Nat.le_trans (Nat.le_trans (Nat.le_trans (Nat.le_trans (Nat.le_trans (Nat.le_trans (Nat.le_trans (Nat.le_trans E103.1 E105.1) (Keep.of_wr W107).1) p120_0.1) E130.1) E132.1) (Keep.of_wr W134).1) (Keep.of_wr W139).1) p150_0.1) E161.1) E163.1) (Keep.of_wr W165).1) (Keep.of_wr W170).1) (Keep.of_wr W173).1) p184_0.1)) hZ101 hown101 (CHr.refl ch190.1)
          · refine FinH.by (fun tt_ kk_ => XS.ifNo X322.here hx rfl (hb hby at_201) rfl ((if0 _ _).trans (feq ho2).1) kk_) ?_
            refine FinH.by (fun tt_ kk_ => XS.iconst X322.here hx rfl (hb hby at_204) (XS.goto X322.here hx rfl (pc0 := 205) (pc' := 209) rfl (hb hby at_205) (by decide) (by decide) (XS.istore X322.here hx rfl (hb hby at_209) rfl (l' := #[.val (.int p1), .val (.int p2), .val (.int p3), .val (.int p4), .val (.int 3), .val (.int (p1.toUInt32.toUInt16.toUInt32.toInt32)), .val (.int (p2.toUInt32.toUInt16.toUInt32.toInt32)), .val (.int (p3.toUInt32.toUInt16.toUInt32.toInt32)), .val (.ref a101), .val (.ref a103), .val (.ref a130), .val (.ref a161), .val (.ref a161), .val (.int 1), .unset, .unset]) rfl (XS.aload X322.here hx rfl (hb hby at_211) rfl rfl kk_)))) ?_
            have O325 : Old Z n0 T184.heap := (O182.keep p184_0 (allS g180 all0))
            obtain ⟨v326, _, ⟨T326, L326, k326, n326⟩, -, X326, ⟨Lc326, hQ326, l326, y326, z326⟩, st326⟩ := Jvm.LawKit.callS X322 hx (y := y_20) hown101 (mvT hZ101 (w_ hw 37 rfl)) (mvT hZ101 (w_ hw 38 rfl)) (mvT hZ101 (w_ hw 39 rfl)) (mvT hZ101 (w_ hw 40 rfl)) (by decide) (backOf (W := 0) (rm_val l Z a0 hw [] a161 t185 k186 N188 (vs189 : List Value) cd187 ([(nar .char (p1.toUInt32.toUInt16.toUInt32.toInt32)), (nar .char (p2.toUInt32.toUInt16.toUInt32.toInt32)), (nar .char (p3.toUInt32.toUInt16.toUInt32.toInt32))] : List Int32) G1 G9 T184.heap n0 z315 p184_6 (own_cons (own_nb _) (own_cons (own_nb _) (own_cons (own_nb _) own_nil))) (Nat.le_of_ble_eq_true rfl) p184_2 p184_3 p184_4 p184_5 S1 P1 S6 S7 S8 S9 r9 O325) hZ101 (w_ hw 40 rfl) (w_ hw 39 rfl) (by decide) (by decide)) (g := (mkF m 213 #[.val (.int p1), .val (.int p2), .val (.int p3), .val (.int p4), .val (.int 3), .val (.int (p1.toUInt32.toUInt16.toUInt32.toInt32)), .val (.int (p2.toUInt32.toUInt16.toUInt32.toInt32)), .val (.int (p3.toUInt32.toUInt16.toUInt32.toInt32)), .val (.ref a101), .val (.ref a103), .val (.ref a130), .val (.ref a161), .val (.ref a161), .val (.int 1), .unset, .unset] [(.ref a161)])) rfl (by rw [hml]; rfl) (argsL := [(.ref a161)]) (rest := []) (lenOf pd_366 rfl) rfl (by show 2 * 0 + _ ≤ _; exact Nat.le_of_eq rfl) (hb hby at_213) (fun _ _ => ⟨rfl, e322, (by decide : 14 + 0 ≤ _), (by decide : 40 + 0 ≤ _)⟩)
            dsimp only [Pt.U, Pt.locs, Pt.cells, Pt.slots] at X326 l326 y326 z326 st326 hQ326
            subst l326 y326 z326
            obtain ⟨rfl, Nq326, e326_⟩ := hQ326
            have N326_ := Fr.app N322_ Nq326
            refine FinH.by (fun tt_ kk_ => st326 tt_ kk_) ?_
            have e326 := e326_
            refine FinH.by (fun tt_ kk_ => XS.iload X326.here hx rfl (hb hby at_216) rfl kk_) ?_
            show FinH _ _ _ _ _ _ _ _ _ (T326.setTop (mkF m 218 #[.val (.int p1), .val (.int p2), .val (.int p3), .val (.int p4), .val (.int 3), .val (.int (p1.toUInt32.toUInt16.toUInt32.toInt32)), .val (.int (p2.toUInt32.toUInt16.toUInt32.toInt32)), .val (.int (p3.toUInt32.toUInt16.toUInt32.toInt32)), .val (.ref a101), .val (.ref a103), .val (.ref a130), .val (.ref a161), .val (.ref a161), .val (.int 1), .unset, .unset] [(.int 1), (.int (nar .boolean (own_valid ([(nar .char (p1.toUInt32.toUInt16.toUInt32.toInt32)), (nar .char (p2.toUInt32.toUInt16.toUInt32.toInt32)), (nar .char (p3.toUInt32.toUInt16.toUInt32.toInt32))] : List Int32))))]))
            refine FinH.by (fun tt_ kk_ => XS.icmpNo X326.here hx rfl (hb hby at_218) rfl (teq (by rw [own_val3, own_nc, own_nc, own_nc, own_bnz ho0, own_bnz ho1, own_bnz ho2]; decide : (nar .boolean (own_valid ([(nar .char (p1.toUInt32.toUInt16.toUInt32.toInt32)), (nar .char (p2.toUInt32.toUInt16.toUInt32.toInt32)), (nar .char (p3.toUInt32.toUInt16.toUInt32.toInt32))] : List Int32))) = (1 : Int32))).2 kk_) ?_
            refine FinH.by (fun tt_ kk_ => XS.iconst X326.here hx rfl (hb hby at_221) (XS.goto X326.here hx rfl (pc0 := 222) (pc' := 226) rfl (hb hby at_222) (by decide) (by decide) (XS.istore X326.here hx rfl (hb hby at_226) rfl (l' := #[.val (.int p1), .val (.int p2), .val (.int p3), .val (.int p4), .val (.int 3), .val (.int (p1.toUInt32.toUInt16.toUInt32.toInt32)), .val (.int (p2.toUInt32.toUInt16.toUInt32.toInt32)), .val (.int (p3.toUInt32.toUInt16.toUInt32.toInt32)), .val (.ref a101), .val (.ref a103), .val (.ref a130), .val (.ref a161), .val (.ref a161), .val (.int 1), .val (.int 1), .unset]) rfl kk_))) ?_
            show FinH _ _ _ _ _ _ _ _ _ (T326.setTop (mkF m 228 #[.val (.int p1), .val (.int p2), .val (.int p3), .val (.int p4), .val (.int 3), .val (.int (p1.toUInt32.toUInt16.toUInt32.toInt32)), .val (.int (p2.toUInt32.toUInt16.toUInt32.toInt32)), .val (.int (p3.toUInt32.toUInt16.toUInt32.toInt32)), .val (.ref a101), .val (.ref a103), .val (.ref a130), .val (.ref a161), .val (.ref a161), .val (.int 1), .val (.int 1), .unset] []))
            exact J228 T326 T184.heap _ T101.vm _ (3 : Int32) a161 (1 : Int32) X326 e326 N326_ (Keep.refl T184.heap []) hS101 (Nat.le_trans hk101 (Nat.le_trans (Nat.le_trans (Nat.le_trans (Nat.le_trans (Nat.le_trans (Nat.le_trans (Nat.le_trans (Nat.le_trans (Nat.le_trans (Nat.le_trans (Nat.le_trans (Nat.le_trans (Nat.le_trans (Nat.le_trans E103.1 E105.1) (Keep.of_wr W107).1) p120_0.1) E130.1) E132.1) (Keep.of_wr W134).1) (Keep.of_wr W139).1) p150_0.1) E161.1) E163.1) (Keep.of_wr W165).1) (Keep.of_wr W170).1) (Keep.of_wr W173).1) p184_0.1)) hZ101 hown101 (CHr.refl ch190.1)
  show FinH _ _ _ _ _ _ _ _ _ (T184.setTop (mkF m 91 #[.val (.int p1), .val (.int p2), .val (.int p3), .val (.int p4), .val (.int (p4 &&& 3)), .val (.int (p1.toUInt32.toUInt16.toUInt32.toInt32)), .val (.int (p2.toUInt32.toUInt16.toUInt32.toInt32)), .val (.int (p3.toUInt32.toUInt16.toUInt32.toInt32)), .val (.ref a101), .val (.ref a103), .val (.ref a130), .val (.ref a161), .val (.ref a101), .unset, .unset, .unset] []))
  exact J91 (p4 &&& (3 : Int32)) (own_and3 _)
set_option maxRecDepth 65536 in
set_option maxHeartbeats 40000000 in
theorem comes_1 {Post : Tables → Env → Array Value → State → Outcome → State → Prop} (hpost : ∀ tb e args s v u, (limb_1_1.after args s (.returned v) u = true ∧ limb_1_2.after args s (.returned v) u = true ∧ True) → ReturnedEndW s (.returned v) u (Jvm.fieldLocs frame_1_writes args s ++ Jvm.arrayLocs frame_1_arrays args s ++ Jvm.staticLocs frame_1_statics s) 40 3264 → Post tb e args s (.returned v) u) :
    ArmFor flags0 classFile x code maxLocals ret World_1 tables_1 room_1 Calls_1 rest_1 Pre_1 Post := by
  intro l hfl _ _ p e ha hc hk s m args below hf hA hF happ hP
  obtain ⟨hcalls, hrest, hpre⟩ := hP
  obtain ⟨-, -, -, hnamed, -, -, -, hat⟩ := (Spec.applies_iff hf).mp happ
  obtain ⟨hg, hn⟩ := and_e (Cond.before_iff.mp (show (Jvm.Cond.and given_1 narrow_1).before args s = true from hpre))
  obtain ⟨q0, r0⟩ := and_e hg
  obtain ⟨q1, r1⟩ := and_e r0
  obtain ⟨q2, r2⟩ := and_e r1
  obtain ⟨q3, r3⟩ := and_e r2
  obtain ⟨w0, w1, w2, w3, rfl⟩ : ∃ w0 w1 w2 w3 : Value, args = #[w0, w1, w2, w3] := by
    have hs : args.size = 4 := by simpa [Cond.value, given_1] using q0
    obtain ⟨L⟩ := args
    match L, hs with
    | [w0, w1, w2, w3], _ => exact ⟨w0, w1, w2, w3, rfl⟩
  have hw := fun d (hd : d ∈ tables_1) => atoms_spec (ws := Jvm.Cond.code x code maxLocals ret :: tables_1) hat d (List.mem_cons_of_mem _ hd)
  obtain ⟨hsets, hown0⟩ := atoms_of _ (rest_1_c_eq ▸ (show rest_1_c.before _ s = true from hrest))
  have hfit : Fit s := fun {y c} hc i hi => by
    obtain ⟨ha, rfl⟩ := Array.getElem?_eq_some_iff.mp hc
    have q := List.all_eq_true.mp ((Array.all_eq_true_iff_forall_mem.mp hF) _ (Array.getElem_mem ha)) i (List.mem_range.mpr hi)
    simpa [Array.getElem?_eq_getElem hi] using q
  obtain ⟨i0, e0⟩ := is_v q1
  obtain rfl : w0 = (.int i0) := Option.some.inj e0
  obtain ⟨i1, e1⟩ := is_v q2
  obtain rfl : w1 = (.int i1) := Option.some.inj e1
  obtain ⟨i2, e2⟩ := is_v q3
  obtain rfl : w2 = (.int i2) := Option.some.inj e2
  obtain ⟨i3, e3⟩ := is_v r3
  obtain rfl : w3 = (.int i3) := Option.some.inj e3
  have nz_cs := not_v (Cond.before_iff.mp (hsets _ (List.mem_of_getElem? (i := 2) rfl)))
  obtain ⟨G1, ee_cs⟩ := is_v (Cond.before_iff.mp (hsets _ (List.mem_of_getElem? (i := 1) rfl)))
  have S1 : Sta s s.heap "java/lang/String" "COMPACT_STRINGS" "Z" (.int G1) := Sta.start ee_cs (Or.inl (hsets _ (List.mem_of_getElem? (i := 0) rfl)))
  have P1 : ¬ (G1 = (0 : Int32)) := gotF (Cond.eq_ints ee_cs (Term.int_eval (0))) nz_cs
  have S6 : Sta s s.heap "java/lang/StringUTF16" "$assertionsDisabled" "Z" (.int (1 : Int32)) := Sta.start (own_eqi (Cond.before_iff.mp (hsets _ (List.mem_of_getElem? (i := 12) rfl)))) (Or.inl (hsets _ (List.mem_of_getElem? (i := 11) rfl)))
  have S7 : Sta s s.heap "java/lang/StringUTF16" "HI_BYTE_SHIFT" "I" (.int (0 : Int32)) := Sta.start (own_eqi (Cond.before_iff.mp (hsets _ (List.mem_of_getElem? (i := 15) rfl)))) (Or.inl (hsets _ (List.mem_of_getElem? (i := 14) rfl)))
  have S8 : Sta s s.heap "java/lang/StringUTF16" "LO_BYTE_SHIFT" "I" (.int (8 : Int32)) := Sta.start (own_eqi (Cond.before_iff.mp (hsets _ (List.mem_of_getElem? (i := 18) rfl)))) (Or.inl (hsets _ (List.mem_of_getElem? (i := 17) rfl)))
  obtain ⟨G9, ee_G9, r9⟩ := isR_v (Cond.before_iff.mp (hsets _ (List.mem_of_getElem? (i := 8) rfl)))
  have S9 : Sta s s.heap "jdk/internal/util/Preconditions" "SIOOBE_FORMATTER" "Ljava/util/function/BiFunction;" G9 := Sta.start ee_G9 (Or.inl (hsets _ (List.mem_of_getElem? (i := 7) rfl)))
  have hC0 : CHv s consts_1 s.vm s.heap := CHv.start (own_EW0 hw) (fun p hp => hcalls.1 p hp) (hsets _ (List.mem_of_getElem? (i := 2) rfl)) (w_ hw 3 rfl) (w_ hw 2 rfl)
  obtain ⟨n, o, h1, h2, h3, _, L, rfl, ⟨rfl, N⟩, -, hq⟩ := rm_law l s _ hw tables_1 i0 i1 i2 i3 G1 G9 s.heap s.heap.size (Nat.le_refl _) S1 P1 S6 S7 S8 S9 r9 (Old.start s) p e ha hc hk s m _ below hf ((Spec.applies_iff_loose hf).mp happ).1 ⟨rfl, State.Warmed39.refl s, rfl, hC0⟩ trivial
  refine ⟨n, _, h1, h2, h3, hpost _ _ _ _ _ _ ⟨Cond.after_iff.mpr rfl, Cond.after_iff.mpr (eq_i res_at (Term.int_eval (1)) rfl), trivial⟩ ⟨hq.1, hq.2.1, hq.2.2.1, (hq.2.2.2.sift fun y hy => Or.inr (N y hy)).mono (by decide) (by decide)⟩⟩
theorem main_1_1 : Claimed_1_1 := comes_1 fun _ _ _ _ _ _ h hF => ⟨h.1, hF⟩
theorem main_1_2 : Claimed_1_2 := comes_1 fun _ _ _ _ _ _ h hF => ⟨h.2.1, hF⟩
end Jvm.Pilot.@@N@@
namespace Jvm.Pilot.@@N@@
open Jvm Jvm.ClassFile Sem Op Lib Jvm.Free Jvm.Stand Jvm.Pilot.@@N@@.Jvm.D
/-! MADE BY PROGRAM (witnessworld.py) out of the Statement's table words and the real class files: 20 classes; the members and pool entries that the words name. The judged class is class 1, her method 2. -/
namespace start1
open Jvm.ClassFile
def u (s : String) : CpInfo := .utf8 (stringToUtf16 s)
/-- a pool by its gaps: so many unusable entries, then the entry; so many at the end -/
def gap : Nat → List CpInfo → List CpInfo
  | 0, r => r
  | n + 1, r => .unusable :: gap n r
def poolList (es : List (Nat × CpInfo)) (last : Nat) : List CpInfo := es.foldr (fun e r => gap e.1 (e.2 :: r)) (gap last [])
def pool (es : List (Nat × CpInfo)) (last : Nat) : Array CpInfo := ⟨poolList es last⟩
def fileOf (pool : Array CpInfo) (this : Nat) (attrs : Array Attribute := #[]) (ms : Array MethodInfo := #[]) (fl : Nat := 33) (sup : Nat := 0) (ifs : Array Nat := #[]) (fds : Array FieldInfo := #[]) : ClassFile where
  minorVersion := 0
  majorVersion := 65
  constantPool := pool
  accessFlags := fl
  thisClass := this
  superClass := sup
  interfaces := ifs
  fields := fds
  methods := ms
  attributes := attrs
def plain (name : String) (sup : Option ClassId) : Class where
  name := name
  kind := .ordinary
  loader := none
  accessFlags := 33
  super := sup
  interfaces := #[]
  cf := none
  fields := #[]
  methods := #[]
  instanceTypes := #[]
  staticTypes := #[]
  resolved := #[]
  callSites := []
  init := .initialized
  statics := none
  mirror := none

def pool0 : Array CpInfo := pool [(5, u "<init>"), (0, u "()V"), (1, .class_ 10), (1, u "java/lang/Object")] 113

def k0c0 : Code := { maxStack := 0, maxLocals := 1, code := object_method_1_code, exceptionTable := #[], attributes := #[] }
def k0m0 : Method := { name := "<init>", desc := "()V", sig := { parameters := [], returnType := none }, accessFlags := 1, code := some k0c0 }
/-- java/lang/Object -/
def k0 : Class := { plain "java/lang/Object" none with
  accessFlags := 33
  interfaces := #[]
  cf := some (fileOf pool0 8 #[] #[{ accessFlags := 1, nameIndex := 5, descriptorIndex := 6, attributes := #[] }] 33 0 #[] #[])
  fields := #[]
  methods := #[k0m0]
  instanceTypes := #[]
  staticTypes := #[]
  resolved := Array.replicate 124 none
  statics := none }

def pool1 : Array CpInfo := pool [(2, .class_ 4), (1, u "java/lang/Object"), (0, u "<init>"), (0, u "()V"), (0, .string 8), (0, u ""), (0, .class_ 10), (0, u "java/lang/String"), (0, .methodref 9 12), (0, .nameAndType 5 13), (0, u "([C)V"), (0, .methodref 15 16), (0, .class_ 17), (0, .nameAndType 18 19), (0, u "com/example/portcullis/portcullis/IdsValidPinLaw"), (0, u "ok"), (0, u "(C)Z"), (0, .methodref 21 22), (0, .class_ 23), (0, .nameAndType 24 25), (0, u "com/example/portcullis/portcullis/Ids"), (0, u "valid"), (0, u "(Ljava/lang/String;)Z"), (0, .string 27), (0, u "abcdefghijklmnopqrstuvwxyzABCDEFGHIJKLMNOPQRSTUVWXYZ0123456789._-@abcdefghijklmnopqrstuvwxyzABCDEFGHIJKLMNOPQRSTUVWXYZ0123456789"), (0, .methodref 9 29), (0, .nameAndType 30 31), (0, u "length"), (0, u "()I"), (0, .string 33), (0, u "abcdefghijklmnopqrstuvwxyzABCDEFGHIJKLMNOPQRSTUVWXYZ0123456789._-@abcdefghijklmnopqrstuvwxyzABCDEFGHIJKLMNOPQRSTUVWXYZ0123456789a"), (0, u "L128"), (0, u "Ljava/lang/String;"), (1, u "L129"), (3, u "law"), (0, u "(IIII)Z")] 2

def k1m0 : Method := { name := "<init>", desc := "()V", sig := { parameters := [], returnType := none }, accessFlags := 1, code := none }
def k1c1 : Code := { maxStack := 2, maxLocals := 1, code := method_2_code, exceptionTable := #[], attributes := #[] }
def k1m1 : Method := { name := "ok", desc := "(C)Z", sig := { parameters := [.char], returnType := some .boolean }, accessFlags := 10, code := some k1c1 }
def k1c2 : Code := { maxStack := 6, maxLocals := 16, code := code, exceptionTable := #[], attributes := #[] }
def k1m2 : Method := { name := "law", desc := "(IIII)Z", sig := { parameters := [.int, .int, .int, .int], returnType := some .boolean }, accessFlags := 9, code := some k1c2 }
/-- com/example/portcullis/portcullis/IdsValidPinLaw -/
def k1 : Class := { plain "com/example/portcullis/portcullis/IdsValidPinLaw" (some 0) with
  accessFlags := 49
  interfaces := #[]
  cf := some (fileOf pool1 15 #[] #[{ accessFlags := 1, nameIndex := 5, descriptorIndex := 6, attributes := #[] }, { accessFlags := 10, nameIndex := 18, descriptorIndex := 19, attributes := #[] }, { accessFlags := 9, nameIndex := 41, descriptorIndex := 42, attributes := #[] }] 49 2 #[] #[{ accessFlags := 26, nameIndex := 34, descriptorIndex := 35, attributes := #[] }, { accessFlags := 26, nameIndex := 37, descriptorIndex := 35, attributes := #[] }])
  fields := #[{ name := "L128", type := (.object "java/lang/String"), accessFlags := 26, slot := 0, constantValue := 0 }, { name := "L129", type := (.object "java/lang/String"), accessFlags := 26, slot := 1, constantValue := 0 }]
  methods := #[k1m0, k1m1, k1m2]
  instanceTypes := #[]
  staticTypes := #[(.object "java/lang/String"), (.object "java/lang/String")]
  resolved := Array.replicate 45 none
  statics := none }

def pool2 : Array CpInfo := pool [(1, .class_ 2), (0, u "java/io/Serializable"), (0, .class_ 4), (0, u "java/lang/Object")] 2

/-- java/io/Serializable -/
def k2 : Class := { plain "java/io/Serializable" (some 0) with
  accessFlags := 1537
  interfaces := #[]
  cf := some (fileOf pool2 1 #[] #[] 1537 3 #[] #[])
  fields := #[]
  methods := #[]
  instanceTypes := #[]
  staticTypes := #[]
  resolved := Array.replicate 7 none
  statics := none }

def pool3 : Array CpInfo := pool [(1, .class_ 2), (0, u "java/lang/Comparable"), (0, .class_ 4), (0, u "java/lang/Object")] 7

/-- java/lang/Comparable -/
def k3 : Class := { plain "java/lang/Comparable" (some 0) with
  accessFlags := 1537
  interfaces := #[]
  cf := some (fileOf pool3 1 #[] #[] 1537 3 #[] #[])
  fields := #[]
  methods := #[]
  instanceTypes := #[]
  staticTypes := #[]
  resolved := Array.replicate 12 none
  statics := none }

def pool4 : Array CpInfo := pool [(2, .class_ 4), (1, u "java/lang/CharSequence"), (42, .class_ 48), (0, u "java/lang/CharSequence$1CodePointIterator"), (10, .class_ 60), (0, u "java/lang/CharSequence$1CharIterator"), (5, .class_ 67), (0, u "java/lang/Object")] 63

/-- java/lang/CharSequence -/
def k4 : Class := { plain "java/lang/CharSequence" (some 0) with
  accessFlags := 1537
  interfaces := #[]
  cf := some (fileOf pool4 2 #[.nestMembers #[47, 59]] #[] 1537 66 #[] #[])
  fields := #[]
  methods := #[]
  instanceTypes := #[]
  staticTypes := #[]
  resolved := Array.replicate 131 none
  statics := none }

def pool5 : Array CpInfo := pool [(1, .class_ 2), (0, u "java/lang/constant/Constable"), (0, .class_ 4), (0, u "java/lang/Object")] 6

/-- java/lang/constant/Constable -/
def k5 : Class := { plain "java/lang/constant/Constable" (some 0) with
  accessFlags := 1537
  interfaces := #[]
  cf := some (fileOf pool5 1 #[] #[] 1537 3 #[] #[])
  fields := #[]
  methods := #[]
  instanceTypes := #[]
  staticTypes := #[]
  resolved := Array.replicate 11 none
  statics := none }

def pool6 : Array CpInfo := pool [(1, .class_ 2), (0, u "java/lang/constant/ConstantDesc"), (0, .class_ 4), (0, u "java/lang/Object")] 32

/-- java/lang/constant/ConstantDesc -/
def k6 : Class := { plain "java/lang/constant/ConstantDesc" (some 0) with
  accessFlags := 1537
  interfaces := #[]
  cf := some (fileOf pool6 1 #[] #[] 1537 3 #[] #[])
  fields := #[]
  methods := #[]
  instanceTypes := #[]
  staticTypes := #[]
  resolved := Array.replicate 37 none
  statics := none }

def pool7 : Array CpInfo := pool [(1, .methodref 2 3), (0, .class_ 4), (0, .nameAndType 5 6), (0, u "java/lang/Object"), (0, u "<init>"), (0, u "()V"), (2, .fieldref 10 11), (0, .class_ 12), (0, .nameAndType 13 14), (0, u "java/lang/String"), (0, u "value"), (0, u "[B"), (0, .fieldref 10 16), (0, .nameAndType 17 18), (0, u "coder"), (0, u "B"), (2, u "hash"), (0, u "I"), (2, u "hashIsZero"), (0, u "Z"), (0, .methodref 10 28), (0, .nameAndType 5 29), (0, u "([CIILjava/lang/Void;)V"), (8, .fieldref 10 39), (0, .nameAndType 40 26), (0, u "COMPACT_STRINGS"), (1, .class_ 44), (1, u "java/lang/StringUTF16"), (0, u "compress"), (1, .methodref 42 48), (0, .nameAndType 49 50), (0, u "coderFromArrayLen"), (0, u "([BI)B"), (56, .class_ 109), (1, u "java/lang/StringLatin1"), (32, u "()Z"), (34, .methodref 42 178), (0, .nameAndType 45 179), (0, u "([CII)[B"), (154, u "()I"), (0, .methodref 10 336), (0, .nameAndType 17 337), (0, u "()B"), (25, u "([BI)C"), (27, u "(II)V"), (35, u "(I)C"), (64, .methodref 10 493), (0, .nameAndType 494 142), (0, u "isLatin1"), (0, .methodref 107 496), (0, .nameAndType 497 363), (0, u "charAt"), (0, .methodref 42 496), (2, u "checkIndex"), (5, u "length"), (67, .class_ 576), (0, u "java/lang/CharSequence"), (22, u "CASE_INSENSITIVE_ORDER"), (0, u "Ljava/util/Comparator;"), (409, u "([C)V"), (42, .fieldref 1054 1055), (0, .class_ 1056), (0, .nameAndType 1057 1058), (0, u "jdk/internal/util/Preconditions"), (0, u "SIOOBE_FORMATTER"), (0, u "Ljava/util/function/BiFunction;"), (0, .methodref 1054 1060), (0, .nameAndType 501 1061), (0, u "(IILjava/util/function/BiFunction;)I"), (39, u "serialPersistentFields"), (0, u "[Ljava/io/ObjectStreamField;"), (0, .class_ 1104), (0, u "java/lang/String$CaseInsensitiveComparator"), (1, .class_ 1107), (0, u "java/io/Serializable"), (0, .class_ 1109), (0, u "java/lang/Comparable"), (0, .class_ 1111), (0, u "java/lang/constant/Constable"), (0, .class_ 1113), (0, u "java/lang/constant/ConstantDesc"), (2, u "serialVersionUID"), (0, u "J"), (3, u "REPL"), (0, u "C"), (2, u "LATIN1"), (1, u "UTF16")] 323

def k7m0 : Method := { name := "<init>", desc := "()V", sig := { parameters := [], returnType := none }, accessFlags := 1, code := none }
def k7c1 : Code := { maxStack := 5, maxLocals := 2, code := jdk_42_method_3_code, exceptionTable := #[], attributes := #[] }
def k7m1 : Method := { name := "<init>", desc := "([C)V", sig := { parameters := [(.array .char)], returnType := none }, accessFlags := 1, code := some k7c1 }
def k7c2 : Code := { maxStack := 2, maxLocals := 1, code := jdk_42_method_54_code, exceptionTable := #[], attributes := #[] }
def k7m2 : Method := { name := "length", desc := "()I", sig := { parameters := [], returnType := some .int }, accessFlags := 1, code := some k7c2 }
def k7c3 : Code := { maxStack := 2, maxLocals := 2, code := jdk_42_method_56_code, exceptionTable := #[], attributes := #[] }
def k7m3 : Method := { name := "charAt", desc := "(I)C", sig := { parameters := [.int], returnType := some .char }, accessFlags := 1, code := some k7c3 }
def k7c4 : Code := { maxStack := 4, maxLocals := 6, code := jdk_42_method_149_code, exceptionTable := #[], attributes := #[] }
def k7m4 : Method := { name := "<init>", desc := "([CIILjava/lang/Void;)V", sig := { parameters := [(.array .char), .int, .int, (.object "java/lang/Void")], returnType := none }, accessFlags := 2, code := some k7c4 }
def k7c5 : Code := { maxStack := 1, maxLocals := 1, code := jdk_42_method_152_code, exceptionTable := #[], attributes := #[] }
def k7m5 : Method := { name := "coder", desc := "()B", sig := { parameters := [], returnType := some .byte }, accessFlags := 0, code := some k7c5 }
def k7c6 : Code := { maxStack := 1, maxLocals := 1, code := jdk_42_method_154_code, exceptionTable := #[], attributes := #[] }
def k7m6 : Method := { name := "isLatin1", desc := "()Z", sig := { parameters := [], returnType := some .boolean }, accessFlags := 0, code := some k7c6 }
def k7c7 : Code := { maxStack := 3, maxLocals := 2, code := jdk_42_method_155_code, exceptionTable := #[], attributes := #[] }
def k7m7 : Method := { name := "checkIndex", desc := "(II)V", sig := { parameters := [.int, .int], returnType := none }, accessFlags := 8, code := some k7c7 }
/-- java/lang/String -/
def k7 : Class := { plain "java/lang/String" (some 0) with
  accessFlags := 49
  interfaces := #[2, 3, 4, 5, 6]
  cf := some (fileOf pool7 10 #[.nestMembers #[1103]] #[{ accessFlags := 1, nameIndex := 5, descriptorIndex := 6, attributes := #[] }, { accessFlags := 1, nameIndex := 5, descriptorIndex := 1010, attributes := #[] }, { accessFlags := 1, nameIndex := 507, descriptorIndex := 334, attributes := #[] }, { accessFlags := 1, nameIndex := 497, descriptorIndex := 427, attributes := #[] }, { accessFlags := 2, nameIndex := 5, descriptorIndex := 29, attributes := #[] }, { accessFlags := 0, nameIndex := 17, descriptorIndex := 337, attributes := #[] }, { accessFlags := 0, nameIndex := 494, descriptorIndex := 142, attributes := #[] }, { accessFlags := 8, nameIndex := 501, descriptorIndex := 391, attributes := #[] }] 49 2 #[1106, 1108, 575, 1110, 1112] #[{ accessFlags := 18, nameIndex := 13, descriptorIndex := 14, attributes := #[] }, { accessFlags := 18, nameIndex := 17, descriptorIndex := 18, attributes := #[] }, { accessFlags := 2, nameIndex := 21, descriptorIndex := 22, attributes := #[] }, { accessFlags := 2, nameIndex := 25, descriptorIndex := 26, attributes := #[] }, { accessFlags := 26, nameIndex := 1116, descriptorIndex := 1117, attributes := #[] }, { accessFlags := 24, nameIndex := 40, descriptorIndex := 26, attributes := #[] }, { accessFlags := 26, nameIndex := 1101, descriptorIndex := 1102, attributes := #[] }, { accessFlags := 26, nameIndex := 1121, descriptorIndex := 1122, attributes := #[] }, { accessFlags := 25, nameIndex := 599, descriptorIndex := 600, attributes := #[] }, { accessFlags := 24, nameIndex := 1125, descriptorIndex := 18, attributes := #[] }, { accessFlags := 24, nameIndex := 1127, descriptorIndex := 18, attributes := #[] }])
  fields := #[{ name := "value", type := (.array .byte), accessFlags := 18, slot := 0, constantValue := 0 }, { name := "coder", type := .byte, accessFlags := 18, slot := 1, constantValue := 0 }, { name := "hash", type := .int, accessFlags := 2, slot := 2, constantValue := 0 }, { name := "hashIsZero", type := .boolean, accessFlags := 2, slot := 3, constantValue := 0 }, { name := "serialVersionUID", type := .long, accessFlags := 26, slot := 0, constantValue := 0 }, { name := "COMPACT_STRINGS", type := .boolean, accessFlags := 24, slot := 1, constantValue := 0 }, { name := "serialPersistentFields", type := (.array (.object "java/io/ObjectStreamField")), accessFlags := 26, slot := 2, constantValue := 0 }, { name := "REPL", type := .char, accessFlags := 26, slot := 3, constantValue := 0 }, { name := "CASE_INSENSITIVE_ORDER", type := (.object "java/util/Comparator"), accessFlags := 25, slot := 4, constantValue := 0 }, { name := "LATIN1", type := .byte, accessFlags := 24, slot := 5, constantValue := 0 }, { name := "UTF16", type := .byte, accessFlags := 24, slot := 6, constantValue := 0 }]
  methods := #[k7m0, k7m1, k7m2, k7m3, k7m4, k7m5, k7m6, k7m7]
  instanceTypes := #[(.array .byte), .byte, .int, .boolean]
  staticTypes := #[.long, .boolean, (.array (.object "java/io/ObjectStreamField")), .char, (.object "java/util/Comparator"), .byte, .byte]
  resolved := Array.replicate 1451 none
  statics := some 0 }

def pool8 : Array CpInfo := pool [(3, .class_ 4), (0, u "java/lang/String"), (1, .class_ 8), (1, u "java/lang/Object"), (0, u "<init>"), (0, u "()V"), (0, .methodref 12 13), (0, .class_ 14), (0, .nameAndType 15 16), (0, u "java/lang/StringUTF16"), (0, u "newBytesLength"), (0, u "(I)I"), (3, .integer 1073741823), (23, .fieldref 12 45), (0, .nameAndType 46 47), (0, u "$assertionsDisabled"), (0, u "Z"), (0, .methodref 12 49), (0, .nameAndType 50 51), (0, u "length"), (0, u "([B)I"), (7, .fieldref 12 60), (0, .nameAndType 61 62), (0, u "HI_BYTE_SHIFT"), (0, u "I"), (0, .fieldref 12 64), (0, .nameAndType 65 62), (0, u "LO_BYTE_SHIFT"), (1, .methodref 12 68), (0, .nameAndType 69 70), (0, u "checkIndex"), (0, u "(I[B)V"), (0, .methodref 12 72), (0, .nameAndType 73 74), (0, u "getChar"), (0, u "([BI)C"), (32, .methodref 12 108), (0, .nameAndType 109 110), (0, u "newBytesFor"), (0, u "(I)[B"), (0, .methodref 12 112), (0, .nameAndType 113 114), (0, u "putChar"), (0, u "([BII)V"), (0, .methodref 12 116), (0, .nameAndType 117 118), (0, u "compress"), (0, u "([CI[BII)I"), (0, .methodref 12 120), (0, .nameAndType 121 122), (0, u "toBytes"), (0, u "([CII)[B"), (138, u "coderFromArrayLen"), (0, u "([BI)B"), (106, .class_ 371), (1, u "java/lang/StringUTF16$LinesSpliterator"), (20, u "charAt"), (21, .methodref 3 415), (0, .nameAndType 69 416), (0, u "(II)V"), (13, u "MAX_LENGTH"), (196, .class_ 628), (0, u "java/lang/StringUTF16$CodePointsSpliterator"), (0, .class_ 630), (0, u "java/lang/StringUTF16$CharsSpliterator")] 4

def k8m0 : Method := { name := "<init>", desc := "()V", sig := { parameters := [], returnType := none }, accessFlags := 0, code := none }
def k8c1 : Code := { maxStack := 1, maxLocals := 1, code := jdk_52_method_2_code, exceptionTable := #[], attributes := #[] }
def k8m1 : Method := { name := "newBytesFor", desc := "(I)[B", sig := { parameters := [.int], returnType := some (.array .byte) }, accessFlags := 9, code := some k8c1 }
def k8c2 : Code := { maxStack := 4, maxLocals := 1, code := jdk_52_method_3_code, exceptionTable := #[], attributes := #[] }
def k8m2 : Method := { name := "newBytesLength", desc := "(I)I", sig := { parameters := [.int], returnType := some .int }, accessFlags := 9, code := some k8c2 }
def k8c3 : Code := { maxStack := 4, maxLocals := 3, code := jdk_52_method_4_code, exceptionTable := #[], attributes := #[] }
def k8m3 : Method := { name := "putChar", desc := "([BII)V", sig := { parameters := [(.array .byte), .int, .int], returnType := none }, accessFlags := 8, code := some k8c3 }
def k8c4 : Code := { maxStack := 3, maxLocals := 2, code := jdk_52_method_5_code, exceptionTable := #[], attributes := #[] }
def k8m4 : Method := { name := "getChar", desc := "([BI)C", sig := { parameters := [(.array .byte), .int], returnType := some .char }, accessFlags := 8, code := some k8c4 }
def k8c5 : Code := { maxStack := 2, maxLocals := 1, code := jdk_52_method_6_code, exceptionTable := #[], attributes := #[] }
def k8m5 : Method := { name := "length", desc := "([B)I", sig := { parameters := [(.array .byte)], returnType := some .int }, accessFlags := 9, code := some k8c5 }
def k8c6 : Code := { maxStack := 4, maxLocals := 5, code := jdk_52_method_14_code, exceptionTable := #[], attributes := #[] }
def k8m6 : Method := { name := "toBytes", desc := "([CII)[B", sig := { parameters := [(.array .char), .int, .int], returnType := some (.array .byte) }, accessFlags := 9, code := some k8c6 }
def k8c7 : Code := { maxStack := 2, maxLocals := 2, code := jdk_52_method_15_code, exceptionTable := #[], attributes := #[] }
def k8m7 : Method := { name := "coderFromArrayLen", desc := "([BI)B", sig := { parameters := [(.array .byte), .int], returnType := some .byte }, accessFlags := 8, code := some k8c7 }
def k8c8 : Code := { maxStack := 5, maxLocals := 6, code := jdk_52_method_16_code, exceptionTable := #[], attributes := #[] }
def k8m8 : Method := { name := "compress", desc := "([CII)[B", sig := { parameters := [(.array .char), .int, .int], returnType := some (.array .byte) }, accessFlags := 9, code := some k8c8 }
def k8c9 : Code := { maxStack := 3, maxLocals := 7, code := jdk_52_method_21_code, exceptionTable := #[], attributes := #[] }
def k8m9 : Method := { name := "compress", desc := "([CI[BII)I", sig := { parameters := [(.array .char), .int, (.array .byte), .int, .int], returnType := some .int }, accessFlags := 9, code := some k8c9 }
def k8c10 : Code := { maxStack := 2, maxLocals := 2, code := jdk_52_method_83_code, exceptionTable := #[], attributes := #[] }
def k8m10 : Method := { name := "charAt", desc := "([BI)C", sig := { parameters := [(.array .byte), .int], returnType := some .char }, accessFlags := 9, code := some k8c10 }
def k8c11 : Code := { maxStack := 2, maxLocals := 2, code := jdk_52_method_91_code, exceptionTable := #[], attributes := #[] }
def k8m11 : Method := { name := "checkIndex", desc := "(I[B)V", sig := { parameters := [.int, (.array .byte)], returnType := none }, accessFlags := 9, code := some k8c11 }
/-- java/lang/StringUTF16 -/
def k8 : Class := { plain "java/lang/StringUTF16" (some 0) with
  accessFlags := 48
  interfaces := #[]
  cf := some (fileOf pool8 12 #[.nestMembers #[627, 629, 369]] #[{ accessFlags := 0, nameIndex := 9, descriptorIndex := 10, attributes := #[] }, { accessFlags := 9, nameIndex := 109, descriptorIndex := 110, attributes := #[] }, { accessFlags := 9, nameIndex := 15, descriptorIndex := 16, attributes := #[] }, { accessFlags := 8, nameIndex := 113, descriptorIndex := 114, attributes := #[] }, { accessFlags := 8, nameIndex := 73, descriptorIndex := 74, attributes := #[] }, { accessFlags := 9, nameIndex := 50, descriptorIndex := 51, attributes := #[] }, { accessFlags := 9, nameIndex := 121, descriptorIndex := 122, attributes := #[] }, { accessFlags := 8, nameIndex := 261, descriptorIndex := 262, attributes := #[] }, { accessFlags := 9, nameIndex := 117, descriptorIndex := 122, attributes := #[] }, { accessFlags := 9, nameIndex := 117, descriptorIndex := 118, attributes := #[] }, { accessFlags := 9, nameIndex := 392, descriptorIndex := 74, attributes := #[] }, { accessFlags := 9, nameIndex := 69, descriptorIndex := 70, attributes := #[] }] 48 6 #[] #[{ accessFlags := 26, nameIndex := 61, descriptorIndex := 62, attributes := #[] }, { accessFlags := 26, nameIndex := 65, descriptorIndex := 62, attributes := #[] }, { accessFlags := 24, nameIndex := 430, descriptorIndex := 62, attributes := #[] }, { accessFlags := 4120, nameIndex := 46, descriptorIndex := 47, attributes := #[] }])
  fields := #[{ name := "HI_BYTE_SHIFT", type := .int, accessFlags := 26, slot := 0, constantValue := 0 }, { name := "LO_BYTE_SHIFT", type := .int, accessFlags := 26, slot := 1, constantValue := 0 }, { name := "MAX_LENGTH", type := .int, accessFlags := 24, slot := 2, constantValue := 0 }, { name := "$assertionsDisabled", type := .boolean, accessFlags := 4120, slot := 3, constantValue := 0 }]
  methods := #[k8m0, k8m1, k8m2, k8m3, k8m4, k8m5, k8m6, k8m7, k8m8, k8m9, k8m10, k8m11]
  instanceTypes := #[]
  staticTypes := #[.int, .int, .int, .boolean]
  resolved := Array.replicate 635 none
  statics := some 1 }

def pool9 : Array CpInfo := pool [(2, .class_ 4), (1, u "java/lang/Object"), (0, u "<init>"), (0, u "()V"), (0, .methodref 8 9), (0, .class_ 10), (0, .nameAndType 11 12), (0, u "java/lang/String"), (0, u "length"), (0, u "()I"), (0, .class_ 14), (0, u "com/example/portcullis/portcullis/Ids"), (0, .methodref 8 16), (0, .nameAndType 17 18), (0, u "charAt"), (0, u "(I)C"), (0, u "MAX_LENGTH"), (0, u "I"), (4, u "valid"), (0, u "(Ljava/lang/String;)Z")] 3

def k9m0 : Method := { name := "<init>", desc := "()V", sig := { parameters := [], returnType := none }, accessFlags := 2, code := none }
def k9c1 : Code := { maxStack := 2, maxLocals := 5, code := prog_15_method_2_code, exceptionTable := #[], attributes := #[] }
def k9m1 : Method := { name := "valid", desc := "(Ljava/lang/String;)Z", sig := { parameters := [(.object "java/lang/String")], returnType := some .boolean }, accessFlags := 8, code := some k9c1 }
/-- com/example/portcullis/portcullis/Ids -/
def k9 : Class := { plain "com/example/portcullis/portcullis/Ids" (some 0) with
  accessFlags := 48
  interfaces := #[]
  cf := some (fileOf pool9 13 #[] #[{ accessFlags := 2, nameIndex := 5, descriptorIndex := 6, attributes := #[] }, { accessFlags := 8, nameIndex := 25, descriptorIndex := 26, attributes := #[] }] 48 2 #[] #[{ accessFlags := 26, nameIndex := 19, descriptorIndex := 20, attributes := #[] }])
  fields := #[{ name := "MAX_LENGTH", type := .int, accessFlags := 26, slot := 0, constantValue := 0 }]
  methods := #[k9m0, k9m1]
  instanceTypes := #[]
  staticTypes := #[.int]
  resolved := Array.replicate 30 none
  statics := none }

def pool10 : Array CpInfo := pool [(1, .class_ 2), (0, u "java/lang/String"), (1, .class_ 6), (1, u "java/lang/Object"), (0, u "<init>"), (0, u "()V"), (0, .methodref 1 10), (0, .nameAndType 11 12), (0, u "checkIndex"), (0, u "(II)V"), (1, .class_ 16), (1, u "java/lang/StringLatin1"), (36, u "([BI)C"), (67, u "$assertionsDisabled"), (0, u "Z"), (98, .class_ 223), (1, u "java/lang/StringLatin1$LinesSpliterator"), (28, u "charAt"), (137, .class_ 391), (0, u "java/lang/StringLatin1$CharsSpliterator")] 3

def k10m0 : Method := { name := "<init>", desc := "()V", sig := { parameters := [], returnType := none }, accessFlags := 0, code := none }
def k10c1 : Code := { maxStack := 2, maxLocals := 2, code := jdk_43_method_2_code, exceptionTable := #[], attributes := #[] }
def k10m1 : Method := { name := "charAt", desc := "([BI)C", sig := { parameters := [(.array .byte), .int], returnType := some .char }, accessFlags := 9, code := some k10c1 }
/-- java/lang/StringLatin1 -/
def k10 : Class := { plain "java/lang/StringLatin1" (some 0) with
  accessFlags := 48
  interfaces := #[]
  cf := some (fileOf pool10 14 #[.nestMembers #[390, 221]] #[{ accessFlags := 0, nameIndex := 7, descriptorIndex := 8, attributes := #[] }, { accessFlags := 9, nameIndex := 252, descriptorIndex := 53, attributes := #[] }] 48 4 #[] #[{ accessFlags := 4120, nameIndex := 121, descriptorIndex := 122, attributes := #[] }])
  fields := #[{ name := "$assertionsDisabled", type := .boolean, accessFlags := 4120, slot := 0, constantValue := 0 }]
  methods := #[k10m0, k10m1]
  instanceTypes := #[]
  staticTypes := #[.boolean]
  resolved := Array.replicate 395 none
  statics := none }

def pool11 : Array CpInfo := pool [(2, .class_ 4), (1, u "java/lang/Object"), (0, u "<init>"), (0, u "()V"), (17, .class_ 26), (1, u "jdk/internal/util/Preconditions"), (6, u "checkIndex"), (21, .class_ 56), (0, u "jdk/internal/util/Preconditions$4"), (57, .class_ 115), (0, u "jdk/internal/util/Preconditions$1"), (7, u "SIOOBE_FORMATTER"), (0, u "Ljava/util/function/BiFunction;"), (0, .class_ 126), (0, u "jdk/internal/util/Preconditions$2"), (3, u "AIOOBE_FORMATTER"), (0, .class_ 132), (0, u "jdk/internal/util/Preconditions$3"), (3, u "IOOBE_FORMATTER"), (41, u "(IILjava/util/function/BiFunction;)I")] 15

def k11m0 : Method := { name := "<init>", desc := "()V", sig := { parameters := [], returnType := none }, accessFlags := 1, code := none }
def k11c1 : Code := { maxStack := 3, maxLocals := 3, code := jdk_41_method_11_code, exceptionTable := #[], attributes := #[] }
def k11m1 : Method := { name := "checkIndex", desc := "(IILjava/util/function/BiFunction;)I", sig := { parameters := [.int, .int, (.object "java/util/function/BiFunction")], returnType := some .int }, accessFlags := 9, code := some k11c1 }
/-- jdk/internal/util/Preconditions -/
def k11 : Class := { plain "jdk/internal/util/Preconditions" (some 0) with
  accessFlags := 33
  interfaces := #[]
  cf := some (fileOf pool11 24 #[.nestMembers #[55, 131, 125, 114]] #[{ accessFlags := 1, nameIndex := 5, descriptorIndex := 6, attributes := #[] }, { accessFlags := 9, nameIndex := 33, descriptorIndex := 178, attributes := #[] }] 33 2 #[] #[{ accessFlags := 25, nameIndex := 123, descriptorIndex := 124, attributes := #[] }, { accessFlags := 25, nameIndex := 130, descriptorIndex := 124, attributes := #[] }, { accessFlags := 25, nameIndex := 136, descriptorIndex := 124, attributes := #[] }])
  fields := #[{ name := "SIOOBE_FORMATTER", type := (.object "java/util/function/BiFunction"), accessFlags := 25, slot := 0, constantValue := 0 }, { name := "AIOOBE_FORMATTER", type := (.object "java/util/function/BiFunction"), accessFlags := 25, slot := 1, constantValue := 0 }, { name := "IOOBE_FORMATTER", type := (.object "java/util/function/BiFunction"), accessFlags := 25, slot := 2, constantValue := 0 }]
  methods := #[k11m0, k11m1]
  instanceTypes := #[]
  staticTypes := #[(.object "java/util/function/BiFunction"), (.object "java/util/function/BiFunction"), (.object "java/util/function/BiFunction")]
  resolved := Array.replicate 194 none
  statics := some 2 }

def pool12 : Array CpInfo := pool [(9, u "<init>"), (6, .class_ 18), (1, u "java/lang/Object"), (0, u "()V"), (1, .class_ 23), (1, u "jdk/internal/util/ArraysSupport"), (0, u "LOG2_ARRAY_LONG_INDEX_SCALE"), (0, u "I"), (2, u "U"), (0, u "Ljdk/internal/misc/Unsafe;"), (8, u "BIG_ENDIAN"), (0, u "Z"), (8, u "LOG2_BYTE_BIT_SIZE"), (4, u "LOG2_ARRAY_INT_INDEX_SCALE"), (54, u "JLA"), (0, u "Ljdk/internal/access/JavaLangAccess;"), (11, u "LOG2_ARRAY_BOOLEAN_INDEX_SCALE"), (9, u "LOG2_ARRAY_BYTE_INDEX_SCALE"), (5, u "LOG2_ARRAY_CHAR_INDEX_SCALE"), (5, u "LOG2_ARRAY_SHORT_INDEX_SCALE"), (18, u "LOG2_ARRAY_FLOAT_INDEX_SCALE"), (24, u "LOG2_ARRAY_DOUBLE_INDEX_SCALE"), (89, u "T_BOOLEAN"), (2, u "T_CHAR"), (1, u "T_FLOAT"), (1, u "T_DOUBLE"), (1, u "T_BYTE"), (1, u "T_SHORT"), (1, u "T_INT"), (1, u "T_LONG"), (1, u "SOFT_MAX_ARRAY_LENGTH")] 83

def k12m0 : Method := { name := "<init>", desc := "()V", sig := { parameters := [], returnType := none }, accessFlags := 2, code := none }
/-- jdk/internal/util/ArraysSupport -/
def k12 : Class := { plain "jdk/internal/util/ArraysSupport" (some 0) with
  accessFlags := 33
  interfaces := #[]
  cf := some (fileOf pool12 21 #[] #[{ accessFlags := 2, nameIndex := 9, descriptorIndex := 19, attributes := #[] }] 33 16 #[] #[{ accessFlags := 24, nameIndex := 28, descriptorIndex := 29, attributes := #[] }, { accessFlags := 26, nameIndex := 38, descriptorIndex := 39, attributes := #[] }, { accessFlags := 25, nameIndex := 121, descriptorIndex := 25, attributes := #[] }, { accessFlags := 25, nameIndex := 131, descriptorIndex := 25, attributes := #[] }, { accessFlags := 25, nameIndex := 137, descriptorIndex := 25, attributes := #[] }, { accessFlags := 25, nameIndex := 143, descriptorIndex := 25, attributes := #[] }, { accessFlags := 25, nameIndex := 53, descriptorIndex := 25, attributes := #[] }, { accessFlags := 25, nameIndex := 24, descriptorIndex := 25, attributes := #[] }, { accessFlags := 25, nameIndex := 162, descriptorIndex := 25, attributes := #[] }, { accessFlags := 25, nameIndex := 187, descriptorIndex := 25, attributes := #[] }, { accessFlags := 26, nameIndex := 48, descriptorIndex := 25, attributes := #[] }, { accessFlags := 25, nameIndex := 277, descriptorIndex := 25, attributes := #[] }, { accessFlags := 25, nameIndex := 280, descriptorIndex := 25, attributes := #[] }, { accessFlags := 25, nameIndex := 282, descriptorIndex := 25, attributes := #[] }, { accessFlags := 25, nameIndex := 284, descriptorIndex := 25, attributes := #[] }, { accessFlags := 25, nameIndex := 286, descriptorIndex := 25, attributes := #[] }, { accessFlags := 25, nameIndex := 288, descriptorIndex := 25, attributes := #[] }, { accessFlags := 25, nameIndex := 290, descriptorIndex := 25, attributes := #[] }, { accessFlags := 25, nameIndex := 292, descriptorIndex := 25, attributes := #[] }, { accessFlags := 26, nameIndex := 108, descriptorIndex := 109, attributes := #[] }, { accessFlags := 25, nameIndex := 294, descriptorIndex := 25, attributes := #[] }])
  fields := #[{ name := "U", type := (.object "jdk/internal/misc/Unsafe"), accessFlags := 24, slot := 0, constantValue := 0 }, { name := "BIG_ENDIAN", type := .boolean, accessFlags := 26, slot := 1, constantValue := 0 }, { name := "LOG2_ARRAY_BOOLEAN_INDEX_SCALE", type := .int, accessFlags := 25, slot := 2, constantValue := 0 }, { name := "LOG2_ARRAY_BYTE_INDEX_SCALE", type := .int, accessFlags := 25, slot := 3, constantValue := 0 }, { name := "LOG2_ARRAY_CHAR_INDEX_SCALE", type := .int, accessFlags := 25, slot := 4, constantValue := 0 }, { name := "LOG2_ARRAY_SHORT_INDEX_SCALE", type := .int, accessFlags := 25, slot := 5, constantValue := 0 }, { name := "LOG2_ARRAY_INT_INDEX_SCALE", type := .int, accessFlags := 25, slot := 6, constantValue := 0 }, { name := "LOG2_ARRAY_LONG_INDEX_SCALE", type := .int, accessFlags := 25, slot := 7, constantValue := 0 }, { name := "LOG2_ARRAY_FLOAT_INDEX_SCALE", type := .int, accessFlags := 25, slot := 8, constantValue := 0 }, { name := "LOG2_ARRAY_DOUBLE_INDEX_SCALE", type := .int, accessFlags := 25, slot := 9, constantValue := 0 }, { name := "LOG2_BYTE_BIT_SIZE", type := .int, accessFlags := 26, slot := 10, constantValue := 0 }, { name := "T_BOOLEAN", type := .int, accessFlags := 25, slot := 11, constantValue := 0 }, { name := "T_CHAR", type := .int, accessFlags := 25, slot := 12, constantValue := 0 }, { name := "T_FLOAT", type := .int, accessFlags := 25, slot := 13, constantValue := 0 }, { name := "T_DOUBLE", type := .int, accessFlags := 25, slot := 14, constantValue := 0 }, { name := "T_BYTE", type := .int, accessFlags := 25, slot := 15, constantValue := 0 }, { name := "T_SHORT", type := .int, accessFlags := 25, slot := 16, constantValue := 0 }, { name := "T_INT", type := .int, accessFlags := 25, slot := 17, constantValue := 0 }, { name := "T_LONG", type := .int, accessFlags := 25, slot := 18, constantValue := 0 }, { name := "JLA", type := (.object "jdk/internal/access/JavaLangAccess"), accessFlags := 26, slot := 19, constantValue := 0 }, { name := "SOFT_MAX_ARRAY_LENGTH", type := .int, accessFlags := 25, slot := 20, constantValue := 0 }]
  methods := #[k12m0]
  instanceTypes := #[]
  staticTypes := #[(.object "jdk/internal/misc/Unsafe"), .boolean, .int, .int, .int, .int, .int, .int, .int, .int, .int, .int, .int, .int, .int, .int, .int, .int, .int, (.object "jdk/internal/access/JavaLangAccess"), .int]
  resolved := Array.replicate 378 none
  statics := none }

def pool13 : Array CpInfo := pool [(1, u "java/lang/Cloneable"), (0, .class_ 1), (0, u "java/lang/Object"), (0, .class_ 3)] 3

/-- java/lang/Cloneable -/
def k13 : Class := { plain "java/lang/Cloneable" (some 0) with
  accessFlags := 1537
  interfaces := #[]
  cf := some (fileOf pool13 2 #[] #[] 1537 4 #[] #[])
  fields := #[]
  methods := #[]
  instanceTypes := #[]
  staticTypes := #[]
  resolved := Array.replicate 8 none
  statics := none }

/-- the primitive byte -/
def k14 : Class := { plain "byte" none with kind := .primitive 'B', accessFlags := 0x411 }
/-- [B -/
def k15 : Class := { plain "[B" (some 0) with kind := .array 14 .byte, interfaces := #[13, 2], accessFlags := 1041 }

/-- the primitive char -/
def k16 : Class := { plain "char" none with kind := .primitive 'C', accessFlags := 0x411 }
/-- [C -/
def k17 : Class := { plain "[C" (some 0) with kind := .array 16 .char, interfaces := #[13, 2], accessFlags := 1041 }

/-- the primitive int -/
def k18 : Class := { plain "int" none with kind := .primitive 'I', accessFlags := 0x411 }
/-- [I -/
def k19 : Class := { plain "[I" (some 0) with kind := .array 18 .int, interfaces := #[13, 2], accessFlags := 1041 }

def heap : Heap := #[{ cls := 7, slots := #[.long 0, .int 1, .null, .int 0, .null, .int 0, .int 0], vm := .statics 7 },
  { cls := 8, slots := #[.int 0, .int 8, .int 0, .int 1], vm := .statics 8 },
  { cls := 11, slots := #[.null, .null, .null], vm := .statics 11 }]
def classes : Array Class := #[k0, k1, k2, k3, k4, k5, k6, k7, k8, k9, k10, k11, k12, k13, k14, k15, k16, k17, k18, k19]
def interned : List (Array UInt16 × Addr) := []
def slotsUsed : Nat := 14
def theMethod : MethodId := ⟨1, 2⟩
def args0 : Array Value := #[.int 5, .int 5, .int 5, .int 5]
def aboutOver (below : List Frame) : State where
  vm := { classes := classes, interned := interned.toArray }
  heap := heap
  slotsUsed := slotsUsed
  threads := #[{ frames := .invoking theMethod args0 :: below }]
def below0 : List Frame := [.native { method := ⟨0, 0⟩, args := #[] }]
def about1 : State := aboutOver below0
def p0 : Program := .bare "" "" ""
def e0 : Env := launch0.env 0 0 0
theorem w_frames : about1.frames = Frame.invoking theMethod args0 :: below0 := rfl
set_option maxRecDepth 65536 in
theorem w_args : argsFit about1.vm theMethod args0 = true := by decide +kernel
set_option maxRecDepth 65536 in
theorem w_heap : heapFits about1 = true := by decide +kernel
set_option maxRecDepth 65536 in
theorem w_runnable : about1.curStatus? = some .runnable := by decide +kernel
set_option maxRecDepth 65536 in
theorem w_alone : about1.alone = true := by decide +kernel
set_option maxRecDepth 65536 in
theorem w_named : about1.methodNamed? x = some theMethod := by decide +kernel
set_option maxRecDepth 65536 in
theorem w_hears : about1.hears theMethod below0 = true := by decide +kernel
set_option maxRecDepth 65536 in
theorem w_ripe : about1.ripe theMethod args0 below0 = true := by decide +kernel
theorem w_running : about1.status = .running := rfl
set_option maxRecDepth 65536 in
theorem w_room : about1.hasRoom e0.platform room_1 = true :=
  launch0.hasRoom_least _ room_1 (by decide +kernel) (by decide +kernel) (by decide +kernel) (by decide +kernel) (by decide +kernel) (by decide +kernel)
theorem allAtoms_all (ts : List Jvm.Cond) (a : Array Jvm.Value) (st : Jvm.State) : (allAtoms ts).before a st = ts.all (fun c => c.before a st) := by
  induction ts with
  | nil => rfl
  | cons c t ih =>
    show (Jvm.Cond.and c (allAtoms t)).before a st = _
    rw [Jvm.Cond.before_and, ih, List.all_cons]
def words1 : List Jvm.Cond := Jvm.Cond.code x code maxLocals ret :: tables_1
/-- a 'code' word, met by the world's own term for the bytes: nothing is compared byte by byte -/
theorem code_word {y : MethodName} {bytes : ByteArray} {mx : Nat} {rt : Option FieldType} {a : Array Value} {s : State} {m : MethodId} {meth : Method} {c : Code} (h1 : s.methodNamed? y = some m) (h2 : s.vm.method? m = some meth) (h3 : meth.code = some c) (h4 : c.code = bytes)
    (h5 : (c.maxLocals == mx && c.exceptionTable.isEmpty && decide (c.maxStack ≤ mostOperands) && decide (meth.sig.returnType = rt) && !meth.locks && decide (parseMethodDescriptor y.desc = some meth.sig)) = true) : (Jvm.Cond.code y bytes mx rt).before a s = true := by
  simp only [Bool.and_eq_true, beq_iff_eq, Bool.not_eq_true', decide_eq_true_eq] at h5
  obtain ⟨⟨⟨⟨⟨g1, g2⟩, g3⟩, g4⟩, g5⟩, g6⟩ := h5
  simp [Cond.before, Cond.holds, Cond.value, h1, h2, h3, h4, g1, g2, g3, g4, g5, g6]
def isCode : Jvm.Cond → Bool
  | .code _ _ _ _ => true
  | _ => false
theorem all_split {L : List Jvm.Cond} {P : Jvm.Cond → Bool} (h1 : L.all (fun c => isCode c || P c) = true) (h2 : ∀ c ∈ L.filter isCode, P c = true) : L.all P = true := by
  refine List.all_eq_true.mpr fun c hc => ?_
  have h := List.all_eq_true.mp h1 c hc
  rcases Bool.eq_false_or_eq_true (isCode c) with hi | hi
  · exact h2 c (List.mem_filter.mpr ⟨hc, hi⟩)
  · simpa [hi] using h
set_option maxRecDepth 65536 in
theorem w_c0 : (Jvm.Cond.code x code maxLocals ret).before args0 about1 = true := code_word (m := ⟨1, 2⟩) (meth := k1m2) (c := k1c2) (by decide +kernel) rfl rfl rfl (by decide +kernel)
set_option maxRecDepth 65536 in
theorem w_c1 : (Jvm.Cond.code ({ cls := "java/lang/String", name := "<init>", desc := "([C)V" } : Jvm.MethodName) jdk_42_method_3_code (2 : Nat) (Option.none : Option Jvm.ClassFile.FieldType)).before args0 about1 = true := code_word (m := ⟨7, 1⟩) (meth := k7m1) (c := k7c1) (by decide +kernel) rfl rfl rfl (by decide +kernel)
set_option maxRecDepth 65536 in
theorem w_c2 : (Jvm.Cond.code ({ cls := "java/lang/String", name := "<init>", desc := "([CIILjava/lang/Void;)V" } : Jvm.MethodName) jdk_42_method_149_code (6 : Nat) (Option.none : Option Jvm.ClassFile.FieldType)).before args0 about1 = true := code_word (m := ⟨7, 4⟩) (meth := k7m4) (c := k7c4) (by decide +kernel) rfl rfl rfl (by decide +kernel)
set_option maxRecDepth 65536 in
theorem w_c3 : (Jvm.Cond.code ({ cls := "java/lang/Object", name := "<init>", desc := "()V" } : Jvm.MethodName) object_method_1_code (1 : Nat) (Option.none : Option Jvm.ClassFile.FieldType)).before args0 about1 = true := code_word (m := ⟨0, 0⟩) (meth := k0m0) (c := k0c0) (by decide +kernel) rfl rfl rfl (by decide +kernel)
set_option maxRecDepth 65536 in
theorem w_c4 : (Jvm.Cond.code ({ cls := "java/lang/StringUTF16", name := "compress", desc := "([CII)[B" } : Jvm.MethodName) jdk_52_method_16_code (6 : Nat) (Option.some (Jvm.ClassFile.FieldType.array Jvm.ClassFile.FieldType.byte))).before args0 about1 = true := code_word (m := ⟨8, 8⟩) (meth := k8m8) (c := k8c8) (by decide +kernel) rfl rfl rfl (by decide +kernel)
set_option maxRecDepth 65536 in
theorem w_c5 : (Jvm.Cond.code ({ cls := "java/lang/StringUTF16", name := "compress", desc := "([CI[BII)I" } : Jvm.MethodName) jdk_52_method_21_code (7 : Nat) (Option.some Jvm.ClassFile.FieldType.int)).before args0 about1 = true := code_word (m := ⟨8, 9⟩) (meth := k8m9) (c := k8c9) (by decide +kernel) rfl rfl rfl (by decide +kernel)
set_option maxRecDepth 65536 in
theorem w_c6 : (Jvm.Cond.code ({ cls := "java/lang/StringUTF16", name := "coderFromArrayLen", desc := "([BI)B" } : Jvm.MethodName) jdk_52_method_15_code (2 : Nat) (Option.some Jvm.ClassFile.FieldType.byte)).before args0 about1 = true := code_word (m := ⟨8, 7⟩) (meth := k8m7) (c := k8c7) (by decide +kernel) rfl rfl rfl (by decide +kernel)
set_option maxRecDepth 65536 in
theorem w_c7 : (Jvm.Cond.code ({ cls := "com/example/portcullis/portcullis/IdsValidPinLaw", name := "ok", desc := "(C)Z" } : Jvm.MethodName) method_2_code (1 : Nat) (Option.some Jvm.ClassFile.FieldType.boolean)).before args0 about1 = true := code_word (m := ⟨1, 1⟩) (meth := k1m1) (c := k1c1) (by decide +kernel) rfl rfl rfl (by decide +kernel)
set_option maxRecDepth 65536 in
theorem w_c8 : (Jvm.Cond.code ({ cls := "com/example/portcullis/portcullis/Ids", name := "valid", desc := "(Ljava/lang/String;)Z" } : Jvm.MethodName) prog_15_method_2_code (5 : Nat) (Option.some Jvm.ClassFile.FieldType.boolean)).before args0 about1 = true := code_word (m := ⟨9, 1⟩) (meth := k9m1) (c := k9c1) (by decide +kernel) rfl rfl rfl (by decide +kernel)
set_option maxRecDepth 65536 in
theorem w_c9 : (Jvm.Cond.code ({ cls := "java/lang/String", name := "length", desc := "()I" } : Jvm.MethodName) jdk_42_method_54_code (1 : Nat) (Option.some Jvm.ClassFile.FieldType.int)).before args0 about1 = true := code_word (m := ⟨7, 2⟩) (meth := k7m2) (c := k7c2) (by decide +kernel) rfl rfl rfl (by decide +kernel)
set_option maxRecDepth 65536 in
theorem w_c10 : (Jvm.Cond.code ({ cls := "java/lang/String", name := "coder", desc := "()B" } : Jvm.MethodName) jdk_42_method_152_code (1 : Nat) (Option.some Jvm.ClassFile.FieldType.byte)).before args0 about1 = true := code_word (m := ⟨7, 5⟩) (meth := k7m5) (c := k7c5) (by decide +kernel) rfl rfl rfl (by decide +kernel)
set_option maxRecDepth 65536 in
theorem w_c11 : (Jvm.Cond.code ({ cls := "java/lang/String", name := "charAt", desc := "(I)C" } : Jvm.MethodName) jdk_42_method_56_code (2 : Nat) (Option.some Jvm.ClassFile.FieldType.char)).before args0 about1 = true := code_word (m := ⟨7, 3⟩) (meth := k7m3) (c := k7c3) (by decide +kernel) rfl rfl rfl (by decide +kernel)
set_option maxRecDepth 65536 in
theorem w_c12 : (Jvm.Cond.code ({ cls := "java/lang/String", name := "isLatin1", desc := "()Z" } : Jvm.MethodName) jdk_42_method_154_code (1 : Nat) (Option.some Jvm.ClassFile.FieldType.boolean)).before args0 about1 = true := code_word (m := ⟨7, 6⟩) (meth := k7m6) (c := k7c6) (by decide +kernel) rfl rfl rfl (by decide +kernel)
set_option maxRecDepth 65536 in
theorem w_c13 : (Jvm.Cond.code ({ cls := "java/lang/StringLatin1", name := "charAt", desc := "([BI)C" } : Jvm.MethodName) jdk_43_method_2_code (2 : Nat) (Option.some Jvm.ClassFile.FieldType.char)).before args0 about1 = true := code_word (m := ⟨10, 1⟩) (meth := k10m1) (c := k10c1) (by decide +kernel) rfl rfl rfl (by decide +kernel)
set_option maxRecDepth 65536 in
theorem w_c14 : (Jvm.Cond.code ({ cls := "java/lang/String", name := "checkIndex", desc := "(II)V" } : Jvm.MethodName) jdk_42_method_155_code (2 : Nat) (Option.none : Option Jvm.ClassFile.FieldType)).before args0 about1 = true := code_word (m := ⟨7, 7⟩) (meth := k7m7) (c := k7c7) (by decide +kernel) rfl rfl rfl (by decide +kernel)
set_option maxRecDepth 65536 in
theorem w_c15 : (Jvm.Cond.code ({ cls := "jdk/internal/util/Preconditions", name := "checkIndex", desc := "(IILjava/util/function/BiFunction;)I" } : Jvm.MethodName) jdk_41_method_11_code (3 : Nat) (Option.some Jvm.ClassFile.FieldType.int)).before args0 about1 = true := code_word (m := ⟨11, 1⟩) (meth := k11m1) (c := k11c1) (by decide +kernel) rfl rfl rfl (by decide +kernel)
set_option maxRecDepth 65536 in
theorem w_c16 : (Jvm.Cond.code ({ cls := "java/lang/StringUTF16", name := "toBytes", desc := "([CII)[B" } : Jvm.MethodName) jdk_52_method_14_code (5 : Nat) (Option.some (Jvm.ClassFile.FieldType.array Jvm.ClassFile.FieldType.byte))).before args0 about1 = true := code_word (m := ⟨8, 6⟩) (meth := k8m6) (c := k8c6) (by decide +kernel) rfl rfl rfl (by decide +kernel)
set_option maxRecDepth 65536 in
theorem w_c17 : (Jvm.Cond.code ({ cls := "java/lang/StringUTF16", name := "newBytesFor", desc := "(I)[B" } : Jvm.MethodName) jdk_52_method_2_code (1 : Nat) (Option.some (Jvm.ClassFile.FieldType.array Jvm.ClassFile.FieldType.byte))).before args0 about1 = true := code_word (m := ⟨8, 1⟩) (meth := k8m1) (c := k8c1) (by decide +kernel) rfl rfl rfl (by decide +kernel)
set_option maxRecDepth 65536 in
theorem w_c18 : (Jvm.Cond.code ({ cls := "java/lang/StringUTF16", name := "newBytesLength", desc := "(I)I" } : Jvm.MethodName) jdk_52_method_3_code (1 : Nat) (Option.some Jvm.ClassFile.FieldType.int)).before args0 about1 = true := code_word (m := ⟨8, 2⟩) (meth := k8m2) (c := k8c2) (by decide +kernel) rfl rfl rfl (by decide +kernel)
set_option maxRecDepth 65536 in
theorem w_c19 : (Jvm.Cond.code ({ cls := "java/lang/StringUTF16", name := "putChar", desc := "([BII)V" } : Jvm.MethodName) jdk_52_method_4_code (3 : Nat) (Option.none : Option Jvm.ClassFile.FieldType)).before args0 about1 = true := code_word (m := ⟨8, 3⟩) (meth := k8m3) (c := k8c3) (by decide +kernel) rfl rfl rfl (by decide +kernel)
set_option maxRecDepth 65536 in
theorem w_c20 : (Jvm.Cond.code ({ cls := "java/lang/StringUTF16", name := "getChar", desc := "([BI)C" } : Jvm.MethodName) jdk_52_method_5_code (2 : Nat) (Option.some Jvm.ClassFile.FieldType.char)).before args0 about1 = true := code_word (m := ⟨8, 4⟩) (meth := k8m4) (c := k8c4) (by decide +kernel) rfl rfl rfl (by decide +kernel)
set_option maxRecDepth 65536 in
theorem w_c21 : (Jvm.Cond.code ({ cls := "java/lang/StringUTF16", name := "charAt", desc := "([BI)C" } : Jvm.MethodName) jdk_52_method_83_code (2 : Nat) (Option.some Jvm.ClassFile.FieldType.char)).before args0 about1 = true := code_word (m := ⟨8, 10⟩) (meth := k8m10) (c := k8c10) (by decide +kernel) rfl rfl rfl (by decide +kernel)
set_option maxRecDepth 65536 in
theorem w_c22 : (Jvm.Cond.code ({ cls := "java/lang/StringUTF16", name := "checkIndex", desc := "(I[B)V" } : Jvm.MethodName) jdk_52_method_91_code (2 : Nat) (Option.none : Option Jvm.ClassFile.FieldType)).before args0 about1 = true := code_word (m := ⟨8, 11⟩) (meth := k8m11) (c := k8c11) (by decide +kernel) rfl rfl rfl (by decide +kernel)
set_option maxRecDepth 65536 in
theorem w_c23 : (Jvm.Cond.code ({ cls := "java/lang/StringUTF16", name := "length", desc := "([B)I" } : Jvm.MethodName) jdk_52_method_6_code (1 : Nat) (Option.some Jvm.ClassFile.FieldType.int)).before args0 about1 = true := code_word (m := ⟨8, 5⟩) (meth := k8m5) (c := k8c5) (by decide +kernel) rfl rfl rfl (by decide +kernel)
def codes1 : List Jvm.Cond := [Jvm.Cond.code x code maxLocals ret, Jvm.Cond.code ({ cls := "java/lang/String", name := "<init>", desc := "([C)V" } : Jvm.MethodName) jdk_42_method_3_code (2 : Nat) (Option.none : Option Jvm.ClassFile.FieldType), Jvm.Cond.code ({ cls := "java/lang/String", name := "<init>", desc := "([CIILjava/lang/Void;)V" } : Jvm.MethodName) jdk_42_method_149_code (6 : Nat) (Option.none : Option Jvm.ClassFile.FieldType), Jvm.Cond.code ({ cls := "java/lang/Object", name := "<init>", desc := "()V" } : Jvm.MethodName) object_method_1_code (1 : Nat) (Option.none : Option Jvm.ClassFile.FieldType), Jvm.Cond.code ({ cls := "java/lang/StringUTF16", name := "compress", desc := "([CII)[B" } : Jvm.MethodName) jdk_52_method_16_code (6 : Nat) (Option.some (Jvm.ClassFile.FieldType.array Jvm.ClassFile.FieldType.byte)), Jvm.Cond.code ({ cls := "java/lang/StringUTF16", name := "compress", desc := "([CI[BII)I" } : Jvm.MethodName) jdk_52_method_21_code (7 : Nat) (Option.some Jvm.ClassFile.FieldType.int), Jvm.Cond.code ({ cls := "java/lang/StringUTF16", name := "coderFromArrayLen", desc := "([BI)B" } : Jvm.MethodName) jdk_52_method_15_code (2 : Nat) (Option.some Jvm.ClassFile.FieldType.byte), Jvm.Cond.code ({ cls := "com/example/portcullis/portcullis/IdsValidPinLaw", name := "ok", desc := "(C)Z" } : Jvm.MethodName) method_2_code (1 : Nat) (Option.some Jvm.ClassFile.FieldType.boolean), Jvm.Cond.code ({ cls := "com/example/portcullis/portcullis/Ids", name := "valid", desc := "(Ljava/lang/String;)Z" } : Jvm.MethodName) prog_15_method_2_code (5 : Nat) (Option.some Jvm.ClassFile.FieldType.boolean), Jvm.Cond.code ({ cls := "java/lang/String", name := "length", desc := "()I" } : Jvm.MethodName) jdk_42_method_54_code (1 : Nat) (Option.some Jvm.ClassFile.FieldType.int), Jvm.Cond.code ({ cls := "java/lang/String", name := "coder", desc := "()B" } : Jvm.MethodName) jdk_42_method_152_code (1 : Nat) (Option.some Jvm.ClassFile.FieldType.byte), Jvm.Cond.code ({ cls := "java/lang/String", name := "charAt", desc := "(I)C" } : Jvm.MethodName) jdk_42_method_56_code (2 : Nat) (Option.some Jvm.ClassFile.FieldType.char), Jvm.Cond.code ({ cls := "java/lang/String", name := "isLatin1", desc := "()Z" } : Jvm.MethodName) jdk_42_method_154_code (1 : Nat) (Option.some Jvm.ClassFile.FieldType.boolean), Jvm.Cond.code ({ cls := "java/lang/StringLatin1", name := "charAt", desc := "([BI)C" } : Jvm.MethodName) jdk_43_method_2_code (2 : Nat) (Option.some Jvm.ClassFile.FieldType.char), Jvm.Cond.code ({ cls := "java/lang/String", name := "checkIndex", desc := "(II)V" } : Jvm.MethodName) jdk_42_method_155_code (2 : Nat) (Option.none : Option Jvm.ClassFile.FieldType), Jvm.Cond.code ({ cls := "jdk/internal/util/Preconditions", name := "checkIndex", desc := "(IILjava/util/function/BiFunction;)I" } : Jvm.MethodName) jdk_41_method_11_code (3 : Nat) (Option.some Jvm.ClassFile.FieldType.int), Jvm.Cond.code ({ cls := "java/lang/StringUTF16", name := "toBytes", desc := "([CII)[B" } : Jvm.MethodName) jdk_52_method_14_code (5 : Nat) (Option.some (Jvm.ClassFile.FieldType.array Jvm.ClassFile.FieldType.byte)), Jvm.Cond.code ({ cls := "java/lang/StringUTF16", name := "newBytesFor", desc := "(I)[B" } : Jvm.MethodName) jdk_52_method_2_code (1 : Nat) (Option.some (Jvm.ClassFile.FieldType.array Jvm.ClassFile.FieldType.byte)), Jvm.Cond.code ({ cls := "java/lang/StringUTF16", name := "newBytesLength", desc := "(I)I" } : Jvm.MethodName) jdk_52_method_3_code (1 : Nat) (Option.some Jvm.ClassFile.FieldType.int), Jvm.Cond.code ({ cls := "java/lang/StringUTF16", name := "putChar", desc := "([BII)V" } : Jvm.MethodName) jdk_52_method_4_code (3 : Nat) (Option.none : Option Jvm.ClassFile.FieldType), Jvm.Cond.code ({ cls := "java/lang/StringUTF16", name := "getChar", desc := "([BI)C" } : Jvm.MethodName) jdk_52_method_5_code (2 : Nat) (Option.some Jvm.ClassFile.FieldType.char), Jvm.Cond.code ({ cls := "java/lang/StringUTF16", name := "charAt", desc := "([BI)C" } : Jvm.MethodName) jdk_52_method_83_code (2 : Nat) (Option.some Jvm.ClassFile.FieldType.char), Jvm.Cond.code ({ cls := "java/lang/StringUTF16", name := "checkIndex", desc := "(I[B)V" } : Jvm.MethodName) jdk_52_method_91_code (2 : Nat) (Option.none : Option Jvm.ClassFile.FieldType), Jvm.Cond.code ({ cls := "java/lang/StringUTF16", name := "length", desc := "([B)I" } : Jvm.MethodName) jdk_52_method_6_code (1 : Nat) (Option.some Jvm.ClassFile.FieldType.int)]
set_option maxRecDepth 65536 in
theorem codes_eq : words1.filter isCode = codes1 := rfl
theorem w_codes : ∀ c ∈ words1.filter isCode, c.before args0 about1 = true := by
  rw [codes_eq]
  intro c hc
  simp only [codes1, List.mem_cons, List.not_mem_nil, or_false] at hc
  rcases hc with rfl | rfl | rfl | rfl | rfl | rfl | rfl | rfl | rfl | rfl | rfl | rfl | rfl | rfl | rfl | rfl | rfl | rfl | rfl | rfl | rfl | rfl | rfl | rfl
  · exact w_c0
  · exact w_c1
  · exact w_c2
  · exact w_c3
  · exact w_c4
  · exact w_c5
  · exact w_c6
  · exact w_c7
  · exact w_c8
  · exact w_c9
  · exact w_c10
  · exact w_c11
  · exact w_c12
  · exact w_c13
  · exact w_c14
  · exact w_c15
  · exact w_c16
  · exact w_c17
  · exact w_c18
  · exact w_c19
  · exact w_c20
  · exact w_c21
  · exact w_c22
  · exact w_c23
set_option maxRecDepth 65536 in
theorem w_t1 : (words1.take 24).all (fun c => isCode c || c.before args0 about1) = true := by decide +kernel
set_option maxRecDepth 65536 in
theorem w_t2 : ((words1.drop 24).take 24).all (fun c => isCode c || c.before args0 about1) = true := by decide +kernel
set_option maxRecDepth 65536 in
theorem w_t3 : (((words1.drop 24).drop 24).take 24).all (fun c => isCode c || c.before args0 about1) = true := by decide +kernel
set_option maxRecDepth 65536 in
theorem w_t4 : ((((words1.drop 24).drop 24).drop 24).take 24).all (fun c => isCode c || c.before args0 about1) = true := by decide +kernel
set_option maxRecDepth 65536 in
theorem w_t5 : ((((words1.drop 24).drop 24).drop 24).drop 24).all (fun c => isCode c || c.before args0 about1) = true := by decide +kernel
theorem w_tables : (allAtoms (Jvm.Cond.code x code maxLocals ret :: tables_1)).before args0 about1 = true := by
  rw [allAtoms_all]
  show words1.all (fun c => c.before args0 about1) = true
  refine all_split ?_ w_codes
  rw [← List.take_append_drop 24 words1, List.all_append, w_t1, ← List.take_append_drop 24 (words1.drop 24), List.all_append, w_t2, ← List.take_append_drop 24 ((words1.drop 24).drop 24), List.all_append, w_t3, ← List.take_append_drop 24 (((words1.drop 24).drop 24).drop 24), List.all_append, w_t4, w_t5]
  rfl
set_option maxRecDepth 65536 in
theorem w_rest : rest_1_c.before args0 about1 = true := by decide +kernel
set_option maxRecDepth 65536 in
theorem w_case : (Jvm.Cond.and given_1 narrow_1).before args0 about1 = true := by decide +kernel
set_option maxRecDepth 65536 in
theorem w_consts : constsHeld consts_1 about1 := Jvm.Lit.constsHeldB_iff.mp (by decide +kernel)
theorem w_applies : (headSpec (Jvm.Cond.code x code maxLocals ret :: tables_1) room_1).applies x e0.platform about1 = true :=
  (Spec.applies_iff w_frames).mpr ⟨w_running, w_runnable, w_alone, w_named, w_hears, w_ripe, w_room, w_tables⟩
theorem atStart : AtStart classFile x code maxLocals ret World_1 tables_1 room_1 Calls_1 rest_1 Pre_1 launch0 p0 e0 about1 theMethod args0 below0 :=
  ⟨lists_1, trivial, launch0.admits_env _ _ _, launch0.least_env, fairChoices_fair.cas, fairChoices_fair.clock, w_frames, w_args, w_heap, w_applies, ⟨w_consts, trivial⟩, w_rest, w_case⟩
end start1
theorem witness_1 : WitnessClaimed_1 := ⟨start1.p0, start1.e0, start1.about1, start1.theMethod, start1.args0, start1.below0, start1.atStart⟩
end Jvm.Pilot.@@N@@
