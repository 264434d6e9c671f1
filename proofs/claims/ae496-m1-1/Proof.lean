import JvmDerived
import JvmDerived.Pilot.@@N@@Statement
import JvmDerived.Pilot.@@N@@Code
set_option linter.unusedVariables false
set_option linter.unusedSimpArgs false
/- laws to paste: Road.backV (cut by pick.py; bodies as the Statement names them) -/
namespace Jvm.Pilot.@@N@@
namespace StrChars
open Jvm Sem ClassFile Op Lib Jvm.Stand Jvm.Free.XT Jvm.Free.ALB Jvm.Free.JM Jvm.Free
open Jvm.Lib.Cold (StaticIs)
/-- a char array whose places are chars -/
def Ch (a : Addr) (A : Cell) (U : State) : Prop := Arr .char a A U ∧ Typed .char A
theorem Ch.mv {a : Addr} {A : Cell} {U U' : State} (h : Ch a A U) (hal : U.vm.Alike U'.vm) (hh : U'.heap = U.heap) : Ch a A U' := ⟨h.1.mv hal hh, h.2⟩
theorem Ch.keep {a : Addr} {A : Cell} {U U' : State} (h : Ch a A U) (hal : U.vm.Alike U'.vm) (hk : U'.heap[a]? = some A) : Ch a A U' := ⟨h.1.keep hal hk, h.2⟩
/-- what place i of a char[]'s cell holds -/
def cv (A : Cell) (i : Nat) : Int32 := match A.slots[i]? with | some (.int x) => x | _ => 0
theorem Ch.get {a : Addr} {A : Cell} {U : State} (h : Ch a A U) {i : Nat} (hi : i < A.slots.size) : A.slots[i]? = some (.int (cv A i)) := by
  have e := Array.getElem?_eq_getElem hi
  have f := h.2 i _ e
  unfold cv; rw [e]
  generalize A.slots[i] = v at f
  cases v <;> simp [fits] at f ⊢
/-- the byte that i2b leaves of a char -/
def lo8 (x : Int32) : Int32 := x.toInt8.toInt32
theorem fits_lo8 (y : Int32) : fits .byte (.int (lo8 y)) = true := by
  have h1 := y.toInt8.le_toInt
  have h2 := y.toInt8.toInt_lt
  simp only [lo8, fits, Bool.and_eq_true, decide_eq_true_eq, Int32.le_iff_toInt_le, Int8.toInt_toInt32, show (-128 : Int32).toInt = -128 from by decide, show (127 : Int32).toInt = 127 from by decide]
  omega
/-- A' is A but that each place j of lo .. hi - 1 holds f j -/
def Laid (A A' : Cell) (lo hi : Nat) (f : Nat → Value) : Prop := A'.cls = A.cls ∧ A'.vm = A.vm ∧ A'.slots.size = A.slots.size ∧ ∀ i, A'.slots[i]? = if lo ≤ i ∧ i < hi then some (f i) else A.slots[i]?
theorem Laid.zero (A : Cell) (lo : Nat) (f : Nat → Value) : Laid A A lo (lo + 0) f := ⟨rfl, rfl, rfl, fun i => by rw [if_neg (by omega)]⟩
theorem Laid.step {A Ak : Cell} {lo k : Nat} {f : Nat → Value} {v : Value} (h : Laid A Ak lo k f) (hlo : lo ≤ k) (hk : k < Ak.slots.size) (hv : v = f k) : Laid A (Ak.setSlot k v) lo (k + 1) f := by
  refine ⟨h.1, h.2.1, by simpa [Cell.setSlot] using h.2.2.1, fun i => ?_⟩
  by_cases e : k = i
  · subst e; rw [Cell.slots_setSlot_self v hk, if_pos (by omega), hv]
  · rw [Cell.slots_setSlot_ne v e, h.2.2.2 i]
    by_cases q : lo ≤ i ∧ i < k
    · rw [if_pos q, if_pos (by omega)]
    · rw [if_neg q, if_neg (by omega)]
def U16 : String := "java/lang/StringUTF16"
namespace Cmp5
def yN : MethodName := ⟨"java/lang/StringUTF16", "compress", "([CI[BII)I"⟩
abbrev yB : ByteArray := jdk_52_method_21_code
theorem d0 : decode yB 0 = .ok (.iconst 0, 1) := by decide +kernel
theorem d1 : decode yB 1 = .ok (.istore 5, 2) := by decide +kernel
theorem d3 : decode yB 3 = .ok (.iload 5, 2) := by decide +kernel
theorem d5 : decode yB 5 = .ok (.iload 4, 2) := by decide +kernel
theorem d7 : decode yB 7 = .ok (.if_icmp (.ge) 37, 3) := by decide +kernel
theorem d10 : decode yB 10 = .ok (.aload_n 0, 1) := by decide +kernel
theorem d11 : decode yB 11 = .ok (.iload_n 1, 1) := by decide +kernel
theorem d12 : decode yB 12 = .ok (.caload, 1) := by decide +kernel
theorem d13 : decode yB 13 = .ok (.istore 6, 2) := by decide +kernel
theorem d15 : decode yB 15 = .ok (.iload 6, 2) := by decide +kernel
theorem d17 : decode yB 17 = .ok (.sipush 255, 3) := by decide +kernel
theorem d20 : decode yB 20 = .ok (.if_icmp (.le) 6, 3) := by decide +kernel
theorem d26 : decode yB 26 = .ok (.aload_n 2, 1) := by decide +kernel
theorem d27 : decode yB 27 = .ok (.iload_n 3, 1) := by decide +kernel
theorem d28 : decode yB 28 = .ok (.iload 6, 2) := by decide +kernel
theorem d30 : decode yB 30 = .ok (.i2b, 1) := by decide +kernel
theorem d31 : decode yB 31 = .ok (.bastore, 1) := by decide +kernel
theorem d32 : decode yB 32 = .ok (.iinc 1 1, 3) := by decide +kernel
theorem d35 : decode yB 35 = .ok (.iinc 3 1, 3) := by decide +kernel
theorem d38 : decode yB 38 = .ok (.iinc 5 1, 3) := by decide +kernel
theorem d41 : decode yB 41 = .ok (.goto (-38), 3) := by decide +kernel
theorem d44 : decode yB 44 = .ok (.iload 4, 2) := by decide +kernel
theorem d46 : decode yB 46 = .ok (.ireturn, 1) := by decide +kernel
def site : List Cond := []
def tab : Cond := tabOf yN yB 7 (some .int) site
def P (b : Addr) (A : Cell) (d : Addr) (B : Cell) (o q len : Nat) (args : Array Value) (s : State) : Prop := args = #[.ref b, .int (Int32.ofNat o), .ref d, .int (Int32.ofNat q), .int (Int32.ofNat len)] ∧ Ch b A s ∧ Arr .byte d B s ∧ b ≠ d ∧ o + len ≤ A.slots.size ∧ q + len ≤ B.slots.size ∧ ∀ i, i < len → ¬ 255 < cv A (o + i)
def E (b : Addr) (A : Cell) (d : Addr) (B : Cell) (o q len : Nat) (r : Option Value) (s u : State) : Prop := r = some (.int (Int32.ofNat len)) ∧ ∃ B', Put d B' s u ∧ Laid B B' q (q + len) (fun j => Value.int (lo8 (cv A (o + (j - q)))))
/-- no char of the range above 255: len; the places written hold each char's low byte -/
theorem law (l : Launch) (b : Addr) (A : Cell) (d : Addr) (B : Cell) (o q len : Nat) : Law l yN 5 5 0 0 yB 7 (some .int) site (P b A d B o q len) (E b A d B o q len) (copyLocs d q len) 0 0 := by
  refine Law.of_walk (plainFor_of_name (by decide +kernel)) (by decide +kernel) (by decide +kernel) (by decide) (fun _ _ h => by rw [h.1]; rfl) (fun _ U U' hal hh h => ⟨h.1, h.2.1.mv hal hh, h.2.2.1.mv hal hh, h.2.2.2⟩) (fun r U U' V V' h1 hal h2 h => ⟨h.1, h.2.elim fun B' q => ⟨B', q.1.mv h1 h2, q.2⟩⟩) ?_
  intro p e s m args below meth c s₁ X0 hexec hbytes hml hret hlk hnm hown hh0 W hP
  obtain ⟨rfl, hA, hB, hne, l1, l2, hp⟩ := hP
  have c1 : Steps p.tables e below (s₁.setTop (entryFrame m #[.ref b, .int (Int32.ofNat o), .ref d, .int (Int32.ofNat q), .int (Int32.ofNat len)] 7)) (s₁.setTop (mkF m 0 #[.val (.ref b), .val (.int (Int32.ofNat o)), .val (.ref d), .val (.int (Int32.ofNat q)), .val (.int (Int32.ofNat len)), .unset, .unset] [])) := entry rfl
  have hA0 := hA.1.mv X0.warmed.alike hh0
  have hB0 := hB.mv X0.warmed.alike hh0
  have a31 := hA.1.2.2.2
  have c2 : Steps p.tables e below (s₁.setTop (entryFrame m #[.ref b, .int (Int32.ofNat o), .ref d, .int (Int32.ofNat q), .int (Int32.ofNat len)] 7)) (s₁.setTop (mkF m 3 #[.val (.ref b), .val (.int (Int32.ofNat o)), .val (.ref d), .val (.int (Int32.ofNat q)), .val (.int (Int32.ofNat len)), .val (.int 0), .unset] [])) := c1.trans (by
    refine iconstV X0.here hexec rfl 0 (hb hbytes d0) (by decide) ?_
    refine XS.istore X0.here hexec rfl (hb hbytes d1) rfl rfl ?_
    exact Steps.refl _)
  have loop : ∀ (r i : Nat), i + r = len → ∀ (z : Slot), (z = .unset ∨ ∃ w, z = .val w ∧ w.category = 1) → ∀ (Tl : State) (Bk : Cell), Stand p l e { frames := 0, locals := 0, cells := 0, slots := 0 } s m #[.ref b, .int (Int32.ofNat o), .ref d, .int (Int32.ofNat q), .int (Int32.ofNat len)] below meth c Tl ([] ++ copyLocs d q i) 0 0 → Put d Bk s₁ Tl → Laid B Bk q (q + i) (fun j => Value.int (lo8 (cv A (o + (j - q))))) →
      Steps p.tables e below (s₁.setTop (entryFrame m #[.ref b, .int (Int32.ofNat o), .ref d, .int (Int32.ofNat q), .int (Int32.ofNat len)] 7)) (Tl.setTop (mkF m 3 #[.val (.ref b), .val (.int (Int32.ofNat (o + i))), .val (.ref d), .val (.int (Int32.ofNat (q + i))), .val (.int (Int32.ofNat len)), .val (.int (Int32.ofNat i)), z] [])) → ∃ (T' : State) (B' : Cell) (z' : Slot), Stand p l e { frames := 0, locals := 0, cells := 0, slots := 0 } s m #[.ref b, .int (Int32.ofNat o), .ref d, .int (Int32.ofNat q), .int (Int32.ofNat len)] below meth c T' ([] ++ copyLocs d q len) 0 0 ∧ Put d B' s₁ T' ∧ Laid B B' q (q + len) (fun j => Value.int (lo8 (cv A (o + (j - q))))) ∧
      Steps p.tables e below (s₁.setTop (entryFrame m #[.ref b, .int (Int32.ofNat o), .ref d, .int (Int32.ofNat q), .int (Int32.ofNat len)] 7)) (T'.setTop (mkF m 3 #[.val (.ref b), .val (.int (Int32.ofNat (o + len))), .val (.ref d), .val (.int (Int32.ofNat (q + len))), .val (.int (Int32.ofNat len)), .val (.int (Int32.ofNat len)), z'] [])) := by
    intro r
    induction r with
    | zero =>
      intro i hi z hz Tl Bk Xl pl fl cl
      have hil : i = len := by omega
      rw [hil] at Xl fl cl
      exact ⟨Tl, Bk, z, Xl, pl, fl, cl⟩
    | succ r ih =>
      intro i hi z hz Tl Bk Xl pl fl cl
      have all := X0.warmed.alike.symm.trans Xl.warmed.alike
      have hAl := hA0.keep all (pl.other hne hA0.1)
      have hBk := hB0.like all pl.1 fl.1 fl.2.1 fl.2.2.1
      have hlt : q + i < Bk.slots.size := by rw [fl.2.2.1]; omega
      have c3 : Steps p.tables e below (s₁.setTop (entryFrame m #[.ref b, .int (Int32.ofNat o), .ref d, .int (Int32.ofNat q), .int (Int32.ofNat len)] 7)) (Tl.setTop (mkF m 12 #[.val (.ref b), .val (.int (Int32.ofNat (o + i))), .val (.ref d), .val (.int (Int32.ofNat (q + i))), .val (.int (Int32.ofNat len)), .val (.int (Int32.ofNat i)), z] [.int (Int32.ofNat (o + i)), .ref b])) := cl.trans (by
        refine XS.iload Xl.here hexec rfl (hb hbytes d3) rfl ?_
        refine XS.iload Xl.here hexec rfl (hb hbytes d5) rfl ?_
        refine XS.icmpNo Xl.here hexec rfl (hb hbytes d7) rfl (ii_ge_f (lt32 (by omega) (by omega))) ?_
        refine XS.aloadN Xl.here hexec rfl (hb hbytes d10) rfl rfl ?_
        refine XS.iloadN Xl.here hexec rfl (hb hbytes d11) rfl ?_
        exact Steps.refl _)
      have c4 : Steps p.tables e below (s₁.setTop (entryFrame m #[.ref b, .int (Int32.ofNat o), .ref d, .int (Int32.ofNat q), .int (Int32.ofNat len)] 7)) (Tl.setTop (mkF m 13 #[.val (.ref b), .val (.int (Int32.ofNat (o + i))), .val (.ref d), .val (.int (Int32.ofNat (q + i))), .val (.int (Int32.ofNat len)), .val (.int (Int32.ofNat i)), z] [.int (cv A (o + i))])) := c3.trans (by
        refine Xl.aget hexec hAl rfl (hA.get (i := o + i) (by omega)) rfl rfl (hb hbytes d12) ?_
        exact Steps.refl _)
      have c5 : Steps p.tables e below (s₁.setTop (entryFrame m #[.ref b, .int (Int32.ofNat o), .ref d, .int (Int32.ofNat q), .int (Int32.ofNat len)] 7)) (Tl.setTop (mkF m 15 #[.val (.ref b), .val (.int (Int32.ofNat (o + i))), .val (.ref d), .val (.int (Int32.ofNat (q + i))), .val (.int (Int32.ofNat len)), .val (.int (Int32.ofNat i)), .val (.int (cv A (o + i)))] [])) := c4.trans (by
        refine XS.istoreS Xl.here hexec rfl (hb hbytes d13) rfl rfl hz ?_
        exact Steps.refl _)
      have c6 : Steps p.tables e below (s₁.setTop (entryFrame m #[.ref b, .int (Int32.ofNat o), .ref d, .int (Int32.ofNat q), .int (Int32.ofNat len)] 7)) (Tl.setTop (mkF m 31 #[.val (.ref b), .val (.int (Int32.ofNat (o + i))), .val (.ref d), .val (.int (Int32.ofNat (q + i))), .val (.int (Int32.ofNat len)), .val (.int (Int32.ofNat i)), .val (.int (cv A (o + i)))] [.int (lo8 (cv A (o + i))), .int (Int32.ofNat (q + i)), .ref d])) := c5.trans (by
        refine XS.iload Xl.here hexec rfl (hb hbytes d15) rfl ?_
        refine sipushV Xl.here hexec rfl 255 (hb hbytes d17) (by decide) ?_
        refine XS.icmpYes Xl.here hexec rfl (pc0 := 20) rfl (hb hbytes d20) rfl (ii_le_t (hp i (by omega))) (by decide) rfl ?_
        refine XS.aloadN Xl.here hexec rfl (hb hbytes d26) rfl rfl ?_
        refine XS.iloadN Xl.here hexec rfl (hb hbytes d27) rfl ?_
        refine XS.iload Xl.here hexec rfl (hb hbytes d28) rfl ?_
        refine i2b Xl.here hexec rfl (hb hbytes d30) rfl ?_
        exact Steps.refl _)
      obtain ⟨T7, X7, p7, st7⟩ := Xl.aput hexec hBk rfl hlt rfl (fits_lo8 (cv A (o + i))) (g := (mkF m 31 #[.val (.ref b), .val (.int (Int32.ofNat (o + i))), .val (.ref d), .val (.int (Int32.ofNat (q + i))), .val (.int (Int32.ofNat len)), .val (.int (Int32.ofNat i)), .val (.int (cv A (o + i)))] [.int (lo8 (cv A (o + i))), .int (Int32.ofNat (q + i)), .ref d])) rfl (rest := []) rfl (hb hbytes d31)
      have c8 : Steps p.tables e below (s₁.setTop (entryFrame m #[.ref b, .int (Int32.ofNat o), .ref d, .int (Int32.ofNat q), .int (Int32.ofNat len)] 7)) (T7.setTop (mkF m 32 #[.val (.ref b), .val (.int (Int32.ofNat (o + i))), .val (.ref d), .val (.int (Int32.ofNat (q + i))), .val (.int (Int32.ofNat len)), .val (.int (Int32.ofNat i)), .val (.int (cv A (o + i)))] [])) := c6.trans (st7 _ (Steps.refl _))
      have c9 : Steps p.tables e below (s₁.setTop (entryFrame m #[.ref b, .int (Int32.ofNat o), .ref d, .int (Int32.ofNat q), .int (Int32.ofNat len)] 7)) (T7.setTop (mkF m 3 #[.val (.ref b), .val (.int (Int32.ofNat (o + i) + 1)), .val (.ref d), .val (.int (Int32.ofNat (q + i) + 1)), .val (.int (Int32.ofNat len)), .val (.int (Int32.ofNat i + 1)), .val (.int (cv A (o + i)))] [])) := c8.trans (by
        refine iincV X7.here hexec rfl 1 (hb hbytes d32) (by decide) rfl rfl ?_
        refine iincV X7.here hexec rfl 1 (hb hbytes d35) (by decide) rfl rfl ?_
        refine iincV X7.here hexec rfl 1 (hb hbytes d38) (by decide) rfl rfl ?_
        refine XS.goto X7.here hexec rfl (pc0 := 41) rfl (hb hbytes d41) (by decide) rfl ?_
        exact Steps.refl _)
      have c10 : Steps p.tables e below (s₁.setTop (entryFrame m #[.ref b, .int (Int32.ofNat o), .ref d, .int (Int32.ofNat q), .int (Int32.ofNat len)] 7)) (T7.setTop (mkF m 3 #[.val (.ref b), .val (.int (Int32.ofNat (o + (i + 1)))), .val (.ref d), .val (.int (Int32.ofNat (q + (i + 1)))), .val (.int (Int32.ofNat len)), .val (.int (Int32.ofNat (i + 1))), .val (.int (cv A (o + i)))] [])) := by
        have := c9
        rw [succ32, succ32, succ32] at this
        exact this
      exact ih (i + 1) (by omega) _ (Or.inr ⟨_, rfl, rfl⟩) T7 _ (by rw [copyLocs_step, ← List.append_assoc]; exact X7) (pl.trans p7) (fl.step (by omega) hlt (by simp)) c10
  obtain ⟨T9, B9, z9, X9, p9, f9, g9⟩ := loop len 0 (by omega) .unset (Or.inl rfl) s₁ B (by simpa [copyLocs] using X0) ⟨hB0.1, fun _ _ => rfl, rfl⟩ (Laid.zero _ _ _) c2
  have c11 : Steps p.tables e below (s₁.setTop (entryFrame m #[.ref b, .int (Int32.ofNat o), .ref d, .int (Int32.ofNat q), .int (Int32.ofNat len)] 7)) (T9.setTop (mkF m 46 #[.val (.ref b), .val (.int (Int32.ofNat (o + len))), .val (.ref d), .val (.int (Int32.ofNat (q + len))), .val (.int (Int32.ofNat len)), .val (.int (Int32.ofNat len)), z9] [.int (Int32.ofNat len)])) := g9.trans (by
    refine XS.iload X9.here hexec rfl (hb hbytes d3) rfl ?_
    refine XS.iload X9.here hexec rfl (hb hbytes d5) rfl ?_
    refine XS.icmpYes X9.here hexec rfl (pc0 := 7) rfl (hb hbytes d7) rfl (ii_ge_t (nlt32 (by omega) (Nat.le_refl _))) (by decide) rfl ?_
    refine XS.iload X9.here hexec rfl (hb hbytes d44) rfl ?_
    exact Steps.refl _)
  exact ⟨T9, some (.int (Int32.ofNat len)), _, _, _, X9, by simp, rfl, rfl, (fun h => by cases h), ⟨rfl, B9, p9.from hh0, f9⟩, fun fs hl => c11.trans (X9.ireturnOut hexec hret rfl (Or.inl rfl) (hb hbytes d46) hl)⟩
end Cmp5
namespace Cmp3
def yN : MethodName := ⟨"java/lang/StringUTF16", "compress", "([CII)[B"⟩
abbrev yB : ByteArray := jdk_52_method_16_code
theorem d0 : decode yB 0 = .ok (.iload_n 2, 1) := by decide +kernel
theorem d1 : decode yB 1 = .ok (.newarray .byte, 2) := by decide +kernel
theorem d3 : decode yB 3 = .ok (.astore_n 3, 1) := by decide +kernel
theorem d4 : decode yB 4 = .ok (.aload_n 0, 1) := by decide +kernel
theorem d5 : decode yB 5 = .ok (.iload_n 1, 1) := by decide +kernel
theorem d6 : decode yB 6 = .ok (.aload_n 3, 1) := by decide +kernel
theorem d7 : decode yB 7 = .ok (.iconst 0, 1) := by decide +kernel
theorem d8 : decode yB 8 = .ok (.iload_n 2, 1) := by decide +kernel
theorem d9 : decode yB 9 = .ok (.invokestatic 115, 3) := by decide +kernel
theorem d12 : decode yB 12 = .ok (.istore 4, 2) := by decide +kernel
theorem d14 : decode yB 14 = .ok (.iload 4, 2) := by decide +kernel
theorem d16 : decode yB 16 = .ok (.iload_n 2, 1) := by decide +kernel
theorem d17 : decode yB 17 = .ok (.if_icmp (.eq) 40, 3) := by decide +kernel
theorem d57 : decode yB 57 = .ok (.aload_n 3, 1) := by decide +kernel
theorem d58 : decode yB 58 = .ok (.areturn, 1) := by decide +kernel
def site : List Cond := [.arrayClass .byte, Cmp5.tab] ++ staticW U16 115 Cmp5.yN
def tab : Cond := tabOf yN yB 6 (some (.array .byte)) site
def P (b : Addr) (A : Cell) (o len : Nat) (args : Array Value) (s : State) : Prop := args = #[.ref b, .int (Int32.ofNat o), .int (Int32.ofNat len)] ∧ Ch b A s ∧ o + len ≤ A.slots.size ∧ len ≤ 536870912 ∧ ∀ i, i < len → ¬ 255 < cv A (o + i)
def E (b : Addr) (A : Cell) (o len : Nat) (r : Option Value) (s u : State) : Prop := NewArr .byte "[B" len (fun j => .int (lo8 (cv A (o + j)))) r s u ∧ u.heap.size = s.heap.size + 1
/-- no char of the range above 255: a new byte[] of their low bytes -/
theorem law (l : Launch) (b : Addr) (A : Cell) (o len : Nat) : Law l yN 3 3 1 18 yB 6 (some (.array .byte)) site (P b A o len) (E b A o len) [] 1 len := by
  refine Law.of_walk (plainFor_of_name (by decide +kernel)) (by decide +kernel) (by decide +kernel) (by decide) (fun _ _ h => by rw [h.1]; rfl) (fun _ U U' hal hh h => ⟨h.1, h.2.1.mv hal hh, h.2.2⟩) (fun r U U' V V' h1 hal h2 h => ⟨NewArr.mv r U U' V V' h1 hal h2 h.1, by rw [h1, h2]; exact h.2⟩) ?_
  intro p e s m args below meth c s₁ X0 hexec hbytes hml hret hlk hnm hown hh0 W hP
  obtain ⟨rfl, hA, l1, l2, hp⟩ := hP
  have a31 := hA.1.2.2.2
  have c1 : Steps p.tables e below (s₁.setTop (entryFrame m #[.ref b, .int (Int32.ofNat o), .int (Int32.ofNat len)] 6)) (s₁.setTop (mkF m 0 #[.val (.ref b), .val (.int (Int32.ofNat o)), .val (.int (Int32.ofNat len)), .unset, .unset, .unset] [])) := entry rfl
  have c2 : Steps p.tables e below (s₁.setTop (entryFrame m #[.ref b, .int (Int32.ofNat o), .int (Int32.ofNat len)] 6)) (s₁.setTop (mkF m 1 #[.val (.ref b), .val (.int (Int32.ofNat o)), .val (.int (Int32.ofNat len)), .unset, .unset, .unset] [.int (Int32.ofNat len)])) := c1.trans (by
    refine XS.iloadN X0.here hexec rfl (hb hbytes d0) rfl ?_
    exact Steps.refl _)
  obtain ⟨T3, B3, X3, ba3, bs3, bv3, bh3, bf3, st3⟩ := X0.anew hexec (atype := .byte) (wk W (.arrayClass .byte)) rfl (by show len * 1 ≤ _; omega) (by omega) (g := (mkF m 1 #[.val (.ref b), .val (.int (Int32.ofNat o)), .val (.int (Int32.ofNat len)), .unset, .unset, .unset] [.int (Int32.ofNat len)])) rfl (hb hbytes d1) (rest := []) rfl (Nat.le_refl _) (by show 0 + len ≤ len; omega)
  rw [hh0] at ba3 st3
  have kp3 : XT.Kept s T3 := (XT.Kept.of_eq hh0).push bh3
  have hA3 := hA.keep X3.warmed.alike (kp3 _ _ hA.1.1)
  have hne : b ≠ s.heap.size := hA.1.ne
  have c4 : Steps p.tables e below (s₁.setTop (entryFrame m #[.ref b, .int (Int32.ofNat o), .int (Int32.ofNat len)] 6)) (T3.setTop (mkF m 3 #[.val (.ref b), .val (.int (Int32.ofNat o)), .val (.int (Int32.ofNat len)), .unset, .unset, .unset] [.ref s.heap.size])) := c2.trans (st3 _ (Steps.refl _))
  have c5 : Steps p.tables e below (s₁.setTop (entryFrame m #[.ref b, .int (Int32.ofNat o), .int (Int32.ofNat len)] 6)) (T3.setTop (mkF m 9 #[.val (.ref b), .val (.int (Int32.ofNat o)), .val (.int (Int32.ofNat len)), .val (.ref s.heap.size), .unset, .unset] [.int (Int32.ofNat len), .int 0, .ref s.heap.size, .int (Int32.ofNat o), .ref b])) := c4.trans (by
    refine XS.astoreN X3.here hexec rfl (hb hbytes d3) rfl rfl rfl ?_
    refine XS.aloadN X3.here hexec rfl (hb hbytes d4) rfl rfl ?_
    refine XS.iloadN X3.here hexec rfl (hb hbytes d5) rfl ?_
    refine XS.aloadN X3.here hexec rfl (hb hbytes d6) rfl rfl ?_
    refine iconstV X3.here hexec rfl 0 (hb hbytes d7) (by decide) ?_
    refine XS.iloadN X3.here hexec rfl (hb hbytes d8) rfl ?_
    exact Steps.refl _)
  obtain ⟨v6, T6, X6, E6, g6⟩ := X3.callS hexec (Cmp5.law l b A s.heap.size B3 o 0 len) hown (wks W (staticW U16 115 Cmp5.yN)) (wk W Cmp5.tab) (W := 0) (Nat.le_of_ble_eq_true rfl) (Nat.le_of_ble_eq_true rfl) (Nat.le_refl _) (by show 0 + len + 0 ≤ len; omega) (g := (mkF m 9 #[.val (.ref b), .val (.int (Int32.ofNat o)), .val (.int (Int32.ofNat len)), .val (.ref s.heap.size), .unset, .unset] [.int (Int32.ofNat len), .int (Int32.ofNat 0), .ref s.heap.size, .int (Int32.ofNat o), .ref b])) rfl (by rw [hml]; rfl) c5 (argsL := [.ref b, .int (Int32.ofNat o), .ref s.heap.size, .int (Int32.ofNat 0), .int (Int32.ofNat len)]) (rest := []) rfl rfl (by show 2 * 0 + 0 ≤ _; decide) (hb hbytes d9) (⟨rfl, hA3, ba3, hne, l1, by rw [bs3]; simp, hp⟩)
  obtain ⟨rfl, B6, p6, f6⟩ := E6
  have c7 : Steps p.tables e below (s₁.setTop (entryFrame m #[.ref b, .int (Int32.ofNat o), .int (Int32.ofNat len)] 6)) (T6.setTop (mkF m 12 #[.val (.ref b), .val (.int (Int32.ofNat o)), .val (.int (Int32.ofNat len)), .val (.ref s.heap.size), .unset, .unset] [.int (Int32.ofNat len)])) := g6
  have c8 : Steps p.tables e below (s₁.setTop (entryFrame m #[.ref b, .int (Int32.ofNat o), .int (Int32.ofNat len)] 6)) (T6.setTop (mkF m 58 #[.val (.ref b), .val (.int (Int32.ofNat o)), .val (.int (Int32.ofNat len)), .val (.ref s.heap.size), .val (.int (Int32.ofNat len)), .unset] [.ref s.heap.size])) := c7.trans (by
    refine XS.istore X6.here hexec rfl (hb hbytes d12) rfl rfl ?_
    refine XS.iload X6.here hexec rfl (hb hbytes d14) rfl ?_
    refine XS.iloadN X6.here hexec rfl (hb hbytes d16) rfl ?_
    refine XS.icmpYes X6.here hexec rfl (pc0 := 17) rfl (hb hbytes d17) rfl (ii_eq_t rfl) (by decide) rfl ?_
    refine XS.aloadN X6.here hexec rfl (hb hbytes d57) rfl rfl ?_
    exact Steps.refl _)
  have X8 := X6.wide (L' := []) (cells' := 1) (slots' := len) (fun x hx hlt => by
    simp only [List.nil_append, copyLocs, List.mem_map, List.mem_range] at hx
    obtain ⟨i, -, rfl⟩ := hx
    exact absurd hlt (Nat.lt_irrefl _)) (Nat.le_refl _) (by omega)
  exact ⟨T6, some (.ref s.heap.size), _, _, _, X8, rfl, rfl, rfl, (fun h => by cases h), ⟨⟨rfl, B6, ba3.like (X3.warmed.alike.symm.trans X6.warmed.alike) p6.1 f6.1 f6.2.1 f6.2.2.1, f6.2.1.trans bv3, by rw [X6.warmed.alike.findClass, f6.1]; exact bf3, by rw [f6.2.2.1, bs3]; simp, fun j hj => by rw [f6.2.2.2 j, if_pos (by omega)]; rfl, kp3.put p6 (Nat.le_refl _)⟩, by rw [p6.2.2, bh3, hh0]; simp⟩, fun fs hl => c8.trans (X8.areturnOut hexec rfl hret rfl (hb hbytes d58) hl)⟩
end Cmp3
namespace CodL
def yN : MethodName := ⟨"java/lang/StringUTF16", "coderFromArrayLen", "([BI)B"⟩
abbrev yB : ByteArray := jdk_52_method_15_code
theorem d0 : decode yB 0 = .ok (.iload_n 1, 1) := by decide +kernel
theorem d1 : decode yB 1 = .ok (.aload_n 0, 1) := by decide +kernel
theorem d2 : decode yB 2 = .ok (.arraylength, 1) := by decide +kernel
theorem d3 : decode yB 3 = .ok (.isub, 1) := by decide +kernel
theorem d4 : decode yB 4 = .ok (.bipush 31, 2) := by decide +kernel
theorem d6 : decode yB 6 = .ok (.iushr, 1) := by decide +kernel
theorem d7 : decode yB 7 = .ok (.i2b, 1) := by decide +kernel
theorem d8 : decode yB 8 = .ok (.ireturn, 1) := by decide +kernel
def site : List Cond := []
def tab : Cond := tabOf yN yB 2 (some .byte) site
def P (d : Addr) (B : Cell) (args : Array Value) (s : State) : Prop := args = #[.ref d, .int (Int32.ofNat B.slots.size)] ∧ Arr .byte d B s
def E (r : Option Value) (s u : State) : Prop := XT.PureE (some (.int 0)) r s u
/-- an array as long as the number of chars: LATIN1 -/
theorem law (l : Launch) (d : Addr) (B : Cell) : Law l yN 2 2 0 0 yB 2 (some .byte) site (P d B) E [] 0 0 := by
  refine Law.of_walk (plainFor_of_name (by decide +kernel)) (by decide +kernel) (by decide +kernel) (by decide) (fun _ _ h => by rw [h.1]; rfl) (fun _ U U' hal hh h => ⟨h.1, h.2.mv hal hh⟩) (fun r U U' V V' h1 hal h2 h => XT.PureE.mv r U U' V V' h1 hal h2 h) ?_
  intro p e s m args below meth c s₁ X0 hexec hbytes hml hret hlk hnm hown hh0 W hP
  obtain ⟨rfl, hB⟩ := hP
  have hB0 := hB.mv X0.warmed.alike hh0
  have c1 : Steps p.tables e below (s₁.setTop (entryFrame m #[.ref d, .int (Int32.ofNat B.slots.size)] 2)) (s₁.setTop (mkF m 0 #[.val (.ref d), .val (.int (Int32.ofNat B.slots.size))] [])) := entry rfl
  have c2 : Steps p.tables e below (s₁.setTop (entryFrame m #[.ref d, .int (Int32.ofNat B.slots.size)] 2)) (s₁.setTop (mkF m 2 #[.val (.ref d), .val (.int (Int32.ofNat B.slots.size))] [.ref d, .int (Int32.ofNat B.slots.size)])) := c1.trans (by
    refine XS.iloadN X0.here hexec rfl (hb hbytes d0) rfl ?_
    refine XS.aloadN X0.here hexec rfl (hb hbytes d1) rfl rfl ?_
    exact Steps.refl _)
  have c3 : Steps p.tables e below (s₁.setTop (entryFrame m #[.ref d, .int (Int32.ofNat B.slots.size)] 2)) (s₁.setTop (mkF m 8 #[.val (.ref d), .val (.int (Int32.ofNat B.slots.size))] [.int (lo8 (ushr (Int32.ofNat B.slots.size - Int32.ofNat B.slots.size) 31))])) := c2.trans (by
    refine X0.alen hexec hB0 rfl rfl (hb hbytes d2) ?_
    refine XS.isub X0.here hexec rfl (hb hbytes d3) rfl ?_
    refine bipushV X0.here hexec rfl 31 (hb hbytes d4) (by decide) ?_
    refine iushr X0.here hexec rfl (hb hbytes d6) rfl ?_
    refine i2b X0.here hexec rfl (hb hbytes d7) rfl ?_
    exact Steps.refl _)
  have e0 : lo8 (ushr (Int32.ofNat B.slots.size - Int32.ofNat B.slots.size) 31) = 0 := by rw [Int32.sub_self]; decide
  rw [e0] at c3
  exact ⟨s₁, some (.int 0), _, _, _, X0, rfl, rfl, rfl, (fun h => by cases h), ⟨rfl, hh0⟩, fun fs hl => c3.trans (X0.ireturnOut hexec hret rfl (Or.inr (Or.inr (Or.inl rfl))) (hb hbytes d8) hl)⟩
end CodL
/-- the String at a is Latin-1 over a new byte[] (the heap's one new cell): the low bytes of the len chars of A from o on; every cell but a is kept -/
def Got (a : Addr) (D : Cell) (fV fC : Field) (A : Cell) (o len : Nat) (r : Option Value) (s u : State) : Prop := r = none ∧ ∃ D' V : Cell, Blank "java/lang/String" a D' u ∧ Same D D' [fV.slot, fC.slot] ∧ D'.slots[fV.slot]? = some (.ref s.heap.size) ∧ D'.slots[fC.slot]? = some (.int 0) ∧ Arr .byte s.heap.size V u ∧ V.vm = .none ∧ u.vm.findClass "[B" = some V.cls ∧ V.slots.size = len ∧ (∀ j, j < len → V.slots[j]? = some (.int (lo8 (cv A (o + j))))) ∧ (∀ (y : Addr) (c : Cell), y ≠ a → s.heap[y]? = some c → u.heap[y]? = some c) ∧ u.heap.size = s.heap.size + 1
theorem Got.mv {a : Addr} {D A : Cell} {fV fC : Field} {o len : Nat} : ∀ r (U U' V V' : State), U'.heap = U.heap → V.vm.Alike V'.vm → V'.heap = V.heap → Got a D fV fC A o len r U V → Got a D fV fC A o len r U' V' :=
  fun r U U' V V' h1 hal h2 ⟨e0, D', X, a1, a2, a3, a4, a5, a6, a7, a8, a9, a10, a11⟩ => ⟨e0, D', X, a1.mv hal h2, a2, by rw [h1]; exact a3, a4, by rw [h1]; exact a5.mv hal h2, a6, by rw [hal.findClass]; exact a7, a8, a9, by rw [h1, h2]; exact a10, by rw [h1, h2]; exact a11⟩
namespace New4
def yN : MethodName := ⟨"java/lang/String", "<init>", "([CIILjava/lang/Void;)V"⟩
abbrev yB : ByteArray := jdk_42_method_149_code
theorem d0 : decode yB 0 = .ok (.aload_n 0, 1) := by decide +kernel
theorem d1 : decode yB 1 = .ok (.invokespecial 1, 3) := by decide +kernel
theorem d4 : decode yB 4 = .ok (.iload_n 3, 1) := by decide +kernel
theorem d5 : decode yB 5 = .ok (.ifCond (.ne) 22, 3) := by decide +kernel
theorem d27 : decode yB 27 = .ok (.getstatic 38, 3) := by decide +kernel
theorem d30 : decode yB 30 = .ok (.ifCond (.eq) 28, 3) := by decide +kernel
theorem d33 : decode yB 33 = .ok (.aload_n 1, 1) := by decide +kernel
theorem d34 : decode yB 34 = .ok (.iload_n 2, 1) := by decide +kernel
theorem d35 : decode yB 35 = .ok (.iload_n 3, 1) := by decide +kernel
theorem d36 : decode yB 36 = .ok (.invokestatic 177, 3) := by decide +kernel
theorem d39 : decode yB 39 = .ok (.astore 5, 2) := by decide +kernel
theorem d41 : decode yB 41 = .ok (.aload_n 0, 1) := by decide +kernel
theorem d42 : decode yB 42 = .ok (.aload 5, 2) := by decide +kernel
theorem d44 : decode yB 44 = .ok (.iload_n 3, 1) := by decide +kernel
theorem d45 : decode yB 45 = .ok (.invokestatic 47, 3) := by decide +kernel
theorem d48 : decode yB 48 = .ok (.putfield 15, 3) := by decide +kernel
theorem d51 : decode yB 51 = .ok (.aload_n 0, 1) := by decide +kernel
theorem d52 : decode yB 52 = .ok (.aload 5, 2) := by decide +kernel
theorem d54 : decode yB 54 = .ok (.putfield 9, 3) := by decide +kernel
theorem d57 : decode yB 57 = .ok (.return_, 1) := by decide +kernel
def site : List Cond := [.fieldLink "java/lang/String" 38 "java/lang/String" "COMPACT_STRINGS" "Z", Cmp3.tab, CodL.tab, .laysFinal "java/lang/String" "java/lang/String" "value" "[B", .fieldLink "java/lang/String" 9 "java/lang/String" "value" "[B", .laysFinal "java/lang/String" "java/lang/String" "coder" "B", .fieldLink "java/lang/String" 15 "java/lang/String" "coder" "B"] ++ objW "java/lang/String" 1 ++ staticW "java/lang/String" 177 Cmp3.yN ++ staticW "java/lang/String" 47 CodL.yN
def tab : Cond := tabOf yN yB 6 none site
def P (a : Addr) (D : Cell) (fV fC : Field) (b : Addr) (A : Cell) (z : Int32) (o len : Nat) (args : Array Value) (s : State) : Prop := args = #[.ref a, .ref b, .int (Int32.ofNat o), .int (Int32.ofNat len), .null] ∧ Blank "java/lang/String" a D s ∧ Found "java/lang/String" "value" "[B" fV s ∧ Found "java/lang/String" "coder" "B" fC s ∧ Ch b A s ∧ StaticIs s "java/lang/String" "COMPACT_STRINGS" "Z" (.int z) ∧ ¬ z = 0 ∧ 0 < len ∧ o + len ≤ A.slots.size ∧ len ≤ 536870912 ∧ ∀ i, i < len → ¬ 255 < cv A (o + i)
def E (a : Addr) (D : Cell) (fV fC : Field) (A : Cell) (o len : Nat) (r : Option Value) (s u : State) : Prop := Got a D fV fC A o len r s u
/-- len > 0, no char of the range above 255: a Latin-1 String of their low bytes -/
theorem law (l : Launch) (a : Addr) (D : Cell) (fV fC : Field) (b : Addr) (A : Cell) (z : Int32) (o len : Nat) : Law l yN 5 4 2 35 yB 6 none site (P a D fV fC b A z o len) (E a D fV fC A o len) [⟨a, fC.slot⟩, ⟨a, fV.slot⟩] 1 len := by
  refine Law.of_walk (plainFor_of_name (by decide +kernel)) (by decide +kernel) (by decide +kernel) (by decide) (fun _ _ h => by rw [h.1]; rfl) (fun _ U U' hal hh h => ⟨h.1, h.2.1.mv hal hh, h.2.2.1.al hal, h.2.2.2.1.al hal, h.2.2.2.2.1.mv hal hh, h.2.2.2.2.2.1.there hal hh, h.2.2.2.2.2.2⟩) (fun r U U' V V' h1 hal h2 h => Got.mv r U U' V V' h1 hal h2 h) ?_
  intro p e s m args below meth c s₁ X0 hexec hbytes hml hret hlk hnm hown hh0 W hP
  obtain ⟨rfl, hB, f1, f2, hA, s1, hz, l0, l1, l2, hp⟩ := hP
  have a31 := hA.1.2.2.2
  have c1 : Steps p.tables e below (s₁.setTop (entryFrame m #[.ref a, .ref b, .int (Int32.ofNat o), .int (Int32.ofNat len), .null] 6)) (s₁.setTop (mkF m 0 #[.val (.ref a), .val (.ref b), .val (.int (Int32.ofNat o)), .val (.int (Int32.ofNat len)), .val .null, .unset] [])) := entry rfl
  have c2 : Steps p.tables e below (s₁.setTop (entryFrame m #[.ref a, .ref b, .int (Int32.ofNat o), .int (Int32.ofNat len), .null] 6)) (s₁.setTop (mkF m 1 #[.val (.ref a), .val (.ref b), .val (.int (Int32.ofNat o)), .val (.int (Int32.ofNat len)), .val .null, .unset] [.ref a])) := c1.trans (by
    refine XS.aloadN X0.here hexec rfl (hb hbytes d0) rfl rfl ?_
    exact Steps.refl _)
  obtain ⟨T3, X3, q3, st3⟩ := X0.oinit hexec hown (wks W (objW "java/lang/String" 1)) (g := (mkF m 1 #[.val (.ref a), .val (.ref b), .val (.int (Int32.ofNat o)), .val (.int (Int32.ofNat len)), .val .null, .unset] [.ref a])) rfl (by rw [hml]; rfl) (rest := []) rfl (hb hbytes d1) (W := 0) (by show 2 * 0 + 0 ≤ _; decide) (Nat.le_of_ble_eq_true rfl) (Nat.le_of_ble_eq_true rfl)
  have hh3 := q3.trans hh0
  have c4 : Steps p.tables e below (s₁.setTop (entryFrame m #[.ref a, .ref b, .int (Int32.ofNat o), .int (Int32.ofNat len), .null] 6)) (T3.setTop (mkF m 27 #[.val (.ref a), .val (.ref b), .val (.int (Int32.ofNat o)), .val (.int (Int32.ofNat len)), .val .null, .unset] [])) := (c2.trans (st3 _ (Steps.refl _))).trans (by
    refine XS.iloadN X3.here hexec rfl (hb hbytes d4) rfl ?_
    refine XS.ifYes X3.here hexec rfl (pc0 := 5) rfl (hb hbytes d5) rfl (i0_ne_t (nz32 (by omega) l0)) (by decide) rfl ?_
    exact Steps.refl _)
  obtain ⟨T5, X5, q5, st5⟩ := X3.sget hexec hown (wk W (.fieldLink "java/lang/String" 38 "java/lang/String" "COMPACT_STRINGS" "Z")) s1 (fun _ _ h => by rw [hh3]; exact h) (g := (mkF m 27 #[.val (.ref a), .val (.ref b), .val (.int (Int32.ofNat o)), .val (.int (Int32.ofNat len)), .val .null, .unset] [])) rfl (hb hbytes d27)
  have hh5 := q5.trans hh3
  have c6 : Steps p.tables e below (s₁.setTop (entryFrame m #[.ref a, .ref b, .int (Int32.ofNat o), .int (Int32.ofNat len), .null] 6)) (T5.setTop (mkF m 30 #[.val (.ref a), .val (.ref b), .val (.int (Int32.ofNat o)), .val (.int (Int32.ofNat len)), .val .null, .unset] [.int z])) := c4.trans (st5 _ (Steps.refl _))
  have c7 : Steps p.tables e below (s₁.setTop (entryFrame m #[.ref a, .ref b, .int (Int32.ofNat o), .int (Int32.ofNat len), .null] 6)) (T5.setTop (mkF m 36 #[.val (.ref a), .val (.ref b), .val (.int (Int32.ofNat o)), .val (.int (Int32.ofNat len)), .val .null, .unset] [.int (Int32.ofNat len), .int (Int32.ofNat o), .ref b])) := c6.trans (by
    refine XS.ifNo X5.here hexec rfl (hb hbytes d30) rfl (i0_eq_f hz) ?_
    refine XS.aloadN X5.here hexec rfl (hb hbytes d33) rfl rfl ?_
    refine XS.iloadN X5.here hexec rfl (hb hbytes d34) rfl ?_
    refine XS.iloadN X5.here hexec rfl (hb hbytes d35) rfl ?_
    exact Steps.refl _)
  obtain ⟨v8, T8, X8, E8, g8⟩ := X5.callS hexec (Cmp3.law l b A o len) hown (wks W (staticW "java/lang/String" 177 Cmp3.yN)) (wk W Cmp3.tab) (W := 0) (Nat.le_of_ble_eq_true rfl) (Nat.le_of_ble_eq_true rfl) (Nat.le_refl _) (by show 0 + len ≤ len; omega) (g := (mkF m 36 #[.val (.ref a), .val (.ref b), .val (.int (Int32.ofNat o)), .val (.int (Int32.ofNat len)), .val .null, .unset] [.int (Int32.ofNat len), .int (Int32.ofNat o), .ref b])) rfl (by rw [hml]; rfl) c7 (argsL := [.ref b, .int (Int32.ofNat o), .int (Int32.ofNat len)]) (rest := []) rfl rfl (by show 2 * 0 + 0 ≤ _; decide) (hb hbytes d36) (⟨rfl, hA.mv X5.warmed.alike hh5, l1, l2, hp⟩)
  obtain ⟨e8, z8⟩ := E8
  obtain ⟨rfl, N, n1, n2, n3, n4, n5, n6⟩ := NewArr.mv _ T5 s _ _ hh5.symm (Vm.Alike.refl _) rfl e8
  rw [hh5] at z8
  have hB1 := hB.keep X8.warmed.alike (n6 _ _ hB.1)
  have hne : s.heap.size ≠ a := (Nat.ne_of_lt (Array.getElem?_eq_some_iff.mp hB.1).1).symm
  have c9 : Steps p.tables e below (s₁.setTop (entryFrame m #[.ref a, .ref b, .int (Int32.ofNat o), .int (Int32.ofNat len), .null] 6)) (T8.setTop (mkF m 39 #[.val (.ref a), .val (.ref b), .val (.int (Int32.ofNat o)), .val (.int (Int32.ofNat len)), .val .null, .unset] [.ref s.heap.size])) := g8
  have c10 : Steps p.tables e below (s₁.setTop (entryFrame m #[.ref a, .ref b, .int (Int32.ofNat o), .int (Int32.ofNat len), .null] 6)) (T8.setTop (mkF m 45 #[.val (.ref a), .val (.ref b), .val (.int (Int32.ofNat o)), .val (.int (Int32.ofNat len)), .val .null, .val (.ref s.heap.size)] [.int (Int32.ofNat N.slots.size), .ref s.heap.size, .ref a])) := by
    have hc : Steps p.tables e below (s₁.setTop (entryFrame m #[.ref a, .ref b, .int (Int32.ofNat o), .int (Int32.ofNat len), .null] 6)) (T8.setTop (mkF m 45 #[.val (.ref a), .val (.ref b), .val (.int (Int32.ofNat o)), .val (.int (Int32.ofNat len)), .val .null, .val (.ref s.heap.size)] [.int (Int32.ofNat len), .ref s.heap.size, .ref a])) := c9.trans (by
      refine XS.astore X8.here hexec rfl (hb hbytes d39) rfl rfl rfl ?_
      refine XS.aloadN X8.here hexec rfl (hb hbytes d41) rfl rfl ?_
      refine XS.aload X8.here hexec rfl (hb hbytes d42) rfl rfl ?_
      refine XS.iloadN X8.here hexec rfl (hb hbytes d44) rfl ?_
      exact Steps.refl _)
    rw [n4]; exact hc
  obtain ⟨v11, T11, X11, E11, g11⟩ := X8.callS hexec (CodL.law l s.heap.size N) hown (wks W (staticW "java/lang/String" 47 CodL.yN)) (wk W CodL.tab) (W := 1) (Nat.le_of_ble_eq_true rfl) (Nat.le_of_ble_eq_true rfl) (Nat.le_refl _) (by show 0 + len + 0 ≤ len; omega) (g := (mkF m 45 #[.val (.ref a), .val (.ref b), .val (.int (Int32.ofNat o)), .val (.int (Int32.ofNat len)), .val .null, .val (.ref s.heap.size)] [.int (Int32.ofNat N.slots.size), .ref s.heap.size, .ref a])) rfl (by rw [hml]; rfl) c10 (argsL := [.ref s.heap.size, .int (Int32.ofNat N.slots.size)]) (rest := [.ref a]) rfl rfl (by show 2 * 0 + (1 + 0) ≤ _; decide) (hb hbytes d45) (⟨rfl, n1⟩)
  obtain ⟨rfl, q11⟩ := E11
  have hB11 := hB1.mv (X8.warmed.alike.symm.trans X11.warmed.alike) q11
  have c12 : Steps p.tables e below (s₁.setTop (entryFrame m #[.ref a, .ref b, .int (Int32.ofNat o), .int (Int32.ofNat len), .null] 6)) (T11.setTop (mkF m 48 #[.val (.ref a), .val (.ref b), .val (.int (Int32.ofNat o)), .val (.int (Int32.ofNat len)), .val .null, .val (.ref s.heap.size)] [.int 0, .ref a])) := g11
  obtain ⟨T13, X13, p13, bl13, sl13, st13⟩ := X11.finit hexec hown (wk W (.fieldLink "java/lang/String" 15 "java/lang/String" "coder" "B")) (Or.inr ⟨_, (wk W (.laysFinal "java/lang/String" "java/lang/String" "coder" "B"))⟩) (Or.inl ⟨rfl, hnm⟩) f2 (Or.inl rfl) hB11 (t := .byte) (by decide +kernel) rfl (g := (mkF m 48 #[.val (.ref a), .val (.ref b), .val (.int (Int32.ofNat o)), .val (.int (Int32.ofNat len)), .val .null, .val (.ref s.heap.size)] [.int 0, .ref a])) rfl (rest := []) rfl (hb hbytes d48)
  have c14 : Steps p.tables e below (s₁.setTop (entryFrame m #[.ref a, .ref b, .int (Int32.ofNat o), .int (Int32.ofNat len), .null] 6)) (T13.setTop (mkF m 54 #[.val (.ref a), .val (.ref b), .val (.int (Int32.ofNat o)), .val (.int (Int32.ofNat len)), .val .null, .val (.ref s.heap.size)] [.ref s.heap.size, .ref a])) := (c12.trans (st13 _ (Steps.refl _))).trans (by
    refine XS.aloadN X13.here hexec rfl (hb hbytes d51) rfl rfl ?_
    refine XS.aload X13.here hexec rfl (hb hbytes d52) rfl rfl ?_
    exact Steps.refl _)
  obtain ⟨T15, X15, p15, bl15, sl15, st15⟩ := X13.finit hexec hown (wk W (.fieldLink "java/lang/String" 9 "java/lang/String" "value" "[B")) (Or.inr ⟨_, (wk W (.laysFinal "java/lang/String" "java/lang/String" "value" "[B"))⟩) (Or.inl ⟨rfl, hnm⟩) f1 (Or.inl rfl) bl13 (t := (.array .byte)) (by decide +kernel) rfl (g := (mkF m 54 #[.val (.ref a), .val (.ref b), .val (.int (Int32.ofNat o)), .val (.int (Int32.ofNat len)), .val .null, .val (.ref s.heap.size)] [.ref s.heap.size, .ref a])) rfl (rest := []) rfl (hb hbytes d54)
  have c16 : Steps p.tables e below (s₁.setTop (entryFrame m #[.ref a, .ref b, .int (Int32.ofNat o), .int (Int32.ofNat len), .null] 6)) (T15.setTop (mkF m 57 #[.val (.ref a), .val (.ref b), .val (.int (Int32.ofNat o)), .val (.int (Int32.ofNat len)), .val .null, .val (.ref s.heap.size)] [])) := c14.trans (st15 _ (Steps.refl _))
  have ap := apart (Or.inr ⟨_, (wk W (.laysFinal "java/lang/String" "java/lang/String" "value" "[B"))⟩) (Or.inr ⟨_, (wk W (.laysFinal "java/lang/String" "java/lang/String" "coder" "B"))⟩) f1 f2 (t₁ := .array .byte) (t₂ := .byte) (by decide +kernel) (by decide +kernel) (by decide)
  have al := X8.warmed.alike.symm.trans X15.warmed.alike
  have n7 : T11.heap[s.heap.size]? = some N := by rw [q11]; exact n1.1
  exact ⟨T15, none, _, _, _, X15, by simp, rfl, by omega, (fun _ => rfl), ⟨rfl, _, N, bl15, ((Same.refl D _).set _ (by simp)).set _ (by simp), sl15, (Cell.slots_setSlot_ne _ ap).trans sl13, n1.keep al (p15.other hne (p13.other hne n7)), n2, by rw [al.findClass]; exact n3, n4, n5, fun y c h1 h2 => p15.other h1 (p13.other h1 (by rw [q11]; exact n6 y c h2)), by rw [p15.2.2, p13.2.2, q11]; exact z8⟩, fun fs hl => c16.trans (X15.returnOut hexec hret (hb hbytes d57) hl)⟩
end New4
namespace New1
def yN : MethodName := ⟨"java/lang/String", "<init>", "([C)V"⟩
abbrev yB : ByteArray := jdk_42_method_3_code
theorem d0 : decode yB 0 = .ok (.aload_n 0, 1) := by decide +kernel
theorem d1 : decode yB 1 = .ok (.aload_n 1, 1) := by decide +kernel
theorem d2 : decode yB 2 = .ok (.iconst 0, 1) := by decide +kernel
theorem d3 : decode yB 3 = .ok (.aload_n 1, 1) := by decide +kernel
theorem d4 : decode yB 4 = .ok (.arraylength, 1) := by decide +kernel
theorem d5 : decode yB 5 = .ok (.aconst_null, 1) := by decide +kernel
theorem d6 : decode yB 6 = .ok (.invokespecial 27, 3) := by decide +kernel
theorem d9 : decode yB 9 = .ok (.return_, 1) := by decide +kernel
def site : List Cond := [New4.tab] ++ initW "java/lang/String" 27 New4.yN
def tab : Cond := tabOf yN yB 2 none site
def P (a : Addr) (D : Cell) (fV fC : Field) (b : Addr) (A : Cell) (z : Int32) (args : Array Value) (s : State) : Prop := args = #[.ref a, .ref b] ∧ Blank "java/lang/String" a D s ∧ Found "java/lang/String" "value" "[B" fV s ∧ Found "java/lang/String" "coder" "B" fC s ∧ Ch b A s ∧ StaticIs s "java/lang/String" "COMPACT_STRINGS" "Z" (.int z) ∧ ¬ z = 0 ∧ 0 < A.slots.size ∧ A.slots.size ≤ 536870912 ∧ ∀ i, i < A.slots.size → ¬ 255 < cv A i
def E (a : Addr) (D : Cell) (fV fC : Field) (A : Cell) (r : Option Value) (s u : State) : Prop := Got a D fV fC A 0 A.slots.size r s u
/-- new String(chars), not empty, no char above 255: a Latin-1 String of their low bytes -/
theorem law (l : Launch) (a : Addr) (D : Cell) (fV fC : Field) (b : Addr) (A : Cell) (z : Int32) : Law l yN 2 1 3 52 yB 2 none site (P a D fV fC b A z) (E a D fV fC A) [⟨a, fC.slot⟩, ⟨a, fV.slot⟩] 1 A.slots.size := by
  refine Law.of_walk (plainFor_of_name (by decide +kernel)) (by decide +kernel) (by decide +kernel) (by decide) (fun _ _ h => by rw [h.1]; rfl) (fun _ U U' hal hh h => ⟨h.1, h.2.1.mv hal hh, h.2.2.1.al hal, h.2.2.2.1.al hal, h.2.2.2.2.1.mv hal hh, h.2.2.2.2.2.1.there hal hh, h.2.2.2.2.2.2⟩) (fun r U U' V V' h1 hal h2 h => Got.mv r U U' V V' h1 hal h2 h) ?_
  intro p e s m args below meth c s₁ X0 hexec hbytes hml hret hlk hnm hown hh0 W hP
  obtain ⟨rfl, hB, f1, f2, hA, s1, hz, l0, l2, hp⟩ := hP
  have c1 : Steps p.tables e below (s₁.setTop (entryFrame m #[.ref a, .ref b] 2)) (s₁.setTop (mkF m 0 #[.val (.ref a), .val (.ref b)] [])) := entry rfl
  have c2 : Steps p.tables e below (s₁.setTop (entryFrame m #[.ref a, .ref b] 2)) (s₁.setTop (mkF m 6 #[.val (.ref a), .val (.ref b)] [.null, .int (Int32.ofNat A.slots.size), .int 0, .ref b, .ref a])) := c1.trans (by
    refine XS.aloadN X0.here hexec rfl (hb hbytes d0) rfl rfl ?_
    refine XS.aloadN X0.here hexec rfl (hb hbytes d1) rfl rfl ?_
    refine iconstV X0.here hexec rfl 0 (hb hbytes d2) (by decide) ?_
    refine XS.aloadN X0.here hexec rfl (hb hbytes d3) rfl rfl ?_
    refine X0.alen hexec (hA.1.mv X0.warmed.alike hh0) rfl rfl (hb hbytes d4) ?_
    refine XS.aconstNull X0.here hexec rfl (hb hbytes d5) ?_
    exact Steps.refl _)
  obtain ⟨v3, T3, X3, E3, g3⟩ := X0.callN hexec (New4.law l a D fV fC b A z 0 A.slots.size) rfl hown (wks W (initW "java/lang/String" 27 New4.yN)) (W New4.tab (by simp only [site, List.mem_cons, List.mem_append, true_or, or_true])) (W := 0) (Nat.le_of_ble_eq_true rfl) (Nat.le_of_ble_eq_true rfl) (Nat.le_refl _) (by show 0 + A.slots.size ≤ A.slots.size; omega) (g := (mkF m 6 #[.val (.ref a), .val (.ref b)] [.null, .int (Int32.ofNat A.slots.size), .int (Int32.ofNat 0), .ref b, .ref a])) rfl (by rw [hml]; rfl) c2 (argsL := [.ref b, .int (Int32.ofNat 0), .int (Int32.ofNat A.slots.size), .null]) (rest := []) rfl rfl (by show 2 * 0 + 0 ≤ _; decide) (hb hbytes d6) (⟨rfl, hB.mv X0.warmed.alike hh0, f1.al X0.warmed.alike, f2.al X0.warmed.alike, hA.mv X0.warmed.alike hh0, s1.there X0.warmed.alike hh0, hz, l0, by omega, l2, fun i hi => by rw [Nat.zero_add]; exact hp i hi⟩)
  have e0 := Got.mv _ s₁ s _ _ hh0.symm (Vm.Alike.refl _) rfl E3
  obtain rfl := e0.1
  have c4 : Steps p.tables e below (s₁.setTop (entryFrame m #[.ref a, .ref b] 2)) (T3.setTop (mkF m 9 #[.val (.ref a), .val (.ref b)] [])) := g3
  exact ⟨T3, none, _, _, _, X3, by simp, rfl, by omega, (fun _ => rfl), e0, fun fs hl => c4.trans (X3.returnOut hexec hret (hb hbytes d9) hl)⟩
theorem pays {l : Launch} {R : Room} {p : Program} {e : Env} {below : List Frame} {s : State} {sargs : Array Value} {len W : Nat} (a : Addr) (D : Cell) (fV fC : Field) (b : Addr) (A : Cell) (z : Int32) (htab : tab.before sargs s = true) (hfr : 4 ≤ R.frames) (hlo : W + 65 ≤ R.locals) :
    Back l R p e below s sargs yN len W (fun A₁ a₁ => A₁.cells + 1 ≤ R.cells ∧ A₁.slots + A.slots.size ≤ R.slots ∧ P a D fV fC b A z a₁ A₁.U) (fun A₁ _ v₁ B₁ => E a D fV fC A v₁ A₁.U B₁.U ∧ B₁.locs = A₁.locs ++ [⟨a, fC.slot⟩, ⟨a, fV.slot⟩] ∧ B₁.cells = A₁.cells + 1 ∧ B₁.slots = A₁.slots + A.slots.size) :=
  (law l a D fV fC b A z).pays htab hfr (by omega)
end New1
end StrChars
namespace StrChars.Road
open Jvm Sem ClassFile Op Lib Jvm.Stand Jvm.Free Jvm.Free.XT
open Jvm.Lib.Cold (StaticIs)
abbrev ST : String := "java/lang/String"
/-- every table word that New1's law asks, flat -/
abbrev words : List Jvm.Cond := [.code New1.yN New1.yB 2 none, .initialized ST, .methodLink ST 27 New4.yN, .instanceMethod New4.yN,
  .code New4.yN New4.yB 6 none, .fieldLink ST 38 ST "COMPACT_STRINGS" "Z", .laysFinal ST ST "value" "[B", .fieldLink ST 9 ST "value" "[B", .laysFinal ST ST "coder" "B", .fieldLink ST 15 ST "coder" "B",
  .methodLink ST 1 Lib.objectInit, .instanceMethod Lib.objectInit, .code Lib.objectInit ⟨#[0xb1]⟩ 1 none, .methodLink ST 177 Cmp3.yN, .static Cmp3.yN, .methodLink ST 47 CodL.yN, .static CodL.yN,
  .code Cmp3.yN Cmp3.yB 6 (some (.array .byte)), .initialized U16, .arrayClass .byte, .methodLink U16 115 Cmp5.yN, .static Cmp5.yN, .code Cmp5.yN Cmp5.yB 7 (some .int), .code CodL.yN CodL.yB 2 (some .byte)]
theorem tab_of {a : Array Value} {s : State} (h : ∀ w ∈ words, w.before a s = true) : New1.tab.before a s = true := by
  have h5 : Cmp5.tab.before a s = true := unparts (wk h (.code Cmp5.yN Cmp5.yB 7 (some .int))) (wks h (.initialized Cmp5.yN.cls :: Cmp5.site))
  have hc : CodL.tab.before a s = true := unparts (wk h (.code CodL.yN CodL.yB 2 (some .byte))) (wks h (.initialized CodL.yN.cls :: CodL.site))
  have q5 : ∀ w ∈ Cmp5.tab :: words, w.before a s = true := fun w hw => (List.mem_cons.mp hw).elim (fun e => e ▸ h5) (h w)
  have h3 : Cmp3.tab.before a s = true := unparts (wk q5 (.code Cmp3.yN Cmp3.yB 6 (some (.array .byte)))) (wks q5 (.initialized Cmp3.yN.cls :: Cmp3.site))
  have q3 : ∀ w ∈ Cmp3.tab :: CodL.tab :: words, w.before a s = true := fun w hw => (List.mem_cons.mp hw).elim (fun e => e ▸ h3) fun hw => (List.mem_cons.mp hw).elim (fun e => e ▸ hc) (h w)
  have h4 : New4.tab.before a s = true := unparts (wk q3 (.code New4.yN New4.yB 6 none)) (wks q3 (.initialized New4.yN.cls :: New4.site))
  have q4 : ∀ w ∈ New4.tab :: words, w.before a s = true := fun w hw => (List.mem_cons.mp hw).elim (fun e => e ▸ h4) (h w)
  exact unparts (wk q4 (.code New1.yN New1.yB 2 none)) (wks q4 (.initialized New1.yN.cls :: New1.site))
/-- the words ride from the start Z to the walk's own state -/
theorem moved {Z s : State} {a0 args : Array Value} (hZ : Z.Warmed39 s.vm) (hw : ∀ d ∈ words, d.before a0 Z = true) : ∀ d ∈ words, d.before args s = true := fun d hd => by
  have q := hw d hd
  have t : ∀ d ∈ words, d = .arrayClass .byte ∨ (d.onTables && d.keepsFace) = true := by decide +kernel
  rcases t d hd with rfl | t
  · exact RoadKit.mvA hZ q
  · exact RoadKit.mv hZ q t
/-- WHAT COMES BACK, over the tables of the start Z: h the heap at the call, h' behind it -/
def Q (Z : State) (x : Addr) (A : Cell) (h : Heap) (v : Option Value) (h' : Heap) (L : List Loc) : Prop := v = none ∧ (∀ y ∈ L, y.base = x) ∧ RoadKit.Keep h h' [x] ∧ h'.size = h.size + 1 ∧ RoadKit.Exa Z h' x ST ∧ RoadKit.Fld Z h' x ST "value" "[B" (.ref h.size) ∧ RoadKit.Fld Z h' x ST "coder" "B" (.int 0) ∧
  (∃ V : Cell, RoadKit.Arr Z h' h.size V .byte ∧ V.vm = .none ∧ Z.vm.findClass "[B" = some V.cls ∧ V.slots.size = A.slots.size ∧ ∀ j, j < A.slots.size → V.slots[j]? = some (.int (lo8 (cv A j)))) ∧
  ∀ (O n d : String) (w : Value), RoadKit.Fld Z h x O n d w → RoadKit.slotOf Z O n d ≠ RoadKit.slotOf Z ST "value" "[B" → RoadKit.slotOf Z O n d ≠ RoadKit.slotOf Z ST "coder" "B" → RoadKit.Fld Z h' x O n d w
/-- **new String(chars) AT A CALL, IN THE ROAD'S FORM**: for specialBack behind newO: x the fresh String, b the char[] with the cell A -/
theorem back {p : Program} {l : Launch} {e : Env} {R : Room} {s : State} {args : Array Value} {below : List Frame} {len W : Nat} {Z : State} {a0 : Array Value} {h : Heap} (hZ : Z.Warmed39 s.vm) (hw : ∀ d ∈ words, d.before a0 Z = true) {kI : Nat} (wi : (Jvm.Cond.instantiable ST kI).before a0 Z = true)
    {x b : Addr} {A : Cell} {z : Int32} {v0 c0 : Value} (E : RoadKit.Exa Z h x ST) (V : RoadKit.Fld Z h x ST "value" "[B" v0) (C : RoadKit.Fld Z h x ST "coder" "B" c0) (K : RoadKit.Arr Z h b A .char) (hty : Typed .char A) (S : RoadKit.Sta Z h ST "COMPACT_STRINGS" "Z" (.int z)) (hz : ¬ z = 0)
    (l0 : 0 < A.slots.size) (l2 : A.slots.size ≤ 536870912) (hp : ∀ i, i < A.slots.size → ¬ 255 < cv A i) (hfr : 4 ≤ R.frames) (hlo : W + 65 ≤ R.locals) :
    Back l R p e below s args New1.yN len W (fun P a => a = #[.ref x, .ref b] ∧ P.U.heap = h ∧ P.cells + 1 ≤ R.cells ∧ P.slots + A.slots.size ≤ R.slots)
      (fun P _ v B => ∃ L, Q Z x A h v B.U.heap L ∧ B.locs = P.locs ++ L ∧ B.cells = P.cells + 1 ∧ B.slots = P.slots + A.slots.size) := by
  intro m meth c P g ig mk a X hg hsize hdg hW hn hp'
  obtain ⟨rfl, rfl, r1, r2⟩ := hp'
  have al : Z.vm.Alike P.U.vm := hZ.alike.trans X.warmed.alike
  obtain ⟨D, cfV, kV, iV, fV, hD, gV, stV, knV, obV, asV, slV⟩ := id V
  obtain ⟨D', cfC, kC, iC, fC, hD', gC, stC, -, -, asC, slC⟩ := id C
  cases hD.symm.trans hD'
  obtain ⟨D2, kD, e1, e2, e3, e4, e5⟩ := id E
  cases hD.symm.trans e1
  obtain ⟨c2, k2, i1, i2, i3, -⟩ := Cond.instantiable_spec wi
  cases e2.symm.trans i1
  cases e3.symm.trans i2
  obtain ⟨kU, u1, u2⟩ := al.2.2 _ _ e3
  have hB : Blank ST x D P.U := ⟨hD, ⟨knV, fun q hq => by rw [hq] at obV; cases obV⟩, by rw [al.findClass]; exact e2, kU, u1, by rw [u2]; exact i3, by rw [u2]; exact e5 i3⟩
  have F1 : Found ST "value" "[B" fV P.U := ⟨SBG.found_only al ⟨cfV, kV, iV, gV⟩, stV⟩
  have F2 : Found ST "coder" "B" fC P.U := ⟨SBG.found_only al ⟨cfC, kC, iC, gC⟩, stC⟩
  have hA : Ch b A P.U := ⟨⟨K.1, State.isArrayOf_alike al K.2.1, K.2.2, by omega⟩, hty⟩
  have hS : StaticIs P.U ST "COMPACT_STRINGS" "Z" (.int z) := by
    obtain ⟨cfS, iS, kS, fS, st, cS, t1, t2, t3, t4, t5, t6, t7⟩ := S
    exact StaticIs.there (s := { Z with heap := P.U.heap }) ⟨cfS, iS, kS, fS, st, cS, t1, t2, t3, t4, t5, (fun q => by rw [q] at t6; cases t6), t7⟩ al rfl
  obtain ⟨v, B, X', ⟨⟨hv, E', V', q1, q2, q3, q4, q5, q6, q7, q8, q9, q10, q11⟩, hl, hc, hs⟩, st⟩ := New1.pays x D fV fC b A z (tab_of (moved hZ hw)) hfr hlo m meth c P g ig mk _ X hg hsize hdg hW hn ⟨r1, r2, rfl, hB, F1, F2, hA, hS, hz, l0, l2, hp⟩
  have al' : Z.vm.Alike B.U.vm := hZ.alike.trans X'.warmed.alike
  have hsz : E'.slots.size = D.slots.size := by
    obtain ⟨-, -, -, kB, w1, w2, w3⟩ := q1
    obtain ⟨kB', y1, y2⟩ := al'.2.2 _ _ e3
    rw [q2.2.1] at w1
    cases w1.symm.trans y1
    rw [w3, e5 i3, y2]
  refine ⟨v, B, X', ⟨_, ⟨hv, ?_, ⟨by omega, fun y cy hy hn' => q10 y cy (by simpa using hn') hy, fun y cy hy => ?_⟩, q11, ⟨E', _, q1.1, by rw [q2.2.1]; exact e2, by rw [q2.2.1]; exact e3, by rw [q2.1]; exact obV, fun _ => by rw [hsz]; exact e5 i3⟩,
    ⟨E', cfV, kV, iV, fV, q1.1, gV, stV, by rw [q2.1]; exact knV, by rw [q2.1]; exact obV, by rw [q2.2.1]; exact asV, q3⟩, ⟨E', cfC, kC, iC, fC, q1.1, gC, stC, by rw [q2.1]; exact knV, by rw [q2.1]; exact obV, by rw [q2.2.1]; exact asC, q4⟩,
    ⟨V', ⟨q5.1, State.isArrayOf_alike al'.symm q5.2.1, q5.2.2.1⟩, q6, by rw [← al'.findClass]; exact q7, q8, fun j hj => by have := q9 j hj; rwa [Nat.zero_add] at this⟩, fun O n d w F n1 n2 => ?_⟩, hl, hc, hs⟩, st⟩
  · intro y hy
    simp only [List.mem_cons, List.not_mem_nil, or_false] at hy
    rcases hy with rfl | rfl <;> rfl
  · by_cases q : y = x
    · subst q
      cases hD.symm.trans hy
      exact ⟨E', q1.1, q2.2.1, q2.1, hsz⟩
    · exact ⟨cy, q10 y cy q hy, rfl, rfl, rfl⟩
  · obtain ⟨D3, cf, k, i, f, g1, g2, g3, g4, g5, g6, g7⟩ := F
    cases hD.symm.trans g1
    simp only [RoadKit.slotOf, g2, gV, gC, Option.map_some, Option.getD_some] at n1 n2
    exact ⟨E', cf, k, i, f, q1.1, g2, g3, by rw [q2.1]; exact g4, by rw [q2.1]; exact g5, by rw [q2.2.1]; exact g6, by rw [q2.2.2 f.slot (by simp [n1, n2])]; exact g7⟩
end StrChars.Road
namespace StrChars.Road
open Jvm Sem ClassFile Op Lib Jvm.Stand Jvm.Free Jvm.Free.XT
/-- WHAT COMES BACK, the byte[] as a list of values -/
def QA (Z : State) (x : Addr) (zn : Int32) (cs : List Int32) (h : Heap) (v : Option Value) (h' : Heap) (L : List Loc) : Prop := v = none ∧ (∀ y ∈ L, y.base = x) ∧ RoadKit.Keep h h' [x] ∧ h'.size = h.size + 1 ∧ RoadKit.Exa Z h' x ST ∧ RoadKit.Fld Z h' x ST "value" "[B" (.ref h.size) ∧ RoadKit.Fld Z h' x ST "coder" "B" (.int 0) ∧
  (∃ kb, Z.vm.findClass "[B" = some kb ∧ RoadKit.Arv Z h' h.size kb .byte zn (cs.map fun c => .int (lo8 c)) (.int 0)) ∧
  ∀ (O n d : String) (w : Value), RoadKit.Fld Z h x O n d w → RoadKit.slotOf Z O n d ≠ RoadKit.slotOf Z ST "value" "[B" → RoadKit.slotOf Z O n d ≠ RoadKit.slotOf Z ST "coder" "B" → RoadKit.Fld Z h' x O n d w
/-- **new String(chars) AT A CALL, THE ARRAYS AS LISTS**: the char[] at b holds cs, not empty, no char above 255 -/
theorem backArv {p : Program} {l : Launch} {e : Env} {R : Room} {s : State} {args : Array Value} {below : List Frame} {len W : Nat} {Z : State} {a0 : Array Value} {h : Heap} (hZ : Z.Warmed39 s.vm) (hw : ∀ d ∈ words, d.before a0 Z = true) {kI : Nat} (wi : (Jvm.Cond.instantiable ST kI).before a0 Z = true)
    {x b : Addr} {k : ClassId} {zn z : Int32} {cs : List Int32} {dv v0 c0 : Value} (E : RoadKit.Exa Z h x ST) (V : RoadKit.Fld Z h x ST "value" "[B" v0) (C : RoadKit.Fld Z h x ST "coder" "B" c0) (K : RoadKit.Arv Z h b k .char zn (cs.map Value.int) dv) (S : RoadKit.Sta Z h ST "COMPACT_STRINGS" "Z" (.int z)) (hz : ¬ z = 0)
    (hlen : zn.toNatClampNeg = cs.length) (h0 : 0 < cs.length) (hbig : cs.length ≤ 536870912) (hall : ∀ c ∈ cs, ¬ 255 < c) (hfr : 4 ≤ R.frames) (hlo : W + 65 ≤ R.locals) :
    Back l R p e below s args New1.yN len W (fun P a => a = #[.ref x, .ref b] ∧ P.U.heap = h ∧ P.cells + 1 ≤ R.cells ∧ P.slots + cs.length ≤ R.slots)
      (fun P _ v B => ∃ L, QA Z x zn cs h v B.U.heap L ∧ B.locs = P.locs ++ L ∧ B.cells = P.cells + 1 ∧ B.slots = P.slots + cs.length) := by
  obtain ⟨A, K1, K2, K3, K4, K5, K6⟩ := K
  have e : A.slots.size = cs.length := K3.trans hlen
  have hat : ∀ (i : Nat) (hi : i < cs.length), A.slots[i]? = some (.int cs[i]) := fun i hi => by rw [K5 i (by omega)]; simp [List.getD_eq_getElem?_getD, hi]
  have hcv : ∀ (i : Nat) (hi : i < cs.length), cv A i = cs[i] := fun i hi => by unfold cv; rw [hat i hi]
  have hty : Typed .char A := fun i v hv => by
    have hi : i < A.slots.size := (Array.getElem?_eq_some_iff.mp hv).1
    have q := K5 i hi
    rw [hv] at q
    rw [Option.some.inj q]
    exact K6 i hi
  refine Back.mono (back hZ hw wi E V C K1 hty S hz (by omega) (by omega) (fun i hi => by rw [hcv i (by omega)]; exact hall _ (List.getElem_mem _)) hfr hlo) (fun P a hp => ⟨hp.1, hp.2.1, hp.2.2.1, by rw [e]; exact hp.2.2.2⟩) (fun P a v B hp hq => ?_)
  obtain ⟨L, ⟨q1, q2, q3, q4, q5, q6, q7, ⟨V', v1, v2, v3, v4, v5⟩, q9⟩, hl, hc, hs⟩ := hq
  refine ⟨L, ⟨q1, q2, q3, q4, q5, q6, q7, ⟨V'.cls, v3, V', v1, rfl, by rw [v4, e, hlen], K4, fun i hi => ?_, fun i hi => ?_⟩, q9⟩, hl, hc, by rw [hs, e]⟩
  · have hi' : i < cs.length := by omega
    rw [v5 i (by omega), hcv i hi']; simp [List.getD_eq_getElem?_getD, hi']
  · have hi' : i < cs.length := by omega
    simp only [List.getD_eq_getElem?_getD, List.getElem?_map, List.getElem?_eq_getElem hi', Option.map_some, Option.getD_some]
    exact fits_lo8 _
end StrChars.Road
namespace StrChars.Road
open Jvm Sem ClassFile Op Lib Jvm.Stand Jvm.Free Jvm.Free.XT
/-- WHAT COMES BACK, in the writer's own shape -/
def QV (Z : State) (x : Addr) (N : Int32) (bs : List Int32) (h : Heap) (n0 : Nat) (v : Option Value) (h' : Heap) (L : List Loc) : Prop := v = none ∧ RoadKit.Fr n0 L ∧ RoadKit.Keep h h' [x] ∧ RoadKit.Exa Z h' x ST ∧ RoadKit.Fld Z h' x ST "coder" "B" (.int 0) ∧
  ∃ (t : Addr) (kb : ClassId), n0 ≤ t ∧ h.size ≤ t ∧ ¬ t = x ∧ RoadKit.Fld Z h' x ST "value" "[B" (.ref t) ∧ RoadKit.Arv Z h' t kb .byte N (bs.map Value.int) (.int 0)
/-- **new String(chars) AT A CALL, FOR THE WRITER**: a char[] of n known ints, each 0 to 255 -/
theorem backV {p : Program} {l : Launch} {e : Env} {R : Room} {s : State} {args : Array Value} {below : List Frame} {len W : Nat} {Z : State} {a0 : Array Value} {h : Heap} (hZ : Z.Warmed39 s.vm) (hw : ∀ d ∈ words, d.before a0 Z = true) {kI : Nat} (wi : (Jvm.Cond.instantiable ST kI).before a0 Z = true)
    {x b : Addr} {kC : ClassId} {cs bs : List Int32} {d v0 c0 : Value} {z N : Int32} {n n0 : Nat} (hx0 : n0 ≤ x) (hh0 : n0 ≤ h.size) (E : RoadKit.Exa Z h x ST) (V : RoadKit.Fld Z h x ST "value" "[B" v0) (C : RoadKit.Fld Z h x ST "coder" "B" c0) (K : RoadKit.Arv Z h b kC .char N (cs.map Value.int) d) (S : RoadKit.Sta Z h ST "COMPACT_STRINGS" "Z" (.int z)) (hz : ¬ z = 0)
    (hn : cs.length = n) (hN : N = Int32.ofNat n) (l0 : 0 < n) (l2 : n ≤ 4000) (hp : ∀ c ∈ cs, ¬ c < 0 ∧ ¬ (255 : Int32) < c) (hb : bs = cs.map (fun c => c.toInt8.toInt32)) (hfr : 4 ≤ R.frames) (hlo : W + 65 ≤ R.locals) :
    Back l R p e below s args (⟨"java/lang/String", "<init>", "([C)V"⟩ : MethodName) len W (fun P a => a = #[.ref x, .ref b] ∧ P.U.heap = h ∧ P.cells + 1 ≤ R.cells ∧ P.slots + n ≤ R.slots)
      (fun P _ v B => ∃ L, QV Z x N bs h n0 v B.U.heap L ∧ B.locs = P.locs ++ L ∧ B.cells = P.cells + 1 ∧ B.slots = P.slots + n) := by
  subst hn hN hb
  refine Back.mono (backArv hZ hw wi E V C K S hz (n32 (by omega)) l0 (by omega) (fun c hc => (hp c hc).2) hfr hlo) (fun P a hp => hp) (fun P a v B hp hq => ?_)
  obtain ⟨L, ⟨q1, q2, q3, q4, q5, q6, q7, ⟨kb, v1, v2⟩, q9⟩, hl, hc, hs⟩ := hq
  exact ⟨L, ⟨q1, fun y hy => by rw [q2 y hy]; exact hx0, q3, q5, q7, h.size, kb, hh0, Nat.le_refl _, Nat.ne_of_gt E.lt, q6, by rw [List.map_map]; exact v2⟩, hl, hc, hs⟩
end StrChars.Road
end Jvm.Pilot.@@N@@
namespace Jvm.Pilot.@@N@@
open Jvm Jvm.ClassFile Sem Op Lib Jvm.Free Jvm.Stand Jvm.LawKit Jvm.RoadKit Bundle Jvm.Pilot.@@N@@.Jvm.D
section OwnKit
variable {p : Program} {l : Launch} {e : Env} {R : Room} {s : State} {m : MethodId} {args : Array Value} {below : List Frame} {meth : Method} {c : Code} {T : State} {locs : List Loc} {cells slots : Nat}
/-- the walk from t comes back with what Q says -/
def Fin (p : Program) (e : Env) (below : List Frame) (s : State) (Q : Option Value → Heap → List Loc → Prop) (C S : Nat) (t : State) : Prop :=
  ∃ s₂ o, Steps p.tables e below t s₂ ∧ s₂.status = .running ∧ Ended s₂ below o ∧ ∃ v L, o = .returned v ∧ Q v s₂.heap L ∧ FrameEnd s o s₂ L C S
theorem Fin.by {Q : Option Value → Heap → List Loc → Prop} {C S : Nat} {a b : State} (h : ∀ t, Steps p.tables e below b t → Steps p.tables e below a t) (k : Fin p e below s Q C S b) : Fin p e below s Q C S a := by
  obtain ⟨s₂, o, h1, h2⟩ := k; exact ⟨s₂, o, h _ h1, h2⟩
theorem Fin.byS {Q : Option Value → Heap → List Loc → Prop} {C S : Nat} {a b : State} (h : Steps p.tables e below a b) (k : Fin p e below s Q C S b) : Fin p e below s Q C S a := Fin.by (fun _ k => h.trans k) k
theorem Fin.start {Q : Option Value → Heap → List Loc → Prop} {C S : Nat} {g g' : JFrame} (q : g = g') (k : Fin p e below s Q C S (T.setTop g')) :
    ∃ s₂ o, Steps p.tables e below (T.setTop g) s₂ ∧ s₂.status = .running ∧ Ended s₂ below o ∧ ∃ v L, o = .returned v ∧ Q v s₂.heap L ∧ FrameEnd s o s₂ L C S := by
  subst q; exact k
theorem Fin.ret {Q : Option Value → Heap → List Loc → Prop} {C S : Nat} {v : Option Value} {g : JFrame} (X : Stand p l e R s m args below meth c T locs cells slots) (hv : meth.sig.returnType = none → v = none) (hl : meth.locks = false)
    (hq : Q v T.heap locs) (hc : cells ≤ C) (hs : slots ≤ S) (st : ∀ fs, (∀ (f : JFrame) (acts : List Action), f.method = m → f.locked = none → f.entered = [] → (doReturn e (T.setTop f) acts v).1 = T.setFrames fs) → Steps p.tables e below (T.setTop g) (T.setFrames fs)) :
    Fin p e below s Q C S (T.setTop g) := by
  obtain ⟨fs, hr, hrun, hended, hW, hsame⟩ := X.leave hv hl
  exact ⟨_, _, st fs hr, hrun, hended, _, _, rfl, hq, ⟨_, rfl⟩, hW, hsame.mono hc hs⟩
theorem retI (X : Stand p l e R s m args below meth c T locs cells slots) (hx : p.tables.exec = Jvm.exec) {pc : Nat} {Ls : Array Slot} {z : Int32} {rest : List Value} (hret : meth.sig.returnType = some .int) (hd : decode c.code pc = .ok (.ireturn, 1)) {fs : List Frame}
    (hl : ∀ (f : JFrame) (acts : List Action), f.method = m → f.locked = none → f.entered = [] → (doReturn e (T.setTop f) acts (some (.int z))).1 = T.setFrames fs) : Steps p.tables e below (T.setTop (mkF m pc Ls (.int z :: rest))) (T.setFrames fs) :=
  retOut X hx hret rfl (Or.inl ⟨rfl, Or.inl rfl, _, rfl⟩) hd hl
theorem retA (X : Stand p l e R s m args below meth c T locs cells slots) (hx : p.tables.exec = Jvm.exec) {pc : Nat} {Ls : Array Slot} {w : Value} {t : FieldType} {rest : List Value} (hret : meth.sig.returnType = some t) (ht : t.isReference = true) (hw : w.isRef = true) (hd : decode c.code pc = .ok (.areturn, 1)) {fs : List Frame}
    (hl : ∀ (f : JFrame) (acts : List Action), f.method = m → f.locked = none → f.entered = [] → (doReturn e (T.setTop f) acts (some w)).1 = T.setFrames fs) : Steps p.tables e below (T.setTop (mkF m pc Ls (w :: rest))) (T.setFrames fs) :=
  retOut X hx hret (by cases t <;> first | (cases ht; done) | rfl) (Or.inr (Or.inr (Or.inr (Or.inr ⟨rfl, ht, hw⟩)))) hd hl
theorem retJ (X : Stand p l e R s m args below meth c T locs cells slots) (hx : p.tables.exec = Jvm.exec) {pc : Nat} {Ls : Array Slot} {z : Int64} {rest : List Value} (hret : meth.sig.returnType = some .long) (hd : decode c.code pc = .ok (.lreturn, 1)) {fs : List Frame}
    (hl : ∀ (f : JFrame) (acts : List Action), f.method = m → f.locked = none → f.entered = [] → (doReturn e (T.setTop f) acts (some (.long z))).1 = T.setFrames fs) : Steps p.tables e below (T.setTop (mkF m pc Ls (.long z :: rest))) (T.setFrames fs) :=
  retOut X hx hret rfl (Or.inr (Or.inl ⟨rfl, rfl, _, rfl⟩)) hd hl
theorem XnullYes {target : State} (X : Stand p l e R s m args below meth c T locs cells slots) (hx : p.tables.exec = Jvm.exec) {g : JFrame} (hg : g.method = m) {v : Value} {rest : List Value} {o : Int} {pc0 pc' : Nat} (hv : v = .null) (hpc : g.pc = pc0) (hd : decode c.code g.pc = .ok (.ifnull o, 3)) (hs : g.stack = v :: rest) (ho : 0 ≤ (pc0 : Int) + o) (hp : ((pc0 : Int) + o).toNat = pc')
    (k : Steps p.tables e below (T.setTop { g with pc := pc', stack := rest }) target) : Steps p.tables e below (T.setTop g) target := by subst hv; exact XS.ifnullYes X.here hx hg hpc hd hs ho hp k
theorem XnullNo {target : State} (X : Stand p l e R s m args below meth c T locs cells slots) (hx : p.tables.exec = Jvm.exec) {g : JFrame} (hg : g.method = m) {v : Value} {a : Addr} {rest : List Value} {o : Int} (hv : v = .ref a) (hd : decode c.code g.pc = .ok (.ifnull o, 3)) (hs : g.stack = v :: rest)
    (k : Steps p.tables e below (T.setTop { g with pc := g.pc + 3, stack := rest }) target) : Steps p.tables e below (T.setTop g) target := by subst hv; exact XS.ifnullNo X.here hx hg hd hs k
theorem XnonnullYes {target : State} (X : Stand p l e R s m args below meth c T locs cells slots) (hx : p.tables.exec = Jvm.exec) {g : JFrame} (hg : g.method = m) {v : Value} {a : Addr} {rest : List Value} {o : Int} {pc0 pc' : Nat} (hv : v = .ref a) (hpc : g.pc = pc0) (hd : decode c.code g.pc = .ok (.ifnonnull o, 3)) (hs : g.stack = v :: rest) (ho : 0 ≤ (pc0 : Int) + o) (hp : ((pc0 : Int) + o).toNat = pc')
    (k : Steps p.tables e below (T.setTop { g with pc := pc', stack := rest }) target) : Steps p.tables e below (T.setTop g) target := by subst hv; exact XS.ifnonnullYes X.here hx hg hpc hd hs ho hp k
theorem XnonnullNo {target : State} (X : Stand p l e R s m args below meth c T locs cells slots) (hx : p.tables.exec = Jvm.exec) {g : JFrame} (hg : g.method = m) {v : Value} {rest : List Value} {o : Int} (hv : v = .null) (hd : decode c.code g.pc = .ok (.ifnonnull o, 3)) (hs : g.stack = v :: rest)
    (k : Steps p.tables e below (T.setTop { g with pc := g.pc + 3, stack := rest }) target) : Steps p.tables e below (T.setTop g) target := by subst hv; exact XS.ifnonnullNo X.here hx hg hd hs k
theorem cat_ref {v : Value} (h : v.isRef = true) : v.category = 1 := by rcases ref_cases h with rfl | ⟨a, rfl⟩ <;> rfl
theorem nar_ref (C : String) {v : Value} (h : v.isRef = true) : narrow (.object C) v = v := rfl
theorem fits_obj {C : String} {v : Value} (h : v.isRef = true) : fits (.object C) v = true := by rcases ref_cases h with rfl | ⟨a, rfl⟩ <;> rfl
def FinW (p : Program) (e : Env) (below : List Frame) (s : State) (Q : Option Value → Heap → List Loc → Prop) (C S : Nat) (t : State) : Prop :=
  ∃ s₂ o, Steps p.tables e below t s₂ ∧ s₂.status = .running ∧ Ended s₂ below o ∧ ∃ v L, o = .returned v ∧ Q v s₂.heap L ∧ ReturnedEndW s o s₂ L C S
theorem FinW.by {Q : Option Value → Heap → List Loc → Prop} {C S : Nat} {a b : State} (h : ∀ t, Steps p.tables e below b t → Steps p.tables e below a t) (k : FinW p e below s Q C S b) : FinW p e below s Q C S a := by
  obtain ⟨s₂, o, h1, h2⟩ := k; exact ⟨s₂, o, h _ h1, h2⟩
theorem FinW.byS {Q : Option Value → Heap → List Loc → Prop} {C S : Nat} {a b : State} (h : Steps p.tables e below a b) (k : FinW p e below s Q C S b) : FinW p e below s Q C S a := FinW.by (fun _ k => h.trans k) k
theorem FinW.start {Q : Option Value → Heap → List Loc → Prop} {C S : Nat} {g g' : JFrame} (q : g = g') (k : FinW p e below s Q C S (T.setTop g')) :
    ∃ s₂ o, Steps p.tables e below (T.setTop g) s₂ ∧ s₂.status = .running ∧ Ended s₂ below o ∧ ∃ v L, o = .returned v ∧ Q v s₂.heap L ∧ ReturnedEndW s o s₂ L C S := by
  subst q; exact k
theorem FinW.ret {Q : Option Value → Heap → List Loc → Prop} {C S : Nat} {v : Option Value} {g : JFrame} {V : Vm} {n : Nat} (X : Stand p l e R (s.setVm V) m args below meth c T locs cells slots) (hS : s.Since V n) (hn : n ≤ T.heap.size) (hv : meth.sig.returnType = none → v = none) (hl : meth.locks = false)
    (hq : Q v T.heap locs) (hc : cells ≤ C) (hs : slots ≤ S) (st : ∀ fs, (∀ (f : JFrame) (acts : List Action), f.method = m → f.locked = none → f.entered = [] → (doReturn e (T.setTop f) acts v).1 = T.setFrames fs) → Steps p.tables e below (T.setTop g) (T.setFrames fs)) :
    FinW p e below s Q C S (T.setTop g) := by
  obtain ⟨fs, hr, hrun, hended, hE⟩ := X.leaveW hS hn hv hl
  exact ⟨_, _, st fs hr, hrun, hended, _, _, rfl, hq, hE.1, hE.2.1, hE.2.2.1, hE.2.2.2.mono hc hs⟩
def FinH (p : Program) (e : Env) (below : List Frame) (Z : State) (EL : List (String × Nat)) (s : State) (Q : Option Value → Heap → List Loc → Prop) (C S : Nat) (t : State) : Prop :=
  ∃ s₂ o, Steps p.tables e below t s₂ ∧ s₂.status = .running ∧ Ended s₂ below o ∧ ∃ v L, o = .returned v ∧ Q v s₂.heap L ∧ CHr Z EL s.vm s.heap s₂.vm s₂.heap ∧ ReturnedEndW s o s₂ L C S
theorem FinH.by {Z : State} {EL : List (String × Nat)} {Q : Option Value → Heap → List Loc → Prop} {C S : Nat} {a b : State} (h : ∀ t, Steps p.tables e below b t → Steps p.tables e below a t) (k : FinH p e below Z EL s Q C S b) : FinH p e below Z EL s Q C S a := by
  obtain ⟨s₂, o, h1, h2⟩ := k; exact ⟨s₂, o, h _ h1, h2⟩
theorem FinH.byS {Z : State} {EL : List (String × Nat)} {Q : Option Value → Heap → List Loc → Prop} {C S : Nat} {a b : State} (h : Steps p.tables e below a b) (k : FinH p e below Z EL s Q C S b) : FinH p e below Z EL s Q C S a := FinH.by (fun _ k => h.trans k) k
theorem FinH.start {Z : State} {EL : List (String × Nat)} {Q : Option Value → Heap → List Loc → Prop} {C S : Nat} {g g' : JFrame} (q : g = g') (k : FinH p e below Z EL s Q C S (T.setTop g')) :
    ∃ s₂ o, Steps p.tables e below (T.setTop g) s₂ ∧ s₂.status = .running ∧ Ended s₂ below o ∧ ∃ v L, o = .returned v ∧ Q v s₂.heap L ∧ CHr Z EL s.vm s.heap s₂.vm s₂.heap ∧ ReturnedEndW s o s₂ L C S := by
  subst q; exact k
theorem FinH.ret {Z : State} {EL : List (String × Nat)} {Q : Option Value → Heap → List Loc → Prop} {C S : Nat} {v : Option Value} {g : JFrame} {V : Vm} {n : Nat} (X : Stand p l e R (s.setVm V) m args below meth c T locs cells slots) (hS : s.Since V n) (hn : n ≤ T.heap.size) (hv : meth.sig.returnType = none → v = none) (hl : meth.locks = false)
    (hq : Q v T.heap locs) (hC : CHr Z EL s.vm s.heap T.vm T.heap) (hc : cells ≤ C) (hs : slots ≤ S) (st : ∀ fs, (∀ (f : JFrame) (acts : List Action), f.method = m → f.locked = none → f.entered = [] → (doReturn e (T.setTop f) acts v).1 = T.setFrames fs) → Steps p.tables e below (T.setTop g) (T.setFrames fs)) :
    FinH p e below Z EL s Q C S (T.setTop g) := by
  obtain ⟨fs, hr, hrun, hended, hE⟩ := X.leaveW hS hn hv hl
  exact ⟨_, _, st fs hr, hrun, hended, _, _, rfl, hq, hC, hE.1, hE.2.1, hE.2.2.1, hE.2.2.2.mono hc hs⟩
end OwnKit
def tv (v : Value) : Int32 := match v with | .null => 0 | _ => 1
theorem tv_ref (a : Addr) : tv (.ref a) = 1 := rfl
theorem tv_null : tv .null = 0 := rfl
theorem own_and255 (x : Int32) : ¬ (x &&& 255) < 0 ∧ ¬ (255 : Int32) < (x &&& 255) := by
  have h := c_and x 255 (by decide)
  have h255 : (255 : Int32).toInt = 255 := by decide
  have h0 : (0 : Int32).toInt = 0 := by decide
  constructor
  · rw [Int32.lt_iff_toInt_lt]; omega
  · rw [Int32.lt_iff_toInt_lt]; omega
theorem own_c255 (x : Int32) : ¬ (nar .char ((x &&& (255 : Int32)).toUInt32.toUInt16.toUInt32.toInt32)) < 0 ∧ ¬ (255 : Int32) < (nar .char ((x &&& (255 : Int32)).toUInt32.toUInt16.toUInt32.toInt32)) := by
  rw [show nar .char ((x &&& (255 : Int32)).toUInt32.toUInt16.toUInt32.toInt32) = x &&& 255 from by simp only [nar, i2c_mask]]; exact own_and255 x
theorem own_cons {P : Int32 → Prop} {a : Int32} {L : List Int32} (h : P a) (k : ∀ c ∈ L, P c) : ∀ c ∈ a :: L, P c := fun c hc => (List.mem_cons.mp hc).elim (fun q => q ▸ h) (k c)
theorem own_nil {P : Int32 → Prop} : ∀ c ∈ ([] : List Int32), P c := fun _ h => nomatch h
theorem own_EW0 {Z : State} {a0 : Array Value} (hw : ∀ d ∈ tables_1, d.before a0 Z = true) : EW Z a0 consts_1 := (EW.cons (hw _ (List.mem_of_getElem? (i := 51) rfl)) (by decide) (EW.cons (hw _ (List.mem_of_getElem? (i := 89) rfl)) (by decide) EW.nil))
theorem own_strAtoms : ∀ d ∈ Bundle.stringAtoms, d ∈ tables_1 := by decide +kernel
theorem own_safe_blank {Z : State} {EL : List (String × Nat)} {vm : Vm} {h : Heap} {a : Addr} (hal : Z.vm.Alike vm) (E : Exa Z h a "java/lang/String") (F : Fld Z h a "java/lang/String" "value" "[B" .null) : Safe Z EL vm h a := fun B => by
  obtain ⟨p, hp, u, a', hb, q, hq, G, hy⟩ := B
  have ha := G.ha
  have hd := G.hd
  obtain ⟨cS, ⟨⟨s1, s2, s3, ⟨cv, kv, iv, s4, s4'⟩, ⟨cc, kc, ic, s5, s5'⟩, s6, s7, s8, s9, s10, s11, s12, s13, s14, s15, s16⟩, hfS, hcS⟩, ⟨kS, k1, k2, k3⟩, hB, hbyt⟩ := G
  rcases hy with rfl | rfl
  · obtain ⟨kv', z4⟩ := ff_back (U := Wst Z vm h) hal s4
    obtain ⟨cell, cf, k, i, f, f1, f2, f3, f4, f5, f6, f7⟩ := F
    cases f1.symm.trans ha
    cases f2.symm.trans z4
    rw [s8] at f7
    cases f7
  · obtain ⟨cell, k, e1, e2, e3, -⟩ := E
    cases e1.symm.trans hd
    have hBZ : Z.vm.findClass "[B" = some q.SA.cls := by rw [← hal.findClass]; exact hB
    obtain ⟨x1, y1, y2⟩ := Vm.findClass_spec e2
    obtain ⟨x2, w1, w2⟩ := Vm.findClass_spec hBZ
    cases y1.symm.trans w1
    exact absurd (y2.symm.trans w2) (by decide)
theorem own_words : ∀ d ∈ StrChars.Road.words, d ∈ tables_1 := by decide +kernel
theorem own_i2c255 (x : Int32) : ¬ (255 : Int32) < ((x &&& (255 : Int32)).toUInt32.toUInt16.toUInt32.toInt32) := by rw [i2c_mask]; exact (own_and255 x).2
theorem own_nn (x : Int32) : nar .char (nar .char x) = nar .char x := by simp only [nar, UInt32.toUInt32_toInt32, UInt16.toUInt16_toUInt32]
theorem d_jdk_43_method_3_0 : decode jdk_43_method_3_code 0 = .ok (.iload_n 0, 1) := by decide +kernel
theorem d_jdk_43_method_3_1 : decode jdk_43_method_3_code 1 = .ok (.sipush 255, 3) := by decide +kernel
theorem d_jdk_43_method_3_4 : decode jdk_43_method_3_code 4 = .ok (.if_icmp .gt 7, 3) := by decide +kernel
theorem d_jdk_43_method_3_7 : decode jdk_43_method_3_code 7 = .ok (.iconst 1, 1) := by decide +kernel
theorem d_jdk_43_method_3_8 : decode jdk_43_method_3_code 8 = .ok (.goto 4, 3) := by decide +kernel
theorem d_jdk_43_method_3_12 : decode jdk_43_method_3_code 12 = .ok (.ireturn, 1) := by decide +kernel
theorem pn_java_lang_StringLatin1 : plainName "java/lang/StringLatin1" = true := by first | (simp [plainName, overriddenIn]; done) | decide +kernel
def Q_can (Z : State) (x : Int32) (h0 : Heap) (n0 : Nat) (vv_ : Option Value) (hh_ : Heap) (LL_ : List Loc) : Prop := vv_ = some (.int (nar .boolean (1 : Int32))) ∧ Fr n0 LL_ ∧ hh_ = h0
set_option maxRecDepth 65536 in
set_option maxHeartbeats 40000000 in
theorem rm_can (l : Launch) (Z : State) (a0 : Array Value) (hw : ∀ d ∈ tables_1, d.before a0 Z = true) (ws : List Jvm.Cond) (x : Int32) (h0 : Heap) (n0 : Nat) (Z0 : n0 ≤ h0.size) (hc : ¬ (255 : Int32) < x) :
    MetFree l (⟨"java/lang/StringLatin1", "canEncode", "(C)Z"⟩ : MethodName) (head1 (Jvm.Cond.code (⟨"java/lang/StringLatin1", "canEncode", "(C)Z"⟩ : MethodName) jdk_43_method_3_code 1 (some .boolean) :: ws) ({ frames := 0, cells := 0, slots := 0, locals := 0 } : Room)) (fun aa_ U => aa_ = #[(.int x)] ∧ Z.Warmed39 U.vm ∧ U.heap = h0) (fun _ _ _ _ _ => True) (fun _ U o U' => ∃ vv_ LL_, o = .returned vv_ ∧ Q_can Z x h0 n0 vv_ U'.heap LL_ ∧ FrameEnd U o U' LL_ 0 0) := by
  refine MetFree.of_bodySF (plainFor_of_name pn_java_lang_StringLatin1) hisR ?_
  intro p e s m args below meth c s₁ Bd hml0 hP hK
  obtain ⟨rfl, hZ, hh⟩ := hP
  have hx := Bd.exec
  have hby := Bd.bytes
  have hml : c.maxLocals = 1 := hml0
  have hown : s.vm.findClass "java/lang/StringLatin1" = some m.cls := findClass_of_methodNamed Bd.named
  have hnm := (name_of_methodNamed Bd.named Bd.method).1
  have X0 : Stand p l e ({ frames := 0, cells := 0, slots := 0, locals := 0 } : Room) s m #[(.int x)] below meth c s₁ [] 0 0 := Stand.of_body Bd
  have e0 : s₁.heap = h0 := by rw [← hh, Bd.state]; rfl
  have N0 := Fr.nil n0
  have ef : entryFrame m #[(.int x)] 1 = mkF m 0 #[.val (.int x)] [] := by first | (simp [entryFrame, mkF, argsToLocals, Value.category]; done) | rfl
  refine Fin.start (Q := Q_can Z x h0 n0) ef ?_
  show Fin _ _ _ _ _ _ _ (s₁.setTop (mkF m 0 #[.val (.int x)] []))
  refine Fin.by (fun t k => XS.iloadN X0.here hx rfl (hb hby d_jdk_43_method_3_0) rfl k) ?_
  show Fin _ _ _ _ _ _ _ (s₁.setTop (mkF m 1 #[.val (.int x)] [(.int x)]))
  refine Fin.by (fun t k => XS.sipush X0.here hx rfl (hb hby d_jdk_43_method_3_1) k) ?_
  show Fin _ _ _ _ _ _ _ (s₁.setTop (mkF m 4 #[.val (.int x)] [(.int (255 : Int32)), (.int x)]))
  refine Fin.by (fun t k => XS.icmpNo X0.here hx rfl (hb hby d_jdk_43_method_3_4) rfl (flt (hc : ¬ (255 : Int32) < x)).2.2.1 k) ?_
  show Fin _ _ _ _ _ _ _ (s₁.setTop (mkF m 7 #[.val (.int x)] []))
  refine Fin.by (fun t k => XS.iconst X0.here hx rfl (hb hby d_jdk_43_method_3_7) k) ?_
  show Fin _ _ _ _ _ _ _ (s₁.setTop (mkF m 8 #[.val (.int x)] [(.int (1 : Int32))]))
  refine Fin.by (fun t k => XS.goto X0.here hx rfl (pc0 := 8) (pc' := 12) rfl (hb hby d_jdk_43_method_3_8) (by decide) (by decide) k) ?_
  show Fin _ _ _ _ _ _ _ (s₁.setTop (mkF m 12 #[.val (.int x)] [(.int (1 : Int32))]))
  exact Fin.ret (v := some (.int (nar .boolean (1 : Int32)))) X0 (fun h => by rw [Bd.returns] at h; cases h) Bd.notSynchronized (by rw [e0]; exact ⟨rfl, N0, rfl⟩) (by decide) (by decide) (fun fs hr => retN X0 hx (t := .boolean) Bd.returns (by simp) (hb hby d_jdk_43_method_3_12) hr)
theorem d_jdk_43_method_46_0 : decode jdk_43_method_46_code 0 = .ok (.iconst 1, 1) := by decide +kernel
theorem d_jdk_43_method_46_1 : decode jdk_43_method_46_code 1 = .ok (.newarray .byte, 2) := by decide +kernel
theorem d_jdk_43_method_46_3 : decode jdk_43_method_46_code 3 = .ok (.dup, 1) := by decide +kernel
theorem d_jdk_43_method_46_4 : decode jdk_43_method_46_code 4 = .ok (.iconst 0, 1) := by decide +kernel
theorem d_jdk_43_method_46_5 : decode jdk_43_method_46_code 5 = .ok (.iload_n 0, 1) := by decide +kernel
theorem d_jdk_43_method_46_6 : decode jdk_43_method_46_code 6 = .ok (.i2b, 1) := by decide +kernel
theorem d_jdk_43_method_46_7 : decode jdk_43_method_46_code 7 = .ok (.bastore, 1) := by decide +kernel
theorem d_jdk_43_method_46_8 : decode jdk_43_method_46_code 8 = .ok (.areturn, 1) := by decide +kernel
def Q_toB (Z : State) (x : Int32) (h0 : Heap) (n0 : Nat) (vv_ : Option Value) (hh_ : Heap) (LL_ : List Loc) : Prop := ∃ (t : Addr), ∃ (k : ClassId), vv_ = some (.ref t) ∧ Fr n0 LL_ ∧ Keep h0 hh_ [] ∧ h0.size ≤ t ∧ Arv Z hh_ t k .byte (1 : Int32) [(.int ((x.toInt8.toInt32).toInt8.toInt32))] (.int (0 : Int32))
set_option maxRecDepth 65536 in
set_option maxHeartbeats 40000000 in
theorem rm_toB (l : Launch) (Z : State) (a0 : Array Value) (hw : ∀ d ∈ tables_1, d.before a0 Z = true) (ws : List Jvm.Cond) (x : Int32) (h0 : Heap) (n0 : Nat) (Z0 : n0 ≤ h0.size) :
    MetFree l (⟨"java/lang/StringLatin1", "toBytes", "(C)[B"⟩ : MethodName) (head1 (Jvm.Cond.code (⟨"java/lang/StringLatin1", "toBytes", "(C)[B"⟩ : MethodName) jdk_43_method_46_code 1 (some (.array .byte)) :: ws) ({ frames := 0, cells := 1, slots := 1, locals := 0 } : Room)) (fun aa_ U => aa_ = #[(.int x)] ∧ Z.Warmed39 U.vm ∧ U.heap = h0) (fun _ _ _ _ _ => True) (fun _ U o U' => ∃ vv_ LL_, o = .returned vv_ ∧ Q_toB Z x h0 n0 vv_ U'.heap LL_ ∧ FrameEnd U o U' LL_ 1 1) := by
  refine MetFree.of_bodySF (plainFor_of_name pn_java_lang_StringLatin1) hisR ?_
  intro p e s m args below meth c s₁ Bd hml0 hP hK
  obtain ⟨rfl, hZ, hh⟩ := hP
  have hx := Bd.exec
  have hby := Bd.bytes
  have hml : c.maxLocals = 1 := hml0
  have hown : s.vm.findClass "java/lang/StringLatin1" = some m.cls := findClass_of_methodNamed Bd.named
  have hnm := (name_of_methodNamed Bd.named Bd.method).1
  have X0 : Stand p l e ({ frames := 0, cells := 1, slots := 1, locals := 0 } : Room) s m #[(.int x)] below meth c s₁ [] 0 0 := Stand.of_body Bd
  have e0 : s₁.heap = h0 := by rw [← hh, Bd.state]; rfl
  have N0 := Fr.nil n0
  have ef : entryFrame m #[(.int x)] 1 = mkF m 0 #[.val (.int x)] [] := by first | (simp [entryFrame, mkF, argsToLocals, Value.category]; done) | rfl
  refine Fin.start (Q := Q_toB Z x h0 n0) ef ?_
  show Fin _ _ _ _ _ _ _ (s₁.setTop (mkF m 0 #[.val (.int x)] []))
  refine Fin.by (fun t k => XS.iconst X0.here hx rfl (hb hby d_jdk_43_method_46_0) k) ?_
  show Fin _ _ _ _ _ _ _ (s₁.setTop (mkF m 1 #[.val (.int x)] [(.int (1 : Int32))]))
  obtain ⟨T101, h101, k101, X101, e101, E101, A101, st101⟩ := newP X0 hx hZ (hw _ (List.mem_of_getElem? (i := 14) rfl)) e0 (g := (mkF m 1 #[.val (.int x)] [(.int (1 : Int32))])) rfl (hb hby d_jdk_43_method_46_1) rfl (by decide) (cap := 1) (by decide) (by decide) (by decide) (by decide)
  obtain ⟨a101, g101⟩ : ∃ z, z = h0.size := ⟨_, rfl⟩
  rw [← g101] at A101 st101
  refine Fin.by (fun t k => st101 t k) ?_
  have V101 : Arv Z h101 a101 k101 .byte (1 : Int32) [(.int (0 : Int32))] (.int (0 : Int32)) := (Arv.new A101 (by decide)).pad (pad_rep [] (.int (0 : Int32)) 1)
  show Fin _ _ _ _ _ _ _ (T101.setTop (mkF m 3 #[.val (.int x)] [(.ref a101)]))
  refine Fin.by (fun t k => XS.dup X101.here hx rfl (hb hby d_jdk_43_method_46_3) rfl rfl k) ?_
  show Fin _ _ _ _ _ _ _ (T101.setTop (mkF m 4 #[.val (.int x)] [(.ref a101), (.ref a101)]))
  refine Fin.by (fun t k => XS.iconst X101.here hx rfl (hb hby d_jdk_43_method_46_4) k) ?_
  show Fin _ _ _ _ _ _ _ (T101.setTop (mkF m 5 #[.val (.int x)] [(.int (0 : Int32)), (.ref a101), (.ref a101)]))
  refine Fin.by (fun t k => XS.iloadN X101.here hx rfl (hb hby d_jdk_43_method_46_5) rfl k) ?_
  show Fin _ _ _ _ _ _ _ (T101.setTop (mkF m 6 #[.val (.int x)] [(.int x), (.int (0 : Int32)), (.ref a101), (.ref a101)]))
  refine Fin.by (fun t k => XS.i2b X101.here hx rfl (hb hby d_jdk_43_method_46_6) rfl k) ?_
  show Fin _ _ _ _ _ _ _ (T101.setTop (mkF m 7 #[.val (.int x)] [(.int (x.toInt8.toInt32)), (.int (0 : Int32)), (.ref a101), (.ref a101)]))
  obtain ⟨cl102, Ar102, q102, S102, N102, H102, G102⟩ := id V101
  obtain ⟨T102, h102, X102, e102, W102, st102⟩ := stB X101 hx hZ e101 Ar102 (j := (0 : Int32)) (inb_of S102 ⟨by decide, by decide⟩) (g := (mkF m 7 #[.val (.int x)] [(.int (x.toInt8.toInt32)), (.int (0 : Int32)), (.ref a101), (.ref a101)])) rfl rfl (hb hby d_jdk_43_method_46_7)
  have V102 : Arv Z h102 a101 k101 .byte (1 : Int32) [(.int ((x.toInt8.toInt32).toInt8.toInt32))] (.int (0 : Int32)) := Arv.set Ar102 q102 S102 N102 H102 G102 (fits_nar_byte _) W102 0 rfl (Nat.le_of_ble_eq_true rfl)
  have g103 : n0 ≤ a101 := Nat.le_trans Z0 (Nat.le_of_eq g101.symm)
  refine Fin.by (fun t k => st102 t k) ?_
  have N102_ := Fr.snoc X102 N0 g103
  show Fin _ _ _ _ _ _ _ (T102.setTop (mkF m 8 #[.val (.int x)] [(.ref a101)]))
  have kp104 : Keep h0 h101 [] := (Keep.refl h0 []).ext E101
  have kp105 : Keep h0 h102 [] := kp104.wr W102 (Or.inr (Nat.le_trans (Nat.le_refl _) (Nat.le_of_eq g101.symm)))
  exact Fin.ret (v := some (.ref a101)) X102 (fun h => by rw [Bd.returns] at h; cases h) Bd.notSynchronized (by rw [e102]; exact ⟨a101, k101, rfl, N102_, kp105, (Nat.le_trans (Nat.le_refl _) (Nat.le_of_eq g101.symm)), V102⟩) (by decide) (by decide) (fun fs hr => retA X102 hx Bd.returns rfl rfl (hb hby d_jdk_43_method_46_8) hr)
theorem d_jdk_42_method_151_0 : decode jdk_42_method_151_code 0 = .ok (.aload_n 0, 1) := by decide +kernel
theorem d_jdk_42_method_151_1 : decode jdk_42_method_151_code 1 = .ok (.invokespecial 1, 3) := by decide +kernel
theorem d_jdk_42_method_151_4 : decode jdk_42_method_151_code 4 = .ok (.aload_n 0, 1) := by decide +kernel
theorem d_jdk_42_method_151_5 : decode jdk_42_method_151_code 5 = .ok (.aload_n 1, 1) := by decide +kernel
theorem d_jdk_42_method_151_6 : decode jdk_42_method_151_code 6 = .ok (.putfield 9, 3) := by decide +kernel
theorem d_jdk_42_method_151_9 : decode jdk_42_method_151_code 9 = .ok (.aload_n 0, 1) := by decide +kernel
theorem d_jdk_42_method_151_10 : decode jdk_42_method_151_code 10 = .ok (.iload_n 2, 1) := by decide +kernel
theorem d_jdk_42_method_151_11 : decode jdk_42_method_151_code 11 = .ok (.putfield 15, 3) := by decide +kernel
theorem d_jdk_42_method_151_14 : decode jdk_42_method_151_code 14 = .ok (.return_, 1) := by decide +kernel
theorem pn_java_lang_String : plainName "java/lang/String" = true := by first | (simp [plainName, overriddenIn]; done) | decide +kernel
def Q_sin (Z : State) (a : Addr) (b : Addr) (h0 : Heap) (n0 : Nat) (vv_ : Option Value) (hh_ : Heap) (LL_ : List Loc) : Prop := vv_ = none ∧ Fr n0 LL_ ∧ Keep h0 hh_ [a] ∧ Exa Z hh_ a "java/lang/String" ∧ Fld Z hh_ a "java/lang/String" "value" "[B" (.ref b) ∧ Fld Z hh_ a "java/lang/String" "coder" "B" (.int (0 : Int32))
set_option maxRecDepth 65536 in
set_option maxHeartbeats 40000000 in
theorem rm_sin (l : Launch) (Z : State) (a0 : Array Value) (hw : ∀ d ∈ tables_1, d.before a0 Z = true) (ws : List Jvm.Cond) (a : Addr) (b : Addr) (h0 : Heap) (n0 : Nat) (Z0 : n0 ≤ h0.size) (E0 : Exa Z h0 a "java/lang/String") (F0 : Fld Z h0 a "java/lang/String" "value" "[B" .null) (F1 : Fld Z h0 a "java/lang/String" "coder" "B" (.int (0 : Int32))) (ga : n0 ≤ a) :
    MetFree l (⟨"java/lang/String", "<init>", "([BB)V"⟩ : MethodName) (head1 (Jvm.Cond.code (⟨"java/lang/String", "<init>", "([BB)V"⟩ : MethodName) jdk_42_method_151_code 3 none :: ws) ({ frames := 1, cells := 0, slots := 0, locals := 12 } : Room)) (fun aa_ U => aa_ = #[(.ref a), (.ref b), (.int (0 : Int32))] ∧ Z.Warmed39 U.vm ∧ U.heap = h0) (fun _ _ _ _ _ => True) (fun _ U o U' => ∃ vv_ LL_, o = .returned vv_ ∧ Q_sin Z a b h0 n0 vv_ U'.heap LL_ ∧ FrameEnd U o U' LL_ 0 0) := by
  refine MetFree.of_bodySF (plainFor_of_name pn_java_lang_String) hisR ?_
  intro p e s m args below meth c s₁ Bd hml0 hP hK
  obtain ⟨rfl, hZ, hh⟩ := hP
  have hx := Bd.exec
  have hby := Bd.bytes
  have hml : c.maxLocals = 3 := hml0
  have hown : s.vm.findClass "java/lang/String" = some m.cls := findClass_of_methodNamed Bd.named
  have hnm := (name_of_methodNamed Bd.named Bd.method).1
  have X0 : Stand p l e ({ frames := 1, cells := 0, slots := 0, locals := 12 } : Room) s m #[(.ref a), (.ref b), (.int (0 : Int32))] below meth c s₁ [] 0 0 := Stand.of_body Bd
  have e0 : s₁.heap = h0 := by rw [← hh, Bd.state]; rfl
  have N0 := Fr.nil n0
  have ef : entryFrame m #[(.ref a), (.ref b), (.int (0 : Int32))] 3 = mkF m 0 #[.val (.ref a), .val (.ref b), .val (.int (0 : Int32))] [] := by first | (simp [entryFrame, mkF, argsToLocals, Value.category]; done) | rfl
  refine Fin.start (Q := Q_sin Z a b h0 n0) ef ?_
  show Fin _ _ _ _ _ _ _ (s₁.setTop (mkF m 0 #[.val (.ref a), .val (.ref b), .val (.int (0 : Int32))] []))
  refine Fin.by (fun t k => XS.aloadN X0.here hx rfl (hb hby d_jdk_42_method_151_0) rfl rfl k) ?_
  show Fin _ _ _ _ _ _ _ (s₁.setTop (mkF m 1 #[.val (.ref a), .val (.ref b), .val (.int (0 : Int32))] [(.ref a)]))
  obtain ⟨T101, X101, e101, st101⟩ := initO X0 hx hZ hown (hw _ (List.mem_of_getElem? (i := 19) rfl)) (hw _ (List.mem_of_getElem? (i := 20) rfl)) (hw _ (List.mem_of_getElem? (i := 21) rfl)) e0 (g := (mkF m 1 #[.val (.ref a), .val (.ref b), .val (.int (0 : Int32))] [(.ref a)])) rfl (by rw [hml]; rfl) rfl (hb hby d_jdk_42_method_151_1) (by decide) (W := 0) (by show 2 * 0 + _ ≤ _; exact Nat.le_of_eq rfl) (by decide)
  refine Fin.by (fun t k => st101 t k) ?_
  show Fin _ _ _ _ _ _ _ (T101.setTop (mkF m 4 #[.val (.ref a), .val (.ref b), .val (.int (0 : Int32))] []))
  refine Fin.by (fun t k => XS.aloadN X101.here hx rfl (hb hby d_jdk_42_method_151_4) rfl rfl k) ?_
  show Fin _ _ _ _ _ _ _ (T101.setTop (mkF m 5 #[.val (.ref a), .val (.ref b), .val (.int (0 : Int32))] [(.ref a)]))
  refine Fin.by (fun t k => XS.aloadN X101.here hx rfl (hb hby d_jdk_42_method_151_5) rfl rfl k) ?_
  show Fin _ _ _ _ _ _ _ (T101.setTop (mkF m 6 #[.val (.ref a), .val (.ref b), .val (.int (0 : Int32))] [(.ref b), (.ref a)]))
  obtain ⟨T102, h102, X102, e102, W102, st102⟩ := putF X101 hx hZ hown (host := "") (Or.inl (hw _ (List.mem_of_getElem? (i := 22) rfl))) Via.refl e101 F0 E0 (Or.inr ⟨(hw _ (List.mem_of_getElem? (i := 23) rfl)), rfl, hnm⟩) (hw _ (List.mem_of_getElem? (i := 10) rfl)) (ty := (.array .byte)) (by decide) rfl rfl (g := (mkF m 6 #[.val (.ref a), .val (.ref b), .val (.int (0 : Int32))] [(.ref b), (.ref a)])) rfl rfl (hb hby d_jdk_42_method_151_6)
  refine Fin.by (fun t k => st102 t k) ?_
  have N102_ := Fr.snoc X102 N0 ga
  show Fin _ _ _ _ _ _ _ (T102.setTop (mkF m 9 #[.val (.ref a), .val (.ref b), .val (.int (0 : Int32))] []))
  refine Fin.by (fun t k => XS.aloadN X102.here hx rfl (hb hby d_jdk_42_method_151_9) rfl rfl k) ?_
  show Fin _ _ _ _ _ _ _ (T102.setTop (mkF m 10 #[.val (.ref a), .val (.ref b), .val (.int (0 : Int32))] [(.ref a)]))
  refine Fin.by (fun t k => XS.iloadN X102.here hx rfl (hb hby d_jdk_42_method_151_10) rfl k) ?_
  show Fin _ _ _ _ _ _ _ (T102.setTop (mkF m 11 #[.val (.ref a), .val (.ref b), .val (.int (0 : Int32))] [(.int (0 : Int32)), (.ref a)]))
  have F103 : Fld Z h102 a "java/lang/String" "coder" "B" (.int (0 : Int32)) := (F1.other W102 (Or.inr (slot_ne (Or.inr (hw _ (List.mem_of_getElem? (i := 25) rfl))) (Or.inr (hw _ (List.mem_of_getElem? (i := 23) rfl))) (by decide) (t := .byte) (t' := (.array .byte)) (by decide) (by decide))))
  have E104 : Exa Z h102 a "java/lang/String" := (E0.wr W102)
  obtain ⟨T105, h105, X105, e105, W105, st105⟩ := putFN X102 hx hZ hown (hw _ (List.mem_of_getElem? (i := 24) rfl)) Via.refl e102 F103 E104 (Or.inr ⟨(hw _ (List.mem_of_getElem? (i := 25) rfl)), rfl, hnm⟩) (hw _ (List.mem_of_getElem? (i := 10) rfl)) (ty := .byte) (v' := .int (0 : Int32)) (by decide) rfl rfl (g := (mkF m 11 #[.val (.ref a), .val (.ref b), .val (.int (0 : Int32))] [(.int (0 : Int32)), (.ref a)])) rfl rfl (hb hby d_jdk_42_method_151_11)
  refine Fin.by (fun t k => st105 t k) ?_
  have N105_ := Fr.snoc X105 N102_ ga
  show Fin _ _ _ _ _ _ _ (T105.setTop (mkF m 14 #[.val (.ref a), .val (.ref b), .val (.int (0 : Int32))] []))
  have kp106 : Keep h0 h102 [a] := (Keep.refl h0 [a]).wr W102 (Or.inl (List.mem_of_getElem? (i := 0) rfl))
  have kp107 : Keep h0 h105 [a] := kp106.wr W105 (Or.inl (List.mem_of_getElem? (i := 0) rfl))
  have E108 : Exa Z h105 a "java/lang/String" := (E104.wr W105)
  have F109 : Fld Z h105 a "java/lang/String" "value" "[B" (.ref b) := ((F0.same W102).other W105 (Or.inr (slot_ne (Or.inr (hw _ (List.mem_of_getElem? (i := 23) rfl))) (Or.inr (hw _ (List.mem_of_getElem? (i := 25) rfl))) (by decide) (t := (.array .byte)) (t' := .byte) (by decide) (by decide))))
  exact Fin.ret (v := none) X105 (fun _ => rfl) Bd.notSynchronized (by rw [e105]; exact ⟨rfl, N105_, kp107, E108, F109, (F103.same W105)⟩) (by decide) (by decide) (fun fs hr => X105.returnOut hx Bd.returns (hb hby d_jdk_42_method_151_14) hr)
theorem d_jdk_42_method_139_0 : decode jdk_42_method_139_code 0 = .ok (.getstatic 38, 3) := by decide +kernel
theorem d_jdk_42_method_139_3 : decode jdk_42_method_139_code 3 = .ok (.ifCond .eq 23, 3) := by decide +kernel
theorem d_jdk_42_method_139_6 : decode jdk_42_method_139_code 6 = .ok (.iload_n 0, 1) := by decide +kernel
theorem pd_28 : parseMethodDescriptor "(C)Z" = some ⟨[.char], some .boolean⟩ := by decide +kernel
theorem d_jdk_42_method_139_7 : decode jdk_42_method_139_code 7 = .ok (.invokestatic 1015, 3) := by decide +kernel
theorem d_jdk_42_method_139_10 : decode jdk_42_method_139_code 10 = .ok (.ifCond .eq 16, 3) := by decide +kernel
theorem d_jdk_42_method_139_13 : decode jdk_42_method_139_code 13 = .ok (.new 10, 3) := by decide +kernel
theorem d_jdk_42_method_139_16 : decode jdk_42_method_139_code 16 = .ok (.dup, 1) := by decide +kernel
theorem d_jdk_42_method_139_17 : decode jdk_42_method_139_code 17 = .ok (.iload_n 0, 1) := by decide +kernel
theorem pd_34 : parseMethodDescriptor "(C)[B" = some ⟨[.char], some (.array .byte)⟩ := by decide +kernel
theorem d_jdk_42_method_139_18 : decode jdk_42_method_139_code 18 = .ok (.invokestatic 1018, 3) := by decide +kernel
theorem d_jdk_42_method_139_21 : decode jdk_42_method_139_code 21 = .ok (.iconst 0, 1) := by decide +kernel
theorem pd_37 : parseMethodDescriptor "([BB)V" = some ⟨[(.array .byte), .byte], none⟩ := by decide +kernel
theorem d_jdk_42_method_139_22 : decode jdk_42_method_139_code 22 = .ok (.invokespecial 209, 3) := by decide +kernel
theorem d_jdk_42_method_139_25 : decode jdk_42_method_139_code 25 = .ok (.areturn, 1) := by decide +kernel
def Q_vof (Z : State) (x : Int32) (G1 : Int32) (h0 : Heap) (n0 : Nat) (vv_ : Option Value) (hh_ : Heap) (LL_ : List Loc) : Prop := ∃ (t : Addr), ∃ (b : Addr), ∃ (k : ClassId), vv_ = some (.ref t) ∧ Fr n0 LL_ ∧ Keep h0 hh_ [] ∧ h0.size ≤ t ∧ h0.size ≤ b ∧ b ≠ t ∧ Exa Z hh_ t "java/lang/String" ∧ Fld Z hh_ t "java/lang/String" "value" "[B" (.ref b) ∧ Fld Z hh_ t "java/lang/String" "coder" "B" (.int (0 : Int32)) ∧ Arv Z hh_ b k .byte (1 : Int32) [(.int ((x.toInt8.toInt32).toInt8.toInt32))] (.int (0 : Int32))
set_option maxRecDepth 65536 in
set_option maxHeartbeats 40000000 in
theorem rm_vof (l : Launch) (Z : State) (a0 : Array Value) (hw : ∀ d ∈ tables_1, d.before a0 Z = true) (ws : List Jvm.Cond) (x : Int32) (G1 : Int32) (h0 : Heap) (n0 : Nat) (Z0 : n0 ≤ h0.size) (hc : ¬ (255 : Int32) < x) (S1 : Sta Z Z.heap "java/lang/String" "COMPACT_STRINGS" "Z" (.int G1)) (P1 : ¬ G1 = 0) (OL : Old Z n0 h0) :
    MetFree l (⟨"java/lang/String", "valueOf", "(C)Ljava/lang/String;"⟩ : MethodName) (head1 (Jvm.Cond.code (⟨"java/lang/String", "valueOf", "(C)Ljava/lang/String;"⟩ : MethodName) jdk_42_method_139_code 1 (some (.object "java/lang/String")) :: ws) ({ frames := 2, cells := 2, slots := 5, locals := 27 } : Room)) (fun aa_ U => aa_ = #[(.int x)] ∧ Z.Warmed39 U.vm ∧ U.heap = h0) (fun _ _ _ _ _ => True) (fun _ U o U' => ∃ vv_ LL_, o = .returned vv_ ∧ Q_vof Z x G1 h0 n0 vv_ U'.heap LL_ ∧ FrameEnd U o U' LL_ 2 5) := by
  refine MetFree.of_bodySF (plainFor_of_name pn_java_lang_String) hisR ?_
  intro p e s m args below meth c s₁ Bd hml0 hP hK
  obtain ⟨rfl, hZ, hh⟩ := hP
  have hx := Bd.exec
  have hby := Bd.bytes
  have hml : c.maxLocals = 1 := hml0
  have hown : s.vm.findClass "java/lang/String" = some m.cls := findClass_of_methodNamed Bd.named
  have hnm := (name_of_methodNamed Bd.named Bd.method).1
  have X0 : Stand p l e ({ frames := 2, cells := 2, slots := 5, locals := 27 } : Room) s m #[(.int x)] below meth c s₁ [] 0 0 := Stand.of_body Bd
  have e0 : s₁.heap = h0 := by rw [← hh, Bd.state]; rfl
  have N0 := Fr.nil n0
  have ef : entryFrame m #[(.int x)] 1 = mkF m 0 #[.val (.int x)] [] := by first | (simp [entryFrame, mkF, argsToLocals, Value.category]; done) | rfl
  refine Fin.start (Q := Q_vof Z x G1 h0 n0) ef ?_
  show Fin _ _ _ _ _ _ _ (s₁.setTop (mkF m 0 #[.val (.int x)] []))
  obtain ⟨T101, X101, e101, st101⟩ := getS X0 hx hZ (host := "") hown (hw _ (List.mem_of_getElem? (i := 4) rfl)) Via.refl e0 (S1.ext OL.2) (g := (mkF m 0 #[.val (.int x)] [])) rfl (hb hby d_jdk_42_method_139_0)
  refine Fin.by (fun t k => st101 t k) ?_
  show Fin _ _ _ _ _ _ _ (T101.setTop (mkF m 3 #[.val (.int x)] [(.int G1)]))
  refine Fin.by (fun t k => XS.ifNo X101.here hx rfl (hb hby d_jdk_42_method_139_3) rfl ((if0 _ _).trans (feq (P1 : ¬ G1 = (0 : Int32))).1) k) ?_
  show Fin _ _ _ _ _ _ _ (T101.setTop (mkF m 6 #[.val (.int x)] []))
  refine Fin.by (fun t k => XS.iloadN X101.here hx rfl (hb hby d_jdk_42_method_139_6) rfl k) ?_
  show Fin _ _ _ _ _ _ _ (T101.setTop (mkF m 7 #[.val (.int x)] [(.int x)]))
  obtain ⟨v102, _, ⟨T102, L102, k102, n102⟩, -, X102, ⟨Lc102, hQ102, l102, y102, z102⟩, st102⟩ := Jvm.LawKit.callS X101 hx (y := (⟨"java/lang/StringLatin1", "canEncode", "(C)Z"⟩ : MethodName)) hown (mvT hZ (hw _ (List.mem_of_getElem? (i := 5) rfl))) (mvT hZ (hw _ (List.mem_of_getElem? (i := 6) rfl))) (mvT hZ (hw _ (List.mem_of_getElem? (i := 7) rfl))) (mvT hZ (hw _ (List.mem_of_getElem? (i := 8) rfl))) (by decide) (backOf (W := 0) (rm_can l Z a0 hw [] x h0 n0 Z0 hc) hZ (hw _ (List.mem_of_getElem? (i := 8) rfl)) (hw _ (List.mem_of_getElem? (i := 7) rfl)) (by decide) (by decide)) (g := (mkF m 7 #[.val (.int x)] [(.int x)])) rfl (by rw [hml]; rfl) (argsL := [(.int x)]) (rest := []) (lenOf pd_28 rfl) rfl (by show 2 * 0 + _ ≤ _; exact Nat.le_of_eq rfl) (hb hby d_jdk_42_method_139_7) (fun _ _ => ⟨rfl, e101, (by decide : 0 + 0 ≤ _), (by decide : 0 + 0 ≤ _)⟩)
  dsimp only [Pt.U, Pt.locs, Pt.cells, Pt.slots] at X102 l102 y102 z102 st102 hQ102
  subst l102 y102 z102
  obtain ⟨rfl, Nq102, e102_⟩ := hQ102
  have N102_ := Fr.app N0 Nq102
  refine Fin.by (fun t k => st102 t k) ?_
  have e102 := e102_
  show Fin _ _ _ _ _ _ _ (T102.setTop (mkF m 10 #[.val (.int x)] [(.int (nar .boolean (1 : Int32)))]))
  refine Fin.by (fun t k => XS.ifNo X102.here hx rfl (hb hby d_jdk_42_method_139_10) rfl ((if0 _ _).trans (feq (by decide : ¬ (nar .boolean (1 : Int32)) = (0 : Int32))).1) k) ?_
  show Fin _ _ _ _ _ _ _ (T102.setTop (mkF m 13 #[.val (.int x)] []))
  obtain ⟨T103, h103, X103, e103, E103, A103, D103, -, st103⟩ := newO X102 hx hZ hown (hw _ (List.mem_of_getElem? (i := 9) rfl)) (hw _ (List.mem_of_getElem? (i := 10) rfl)) (hw _ (List.mem_of_getElem? (i := 2) rfl)) e102 (g := (mkF m 13 #[.val (.int x)] [])) rfl (hb hby d_jdk_42_method_139_13) (by decide) (by decide)
  obtain ⟨a103, g103⟩ : ∃ z, z = h0.size := ⟨_, rfl⟩
  rw [← g103] at A103 D103 st103
  refine Fin.by (fun t k => st103 t k) ?_
  show Fin _ _ _ _ _ _ _ (T103.setTop (mkF m 16 #[.val (.int x)] [(.ref a103)]))
  refine Fin.by (fun t k => XS.dup X103.here hx rfl (hb hby d_jdk_42_method_139_16) rfl rfl k) ?_
  show Fin _ _ _ _ _ _ _ (T103.setTop (mkF m 17 #[.val (.int x)] [(.ref a103), (.ref a103)]))
  refine Fin.by (fun t k => XS.iloadN X103.here hx rfl (hb hby d_jdk_42_method_139_17) rfl k) ?_
  show Fin _ _ _ _ _ _ _ (T103.setTop (mkF m 18 #[.val (.int x)] [(.int x), (.ref a103), (.ref a103)]))
  have z104 : n0 ≤ h103.size := Nat.le_trans Z0 E103.1
  obtain ⟨v105, _, ⟨T105, L105, k105, n105⟩, -, X105, ⟨Lc105, hQ105, l105, y105, z105⟩, st105⟩ := Jvm.LawKit.callS X103 hx (y := (⟨"java/lang/StringLatin1", "toBytes", "(C)[B"⟩ : MethodName)) hown (mvT hZ (hw _ (List.mem_of_getElem? (i := 11) rfl))) (mvT hZ (hw _ (List.mem_of_getElem? (i := 12) rfl))) (mvT hZ (hw _ (List.mem_of_getElem? (i := 7) rfl))) (mvT hZ (hw _ (List.mem_of_getElem? (i := 13) rfl))) (by decide) (backOf (W := 2) (rm_toB l Z a0 hw [] x h103 n0 z104 ) hZ (hw _ (List.mem_of_getElem? (i := 13) rfl)) (hw _ (List.mem_of_getElem? (i := 7) rfl)) (by decide) (by decide)) (g := (mkF m 18 #[.val (.int x)] [(.int x), (.ref a103), (.ref a103)])) rfl (by rw [hml]; rfl) (argsL := [(.int x)]) (rest := [(.ref a103), (.ref a103)]) (lenOf pd_34 rfl) rfl (by show 2 * 0 + _ ≤ _; exact Nat.le_of_eq rfl) (hb hby d_jdk_42_method_139_18) (fun _ _ => ⟨rfl, e103, (by decide : 1 + 1 ≤ _), (by decide : 4 + 1 ≤ _)⟩)
  dsimp only [Pt.U, Pt.locs, Pt.cells, Pt.slots] at X105 l105 y105 z105 st105 hQ105
  subst l105 y105 z105
  obtain ⟨t106, k107, rfl, Nq105, p105_0, p105_1, p105_2⟩ := hQ105
  have N105_ := Fr.app N102_ Nq105
  refine Fin.by (fun t k => st105 t k) ?_
  show Fin _ _ _ _ _ _ _ (T105.setTop (mkF m 21 #[.val (.int x)] [(.ref t106), (.ref a103), (.ref a103)]))
  refine Fin.by (fun t k => XS.iconst X105.here hx rfl (hb hby d_jdk_42_method_139_21) k) ?_
  show Fin _ _ _ _ _ _ _ (T105.setTop (mkF m 22 #[.val (.int x)] [(.int (0 : Int32)), (.ref t106), (.ref a103), (.ref a103)]))
  have E108 : Exa Z T105.heap a103 "java/lang/String" := (A103.keep p105_0)
  have F109 : Fld Z T105.heap a103 "java/lang/String" "value" "[B" .null := ((D103 (Or.inr (hw _ (List.mem_of_getElem? (i := 23) rfl))) (ty := (.array .byte)) (by decide) : Fld Z h103 a103 "java/lang/String" "value" "[B" .null).keep p105_0 nin0)
  have F110 : Fld Z T105.heap a103 "java/lang/String" "coder" "B" (.int (0 : Int32)) := ((D103 (Or.inr (hw _ (List.mem_of_getElem? (i := 25) rfl))) (ty := .byte) (by decide) : Fld Z h103 a103 "java/lang/String" "coder" "B" (.int (0 : Int32))).keep p105_0 nin0)
  have g111 : n0 ≤ a103 := Nat.le_trans Z0 (Nat.le_of_eq g103.symm)
  have z112 : n0 ≤ T105.heap.size := Nat.le_trans z104 p105_0.1
  obtain ⟨v113, _, ⟨T113, L113, k113, n113⟩, -, X113, ⟨Lc113, hQ113, l113, y113, z113⟩, st113⟩ := X105.specialBack hx (y := (⟨"java/lang/String", "<init>", "([BB)V"⟩ : MethodName)) rfl hown (mvT hZ (hw _ (List.mem_of_getElem? (i := 15) rfl))) (mvT hZ (hw _ (List.mem_of_getElem? (i := 16) rfl))) (mvT hZ (hw _ (List.mem_of_getElem? (i := 18) rfl))) (by decide) (backOf (W := 1) (rm_sin l Z a0 hw [] a103 t106 T105.heap n0 z112 E108 F109 F110 g111) hZ (hw _ (List.mem_of_getElem? (i := 18) rfl)) (hw _ (List.mem_of_getElem? (i := 2) rfl)) (by decide) (by decide)) (g := (mkF m 22 #[.val (.int x)] [(.int (0 : Int32)), (.ref t106), (.ref a103), (.ref a103)])) rfl (by rw [hml]; rfl) (Steps.refl _) (a := a103) (argsL := [(.ref t106), (.int (0 : Int32))]) (rest := [(.ref a103)]) (lenOf pd_37 rfl) rfl (by show 2 * 0 + _ ≤ _; exact Nat.le_of_eq rfl) (hb hby d_jdk_42_method_139_22) (fun _ _ => ⟨rfl, rfl, (by decide : 2 + 0 ≤ _), (by decide : 5 + 0 ≤ _)⟩)
  dsimp only [Pt.U, Pt.locs, Pt.cells, Pt.slots] at X113 l113 y113 z113 st113 hQ113
  subst l113 y113 z113
  obtain ⟨rfl, Nq113, p113_0, p113_1, p113_2, p113_3⟩ := hQ113
  have N113_ := Fr.app N105_ Nq113
  refine Fin.byS st113 ?_
  show Fin _ _ _ _ _ _ _ (T113.setTop (mkF m 25 #[.val (.int x)] [(.ref a103)]))
  have kp114 : Keep h0 h103 [] := (Keep.refl h0 []).ext E103
  have kp115 : Keep h0 T105.heap [] := kp114.trans p105_0 all0
  have kp116 : Keep h0 T113.heap [] := kp115.trans p113_0 (allS (Or.inr (Nat.le_trans (Nat.le_refl _) (Nat.le_of_eq g103.symm))) all0)
  have ne117 : a103 ≠ t106 := Nat.ne_of_lt (Nat.lt_of_lt_of_le A103.lt p105_1)
  have A118 : Arv Z T113.heap t106 k107 .byte (1 : Int32) [(.int ((x.toInt8.toInt32).toInt8.toInt32))] (.int (0 : Int32)) := (p105_2.keep p113_0 (ninS (Ne.symm ne117) nin0))
  exact Fin.ret (v := some (.ref a103)) X113 (fun h => by rw [Bd.returns] at h; cases h) Bd.notSynchronized (⟨a103, t106, k107, rfl, N113_, kp116, (Nat.le_trans (Nat.le_refl _) (Nat.le_of_eq g103.symm)), (Nat.le_trans E103.1 p105_1), (Ne.symm ne117), p113_1, p113_2, p113_3, A118⟩) (by decide) (by decide) (fun fs hr => retA X113 hx Bd.returns rfl rfl (hb hby d_jdk_42_method_139_25) hr)
theorem d_jdk_42_method_149_0 : decode jdk_42_method_149_code 0 = .ok (.aload_n 0, 1) := by decide +kernel
theorem d_jdk_42_method_149_1 : decode jdk_42_method_149_code 1 = .ok (.invokespecial 1, 3) := by decide +kernel
theorem d_jdk_42_method_149_4 : decode jdk_42_method_149_code 4 = .ok (.iload_n 3, 1) := by decide +kernel
theorem d_jdk_42_method_149_5 : decode jdk_42_method_149_code 5 = .ok (.ifCond .ne 22, 3) := by decide +kernel
theorem d_jdk_42_method_149_8 : decode jdk_42_method_149_code 8 = .ok (.aload_n 0, 1) := by decide +kernel
theorem d_jdk_42_method_149_9 : decode jdk_42_method_149_code 9 = .ok (.ldc 7, 2) := by decide +kernel
theorem d_jdk_42_method_149_11 : decode jdk_42_method_149_code 11 = .ok (.getfield 9, 3) := by decide +kernel
theorem d_jdk_42_method_149_14 : decode jdk_42_method_149_code 14 = .ok (.putfield 9, 3) := by decide +kernel
theorem d_jdk_42_method_149_17 : decode jdk_42_method_149_code 17 = .ok (.aload_n 0, 1) := by decide +kernel
theorem d_jdk_42_method_149_18 : decode jdk_42_method_149_code 18 = .ok (.ldc 7, 2) := by decide +kernel
theorem d_jdk_42_method_149_20 : decode jdk_42_method_149_code 20 = .ok (.getfield 15, 3) := by decide +kernel
theorem d_jdk_42_method_149_23 : decode jdk_42_method_149_code 23 = .ok (.putfield 15, 3) := by decide +kernel
theorem d_jdk_42_method_149_26 : decode jdk_42_method_149_code 26 = .ok (.return_, 1) := by decide +kernel
def Q_n4e (Z : State) (a : Addr) (b : Addr) (h0 : Heap) (n0 : Nat) (vv_ : Option Value) (hh_ : Heap) (LL_ : List Loc) : Prop := ∃ (t : Addr), ∃ (k : ClassId), vv_ = none ∧ Fr n0 LL_ ∧ Keep h0 hh_ [a] ∧ Exa Z hh_ a "java/lang/String" ∧ Fld Z hh_ a "java/lang/String" "value" "[B" (.ref t) ∧ Fld Z hh_ a "java/lang/String" "coder" "B" (.int (0 : Int32)) ∧ Arv Z hh_ t k .byte (0 : Int32) [] (.int 0)
set_option maxRecDepth 65536 in
set_option maxHeartbeats 40000000 in
theorem rm_n4e (l : Launch) (Z : State) (a0 : Array Value) (hw : ∀ d ∈ tables_1, d.before a0 Z = true) (ws : List Jvm.Cond) (a : Addr) (b : Addr) (h0 : Heap) (n0 : Nat) (Z0 : n0 ≤ h0.size) (E0 : Exa Z h0 a "java/lang/String") (F0 : Fld Z h0 a "java/lang/String" "value" "[B" .null) (F1 : Fld Z h0 a "java/lang/String" "coder" "B" (.int (0 : Int32))) (ga : n0 ≤ a) :
    MetFree l (⟨"java/lang/String", "<init>", "([CIILjava/lang/Void;)V"⟩ : MethodName) (head1 (Jvm.Cond.code (⟨"java/lang/String", "<init>", "([CIILjava/lang/Void;)V"⟩ : MethodName) jdk_42_method_149_code 6 none :: ws) ({ frames := 1, cells := 4, slots := 8, locals := 12 } : Room)) (fun aa_ U => aa_ = #[(.ref a), (.ref b), (.int (0 : Int32)), (.int (0 : Int32)), .null] ∧ Z.Warmed39 U.vm ∧ U.heap = h0 ∧ CHv Z consts_1 U.vm h0) (fun _ _ _ _ _ => True) (fun _ U o U' => ∃ vv_ LL_, o = .returned vv_ ∧ Q_n4e Z a b h0 n0 vv_ U'.heap LL_ ∧ CHr Z consts_1 U.vm U.heap U'.vm U'.heap ∧ ReturnedEndW U o U' LL_ 4 8) := by
  refine MetFree.of_bodySF (plainFor_of_name pn_java_lang_String) hisR ?_
  intro p e s m args below meth c s₁ Bd hml0 hP hK
  obtain ⟨rfl, hZ, hh, hC0⟩ := hP
  have hx := Bd.exec
  have hby := Bd.bytes
  have hml : c.maxLocals = 6 := hml0
  have hown : s.vm.findClass "java/lang/String" = some m.cls := findClass_of_methodNamed Bd.named
  have hnm := (name_of_methodNamed Bd.named Bd.method).1
  have X0 : Stand p l e ({ frames := 1, cells := 4, slots := 8, locals := 12 } : Room) (s.setVm s.vm) m #[(.ref a), (.ref b), (.int (0 : Int32)), (.int (0 : Int32)), .null] below meth c s₁ [] 0 0 := Stand.of_body Bd
  have e0 : s₁.heap = h0 := by rw [← hh, Bd.state]; rfl
  have N0 := Fr.nil n0
  have ef : entryFrame m #[(.ref a), (.ref b), (.int (0 : Int32)), (.int (0 : Int32)), .null] 6 = mkF m 0 #[.val (.ref a), .val (.ref b), .val (.int (0 : Int32)), .val (.int (0 : Int32)), .val .null, .unset] [] := by first | (simp [entryFrame, mkF, argsToLocals, Value.category]; done) | rfl
  have hS0 : s.Since s.vm h0.size := (State.WarmedH.refl s).since _
  have hk0 : h0.size ≤ h0.size := Nat.le_refl _
  have own_EW := own_EW0 hw
  have ch0 : CHr Z consts_1 s.vm h0 s.vm h0 := CHr.refl hC0
  refine FinH.start (Q := Q_n4e Z a b h0 n0) ef ?_
  show FinH _ _ _ _ _ _ _ _ _ (s₁.setTop (mkF m 0 #[.val (.ref a), .val (.ref b), .val (.int (0 : Int32)), .val (.int (0 : Int32)), .val .null, .unset] []))
  refine FinH.by (fun t k => XS.aloadN X0.here hx rfl (hb hby d_jdk_42_method_149_0) rfl rfl k) ?_
  show FinH _ _ _ _ _ _ _ _ _ (s₁.setTop (mkF m 1 #[.val (.ref a), .val (.ref b), .val (.int (0 : Int32)), .val (.int (0 : Int32)), .val .null, .unset] [(.ref a)]))
  obtain ⟨T101, X101, e101, st101⟩ := initO X0 hx hZ hown (hw _ (List.mem_of_getElem? (i := 19) rfl)) (hw _ (List.mem_of_getElem? (i := 20) rfl)) (hw _ (List.mem_of_getElem? (i := 21) rfl)) e0 (g := (mkF m 1 #[.val (.ref a), .val (.ref b), .val (.int (0 : Int32)), .val (.int (0 : Int32)), .val .null, .unset] [(.ref a)])) rfl (by rw [hml]; rfl) rfl (hb hby d_jdk_42_method_149_1) (by decide) (W := 0) (by show 2 * 0 + _ ≤ _; exact Nat.le_of_eq rfl) (by decide)
  refine FinH.by (fun t k => st101 t k) ?_
  show FinH _ _ _ _ _ _ _ _ _ (T101.setTop (mkF m 4 #[.val (.ref a), .val (.ref b), .val (.int (0 : Int32)), .val (.int (0 : Int32)), .val .null, .unset] []))
  refine FinH.by (fun t k => XS.iloadN X101.here hx rfl (hb hby d_jdk_42_method_149_4) rfl k) ?_
  show FinH _ _ _ _ _ _ _ _ _ (T101.setTop (mkF m 5 #[.val (.ref a), .val (.ref b), .val (.int (0 : Int32)), .val (.int (0 : Int32)), .val .null, .unset] [(.int (0 : Int32))]))
  refine FinH.by (fun t k => XS.ifNo X101.here hx rfl (hb hby d_jdk_42_method_149_5) rfl ((if0 _ _).trans (teq (rfl : (0 : Int32) = (0 : Int32))).2) k) ?_
  show FinH _ _ _ _ _ _ _ _ _ (T101.setTop (mkF m 8 #[.val (.ref a), .val (.ref b), .val (.int (0 : Int32)), .val (.int (0 : Int32)), .val .null, .unset] []))
  refine FinH.by (fun t k => XS.aloadN X101.here hx rfl (hb hby d_jdk_42_method_149_8) rfl rfl k) ?_
  show FinH _ _ _ _ _ _ _ _ _ (T101.setTop (mkF m 9 #[.val (.ref a), .val (.ref b), .val (.int (0 : Int32)), .val (.int (0 : Int32)), .val .null, .unset] [(.ref a)]))
  obtain ⟨a102, T102, h102, k102, b102, kk102, X102, e102, E102, hS102, hk102, hZ102, hown102, xE102, xC102, xV102, xA102, la102, lb102, hC102, hL102, hne102, st102⟩ := ldcCH X101 hx hZ hown (hw _ (List.mem_of_getElem? (i := 89) rfl)) (fun d hd => hw d (own_strAtoms d hd)) e101 hS0 hk0 own_EW (by decide) ch0.1 (vs := []) (z := (0 : Int32)) ⟨by decide, by rfl⟩ (by decide) rfl (g := (mkF m 9 #[.val (.ref a), .val (.ref b), .val (.int (0 : Int32)), .val (.int (0 : Int32)), .val .null, .unset] [(.ref a)])) rfl (hb hby d_jdk_42_method_149_9) (n := 0) (by decide) (by decide) (by decide) (by decide)
  refine FinH.by (fun t k => st102 t k) ?_
  show FinH _ _ _ _ _ _ _ _ _ (T102.setTop (mkF m 11 #[.val (.ref a), .val (.ref b), .val (.int (0 : Int32)), .val (.int (0 : Int32)), .val .null, .unset] [(.ref a102), (.ref a)]))
  obtain ⟨T103, X103, e103, st103⟩ := getF X102 hx hZ102 hown102 (host := "") (Or.inl (hw _ (List.mem_of_getElem? (i := 22) rfl))) Via.refl e102 xV102 (g := (mkF m 11 #[.val (.ref a), .val (.ref b), .val (.int (0 : Int32)), .val (.int (0 : Int32)), .val .null, .unset] [(.ref a102), (.ref a)])) rfl rfl (hb hby d_jdk_42_method_149_11)
  refine FinH.by (fun t k => st103 t k) ?_
  show FinH _ _ _ _ _ _ _ _ _ (T103.setTop (mkF m 14 #[.val (.ref a), .val (.ref b), .val (.int (0 : Int32)), .val (.int (0 : Int32)), .val .null, .unset] [(.ref b102), (.ref a)]))
  have F104 : Fld Z h102 a "java/lang/String" "value" "[B" .null := (F0.ext E102)
  have E105 : Exa Z h102 a "java/lang/String" := (E0.ext E102)
  obtain ⟨T106, h106, X106, e106, W106, st106⟩ := putF X103 hx hZ102 hown102 (host := "") (Or.inl (hw _ (List.mem_of_getElem? (i := 22) rfl))) Via.refl e103 F104 E105 (Or.inr ⟨(hw _ (List.mem_of_getElem? (i := 23) rfl)), rfl, hnm⟩) (hw _ (List.mem_of_getElem? (i := 10) rfl)) (ty := (.array .byte)) (by decide) rfl rfl (g := (mkF m 14 #[.val (.ref a), .val (.ref b), .val (.int (0 : Int32)), .val (.int (0 : Int32)), .val .null, .unset] [(.ref b102), (.ref a)])) rfl rfl (hb hby d_jdk_42_method_149_14)
  refine FinH.by (fun t k => st106 t k) ?_
  have N106_ := Fr.snoc X106 N0 ga
  show FinH _ _ _ _ _ _ _ _ _ (T106.setTop (mkF m 17 #[.val (.ref a), .val (.ref b), .val (.int (0 : Int32)), .val (.int (0 : Int32)), .val .null, .unset] []))
  refine FinH.by (fun t k => XS.aloadN X106.here hx rfl (hb hby d_jdk_42_method_149_17) rfl rfl k) ?_
  show FinH _ _ _ _ _ _ _ _ _ (T106.setTop (mkF m 18 #[.val (.ref a), .val (.ref b), .val (.int (0 : Int32)), .val (.int (0 : Int32)), .val .null, .unset] [(.ref a)]))
  have ch108 : CHr Z consts_1 s.vm h0 T102.vm h102 := ch0.trans hC102
  have sf110 : Safe Z consts_1 T102.vm h102 a := (CHr.safe hC102 E0.lt (own_safe_blank hZ.alike E0 F0))
  have ch109 : CHr Z consts_1 s.vm h0 T102.vm h106 := ch108.trans (CHr.wr W106 sf110 ch108.1)
  obtain ⟨a107, T107, h107, k107, b107, kk107, X107, e107, E107, hS107, hk107, hZ107, hown107, xE107, xC107, xV107, xA107, la107, lb107, hC107, hL107, hne107, st107⟩ := ldcCH X106 hx hZ102 hown102 (hw _ (List.mem_of_getElem? (i := 89) rfl)) (fun d hd => hw d (own_strAtoms d hd)) e106 hS102 (Nat.le_trans hk102 (Keep.of_wr W106).1) own_EW (by decide) ch109.1 (vs := []) (z := (0 : Int32)) ⟨by decide, by rfl⟩ (by decide) rfl (g := (mkF m 18 #[.val (.ref a), .val (.ref b), .val (.int (0 : Int32)), .val (.int (0 : Int32)), .val .null, .unset] [(.ref a)])) rfl (hb hby d_jdk_42_method_149_18) (n := 0) (by decide) (by decide) (by decide) (by decide)
  refine FinH.by (fun t k => st107 t k) ?_
  show FinH _ _ _ _ _ _ _ _ _ (T107.setTop (mkF m 20 #[.val (.ref a), .val (.ref b), .val (.int (0 : Int32)), .val (.int (0 : Int32)), .val .null, .unset] [(.ref a107), (.ref a)]))
  obtain ⟨T111, X111, e111, st111⟩ := getF X107 hx hZ107 hown107 (host := "") (Or.inl (hw _ (List.mem_of_getElem? (i := 24) rfl))) Via.refl e107 xC107 (g := (mkF m 20 #[.val (.ref a), .val (.ref b), .val (.int (0 : Int32)), .val (.int (0 : Int32)), .val .null, .unset] [(.ref a107), (.ref a)])) rfl rfl (hb hby d_jdk_42_method_149_20)
  refine FinH.by (fun t k => st111 t k) ?_
  show FinH _ _ _ _ _ _ _ _ _ (T111.setTop (mkF m 23 #[.val (.ref a), .val (.ref b), .val (.int (0 : Int32)), .val (.int (0 : Int32)), .val .null, .unset] [(.int (0 : Int32)), (.ref a)]))
  have F112 : Fld Z h107 a "java/lang/String" "coder" "B" (.int (0 : Int32)) := (((F1.ext E102).other W106 (Or.inr (slot_ne (Or.inr (hw _ (List.mem_of_getElem? (i := 25) rfl))) (Or.inr (hw _ (List.mem_of_getElem? (i := 23) rfl))) (by decide) (t := .byte) (t' := (.array .byte)) (by decide) (by decide)))).ext E107)
  have E113 : Exa Z h107 a "java/lang/String" := ((E105.wr W106).ext E107)
  obtain ⟨T114, h114, X114, e114, W114, st114⟩ := putFN X111 hx hZ107 hown107 (hw _ (List.mem_of_getElem? (i := 24) rfl)) Via.refl e111 F112 E113 (Or.inr ⟨(hw _ (List.mem_of_getElem? (i := 25) rfl)), rfl, hnm⟩) (hw _ (List.mem_of_getElem? (i := 10) rfl)) (ty := .byte) (v' := .int (0 : Int32)) (by decide) rfl rfl (g := (mkF m 23 #[.val (.ref a), .val (.ref b), .val (.int (0 : Int32)), .val (.int (0 : Int32)), .val .null, .unset] [(.int (0 : Int32)), (.ref a)])) rfl rfl (hb hby d_jdk_42_method_149_23)
  refine FinH.by (fun t k => st114 t k) ?_
  have N114_ := Fr.snoc X114 N106_ ga
  show FinH _ _ _ _ _ _ _ _ _ (T114.setTop (mkF m 26 #[.val (.ref a), .val (.ref b), .val (.int (0 : Int32)), .val (.int (0 : Int32)), .val .null, .unset] []))
  have kp115 : Keep h0 h102 [a] := (Keep.refl h0 [a]).ext E102
  have kp116 : Keep h0 h106 [a] := kp115.wr W106 (Or.inl (List.mem_of_getElem? (i := 0) rfl))
  have kp117 : Keep h0 h107 [a] := kp116.ext E107
  have kp118 : Keep h0 h114 [a] := kp117.wr W114 (Or.inl (List.mem_of_getElem? (i := 0) rfl))
  have E119 : Exa Z h114 a "java/lang/String" := (E113.wr W114)
  have F120 : Fld Z h114 a "java/lang/String" "value" "[B" (.ref b102) := (((F104.same W106).ext E107).other W114 (Or.inr (slot_ne (Or.inr (hw _ (List.mem_of_getElem? (i := 23) rfl))) (Or.inr (hw _ (List.mem_of_getElem? (i := 25) rfl))) (by decide) (t := (.array .byte)) (t' := .byte) (by decide) (by decide))))
  have ne121 : a ≠ b102 := (hne102 a sf110).2
  have A122 : Arv Z h114 b102 kk102 .byte (0 : Int32) [] (.int 0) := (((xA102.other W106 (Ne.symm ne121)).ext E107).other W114 (Ne.symm ne121))
  have ch123 : CHr Z consts_1 s.vm h0 T107.vm h107 := ch109.trans hC107
  have sf125 : Safe Z consts_1 T102.vm h106 a := (Safe.wr W106 sf110 ch108.1 sf110)
  have sf126 : Safe Z consts_1 T107.vm h107 a := (CHr.safe hC107 (Nat.lt_of_lt_of_le E0.lt (Nat.le_trans E102.1 (Keep.of_wr W106).1)) sf125)
  have ch124 : CHr Z consts_1 s.vm h0 T107.vm h114 := ch123.trans (CHr.wr W114 sf126 ch123.1)
  exact FinH.ret (v := none) X114 hS107 (by rw [e114]; exact (Nat.le_trans hk107 (Keep.of_wr W114).1)) (fun _ => rfl) Bd.notSynchronized (by rw [e114]; exact ⟨b102, kk102, rfl, N114_, kp118, E119, F120, (F112.same W114), A122⟩) (by rw [hh, e114]; exact ch124.trans (CHv.at X114 hZ107 own_EW ch124.1)) (by decide) (by decide) (fun fs hr => X114.returnOut hx Bd.returns (hb hby d_jdk_42_method_149_26) hr)
theorem d_jdk_42_method_3_0 : decode jdk_42_method_3_code 0 = .ok (.aload_n 0, 1) := by decide +kernel
theorem d_jdk_42_method_3_1 : decode jdk_42_method_3_code 1 = .ok (.aload_n 1, 1) := by decide +kernel
theorem d_jdk_42_method_3_2 : decode jdk_42_method_3_code 2 = .ok (.iconst 0, 1) := by decide +kernel
theorem d_jdk_42_method_3_3 : decode jdk_42_method_3_code 3 = .ok (.aload_n 1, 1) := by decide +kernel
theorem d_jdk_42_method_3_4 : decode jdk_42_method_3_code 4 = .ok (.arraylength, 1) := by decide +kernel
theorem d_jdk_42_method_3_5 : decode jdk_42_method_3_code 5 = .ok (.aconst_null, 1) := by decide +kernel
theorem pd_59 : parseMethodDescriptor "([CIILjava/lang/Void;)V" = some ⟨[(.array .char), .int, .int, (.object "java/lang/Void")], none⟩ := by decide +kernel
theorem d_jdk_42_method_3_6 : decode jdk_42_method_3_code 6 = .ok (.invokespecial 27, 3) := by decide +kernel
theorem d_jdk_42_method_3_9 : decode jdk_42_method_3_code 9 = .ok (.return_, 1) := by decide +kernel
def Q_n1e (Z : State) (a : Addr) (b : Addr) (kc : ClassId) (h0 : Heap) (n0 : Nat) (vv_ : Option Value) (hh_ : Heap) (LL_ : List Loc) : Prop := ∃ (t : Addr), ∃ (k : ClassId), vv_ = none ∧ Fr n0 LL_ ∧ Keep h0 hh_ [a] ∧ Exa Z hh_ a "java/lang/String" ∧ Fld Z hh_ a "java/lang/String" "value" "[B" (.ref t) ∧ Fld Z hh_ a "java/lang/String" "coder" "B" (.int (0 : Int32)) ∧ Arv Z hh_ t k .byte (0 : Int32) [] (.int 0)
set_option maxRecDepth 65536 in
set_option maxHeartbeats 40000000 in
theorem rm_n1e (l : Launch) (Z : State) (a0 : Array Value) (hw : ∀ d ∈ tables_1, d.before a0 Z = true) (ws : List Jvm.Cond) (a : Addr) (b : Addr) (kc : ClassId) (h0 : Heap) (n0 : Nat) (Z0 : n0 ≤ h0.size) (E0 : Exa Z h0 a "java/lang/String") (F0 : Fld Z h0 a "java/lang/String" "value" "[B" .null) (F1 : Fld Z h0 a "java/lang/String" "coder" "B" (.int (0 : Int32))) (ga : n0 ≤ a) (A0 : Arv Z h0 b kc .char (0 : Int32) [] (.int (0 : Int32))) :
    MetFree l (⟨"java/lang/String", "<init>", "([C)V"⟩ : MethodName) (head1 (Jvm.Cond.code (⟨"java/lang/String", "<init>", "([C)V"⟩ : MethodName) jdk_42_method_3_code 2 none :: ws) ({ frames := 2, cells := 4, slots := 8, locals := 29 } : Room)) (fun aa_ U => aa_ = #[(.ref a), (.ref b)] ∧ Z.Warmed39 U.vm ∧ U.heap = h0 ∧ CHv Z consts_1 U.vm h0) (fun _ _ _ _ _ => True) (fun _ U o U' => ∃ vv_ LL_, o = .returned vv_ ∧ Q_n1e Z a b kc h0 n0 vv_ U'.heap LL_ ∧ CHr Z consts_1 U.vm U.heap U'.vm U'.heap ∧ ReturnedEndW U o U' LL_ 4 8) := by
  refine MetFree.of_bodySF (plainFor_of_name pn_java_lang_String) hisR ?_
  intro p e s m args below meth c s₁ Bd hml0 hP hK
  obtain ⟨rfl, hZ, hh, hC0⟩ := hP
  have hx := Bd.exec
  have hby := Bd.bytes
  have hml : c.maxLocals = 2 := hml0
  have hown : s.vm.findClass "java/lang/String" = some m.cls := findClass_of_methodNamed Bd.named
  have hnm := (name_of_methodNamed Bd.named Bd.method).1
  have X0 : Stand p l e ({ frames := 2, cells := 4, slots := 8, locals := 29 } : Room) (s.setVm s.vm) m #[(.ref a), (.ref b)] below meth c s₁ [] 0 0 := Stand.of_body Bd
  have e0 : s₁.heap = h0 := by rw [← hh, Bd.state]; rfl
  have N0 := Fr.nil n0
  have ef : entryFrame m #[(.ref a), (.ref b)] 2 = mkF m 0 #[.val (.ref a), .val (.ref b)] [] := by first | (simp [entryFrame, mkF, argsToLocals, Value.category]; done) | rfl
  have hS0 : s.Since s.vm h0.size := (State.WarmedH.refl s).since _
  have hk0 : h0.size ≤ h0.size := Nat.le_refl _
  have own_EW := own_EW0 hw
  have ch0 : CHr Z consts_1 s.vm h0 s.vm h0 := CHr.refl hC0
  refine FinH.start (Q := Q_n1e Z a b kc h0 n0) ef ?_
  show FinH _ _ _ _ _ _ _ _ _ (s₁.setTop (mkF m 0 #[.val (.ref a), .val (.ref b)] []))
  refine FinH.by (fun t k => XS.aloadN X0.here hx rfl (hb hby d_jdk_42_method_3_0) rfl rfl k) ?_
  show FinH _ _ _ _ _ _ _ _ _ (s₁.setTop (mkF m 1 #[.val (.ref a), .val (.ref b)] [(.ref a)]))
  refine FinH.by (fun t k => XS.aloadN X0.here hx rfl (hb hby d_jdk_42_method_3_1) rfl rfl k) ?_
  show FinH _ _ _ _ _ _ _ _ _ (s₁.setTop (mkF m 2 #[.val (.ref a), .val (.ref b)] [(.ref b), (.ref a)]))
  refine FinH.by (fun t k => XS.iconst X0.here hx rfl (hb hby d_jdk_42_method_3_2) k) ?_
  show FinH _ _ _ _ _ _ _ _ _ (s₁.setTop (mkF m 3 #[.val (.ref a), .val (.ref b)] [(.int (0 : Int32)), (.ref b), (.ref a)]))
  refine FinH.by (fun t k => XS.aloadN X0.here hx rfl (hb hby d_jdk_42_method_3_3) rfl rfl k) ?_
  show FinH _ _ _ _ _ _ _ _ _ (s₁.setTop (mkF m 4 #[.val (.ref a), .val (.ref b)] [(.ref b), (.int (0 : Int32)), (.ref b), (.ref a)]))
  obtain ⟨cl101, Ar101, q101, S101, N101, H101, G101⟩ := id A0
  refine FinH.by (fun t k => X0.arraylength hx (by rw [e0]; exact Ar101.1) (State.isArrayOf_alike hZ.alike Ar101.2.1) (g := (mkF m 4 #[.val (.ref a), .val (.ref b)] [(.ref b), (.int (0 : Int32)), (.ref b), (.ref a)])) rfl rfl (hb hby d_jdk_42_method_3_4) _ k) ?_
  rw [len_of S101 N101]
  show FinH _ _ _ _ _ _ _ _ _ (s₁.setTop (mkF m 5 #[.val (.ref a), .val (.ref b)] [(.int (0 : Int32)), (.int (0 : Int32)), (.ref b), (.ref a)]))
  refine FinH.by (fun t k => XS.aconstNull X0.here hx rfl (hb hby d_jdk_42_method_3_5) k) ?_
  show FinH _ _ _ _ _ _ _ _ _ (s₁.setTop (mkF m 6 #[.val (.ref a), .val (.ref b)] [.null, (.int (0 : Int32)), (.int (0 : Int32)), (.ref b), (.ref a)]))
  obtain ⟨v102, _, ⟨T102, L102, k102, n102⟩, -, X102, hS102, hg102, ⟨Lc102, hQ102, l102, y102, z102, hC102⟩, st102⟩ := X0.specialBackS hx (y := (⟨"java/lang/String", "<init>", "([CIILjava/lang/Void;)V"⟩ : MethodName)) rfl hown (mvT hZ (hw _ (List.mem_of_getElem? (i := 35) rfl))) (mvT hZ (hw _ (List.mem_of_getElem? (i := 36) rfl))) (mvT hZ (hw _ (List.mem_of_getElem? (i := 37) rfl))) (by decide) (backOfSH (W := 0) (rm_n4e l Z a0 hw [] a b h0 n0 Z0 E0 F0 F1 ga) hZ (hw _ (List.mem_of_getElem? (i := 37) rfl)) (hw _ (List.mem_of_getElem? (i := 2) rfl)) (by decide) (by decide) own_EW ch0.1) (g := (mkF m 6 #[.val (.ref a), .val (.ref b)] [.null, (.int (0 : Int32)), (.int (0 : Int32)), (.ref b), (.ref a)])) rfl (by rw [hml]; rfl) (Steps.refl _) (a := a) (argsL := [(.ref b), (.int (0 : Int32)), (.int (0 : Int32)), .null]) (rest := []) (lenOf pd_59 rfl) rfl (by show 2 * 0 + _ ≤ _; exact Nat.le_of_eq rfl) (hb hby d_jdk_42_method_3_6) (fun _ _ => ⟨rfl, e0, (by decide : 0 + 4 ≤ _), (by decide : 0 + 8 ≤ _)⟩)
  dsimp only [Pt.U, Pt.locs, Pt.cells, Pt.slots] at X102 l102 y102 z102 st102 hQ102 hS102 hg102 hC102
  subst l102 y102 z102
  obtain ⟨t103, k104, rfl, Nq102, p102_0, p102_1, p102_2, p102_3, p102_4⟩ := hQ102
  have N102_ := Fr.app N0 Nq102
  refine FinH.byS st102 ?_
  obtain ⟨X102w, hS102w, hZ102, hown102⟩ := rebS hS0 (by rw [e0]; exact hk0) X102 hS102 hg102 hZ hown
  show FinH _ _ _ _ _ _ _ _ _ (T102.setTop (mkF m 9 #[.val (.ref a), .val (.ref b)] []))
  have kp105 : Keep h0 T102.heap [a] := (Keep.refl h0 [a]).trans p102_0 (allS (Or.inl (List.mem_of_getElem? (i := 0) rfl)) all0)
  have ch106 : CHr Z consts_1 s.vm h0 T102.vm T102.heap := ch0.trans hC102
  exact FinH.ret (v := none) X102w hS102w ((Nat.le_refl _)) (fun _ => rfl) Bd.notSynchronized (⟨t103, k104, rfl, N102_, kp105, p102_1, p102_2, p102_3, p102_4⟩) (by rw [hh]; exact ch106.trans (CHv.at X102w hZ102 own_EW ch106.1)) (by decide) (by decide) (fun fs hr => X102w.returnOut hx Bd.returns (hb hby d_jdk_42_method_3_9) hr)
theorem d_method_2_0 : decode method_2_code 0 = .ok (.iload_n 0, 1) := by decide +kernel
theorem d_method_2_1 : decode method_2_code 1 = .ok (.iconst 3, 1) := by decide +kernel
theorem d_method_2_2 : decode method_2_code 2 = .ok (.iand, 1) := by decide +kernel
theorem d_method_2_3 : decode method_2_code 3 = .ok (.istore_n 2, 1) := by decide +kernel
theorem d_method_2_4 : decode method_2_code 4 = .ok (.iload_n 1, 1) := by decide +kernel
theorem d_method_2_5 : decode method_2_code 5 = .ok (.sipush 255, 3) := by decide +kernel
theorem d_method_2_8 : decode method_2_code 8 = .ok (.iand, 1) := by decide +kernel
theorem d_method_2_9 : decode method_2_code 9 = .ok (.i2c, 1) := by decide +kernel
theorem d_method_2_10 : decode method_2_code 10 = .ok (.istore_n 3, 1) := by decide +kernel
theorem d_method_2_11 : decode method_2_code 11 = .ok (.iload_n 1, 1) := by decide +kernel
theorem d_method_2_12 : decode method_2_code 12 = .ok (.bipush 8, 2) := by decide +kernel
theorem d_method_2_14 : decode method_2_code 14 = .ok (.iushr, 1) := by decide +kernel
theorem d_method_2_15 : decode method_2_code 15 = .ok (.sipush 255, 3) := by decide +kernel
theorem d_method_2_18 : decode method_2_code 18 = .ok (.iand, 1) := by decide +kernel
theorem d_method_2_19 : decode method_2_code 19 = .ok (.i2c, 1) := by decide +kernel
theorem d_method_2_20 : decode method_2_code 20 = .ok (.istore 4, 2) := by decide +kernel
theorem d_method_2_22 : decode method_2_code 22 = .ok (.iload_n 1, 1) := by decide +kernel
theorem d_method_2_23 : decode method_2_code 23 = .ok (.bipush 16, 2) := by decide +kernel
theorem d_method_2_25 : decode method_2_code 25 = .ok (.iushr, 1) := by decide +kernel
theorem d_method_2_26 : decode method_2_code 26 = .ok (.sipush 255, 3) := by decide +kernel
theorem d_method_2_29 : decode method_2_code 29 = .ok (.iand, 1) := by decide +kernel
theorem d_method_2_30 : decode method_2_code 30 = .ok (.i2c, 1) := by decide +kernel
theorem d_method_2_31 : decode method_2_code 31 = .ok (.istore 5, 2) := by decide +kernel
theorem d_method_2_33 : decode method_2_code 33 = .ok (.iload_n 2, 1) := by decide +kernel
theorem d_method_2_34 : decode method_2_code 34 = .ok (.ifCond .ne 14, 3) := by decide +kernel
theorem d_method_2_37 : decode method_2_code 37 = .ok (.new 7, 3) := by decide +kernel
theorem d_method_2_40 : decode method_2_code 40 = .ok (.dup, 1) := by decide +kernel
theorem d_method_2_41 : decode method_2_code 41 = .ok (.iconst 0, 1) := by decide +kernel
theorem d_method_2_42 : decode method_2_code 42 = .ok (.newarray .char, 2) := by decide +kernel
theorem pd_91 : parseMethodDescriptor "([C)V" = some ⟨[(.array .char)], none⟩ := by decide +kernel
theorem d_method_2_44 : decode method_2_code 44 = .ok (.invokespecial 9, 3) := by decide +kernel
theorem d_method_2_47 : decode method_2_code 47 = .ok (.areturn, 1) := by decide +kernel
theorem d_method_2_48 : decode method_2_code 48 = .ok (.iload_n 2, 1) := by decide +kernel
theorem d_method_2_49 : decode method_2_code 49 = .ok (.iconst 1, 1) := by decide +kernel
theorem d_method_2_50 : decode method_2_code 50 = .ok (.if_icmp .ne 8, 3) := by decide +kernel
theorem d_method_2_53 : decode method_2_code 53 = .ok (.iload_n 3, 1) := by decide +kernel
theorem pd_98 : parseMethodDescriptor "(C)Ljava/lang/String;" = some ⟨[.char], some (.object "java/lang/String")⟩ := by decide +kernel
theorem d_method_2_54 : decode method_2_code 54 = .ok (.invokestatic 12, 3) := by decide +kernel
theorem d_method_2_57 : decode method_2_code 57 = .ok (.areturn, 1) := by decide +kernel
theorem d_method_2_58 : decode method_2_code 58 = .ok (.iload_n 2, 1) := by decide +kernel
theorem d_method_2_59 : decode method_2_code 59 = .ok (.iconst 2, 1) := by decide +kernel
theorem d_method_2_60 : decode method_2_code 60 = .ok (.if_icmp .ne 29, 3) := by decide +kernel
theorem d_method_2_63 : decode method_2_code 63 = .ok (.iconst 2, 1) := by decide +kernel
theorem d_method_2_64 : decode method_2_code 64 = .ok (.newarray .char, 2) := by decide +kernel
theorem d_method_2_66 : decode method_2_code 66 = .ok (.astore 6, 2) := by decide +kernel
theorem d_method_2_68 : decode method_2_code 68 = .ok (.aload 6, 2) := by decide +kernel
theorem d_method_2_70 : decode method_2_code 70 = .ok (.iconst 0, 1) := by decide +kernel
theorem d_method_2_71 : decode method_2_code 71 = .ok (.iload_n 3, 1) := by decide +kernel
theorem d_method_2_72 : decode method_2_code 72 = .ok (.castore, 1) := by decide +kernel
theorem d_method_2_73 : decode method_2_code 73 = .ok (.aload 6, 2) := by decide +kernel
theorem d_method_2_75 : decode method_2_code 75 = .ok (.iconst 1, 1) := by decide +kernel
theorem d_method_2_76 : decode method_2_code 76 = .ok (.iload 4, 2) := by decide +kernel
theorem d_method_2_78 : decode method_2_code 78 = .ok (.castore, 1) := by decide +kernel
theorem d_method_2_79 : decode method_2_code 79 = .ok (.new 7, 3) := by decide +kernel
theorem d_method_2_82 : decode method_2_code 82 = .ok (.dup, 1) := by decide +kernel
theorem d_method_2_83 : decode method_2_code 83 = .ok (.aload 6, 2) := by decide +kernel
theorem d_method_2_85 : decode method_2_code 85 = .ok (.invokespecial 9, 3) := by decide +kernel
theorem d_method_2_88 : decode method_2_code 88 = .ok (.areturn, 1) := by decide +kernel
theorem d_method_2_89 : decode method_2_code 89 = .ok (.iconst 3, 1) := by decide +kernel
theorem d_method_2_90 : decode method_2_code 90 = .ok (.newarray .char, 2) := by decide +kernel
theorem d_method_2_92 : decode method_2_code 92 = .ok (.astore 6, 2) := by decide +kernel
theorem d_method_2_94 : decode method_2_code 94 = .ok (.aload 6, 2) := by decide +kernel
theorem d_method_2_96 : decode method_2_code 96 = .ok (.iconst 0, 1) := by decide +kernel
theorem d_method_2_97 : decode method_2_code 97 = .ok (.iload_n 3, 1) := by decide +kernel
theorem d_method_2_98 : decode method_2_code 98 = .ok (.castore, 1) := by decide +kernel
theorem d_method_2_99 : decode method_2_code 99 = .ok (.aload 6, 2) := by decide +kernel
theorem d_method_2_101 : decode method_2_code 101 = .ok (.iconst 1, 1) := by decide +kernel
theorem d_method_2_102 : decode method_2_code 102 = .ok (.iload 4, 2) := by decide +kernel
theorem d_method_2_104 : decode method_2_code 104 = .ok (.castore, 1) := by decide +kernel
theorem d_method_2_105 : decode method_2_code 105 = .ok (.aload 6, 2) := by decide +kernel
theorem d_method_2_107 : decode method_2_code 107 = .ok (.iconst 2, 1) := by decide +kernel
theorem d_method_2_108 : decode method_2_code 108 = .ok (.iload 5, 2) := by decide +kernel
theorem d_method_2_110 : decode method_2_code 110 = .ok (.castore, 1) := by decide +kernel
theorem d_method_2_111 : decode method_2_code 111 = .ok (.new 7, 3) := by decide +kernel
theorem d_method_2_114 : decode method_2_code 114 = .ok (.dup, 1) := by decide +kernel
theorem d_method_2_115 : decode method_2_code 115 = .ok (.aload 6, 2) := by decide +kernel
theorem d_method_2_117 : decode method_2_code 117 = .ok (.invokespecial 9, 3) := by decide +kernel
theorem d_method_2_120 : decode method_2_code 120 = .ok (.areturn, 1) := by decide +kernel
theorem pn_com_example_jiaoge_jiaoge_cli_CommandOptionTakesValuePinLaw : plainName "com/example/jiaoge/jiaoge/cli/CommandOptionTakesValuePinLaw" = true := by first | (simp [plainName, overriddenIn]; done) | decide +kernel
def Q_dra (Z : State) (b : Int32) (d : Int32) (G1 : Int32) (h0 : Heap) (n0 : Nat) (vv_ : Option Value) (hh_ : Heap) (LL_ : List Loc) : Prop := ∃ (t : Addr), vv_ = some (.ref t) ∧ Fr n0 LL_ ∧ Keep h0 hh_ []
set_option maxRecDepth 65536 in
set_option maxHeartbeats 40000000 in
theorem rm_dra (l : Launch) (Z : State) (a0 : Array Value) (hw : ∀ d ∈ tables_1, d.before a0 Z = true) (ws : List Jvm.Cond) (b : Int32) (d : Int32) (G1 : Int32) (h0 : Heap) (n0 : Nat) (Z0 : n0 ≤ h0.size) (S1 : Sta Z Z.heap "java/lang/String" "COMPACT_STRINGS" "Z" (.int G1)) (P1 : ¬ G1 = 0) (OL : Old Z n0 h0) :
    MetFree l (⟨"com/example/jiaoge/jiaoge/cli/CommandOptionTakesValuePinLaw", "drawn", "(II)Ljava/lang/String;"⟩ : MethodName) (head1 (Jvm.Cond.code (⟨"com/example/jiaoge/jiaoge/cli/CommandOptionTakesValuePinLaw", "drawn", "(II)Ljava/lang/String;"⟩ : MethodName) method_2_code 7 (some (.object "java/lang/String")) :: ws) ({ frames := 4, cells := 6, slots := 12, locals := 66 } : Room)) (fun aa_ U => aa_ = #[(.int b), (.int d)] ∧ Z.Warmed39 U.vm ∧ U.heap = h0 ∧ CHv Z consts_1 U.vm h0) (fun _ _ _ _ _ => True) (fun _ U o U' => ∃ vv_ LL_, o = .returned vv_ ∧ Q_dra Z b d G1 h0 n0 vv_ U'.heap LL_ ∧ CHr Z consts_1 U.vm U.heap U'.vm U'.heap ∧ ReturnedEndW U o U' LL_ 6 12) := by
  refine MetFree.of_bodySF (plainFor_of_name pn_com_example_jiaoge_jiaoge_cli_CommandOptionTakesValuePinLaw) hisR ?_
  intro p e s m args below meth c s₁ Bd hml0 hP hK
  obtain ⟨rfl, hZ, hh, hC0⟩ := hP
  have hx := Bd.exec
  have hby := Bd.bytes
  have hml : c.maxLocals = 7 := hml0
  have hown : s.vm.findClass "com/example/jiaoge/jiaoge/cli/CommandOptionTakesValuePinLaw" = some m.cls := findClass_of_methodNamed Bd.named
  have hnm := (name_of_methodNamed Bd.named Bd.method).1
  have X0 : Stand p l e ({ frames := 4, cells := 6, slots := 12, locals := 66 } : Room) (s.setVm s.vm) m #[(.int b), (.int d)] below meth c s₁ [] 0 0 := Stand.of_body Bd
  have e0 : s₁.heap = h0 := by rw [← hh, Bd.state]; rfl
  have N0 := Fr.nil n0
  have ef : entryFrame m #[(.int b), (.int d)] 7 = mkF m 0 #[.val (.int b), .val (.int d), .unset, .unset, .unset, .unset, .unset] [] := by first | (simp [entryFrame, mkF, argsToLocals, Value.category]; done) | rfl
  have hS0 : s.Since s.vm h0.size := (State.WarmedH.refl s).since _
  have hk0 : h0.size ≤ h0.size := Nat.le_refl _
  have own_EW := own_EW0 hw
  have ch0 : CHr Z consts_1 s.vm h0 s.vm h0 := CHr.refl hC0
  refine FinH.start (Q := Q_dra Z b d G1 h0 n0) ef ?_
  show FinH _ _ _ _ _ _ _ _ _ (s₁.setTop (mkF m 0 #[.val (.int b), .val (.int d), .unset, .unset, .unset, .unset, .unset] []))
  refine FinH.by (fun t k => XS.iloadN X0.here hx rfl (hb hby d_method_2_0) rfl k) ?_
  show FinH _ _ _ _ _ _ _ _ _ (s₁.setTop (mkF m 1 #[.val (.int b), .val (.int d), .unset, .unset, .unset, .unset, .unset] [(.int b)]))
  refine FinH.by (fun t k => XS.iconst X0.here hx rfl (hb hby d_method_2_1) k) ?_
  show FinH _ _ _ _ _ _ _ _ _ (s₁.setTop (mkF m 2 #[.val (.int b), .val (.int d), .unset, .unset, .unset, .unset, .unset] [(.int (3 : Int32)), (.int b)]))
  refine FinH.by (fun t k => XS.iand X0.here hx rfl (hb hby d_method_2_2) rfl k) ?_
  show FinH _ _ _ _ _ _ _ _ _ (s₁.setTop (mkF m 3 #[.val (.int b), .val (.int d), .unset, .unset, .unset, .unset, .unset] [(.int (b &&& (3 : Int32)))]))
  refine FinH.by (fun t k => XS.istoreN X0.here hx rfl (hb hby d_method_2_3) rfl (l' := #[.val (.int b), .val (.int d), .val (.int (b &&& (3 : Int32))), .unset, .unset, .unset, .unset]) rfl k) ?_
  show FinH _ _ _ _ _ _ _ _ _ (s₁.setTop (mkF m 4 #[.val (.int b), .val (.int d), .val (.int (b &&& (3 : Int32))), .unset, .unset, .unset, .unset] []))
  refine FinH.by (fun t k => XS.iloadN X0.here hx rfl (hb hby d_method_2_4) rfl k) ?_
  show FinH _ _ _ _ _ _ _ _ _ (s₁.setTop (mkF m 5 #[.val (.int b), .val (.int d), .val (.int (b &&& (3 : Int32))), .unset, .unset, .unset, .unset] [(.int d)]))
  refine FinH.by (fun t k => XS.sipush X0.here hx rfl (hb hby d_method_2_5) k) ?_
  show FinH _ _ _ _ _ _ _ _ _ (s₁.setTop (mkF m 8 #[.val (.int b), .val (.int d), .val (.int (b &&& (3 : Int32))), .unset, .unset, .unset, .unset] [(.int (255 : Int32)), (.int d)]))
  refine FinH.by (fun t k => XS.iand X0.here hx rfl (hb hby d_method_2_8) rfl k) ?_
  show FinH _ _ _ _ _ _ _ _ _ (s₁.setTop (mkF m 9 #[.val (.int b), .val (.int d), .val (.int (b &&& (3 : Int32))), .unset, .unset, .unset, .unset] [(.int (d &&& (255 : Int32)))]))
  refine FinH.by (fun t k => XS.i2c X0.here hx rfl (hb hby d_method_2_9) rfl k) ?_
  show FinH _ _ _ _ _ _ _ _ _ (s₁.setTop (mkF m 10 #[.val (.int b), .val (.int d), .val (.int (b &&& (3 : Int32))), .unset, .unset, .unset, .unset] [(.int ((d &&& (255 : Int32)).toUInt32.toUInt16.toUInt32.toInt32))]))
  refine FinH.by (fun t k => XS.istoreN X0.here hx rfl (hb hby d_method_2_10) rfl (l' := #[.val (.int b), .val (.int d), .val (.int (b &&& (3 : Int32))), .val (.int ((d &&& (255 : Int32)).toUInt32.toUInt16.toUInt32.toInt32)), .unset, .unset, .unset]) rfl k) ?_
  show FinH _ _ _ _ _ _ _ _ _ (s₁.setTop (mkF m 11 #[.val (.int b), .val (.int d), .val (.int (b &&& (3 : Int32))), .val (.int ((d &&& (255 : Int32)).toUInt32.toUInt16.toUInt32.toInt32)), .unset, .unset, .unset] []))
  refine FinH.by (fun t k => XS.iloadN X0.here hx rfl (hb hby d_method_2_11) rfl k) ?_
  show FinH _ _ _ _ _ _ _ _ _ (s₁.setTop (mkF m 12 #[.val (.int b), .val (.int d), .val (.int (b &&& (3 : Int32))), .val (.int ((d &&& (255 : Int32)).toUInt32.toUInt16.toUInt32.toInt32)), .unset, .unset, .unset] [(.int d)]))
  refine FinH.by (fun t k => XS.bipush X0.here hx rfl (hb hby d_method_2_12) k) ?_
  show FinH _ _ _ _ _ _ _ _ _ (s₁.setTop (mkF m 14 #[.val (.int b), .val (.int d), .val (.int (b &&& (3 : Int32))), .val (.int ((d &&& (255 : Int32)).toUInt32.toUInt16.toUInt32.toInt32)), .unset, .unset, .unset] [(.int (8 : Int32)), (.int d)]))
  refine FinH.by (fun t k => XS.iushr X0.here hx rfl (hb hby d_method_2_14) rfl k) ?_
  show FinH _ _ _ _ _ _ _ _ _ (s₁.setTop (mkF m 15 #[.val (.int b), .val (.int d), .val (.int (b &&& (3 : Int32))), .val (.int ((d &&& (255 : Int32)).toUInt32.toUInt16.toUInt32.toInt32)), .unset, .unset, .unset] [(.int ((d.toUInt32 >>> ((8 : Int32) &&& 31).toUInt32).toInt32))]))
  refine FinH.by (fun t k => XS.sipush X0.here hx rfl (hb hby d_method_2_15) k) ?_
  show FinH _ _ _ _ _ _ _ _ _ (s₁.setTop (mkF m 18 #[.val (.int b), .val (.int d), .val (.int (b &&& (3 : Int32))), .val (.int ((d &&& (255 : Int32)).toUInt32.toUInt16.toUInt32.toInt32)), .unset, .unset, .unset] [(.int (255 : Int32)), (.int ((d.toUInt32 >>> ((8 : Int32) &&& 31).toUInt32).toInt32))]))
  refine FinH.by (fun t k => XS.iand X0.here hx rfl (hb hby d_method_2_18) rfl k) ?_
  show FinH _ _ _ _ _ _ _ _ _ (s₁.setTop (mkF m 19 #[.val (.int b), .val (.int d), .val (.int (b &&& (3 : Int32))), .val (.int ((d &&& (255 : Int32)).toUInt32.toUInt16.toUInt32.toInt32)), .unset, .unset, .unset] [(.int (((d.toUInt32 >>> ((8 : Int32) &&& 31).toUInt32).toInt32) &&& (255 : Int32)))]))
  refine FinH.by (fun t k => XS.i2c X0.here hx rfl (hb hby d_method_2_19) rfl k) ?_
  show FinH _ _ _ _ _ _ _ _ _ (s₁.setTop (mkF m 20 #[.val (.int b), .val (.int d), .val (.int (b &&& (3 : Int32))), .val (.int ((d &&& (255 : Int32)).toUInt32.toUInt16.toUInt32.toInt32)), .unset, .unset, .unset] [(.int ((((d.toUInt32 >>> ((8 : Int32) &&& 31).toUInt32).toInt32) &&& (255 : Int32)).toUInt32.toUInt16.toUInt32.toInt32))]))
  refine FinH.by (fun t k => XS.istore X0.here hx rfl (hb hby d_method_2_20) rfl (l' := #[.val (.int b), .val (.int d), .val (.int (b &&& (3 : Int32))), .val (.int ((d &&& (255 : Int32)).toUInt32.toUInt16.toUInt32.toInt32)), .val (.int ((((d.toUInt32 >>> ((8 : Int32) &&& 31).toUInt32).toInt32) &&& (255 : Int32)).toUInt32.toUInt16.toUInt32.toInt32)), .unset, .unset]) rfl k) ?_
  show FinH _ _ _ _ _ _ _ _ _ (s₁.setTop (mkF m 22 #[.val (.int b), .val (.int d), .val (.int (b &&& (3 : Int32))), .val (.int ((d &&& (255 : Int32)).toUInt32.toUInt16.toUInt32.toInt32)), .val (.int ((((d.toUInt32 >>> ((8 : Int32) &&& 31).toUInt32).toInt32) &&& (255 : Int32)).toUInt32.toUInt16.toUInt32.toInt32)), .unset, .unset] []))
  refine FinH.by (fun t k => XS.iloadN X0.here hx rfl (hb hby d_method_2_22) rfl k) ?_
  show FinH _ _ _ _ _ _ _ _ _ (s₁.setTop (mkF m 23 #[.val (.int b), .val (.int d), .val (.int (b &&& (3 : Int32))), .val (.int ((d &&& (255 : Int32)).toUInt32.toUInt16.toUInt32.toInt32)), .val (.int ((((d.toUInt32 >>> ((8 : Int32) &&& 31).toUInt32).toInt32) &&& (255 : Int32)).toUInt32.toUInt16.toUInt32.toInt32)), .unset, .unset] [(.int d)]))
  refine FinH.by (fun t k => XS.bipush X0.here hx rfl (hb hby d_method_2_23) k) ?_
  show FinH _ _ _ _ _ _ _ _ _ (s₁.setTop (mkF m 25 #[.val (.int b), .val (.int d), .val (.int (b &&& (3 : Int32))), .val (.int ((d &&& (255 : Int32)).toUInt32.toUInt16.toUInt32.toInt32)), .val (.int ((((d.toUInt32 >>> ((8 : Int32) &&& 31).toUInt32).toInt32) &&& (255 : Int32)).toUInt32.toUInt16.toUInt32.toInt32)), .unset, .unset] [(.int (16 : Int32)), (.int d)]))
  refine FinH.by (fun t k => XS.iushr X0.here hx rfl (hb hby d_method_2_25) rfl k) ?_
  show FinH _ _ _ _ _ _ _ _ _ (s₁.setTop (mkF m 26 #[.val (.int b), .val (.int d), .val (.int (b &&& (3 : Int32))), .val (.int ((d &&& (255 : Int32)).toUInt32.toUInt16.toUInt32.toInt32)), .val (.int ((((d.toUInt32 >>> ((8 : Int32) &&& 31).toUInt32).toInt32) &&& (255 : Int32)).toUInt32.toUInt16.toUInt32.toInt32)), .unset, .unset] [(.int ((d.toUInt32 >>> ((16 : Int32) &&& 31).toUInt32).toInt32))]))
  refine FinH.by (fun t k => XS.sipush X0.here hx rfl (hb hby d_method_2_26) k) ?_
  show FinH _ _ _ _ _ _ _ _ _ (s₁.setTop (mkF m 29 #[.val (.int b), .val (.int d), .val (.int (b &&& (3 : Int32))), .val (.int ((d &&& (255 : Int32)).toUInt32.toUInt16.toUInt32.toInt32)), .val (.int ((((d.toUInt32 >>> ((8 : Int32) &&& 31).toUInt32).toInt32) &&& (255 : Int32)).toUInt32.toUInt16.toUInt32.toInt32)), .unset, .unset] [(.int (255 : Int32)), (.int ((d.toUInt32 >>> ((16 : Int32) &&& 31).toUInt32).toInt32))]))
  refine FinH.by (fun t k => XS.iand X0.here hx rfl (hb hby d_method_2_29) rfl k) ?_
  show FinH _ _ _ _ _ _ _ _ _ (s₁.setTop (mkF m 30 #[.val (.int b), .val (.int d), .val (.int (b &&& (3 : Int32))), .val (.int ((d &&& (255 : Int32)).toUInt32.toUInt16.toUInt32.toInt32)), .val (.int ((((d.toUInt32 >>> ((8 : Int32) &&& 31).toUInt32).toInt32) &&& (255 : Int32)).toUInt32.toUInt16.toUInt32.toInt32)), .unset, .unset] [(.int (((d.toUInt32 >>> ((16 : Int32) &&& 31).toUInt32).toInt32) &&& (255 : Int32)))]))
  refine FinH.by (fun t k => XS.i2c X0.here hx rfl (hb hby d_method_2_30) rfl k) ?_
  show FinH _ _ _ _ _ _ _ _ _ (s₁.setTop (mkF m 31 #[.val (.int b), .val (.int d), .val (.int (b &&& (3 : Int32))), .val (.int ((d &&& (255 : Int32)).toUInt32.toUInt16.toUInt32.toInt32)), .val (.int ((((d.toUInt32 >>> ((8 : Int32) &&& 31).toUInt32).toInt32) &&& (255 : Int32)).toUInt32.toUInt16.toUInt32.toInt32)), .unset, .unset] [(.int ((((d.toUInt32 >>> ((16 : Int32) &&& 31).toUInt32).toInt32) &&& (255 : Int32)).toUInt32.toUInt16.toUInt32.toInt32))]))
  refine FinH.by (fun t k => XS.istore X0.here hx rfl (hb hby d_method_2_31) rfl (l' := #[.val (.int b), .val (.int d), .val (.int (b &&& (3 : Int32))), .val (.int ((d &&& (255 : Int32)).toUInt32.toUInt16.toUInt32.toInt32)), .val (.int ((((d.toUInt32 >>> ((8 : Int32) &&& 31).toUInt32).toInt32) &&& (255 : Int32)).toUInt32.toUInt16.toUInt32.toInt32)), .val (.int ((((d.toUInt32 >>> ((16 : Int32) &&& 31).toUInt32).toInt32) &&& (255 : Int32)).toUInt32.toUInt16.toUInt32.toInt32)), .unset]) rfl k) ?_
  show FinH _ _ _ _ _ _ _ _ _ (s₁.setTop (mkF m 33 #[.val (.int b), .val (.int d), .val (.int (b &&& (3 : Int32))), .val (.int ((d &&& (255 : Int32)).toUInt32.toUInt16.toUInt32.toInt32)), .val (.int ((((d.toUInt32 >>> ((8 : Int32) &&& 31).toUInt32).toInt32) &&& (255 : Int32)).toUInt32.toUInt16.toUInt32.toInt32)), .val (.int ((((d.toUInt32 >>> ((16 : Int32) &&& 31).toUInt32).toInt32) &&& (255 : Int32)).toUInt32.toUInt16.toUInt32.toInt32)), .unset] []))
  refine FinH.by (fun t k => XS.iloadN X0.here hx rfl (hb hby d_method_2_33) rfl k) ?_
  show FinH _ _ _ _ _ _ _ _ _ (s₁.setTop (mkF m 34 #[.val (.int b), .val (.int d), .val (.int (b &&& (3 : Int32))), .val (.int ((d &&& (255 : Int32)).toUInt32.toUInt16.toUInt32.toInt32)), .val (.int ((((d.toUInt32 >>> ((8 : Int32) &&& 31).toUInt32).toInt32) &&& (255 : Int32)).toUInt32.toUInt16.toUInt32.toInt32)), .val (.int ((((d.toUInt32 >>> ((16 : Int32) &&& 31).toUInt32).toInt32) &&& (255 : Int32)).toUInt32.toUInt16.toUInt32.toInt32)), .unset] [(.int (b &&& (3 : Int32)))]))
  by_cases h34 : (b &&& (3 : Int32)) = (0 : Int32)
  · refine FinH.by (fun t k => XS.ifNo X0.here hx rfl (hb hby d_method_2_34) rfl ((if0 _ _).trans (teq h34).2) k) ?_
    show FinH _ _ _ _ _ _ _ _ _ (s₁.setTop (mkF m 37 #[.val (.int b), .val (.int d), .val (.int (b &&& (3 : Int32))), .val (.int ((d &&& (255 : Int32)).toUInt32.toUInt16.toUInt32.toInt32)), .val (.int ((((d.toUInt32 >>> ((8 : Int32) &&& 31).toUInt32).toInt32) &&& (255 : Int32)).toUInt32.toUInt16.toUInt32.toInt32)), .val (.int ((((d.toUInt32 >>> ((16 : Int32) &&& 31).toUInt32).toInt32) &&& (255 : Int32)).toUInt32.toUInt16.toUInt32.toInt32)), .unset] []))
    obtain ⟨T101, h101, X101, e101, E101, A101, D101, -, st101⟩ := newO X0 hx hZ hown (hw _ (List.mem_of_getElem? (i := 31) rfl)) (hw _ (List.mem_of_getElem? (i := 10) rfl)) (hw _ (List.mem_of_getElem? (i := 2) rfl)) e0 (g := (mkF m 37 #[.val (.int b), .val (.int d), .val (.int (b &&& (3 : Int32))), .val (.int ((d &&& (255 : Int32)).toUInt32.toUInt16.toUInt32.toInt32)), .val (.int ((((d.toUInt32 >>> ((8 : Int32) &&& 31).toUInt32).toInt32) &&& (255 : Int32)).toUInt32.toUInt16.toUInt32.toInt32)), .val (.int ((((d.toUInt32 >>> ((16 : Int32) &&& 31).toUInt32).toInt32) &&& (255 : Int32)).toUInt32.toUInt16.toUInt32.toInt32)), .unset] [])) rfl (hb hby d_method_2_37) (by decide) (by decide)
    obtain ⟨a101, g101⟩ : ∃ z, z = h0.size := ⟨_, rfl⟩
    rw [← g101] at A101 D101 st101
    refine FinH.by (fun t k => st101 t k) ?_
    show FinH _ _ _ _ _ _ _ _ _ (T101.setTop (mkF m 40 #[.val (.int b), .val (.int d), .val (.int (b &&& (3 : Int32))), .val (.int ((d &&& (255 : Int32)).toUInt32.toUInt16.toUInt32.toInt32)), .val (.int ((((d.toUInt32 >>> ((8 : Int32) &&& 31).toUInt32).toInt32) &&& (255 : Int32)).toUInt32.toUInt16.toUInt32.toInt32)), .val (.int ((((d.toUInt32 >>> ((16 : Int32) &&& 31).toUInt32).toInt32) &&& (255 : Int32)).toUInt32.toUInt16.toUInt32.toInt32)), .unset] [(.ref a101)]))
    refine FinH.by (fun t k => XS.dup X101.here hx rfl (hb hby d_method_2_40) rfl rfl k) ?_
    show FinH _ _ _ _ _ _ _ _ _ (T101.setTop (mkF m 41 #[.val (.int b), .val (.int d), .val (.int (b &&& (3 : Int32))), .val (.int ((d &&& (255 : Int32)).toUInt32.toUInt16.toUInt32.toInt32)), .val (.int ((((d.toUInt32 >>> ((8 : Int32) &&& 31).toUInt32).toInt32) &&& (255 : Int32)).toUInt32.toUInt16.toUInt32.toInt32)), .val (.int ((((d.toUInt32 >>> ((16 : Int32) &&& 31).toUInt32).toInt32) &&& (255 : Int32)).toUInt32.toUInt16.toUInt32.toInt32)), .unset] [(.ref a101), (.ref a101)]))
    refine FinH.by (fun t k => XS.iconst X101.here hx rfl (hb hby d_method_2_41) k) ?_
    show FinH _ _ _ _ _ _ _ _ _ (T101.setTop (mkF m 42 #[.val (.int b), .val (.int d), .val (.int (b &&& (3 : Int32))), .val (.int ((d &&& (255 : Int32)).toUInt32.toUInt16.toUInt32.toInt32)), .val (.int ((((d.toUInt32 >>> ((8 : Int32) &&& 31).toUInt32).toInt32) &&& (255 : Int32)).toUInt32.toUInt16.toUInt32.toInt32)), .val (.int ((((d.toUInt32 >>> ((16 : Int32) &&& 31).toUInt32).toInt32) &&& (255 : Int32)).toUInt32.toUInt16.toUInt32.toInt32)), .unset] [(.int (0 : Int32)), (.ref a101), (.ref a101)]))
    obtain ⟨T102, h102, k102, X102, e102, E102, A102, st102⟩ := newP X101 hx hZ (hw _ (List.mem_of_getElem? (i := 30) rfl)) e101 (g := (mkF m 42 #[.val (.int b), .val (.int d), .val (.int (b &&& (3 : Int32))), .val (.int ((d &&& (255 : Int32)).toUInt32.toUInt16.toUInt32.toInt32)), .val (.int ((((d.toUInt32 >>> ((8 : Int32) &&& 31).toUInt32).toInt32) &&& (255 : Int32)).toUInt32.toUInt16.toUInt32.toInt32)), .val (.int ((((d.toUInt32 >>> ((16 : Int32) &&& 31).toUInt32).toInt32) &&& (255 : Int32)).toUInt32.toUInt16.toUInt32.toInt32)), .unset] [(.int (0 : Int32)), (.ref a101), (.ref a101)])) rfl (hb hby d_method_2_42) rfl (by decide) (cap := 0) (by decide) (by decide) (by decide) (by decide)
    obtain ⟨a102, g102⟩ : ∃ z, z = h101.size := ⟨_, rfl⟩
    rw [← g102] at A102 st102
    refine FinH.by (fun t k => st102 t k) ?_
    have V102 : Arv Z h102 a102 k102 .char (0 : Int32) [] (.int (0 : Int32)) := Arv.new A102 (by decide)
    show FinH _ _ _ _ _ _ _ _ _ (T102.setTop (mkF m 44 #[.val (.int b), .val (.int d), .val (.int (b &&& (3 : Int32))), .val (.int ((d &&& (255 : Int32)).toUInt32.toUInt16.toUInt32.toInt32)), .val (.int ((((d.toUInt32 >>> ((8 : Int32) &&& 31).toUInt32).toInt32) &&& (255 : Int32)).toUInt32.toUInt16.toUInt32.toInt32)), .val (.int ((((d.toUInt32 >>> ((16 : Int32) &&& 31).toUInt32).toInt32) &&& (255 : Int32)).toUInt32.toUInt16.toUInt32.toInt32)), .unset] [(.ref a102), (.ref a101), (.ref a101)]))
    have E103 : Exa Z h102 a101 "java/lang/String" := (A101.ext E102)
    have F104 : Fld Z h102 a101 "java/lang/String" "value" "[B" .null := ((D101 (Or.inr (hw _ (List.mem_of_getElem? (i := 23) rfl))) (ty := (.array .byte)) (by decide) : Fld Z h101 a101 "java/lang/String" "value" "[B" .null).ext E102)
    have F105 : Fld Z h102 a101 "java/lang/String" "coder" "B" (.int (0 : Int32)) := ((D101 (Or.inr (hw _ (List.mem_of_getElem? (i := 25) rfl))) (ty := .byte) (by decide) : Fld Z h101 a101 "java/lang/String" "coder" "B" (.int (0 : Int32))).ext E102)
    have g106 : n0 ≤ a101 := Nat.le_trans Z0 (Nat.le_of_eq g101.symm)
    have z107 : n0 ≤ h102.size := Nat.le_trans Z0 (Nat.le_trans E101.1 E102.1)
    have ch108 : CHr Z consts_1 s.vm h0 s.vm h101 := ch0.trans (CHr.ext E101 ch0.1)
    have ch109 : CHr Z consts_1 s.vm h0 s.vm h102 := ch108.trans (CHr.ext E102 ch108.1)
    obtain ⟨v110, _, ⟨T110, L110, k110, n110⟩, -, X110, hS110, hg110, ⟨Lc110, hQ110, l110, y110, z110, hC110⟩, st110⟩ := X102.specialBackS hx (y := (⟨"java/lang/String", "<init>", "([C)V"⟩ : MethodName)) rfl hown (mvT hZ (hw _ (List.mem_of_getElem? (i := 32) rfl))) (mvT hZ (hw _ (List.mem_of_getElem? (i := 33) rfl))) (mvT hZ (hw _ (List.mem_of_getElem? (i := 34) rfl))) (by decide) (backOfSH (W := 1) (rm_n1e l Z a0 hw [] a101 a102 k102 h102 n0 z107 E103 F104 F105 g106 V102) hZ (hw _ (List.mem_of_getElem? (i := 34) rfl)) (hw _ (List.mem_of_getElem? (i := 2) rfl)) (by decide) (by decide) own_EW ch109.1) (g := (mkF m 44 #[.val (.int b), .val (.int d), .val (.int (b &&& (3 : Int32))), .val (.int ((d &&& (255 : Int32)).toUInt32.toUInt16.toUInt32.toInt32)), .val (.int ((((d.toUInt32 >>> ((8 : Int32) &&& 31).toUInt32).toInt32) &&& (255 : Int32)).toUInt32.toUInt16.toUInt32.toInt32)), .val (.int ((((d.toUInt32 >>> ((16 : Int32) &&& 31).toUInt32).toInt32) &&& (255 : Int32)).toUInt32.toUInt16.toUInt32.toInt32)), .unset] [(.ref a102), (.ref a101), (.ref a101)])) rfl (by rw [hml]; rfl) (Steps.refl _) (a := a101) (argsL := [(.ref a102)]) (rest := [(.ref a101)]) (lenOf pd_91 rfl) rfl (by show 2 * 0 + _ ≤ _; exact Nat.le_of_eq rfl) (hb hby d_method_2_44) (fun _ _ => ⟨rfl, e102, (by decide : 2 + 4 ≤ _), (by decide : 4 + 8 ≤ _)⟩)
    dsimp only [Pt.U, Pt.locs, Pt.cells, Pt.slots] at X110 l110 y110 z110 st110 hQ110 hS110 hg110 hC110
    subst l110 y110 z110
    obtain ⟨t111, k112, rfl, Nq110, p110_0, p110_1, p110_2, p110_3, p110_4⟩ := hQ110
    have N110_ := Fr.app N0 Nq110
    refine FinH.byS st110 ?_
    obtain ⟨X110w, hS110w, hZ110, hown110⟩ := rebS hS0 (by rw [e102]; exact (Nat.le_trans hk0 (Nat.le_trans E101.1 E102.1))) X110 hS110 hg110 hZ hown
    show FinH _ _ _ _ _ _ _ _ _ (T110.setTop (mkF m 47 #[.val (.int b), .val (.int d), .val (.int (b &&& (3 : Int32))), .val (.int ((d &&& (255 : Int32)).toUInt32.toUInt16.toUInt32.toInt32)), .val (.int ((((d.toUInt32 >>> ((8 : Int32) &&& 31).toUInt32).toInt32) &&& (255 : Int32)).toUInt32.toUInt16.toUInt32.toInt32)), .val (.int ((((d.toUInt32 >>> ((16 : Int32) &&& 31).toUInt32).toInt32) &&& (255 : Int32)).toUInt32.toUInt16.toUInt32.toInt32)), .unset] [(.ref a101)]))
    have kp113 : Keep h0 h101 [] := (Keep.refl h0 []).ext E101
    have kp114 : Keep h0 h102 [] := kp113.ext E102
    have kp115 : Keep h0 T110.heap [] := kp114.trans p110_0 (allS (Or.inr (Nat.le_trans (Nat.le_refl _) (Nat.le_of_eq g101.symm))) all0)
    have ch116 : CHr Z consts_1 s.vm h0 T110.vm T110.heap := ch109.trans hC110
    exact FinH.ret (v := some (.ref a101)) X110w hS110w ((Nat.le_refl _)) (fun h => by rw [Bd.returns] at h; cases h) Bd.notSynchronized (⟨a101, rfl, N110_, kp115⟩) (by rw [hh]; exact ch116.trans (CHv.at X110w hZ110 own_EW ch116.1)) (by decide) (by decide) (fun fs hr => retA X110w hx Bd.returns rfl rfl (hb hby d_method_2_47) hr)
  · refine FinH.by (fun t k => XS.ifYes X0.here hx rfl (pc0 := 34) (pc' := 48) rfl (hb hby d_method_2_34) rfl ((if0 _ _).trans (feq h34).2) (by decide) (by decide) k) ?_
    show FinH _ _ _ _ _ _ _ _ _ (s₁.setTop (mkF m 48 #[.val (.int b), .val (.int d), .val (.int (b &&& (3 : Int32))), .val (.int ((d &&& (255 : Int32)).toUInt32.toUInt16.toUInt32.toInt32)), .val (.int ((((d.toUInt32 >>> ((8 : Int32) &&& 31).toUInt32).toInt32) &&& (255 : Int32)).toUInt32.toUInt16.toUInt32.toInt32)), .val (.int ((((d.toUInt32 >>> ((16 : Int32) &&& 31).toUInt32).toInt32) &&& (255 : Int32)).toUInt32.toUInt16.toUInt32.toInt32)), .unset] []))
    refine FinH.by (fun t k => XS.iloadN X0.here hx rfl (hb hby d_method_2_48) rfl k) ?_
    show FinH _ _ _ _ _ _ _ _ _ (s₁.setTop (mkF m 49 #[.val (.int b), .val (.int d), .val (.int (b &&& (3 : Int32))), .val (.int ((d &&& (255 : Int32)).toUInt32.toUInt16.toUInt32.toInt32)), .val (.int ((((d.toUInt32 >>> ((8 : Int32) &&& 31).toUInt32).toInt32) &&& (255 : Int32)).toUInt32.toUInt16.toUInt32.toInt32)), .val (.int ((((d.toUInt32 >>> ((16 : Int32) &&& 31).toUInt32).toInt32) &&& (255 : Int32)).toUInt32.toUInt16.toUInt32.toInt32)), .unset] [(.int (b &&& (3 : Int32)))]))
    refine FinH.by (fun t k => XS.iconst X0.here hx rfl (hb hby d_method_2_49) k) ?_
    show FinH _ _ _ _ _ _ _ _ _ (s₁.setTop (mkF m 50 #[.val (.int b), .val (.int d), .val (.int (b &&& (3 : Int32))), .val (.int ((d &&& (255 : Int32)).toUInt32.toUInt16.toUInt32.toInt32)), .val (.int ((((d.toUInt32 >>> ((8 : Int32) &&& 31).toUInt32).toInt32) &&& (255 : Int32)).toUInt32.toUInt16.toUInt32.toInt32)), .val (.int ((((d.toUInt32 >>> ((16 : Int32) &&& 31).toUInt32).toInt32) &&& (255 : Int32)).toUInt32.toUInt16.toUInt32.toInt32)), .unset] [(.int (1 : Int32)), (.int (b &&& (3 : Int32)))]))
    by_cases h50 : (b &&& (3 : Int32)) = (1 : Int32)
    · refine FinH.by (fun t k => XS.icmpNo X0.here hx rfl (hb hby d_method_2_50) rfl (teq h50).2 k) ?_
      show FinH _ _ _ _ _ _ _ _ _ (s₁.setTop (mkF m 53 #[.val (.int b), .val (.int d), .val (.int (b &&& (3 : Int32))), .val (.int ((d &&& (255 : Int32)).toUInt32.toUInt16.toUInt32.toInt32)), .val (.int ((((d.toUInt32 >>> ((8 : Int32) &&& 31).toUInt32).toInt32) &&& (255 : Int32)).toUInt32.toUInt16.toUInt32.toInt32)), .val (.int ((((d.toUInt32 >>> ((16 : Int32) &&& 31).toUInt32).toInt32) &&& (255 : Int32)).toUInt32.toUInt16.toUInt32.toInt32)), .unset] []))
      refine FinH.by (fun t k => XS.iloadN X0.here hx rfl (hb hby d_method_2_53) rfl k) ?_
      show FinH _ _ _ _ _ _ _ _ _ (s₁.setTop (mkF m 54 #[.val (.int b), .val (.int d), .val (.int (b &&& (3 : Int32))), .val (.int ((d &&& (255 : Int32)).toUInt32.toUInt16.toUInt32.toInt32)), .val (.int ((((d.toUInt32 >>> ((8 : Int32) &&& 31).toUInt32).toInt32) &&& (255 : Int32)).toUInt32.toUInt16.toUInt32.toInt32)), .val (.int ((((d.toUInt32 >>> ((16 : Int32) &&& 31).toUInt32).toInt32) &&& (255 : Int32)).toUInt32.toUInt16.toUInt32.toInt32)), .unset] [(.int ((d &&& (255 : Int32)).toUInt32.toUInt16.toUInt32.toInt32))]))
      obtain ⟨v117, _, ⟨T117, L117, k117, n117⟩, -, X117, ⟨Lc117, hQ117, l117, y117, z117⟩, st117⟩ := Jvm.LawKit.callS X0 hx (y := (⟨"java/lang/String", "valueOf", "(C)Ljava/lang/String;"⟩ : MethodName)) hown (mvT hZ (hw _ (List.mem_of_getElem? (i := 0) rfl))) (mvT hZ (hw _ (List.mem_of_getElem? (i := 1) rfl))) (mvT hZ (hw _ (List.mem_of_getElem? (i := 2) rfl))) (mvT hZ (hw _ (List.mem_of_getElem? (i := 3) rfl))) (by decide) (backOf (W := 0) (rm_vof l Z a0 hw [] ((d &&& (255 : Int32)).toUInt32.toUInt16.toUInt32.toInt32) G1 h0 n0 Z0 (own_i2c255 _) S1 P1 OL) hZ (hw _ (List.mem_of_getElem? (i := 3) rfl)) (hw _ (List.mem_of_getElem? (i := 2) rfl)) (by decide) (by decide)) (g := (mkF m 54 #[.val (.int b), .val (.int d), .val (.int (b &&& (3 : Int32))), .val (.int ((d &&& (255 : Int32)).toUInt32.toUInt16.toUInt32.toInt32)), .val (.int ((((d.toUInt32 >>> ((8 : Int32) &&& 31).toUInt32).toInt32) &&& (255 : Int32)).toUInt32.toUInt16.toUInt32.toInt32)), .val (.int ((((d.toUInt32 >>> ((16 : Int32) &&& 31).toUInt32).toInt32) &&& (255 : Int32)).toUInt32.toUInt16.toUInt32.toInt32)), .unset] [(.int ((d &&& (255 : Int32)).toUInt32.toUInt16.toUInt32.toInt32))])) rfl (by rw [hml]; rfl) (argsL := [(.int ((d &&& (255 : Int32)).toUInt32.toUInt16.toUInt32.toInt32))]) (rest := []) (lenOf pd_98 rfl) rfl (by show 2 * 0 + _ ≤ _; exact Nat.le_of_eq rfl) (hb hby d_method_2_54) (fun _ _ => ⟨rfl, e0, (by decide : 0 + 2 ≤ _), (by decide : 0 + 5 ≤ _)⟩)
      dsimp only [Pt.U, Pt.locs, Pt.cells, Pt.slots] at X117 l117 y117 z117 st117 hQ117
      subst l117 y117 z117
      obtain ⟨t118, b119, k120, rfl, Nq117, p117_0, p117_1, p117_2, p117_3, p117_4, p117_5, p117_6, p117_7⟩ := hQ117
      have N117_ := Fr.app N0 Nq117
      refine FinH.by (fun t k => st117 t k) ?_
      show FinH _ _ _ _ _ _ _ _ _ (T117.setTop (mkF m 57 #[.val (.int b), .val (.int d), .val (.int (b &&& (3 : Int32))), .val (.int ((d &&& (255 : Int32)).toUInt32.toUInt16.toUInt32.toInt32)), .val (.int ((((d.toUInt32 >>> ((8 : Int32) &&& 31).toUInt32).toInt32) &&& (255 : Int32)).toUInt32.toUInt16.toUInt32.toInt32)), .val (.int ((((d.toUInt32 >>> ((16 : Int32) &&& 31).toUInt32).toInt32) &&& (255 : Int32)).toUInt32.toUInt16.toUInt32.toInt32)), .unset] [(.ref t118)]))
      have kp121 : Keep h0 T117.heap [] := (Keep.refl h0 []).trans p117_0 all0
      have ch122 : CHr Z consts_1 s.vm h0 s.vm T117.heap := ch0.trans (CHr.keep p117_0 all0 ch0.1)
      exact FinH.ret (v := some (.ref t118)) X117 hS0 ((Nat.le_trans hk0 p117_0.1)) (fun h => by rw [Bd.returns] at h; cases h) Bd.notSynchronized (⟨t118, rfl, N117_, kp121⟩) (by rw [hh]; exact ch122.trans (CHv.at X117 hZ own_EW ch122.1)) (by decide) (by decide) (fun fs hr => retA X117 hx Bd.returns rfl rfl (hb hby d_method_2_57) hr)
    · refine FinH.by (fun t k => XS.icmpYes X0.here hx rfl (pc0 := 50) (pc' := 58) rfl (hb hby d_method_2_50) rfl (feq h50).2 (by decide) (by decide) k) ?_
      show FinH _ _ _ _ _ _ _ _ _ (s₁.setTop (mkF m 58 #[.val (.int b), .val (.int d), .val (.int (b &&& (3 : Int32))), .val (.int ((d &&& (255 : Int32)).toUInt32.toUInt16.toUInt32.toInt32)), .val (.int ((((d.toUInt32 >>> ((8 : Int32) &&& 31).toUInt32).toInt32) &&& (255 : Int32)).toUInt32.toUInt16.toUInt32.toInt32)), .val (.int ((((d.toUInt32 >>> ((16 : Int32) &&& 31).toUInt32).toInt32) &&& (255 : Int32)).toUInt32.toUInt16.toUInt32.toInt32)), .unset] []))
      refine FinH.by (fun t k => XS.iloadN X0.here hx rfl (hb hby d_method_2_58) rfl k) ?_
      show FinH _ _ _ _ _ _ _ _ _ (s₁.setTop (mkF m 59 #[.val (.int b), .val (.int d), .val (.int (b &&& (3 : Int32))), .val (.int ((d &&& (255 : Int32)).toUInt32.toUInt16.toUInt32.toInt32)), .val (.int ((((d.toUInt32 >>> ((8 : Int32) &&& 31).toUInt32).toInt32) &&& (255 : Int32)).toUInt32.toUInt16.toUInt32.toInt32)), .val (.int ((((d.toUInt32 >>> ((16 : Int32) &&& 31).toUInt32).toInt32) &&& (255 : Int32)).toUInt32.toUInt16.toUInt32.toInt32)), .unset] [(.int (b &&& (3 : Int32)))]))
      refine FinH.by (fun t k => XS.iconst X0.here hx rfl (hb hby d_method_2_59) k) ?_
      show FinH _ _ _ _ _ _ _ _ _ (s₁.setTop (mkF m 60 #[.val (.int b), .val (.int d), .val (.int (b &&& (3 : Int32))), .val (.int ((d &&& (255 : Int32)).toUInt32.toUInt16.toUInt32.toInt32)), .val (.int ((((d.toUInt32 >>> ((8 : Int32) &&& 31).toUInt32).toInt32) &&& (255 : Int32)).toUInt32.toUInt16.toUInt32.toInt32)), .val (.int ((((d.toUInt32 >>> ((16 : Int32) &&& 31).toUInt32).toInt32) &&& (255 : Int32)).toUInt32.toUInt16.toUInt32.toInt32)), .unset] [(.int (2 : Int32)), (.int (b &&& (3 : Int32)))]))
      by_cases h60 : (b &&& (3 : Int32)) = (2 : Int32)
      · refine FinH.by (fun t k => XS.icmpNo X0.here hx rfl (hb hby d_method_2_60) rfl (teq h60).2 k) ?_
        show FinH _ _ _ _ _ _ _ _ _ (s₁.setTop (mkF m 63 #[.val (.int b), .val (.int d), .val (.int (b &&& (3 : Int32))), .val (.int ((d &&& (255 : Int32)).toUInt32.toUInt16.toUInt32.toInt32)), .val (.int ((((d.toUInt32 >>> ((8 : Int32) &&& 31).toUInt32).toInt32) &&& (255 : Int32)).toUInt32.toUInt16.toUInt32.toInt32)), .val (.int ((((d.toUInt32 >>> ((16 : Int32) &&& 31).toUInt32).toInt32) &&& (255 : Int32)).toUInt32.toUInt16.toUInt32.toInt32)), .unset] []))
        refine FinH.by (fun t k => XS.iconst X0.here hx rfl (hb hby d_method_2_63) k) ?_
        show FinH _ _ _ _ _ _ _ _ _ (s₁.setTop (mkF m 64 #[.val (.int b), .val (.int d), .val (.int (b &&& (3 : Int32))), .val (.int ((d &&& (255 : Int32)).toUInt32.toUInt16.toUInt32.toInt32)), .val (.int ((((d.toUInt32 >>> ((8 : Int32) &&& 31).toUInt32).toInt32) &&& (255 : Int32)).toUInt32.toUInt16.toUInt32.toInt32)), .val (.int ((((d.toUInt32 >>> ((16 : Int32) &&& 31).toUInt32).toInt32) &&& (255 : Int32)).toUInt32.toUInt16.toUInt32.toInt32)), .unset] [(.int (2 : Int32))]))
        obtain ⟨T123, h123, k123, X123, e123, E123, A123, st123⟩ := newP X0 hx hZ (hw _ (List.mem_of_getElem? (i := 30) rfl)) e0 (g := (mkF m 64 #[.val (.int b), .val (.int d), .val (.int (b &&& (3 : Int32))), .val (.int ((d &&& (255 : Int32)).toUInt32.toUInt16.toUInt32.toInt32)), .val (.int ((((d.toUInt32 >>> ((8 : Int32) &&& 31).toUInt32).toInt32) &&& (255 : Int32)).toUInt32.toUInt16.toUInt32.toInt32)), .val (.int ((((d.toUInt32 >>> ((16 : Int32) &&& 31).toUInt32).toInt32) &&& (255 : Int32)).toUInt32.toUInt16.toUInt32.toInt32)), .unset] [(.int (2 : Int32))])) rfl (hb hby d_method_2_64) rfl (by decide) (cap := 2) (by decide) (by decide) (by decide) (by decide)
        obtain ⟨a123, g123⟩ : ∃ z, z = h0.size := ⟨_, rfl⟩
        rw [← g123] at A123 st123
        refine FinH.by (fun t k => st123 t k) ?_
        have V123 : Arv Z h123 a123 k123 .char (2 : Int32) [(.int (0 : Int32)), (.int (0 : Int32))] (.int (0 : Int32)) := (Arv.new A123 (by decide)).pad (pad_rep [] (.int (0 : Int32)) 2)
        show FinH _ _ _ _ _ _ _ _ _ (T123.setTop (mkF m 66 #[.val (.int b), .val (.int d), .val (.int (b &&& (3 : Int32))), .val (.int ((d &&& (255 : Int32)).toUInt32.toUInt16.toUInt32.toInt32)), .val (.int ((((d.toUInt32 >>> ((8 : Int32) &&& 31).toUInt32).toInt32) &&& (255 : Int32)).toUInt32.toUInt16.toUInt32.toInt32)), .val (.int ((((d.toUInt32 >>> ((16 : Int32) &&& 31).toUInt32).toInt32) &&& (255 : Int32)).toUInt32.toUInt16.toUInt32.toInt32)), .unset] [(.ref a123)]))
        refine FinH.by (fun t k => XS.astore X123.here hx rfl (hb hby d_method_2_66) rfl rfl (l' := #[.val (.int b), .val (.int d), .val (.int (b &&& (3 : Int32))), .val (.int ((d &&& (255 : Int32)).toUInt32.toUInt16.toUInt32.toInt32)), .val (.int ((((d.toUInt32 >>> ((8 : Int32) &&& 31).toUInt32).toInt32) &&& (255 : Int32)).toUInt32.toUInt16.toUInt32.toInt32)), .val (.int ((((d.toUInt32 >>> ((16 : Int32) &&& 31).toUInt32).toInt32) &&& (255 : Int32)).toUInt32.toUInt16.toUInt32.toInt32)), .val (.ref a123)]) rfl k) ?_
        show FinH _ _ _ _ _ _ _ _ _ (T123.setTop (mkF m 68 #[.val (.int b), .val (.int d), .val (.int (b &&& (3 : Int32))), .val (.int ((d &&& (255 : Int32)).toUInt32.toUInt16.toUInt32.toInt32)), .val (.int ((((d.toUInt32 >>> ((8 : Int32) &&& 31).toUInt32).toInt32) &&& (255 : Int32)).toUInt32.toUInt16.toUInt32.toInt32)), .val (.int ((((d.toUInt32 >>> ((16 : Int32) &&& 31).toUInt32).toInt32) &&& (255 : Int32)).toUInt32.toUInt16.toUInt32.toInt32)), .val (.ref a123)] []))
        refine FinH.by (fun t k => XS.aload X123.here hx rfl (hb hby d_method_2_68) rfl rfl k) ?_
        show FinH _ _ _ _ _ _ _ _ _ (T123.setTop (mkF m 70 #[.val (.int b), .val (.int d), .val (.int (b &&& (3 : Int32))), .val (.int ((d &&& (255 : Int32)).toUInt32.toUInt16.toUInt32.toInt32)), .val (.int ((((d.toUInt32 >>> ((8 : Int32) &&& 31).toUInt32).toInt32) &&& (255 : Int32)).toUInt32.toUInt16.toUInt32.toInt32)), .val (.int ((((d.toUInt32 >>> ((16 : Int32) &&& 31).toUInt32).toInt32) &&& (255 : Int32)).toUInt32.toUInt16.toUInt32.toInt32)), .val (.ref a123)] [(.ref a123)]))
        refine FinH.by (fun t k => XS.iconst X123.here hx rfl (hb hby d_method_2_70) k) ?_
        show FinH _ _ _ _ _ _ _ _ _ (T123.setTop (mkF m 71 #[.val (.int b), .val (.int d), .val (.int (b &&& (3 : Int32))), .val (.int ((d &&& (255 : Int32)).toUInt32.toUInt16.toUInt32.toInt32)), .val (.int ((((d.toUInt32 >>> ((8 : Int32) &&& 31).toUInt32).toInt32) &&& (255 : Int32)).toUInt32.toUInt16.toUInt32.toInt32)), .val (.int ((((d.toUInt32 >>> ((16 : Int32) &&& 31).toUInt32).toInt32) &&& (255 : Int32)).toUInt32.toUInt16.toUInt32.toInt32)), .val (.ref a123)] [(.int (0 : Int32)), (.ref a123)]))
        refine FinH.by (fun t k => XS.iloadN X123.here hx rfl (hb hby d_method_2_71) rfl k) ?_
        show FinH _ _ _ _ _ _ _ _ _ (T123.setTop (mkF m 72 #[.val (.int b), .val (.int d), .val (.int (b &&& (3 : Int32))), .val (.int ((d &&& (255 : Int32)).toUInt32.toUInt16.toUInt32.toInt32)), .val (.int ((((d.toUInt32 >>> ((8 : Int32) &&& 31).toUInt32).toInt32) &&& (255 : Int32)).toUInt32.toUInt16.toUInt32.toInt32)), .val (.int ((((d.toUInt32 >>> ((16 : Int32) &&& 31).toUInt32).toInt32) &&& (255 : Int32)).toUInt32.toUInt16.toUInt32.toInt32)), .val (.ref a123)] [(.int ((d &&& (255 : Int32)).toUInt32.toUInt16.toUInt32.toInt32)), (.int (0 : Int32)), (.ref a123)]))
        obtain ⟨cl124, Ar124, q124, S124, N124, H124, G124⟩ := id V123
        obtain ⟨T124, h124, X124, e124, W124, st124⟩ := stC X123 hx hZ e123 Ar124 (j := (0 : Int32)) (inb_of S124 ⟨by decide, by decide⟩) (g := (mkF m 72 #[.val (.int b), .val (.int d), .val (.int (b &&& (3 : Int32))), .val (.int ((d &&& (255 : Int32)).toUInt32.toUInt16.toUInt32.toInt32)), .val (.int ((((d.toUInt32 >>> ((8 : Int32) &&& 31).toUInt32).toInt32) &&& (255 : Int32)).toUInt32.toUInt16.toUInt32.toInt32)), .val (.int ((((d.toUInt32 >>> ((16 : Int32) &&& 31).toUInt32).toInt32) &&& (255 : Int32)).toUInt32.toUInt16.toUInt32.toInt32)), .val (.ref a123)] [(.int ((d &&& (255 : Int32)).toUInt32.toUInt16.toUInt32.toInt32)), (.int (0 : Int32)), (.ref a123)])) rfl rfl (hb hby d_method_2_72)
        have V124 : Arv Z h124 a123 k123 .char (2 : Int32) [(.int (nar .char ((d &&& (255 : Int32)).toUInt32.toUInt16.toUInt32.toInt32))), (.int (0 : Int32))] (.int (0 : Int32)) := Arv.set Ar124 q124 S124 N124 H124 G124 (fits_nar_char _) W124 0 rfl (Nat.le_of_ble_eq_true rfl)
        have g125 : n0 ≤ a123 := Nat.le_trans Z0 (Nat.le_of_eq g123.symm)
        refine FinH.by (fun t k => st124 t k) ?_
        have N124_ := Fr.snoc X124 N0 g125
        show FinH _ _ _ _ _ _ _ _ _ (T124.setTop (mkF m 73 #[.val (.int b), .val (.int d), .val (.int (b &&& (3 : Int32))), .val (.int ((d &&& (255 : Int32)).toUInt32.toUInt16.toUInt32.toInt32)), .val (.int ((((d.toUInt32 >>> ((8 : Int32) &&& 31).toUInt32).toInt32) &&& (255 : Int32)).toUInt32.toUInt16.toUInt32.toInt32)), .val (.int ((((d.toUInt32 >>> ((16 : Int32) &&& 31).toUInt32).toInt32) &&& (255 : Int32)).toUInt32.toUInt16.toUInt32.toInt32)), .val (.ref a123)] []))
        refine FinH.by (fun t k => XS.aload X124.here hx rfl (hb hby d_method_2_73) rfl rfl k) ?_
        show FinH _ _ _ _ _ _ _ _ _ (T124.setTop (mkF m 75 #[.val (.int b), .val (.int d), .val (.int (b &&& (3 : Int32))), .val (.int ((d &&& (255 : Int32)).toUInt32.toUInt16.toUInt32.toInt32)), .val (.int ((((d.toUInt32 >>> ((8 : Int32) &&& 31).toUInt32).toInt32) &&& (255 : Int32)).toUInt32.toUInt16.toUInt32.toInt32)), .val (.int ((((d.toUInt32 >>> ((16 : Int32) &&& 31).toUInt32).toInt32) &&& (255 : Int32)).toUInt32.toUInt16.toUInt32.toInt32)), .val (.ref a123)] [(.ref a123)]))
        refine FinH.by (fun t k => XS.iconst X124.here hx rfl (hb hby d_method_2_75) k) ?_
        show FinH _ _ _ _ _ _ _ _ _ (T124.setTop (mkF m 76 #[.val (.int b), .val (.int d), .val (.int (b &&& (3 : Int32))), .val (.int ((d &&& (255 : Int32)).toUInt32.toUInt16.toUInt32.toInt32)), .val (.int ((((d.toUInt32 >>> ((8 : Int32) &&& 31).toUInt32).toInt32) &&& (255 : Int32)).toUInt32.toUInt16.toUInt32.toInt32)), .val (.int ((((d.toUInt32 >>> ((16 : Int32) &&& 31).toUInt32).toInt32) &&& (255 : Int32)).toUInt32.toUInt16.toUInt32.toInt32)), .val (.ref a123)] [(.int (1 : Int32)), (.ref a123)]))
        refine FinH.by (fun t k => XS.iload X124.here hx rfl (hb hby d_method_2_76) rfl k) ?_
        show FinH _ _ _ _ _ _ _ _ _ (T124.setTop (mkF m 78 #[.val (.int b), .val (.int d), .val (.int (b &&& (3 : Int32))), .val (.int ((d &&& (255 : Int32)).toUInt32.toUInt16.toUInt32.toInt32)), .val (.int ((((d.toUInt32 >>> ((8 : Int32) &&& 31).toUInt32).toInt32) &&& (255 : Int32)).toUInt32.toUInt16.toUInt32.toInt32)), .val (.int ((((d.toUInt32 >>> ((16 : Int32) &&& 31).toUInt32).toInt32) &&& (255 : Int32)).toUInt32.toUInt16.toUInt32.toInt32)), .val (.ref a123)] [(.int ((((d.toUInt32 >>> ((8 : Int32) &&& 31).toUInt32).toInt32) &&& (255 : Int32)).toUInt32.toUInt16.toUInt32.toInt32)), (.int (1 : Int32)), (.ref a123)]))
        obtain ⟨cl126, Ar126, q126, S126, N126, H126, G126⟩ := id V124
        obtain ⟨T126, h126, X126, e126, W126, st126⟩ := stC X124 hx hZ e124 Ar126 (j := (1 : Int32)) (inb_of S126 ⟨by decide, by decide⟩) (g := (mkF m 78 #[.val (.int b), .val (.int d), .val (.int (b &&& (3 : Int32))), .val (.int ((d &&& (255 : Int32)).toUInt32.toUInt16.toUInt32.toInt32)), .val (.int ((((d.toUInt32 >>> ((8 : Int32) &&& 31).toUInt32).toInt32) &&& (255 : Int32)).toUInt32.toUInt16.toUInt32.toInt32)), .val (.int ((((d.toUInt32 >>> ((16 : Int32) &&& 31).toUInt32).toInt32) &&& (255 : Int32)).toUInt32.toUInt16.toUInt32.toInt32)), .val (.ref a123)] [(.int ((((d.toUInt32 >>> ((8 : Int32) &&& 31).toUInt32).toInt32) &&& (255 : Int32)).toUInt32.toUInt16.toUInt32.toInt32)), (.int (1 : Int32)), (.ref a123)])) rfl rfl (hb hby d_method_2_78)
        have V126 : Arv Z h126 a123 k123 .char (2 : Int32) [(.int (nar .char ((d &&& (255 : Int32)).toUInt32.toUInt16.toUInt32.toInt32))), (.int (nar .char ((((d.toUInt32 >>> ((8 : Int32) &&& 31).toUInt32).toInt32) &&& (255 : Int32)).toUInt32.toUInt16.toUInt32.toInt32)))] (.int (0 : Int32)) := Arv.set Ar126 q126 S126 N126 H126 G126 (fits_nar_char _) W126 1 rfl (Nat.le_of_ble_eq_true rfl)
        refine FinH.by (fun t k => st126 t k) ?_
        have N126_ := Fr.snoc X126 N124_ g125
        show FinH _ _ _ _ _ _ _ _ _ (T126.setTop (mkF m 79 #[.val (.int b), .val (.int d), .val (.int (b &&& (3 : Int32))), .val (.int ((d &&& (255 : Int32)).toUInt32.toUInt16.toUInt32.toInt32)), .val (.int ((((d.toUInt32 >>> ((8 : Int32) &&& 31).toUInt32).toInt32) &&& (255 : Int32)).toUInt32.toUInt16.toUInt32.toInt32)), .val (.int ((((d.toUInt32 >>> ((16 : Int32) &&& 31).toUInt32).toInt32) &&& (255 : Int32)).toUInt32.toUInt16.toUInt32.toInt32)), .val (.ref a123)] []))
        obtain ⟨T127, h127, X127, e127, E127, A127, D127, -, st127⟩ := newO X126 hx hZ hown (hw _ (List.mem_of_getElem? (i := 31) rfl)) (hw _ (List.mem_of_getElem? (i := 10) rfl)) (hw _ (List.mem_of_getElem? (i := 2) rfl)) e126 (g := (mkF m 79 #[.val (.int b), .val (.int d), .val (.int (b &&& (3 : Int32))), .val (.int ((d &&& (255 : Int32)).toUInt32.toUInt16.toUInt32.toInt32)), .val (.int ((((d.toUInt32 >>> ((8 : Int32) &&& 31).toUInt32).toInt32) &&& (255 : Int32)).toUInt32.toUInt16.toUInt32.toInt32)), .val (.int ((((d.toUInt32 >>> ((16 : Int32) &&& 31).toUInt32).toInt32) &&& (255 : Int32)).toUInt32.toUInt16.toUInt32.toInt32)), .val (.ref a123)] [])) rfl (hb hby d_method_2_79) (by decide) (by decide)
        obtain ⟨a127, g127⟩ : ∃ z, z = h126.size := ⟨_, rfl⟩
        rw [← g127] at A127 D127 st127
        refine FinH.by (fun t k => st127 t k) ?_
        show FinH _ _ _ _ _ _ _ _ _ (T127.setTop (mkF m 82 #[.val (.int b), .val (.int d), .val (.int (b &&& (3 : Int32))), .val (.int ((d &&& (255 : Int32)).toUInt32.toUInt16.toUInt32.toInt32)), .val (.int ((((d.toUInt32 >>> ((8 : Int32) &&& 31).toUInt32).toInt32) &&& (255 : Int32)).toUInt32.toUInt16.toUInt32.toInt32)), .val (.int ((((d.toUInt32 >>> ((16 : Int32) &&& 31).toUInt32).toInt32) &&& (255 : Int32)).toUInt32.toUInt16.toUInt32.toInt32)), .val (.ref a123)] [(.ref a127)]))
        refine FinH.by (fun t k => XS.dup X127.here hx rfl (hb hby d_method_2_82) rfl rfl k) ?_
        show FinH _ _ _ _ _ _ _ _ _ (T127.setTop (mkF m 83 #[.val (.int b), .val (.int d), .val (.int (b &&& (3 : Int32))), .val (.int ((d &&& (255 : Int32)).toUInt32.toUInt16.toUInt32.toInt32)), .val (.int ((((d.toUInt32 >>> ((8 : Int32) &&& 31).toUInt32).toInt32) &&& (255 : Int32)).toUInt32.toUInt16.toUInt32.toInt32)), .val (.int ((((d.toUInt32 >>> ((16 : Int32) &&& 31).toUInt32).toInt32) &&& (255 : Int32)).toUInt32.toUInt16.toUInt32.toInt32)), .val (.ref a123)] [(.ref a127), (.ref a127)]))
        refine FinH.by (fun t k => XS.aload X127.here hx rfl (hb hby d_method_2_83) rfl rfl k) ?_
        show FinH _ _ _ _ _ _ _ _ _ (T127.setTop (mkF m 85 #[.val (.int b), .val (.int d), .val (.int (b &&& (3 : Int32))), .val (.int ((d &&& (255 : Int32)).toUInt32.toUInt16.toUInt32.toInt32)), .val (.int ((((d.toUInt32 >>> ((8 : Int32) &&& 31).toUInt32).toInt32) &&& (255 : Int32)).toUInt32.toUInt16.toUInt32.toInt32)), .val (.int ((((d.toUInt32 >>> ((16 : Int32) &&& 31).toUInt32).toInt32) &&& (255 : Int32)).toUInt32.toUInt16.toUInt32.toInt32)), .val (.ref a123)] [(.ref a123), (.ref a127), (.ref a127)]))
        have A128 : Arv Z h127 a123 k123 .char (2 : Int32) [(.int (nar .char ((d &&& (255 : Int32)).toUInt32.toUInt16.toUInt32.toInt32))), (.int (nar .char ((((d.toUInt32 >>> ((8 : Int32) &&& 31).toUInt32).toInt32) &&& (255 : Int32)).toUInt32.toUInt16.toUInt32.toInt32)))] (.int (0 : Int32)) := (V126.ext E127)
        have z130 : n0 ≤ h126.size := Nat.le_trans Z0 (Nat.le_trans (Nat.le_trans E123.1 (Keep.of_wr W124).1) (Keep.of_wr W126).1)
        have g129 : n0 ≤ a127 := Nat.le_trans z130 (Nat.le_of_eq g127.symm)
        have z131 : n0 ≤ h127.size := Nat.le_trans Z0 (Nat.le_trans (Nat.le_trans (Nat.le_trans E123.1 (Keep.of_wr W124).1) (Keep.of_wr W126).1) E127.1)
        have O132 : Old Z n0 h127 := ((((OL.ext E123).wr W124 g125).wr W126 g125).ext E127)
        obtain ⟨v133, _, ⟨T133, L133, k133, n133⟩, -, X133, ⟨Lc133, hQ133, l133, y133, z133⟩, st133⟩ := X127.specialBack hx (y := (⟨"java/lang/String", "<init>", "([C)V"⟩ : MethodName)) rfl hown (mvT hZ (hw _ (List.mem_of_getElem? (i := 32) rfl))) (mvT hZ (hw _ (List.mem_of_getElem? (i := 33) rfl))) (mvT hZ (hw _ (List.mem_of_getElem? (i := 34) rfl))) (by decide) (StrChars.Road.backV (W := 1) hZ (fun d hd => hw d (own_words d hd)) (kI := 4) (hw _ (List.mem_of_getElem? (i := 10) rfl)) (cs := ([(nar .char ((d &&& (255 : Int32)).toUInt32.toUInt16.toUInt32.toInt32)), (nar .char ((((d.toUInt32 >>> ((8 : Int32) &&& 31).toUInt32).toInt32) &&& (255 : Int32)).toUInt32.toUInt16.toUInt32.toInt32))] : List Int32)) (bs := ([(nar .char ((d &&& (255 : Int32)).toUInt32.toUInt16.toUInt32.toInt32)), (nar .char ((((d.toUInt32 >>> ((8 : Int32) &&& 31).toUInt32).toInt32) &&& (255 : Int32)).toUInt32.toUInt16.toUInt32.toInt32))] : List Int32).map (fun c => c.toInt8.toInt32)) (n := 2) g129 z131 A127 (D127 (Or.inr (hw _ (List.mem_of_getElem? (i := 23) rfl))) (ty := (.array .byte)) (by decide) : Fld Z h127 a127 "java/lang/String" "value" "[B" .null) (D127 (Or.inr (hw _ (List.mem_of_getElem? (i := 25) rfl))) (ty := .byte) (by decide) : Fld Z h127 a127 "java/lang/String" "coder" "B" (.int (0 : Int32))) A128 (S1.ext O132.2) P1 rfl rfl (by decide) (by decide) (own_cons (own_c255 _) (own_cons (own_c255 _) own_nil)) rfl (by decide) (by decide)) (g := (mkF m 85 #[.val (.int b), .val (.int d), .val (.int (b &&& (3 : Int32))), .val (.int ((d &&& (255 : Int32)).toUInt32.toUInt16.toUInt32.toInt32)), .val (.int ((((d.toUInt32 >>> ((8 : Int32) &&& 31).toUInt32).toInt32) &&& (255 : Int32)).toUInt32.toUInt16.toUInt32.toInt32)), .val (.int ((((d.toUInt32 >>> ((16 : Int32) &&& 31).toUInt32).toInt32) &&& (255 : Int32)).toUInt32.toUInt16.toUInt32.toInt32)), .val (.ref a123)] [(.ref a123), (.ref a127), (.ref a127)])) rfl (by rw [hml]; rfl) (Steps.refl _) (a := a127) (argsL := [(.ref a123)]) (rest := [(.ref a127)]) (lenOf pd_91 rfl) rfl (by show 2 * 0 + _ ≤ _; exact Nat.le_of_eq rfl) (hb hby d_method_2_85) (fun _ _ => ⟨rfl, e127, (by decide : 2 + 1 ≤ _), (by decide : 6 + 2 ≤ _)⟩)
        dsimp only [Pt.U, Pt.locs, Pt.cells, Pt.slots] at X133 l133 y133 z133 st133 hQ133
        subst l133 y133 z133
        obtain ⟨rfl, Nq133, K133, E133, C133, t133, kb133, gt133, ht133, nt133, V133, A133⟩ := hQ133
        have N133_ := Fr.app N126_ Nq133
        refine FinH.byS st133 ?_
        show FinH _ _ _ _ _ _ _ _ _ (T133.setTop (mkF m 88 #[.val (.int b), .val (.int d), .val (.int (b &&& (3 : Int32))), .val (.int ((d &&& (255 : Int32)).toUInt32.toUInt16.toUInt32.toInt32)), .val (.int ((((d.toUInt32 >>> ((8 : Int32) &&& 31).toUInt32).toInt32) &&& (255 : Int32)).toUInt32.toUInt16.toUInt32.toInt32)), .val (.int ((((d.toUInt32 >>> ((16 : Int32) &&& 31).toUInt32).toInt32) &&& (255 : Int32)).toUInt32.toUInt16.toUInt32.toInt32)), .val (.ref a123)] [(.ref a127)]))
        have kp134 : Keep h0 h123 [] := (Keep.refl h0 []).ext E123
        have kp135 : Keep h0 h124 [] := kp134.wr W124 (Or.inr (Nat.le_trans (Nat.le_refl _) (Nat.le_of_eq g123.symm)))
        have kp136 : Keep h0 h126 [] := kp135.wr W126 (Or.inr (Nat.le_trans (Nat.le_refl _) (Nat.le_of_eq g123.symm)))
        have kp137 : Keep h0 h127 [] := kp136.ext E127
        have kp138 : Keep h0 T133.heap [] := kp137.trans K133 (allS (Or.inr (Nat.le_trans (Nat.le_trans (Nat.le_trans E123.1 (Keep.of_wr W124).1) (Keep.of_wr W126).1) (Nat.le_of_eq g127.symm))) all0)
        have ch139 : CHr Z consts_1 s.vm h0 s.vm h123 := ch0.trans (CHr.ext E123 ch0.1)
        have sf141 : Safe Z consts_1 s.vm h123 a123 := (Safe.ext E123 ch0.1 (Safe.new (Nat.le_of_eq g123.symm)))
        have ch140 : CHr Z consts_1 s.vm h0 s.vm h124 := ch139.trans (CHr.wr W124 sf141 ch139.1)
        have sf143 : Safe Z consts_1 s.vm h124 a123 := (Safe.wr W124 sf141 ch139.1 sf141)
        have ch142 : CHr Z consts_1 s.vm h0 s.vm h126 := ch140.trans (CHr.wr W126 sf143 ch140.1)
        have ch144 : CHr Z consts_1 s.vm h0 s.vm h127 := ch142.trans (CHr.ext E127 ch142.1)
        have sf146 : Safe Z consts_1 s.vm h127 a127 := (Safe.ext E127 ch142.1 (Safe.new (Nat.le_of_eq g127.symm)))
        have ch145 : CHr Z consts_1 s.vm h0 s.vm T133.heap := ch144.trans (CHr.keep K133 (allS sf146 all0) ch144.1)
        exact FinH.ret (v := some (.ref a127)) X133 hS0 ((Nat.le_trans hk0 (Nat.le_trans (Nat.le_trans (Nat.le_trans (Nat.le_trans E123.1 (Keep.of_wr W124).1) (Keep.of_wr W126).1) E127.1) K133.1))) (fun h => by rw [Bd.returns] at h; cases h) Bd.notSynchronized (⟨a127, rfl, N133_, kp138⟩) (by rw [hh]; exact ch145.trans (CHv.at X133 hZ own_EW ch145.1)) (by decide) (by decide) (fun fs hr => retA X133 hx Bd.returns rfl rfl (hb hby d_method_2_88) hr)
      · refine FinH.by (fun t k => XS.icmpYes X0.here hx rfl (pc0 := 60) (pc' := 89) rfl (hb hby d_method_2_60) rfl (feq h60).2 (by decide) (by decide) k) ?_
        show FinH _ _ _ _ _ _ _ _ _ (s₁.setTop (mkF m 89 #[.val (.int b), .val (.int d), .val (.int (b &&& (3 : Int32))), .val (.int ((d &&& (255 : Int32)).toUInt32.toUInt16.toUInt32.toInt32)), .val (.int ((((d.toUInt32 >>> ((8 : Int32) &&& 31).toUInt32).toInt32) &&& (255 : Int32)).toUInt32.toUInt16.toUInt32.toInt32)), .val (.int ((((d.toUInt32 >>> ((16 : Int32) &&& 31).toUInt32).toInt32) &&& (255 : Int32)).toUInt32.toUInt16.toUInt32.toInt32)), .unset] []))
        refine FinH.by (fun t k => XS.iconst X0.here hx rfl (hb hby d_method_2_89) k) ?_
        show FinH _ _ _ _ _ _ _ _ _ (s₁.setTop (mkF m 90 #[.val (.int b), .val (.int d), .val (.int (b &&& (3 : Int32))), .val (.int ((d &&& (255 : Int32)).toUInt32.toUInt16.toUInt32.toInt32)), .val (.int ((((d.toUInt32 >>> ((8 : Int32) &&& 31).toUInt32).toInt32) &&& (255 : Int32)).toUInt32.toUInt16.toUInt32.toInt32)), .val (.int ((((d.toUInt32 >>> ((16 : Int32) &&& 31).toUInt32).toInt32) &&& (255 : Int32)).toUInt32.toUInt16.toUInt32.toInt32)), .unset] [(.int (3 : Int32))]))
        obtain ⟨T147, h147, k147, X147, e147, E147, A147, st147⟩ := newP X0 hx hZ (hw _ (List.mem_of_getElem? (i := 30) rfl)) e0 (g := (mkF m 90 #[.val (.int b), .val (.int d), .val (.int (b &&& (3 : Int32))), .val (.int ((d &&& (255 : Int32)).toUInt32.toUInt16.toUInt32.toInt32)), .val (.int ((((d.toUInt32 >>> ((8 : Int32) &&& 31).toUInt32).toInt32) &&& (255 : Int32)).toUInt32.toUInt16.toUInt32.toInt32)), .val (.int ((((d.toUInt32 >>> ((16 : Int32) &&& 31).toUInt32).toInt32) &&& (255 : Int32)).toUInt32.toUInt16.toUInt32.toInt32)), .unset] [(.int (3 : Int32))])) rfl (hb hby d_method_2_90) rfl (by decide) (cap := 3) (by decide) (by decide) (by decide) (by decide)
        obtain ⟨a147, g147⟩ : ∃ z, z = h0.size := ⟨_, rfl⟩
        rw [← g147] at A147 st147
        refine FinH.by (fun t k => st147 t k) ?_
        have V147 : Arv Z h147 a147 k147 .char (3 : Int32) [(.int (0 : Int32)), (.int (0 : Int32)), (.int (0 : Int32))] (.int (0 : Int32)) := (Arv.new A147 (by decide)).pad (pad_rep [] (.int (0 : Int32)) 3)
        show FinH _ _ _ _ _ _ _ _ _ (T147.setTop (mkF m 92 #[.val (.int b), .val (.int d), .val (.int (b &&& (3 : Int32))), .val (.int ((d &&& (255 : Int32)).toUInt32.toUInt16.toUInt32.toInt32)), .val (.int ((((d.toUInt32 >>> ((8 : Int32) &&& 31).toUInt32).toInt32) &&& (255 : Int32)).toUInt32.toUInt16.toUInt32.toInt32)), .val (.int ((((d.toUInt32 >>> ((16 : Int32) &&& 31).toUInt32).toInt32) &&& (255 : Int32)).toUInt32.toUInt16.toUInt32.toInt32)), .unset] [(.ref a147)]))
        refine FinH.by (fun t k => XS.astore X147.here hx rfl (hb hby d_method_2_92) rfl rfl (l' := #[.val (.int b), .val (.int d), .val (.int (b &&& (3 : Int32))), .val (.int ((d &&& (255 : Int32)).toUInt32.toUInt16.toUInt32.toInt32)), .val (.int ((((d.toUInt32 >>> ((8 : Int32) &&& 31).toUInt32).toInt32) &&& (255 : Int32)).toUInt32.toUInt16.toUInt32.toInt32)), .val (.int ((((d.toUInt32 >>> ((16 : Int32) &&& 31).toUInt32).toInt32) &&& (255 : Int32)).toUInt32.toUInt16.toUInt32.toInt32)), .val (.ref a147)]) rfl k) ?_
        show FinH _ _ _ _ _ _ _ _ _ (T147.setTop (mkF m 94 #[.val (.int b), .val (.int d), .val (.int (b &&& (3 : Int32))), .val (.int ((d &&& (255 : Int32)).toUInt32.toUInt16.toUInt32.toInt32)), .val (.int ((((d.toUInt32 >>> ((8 : Int32) &&& 31).toUInt32).toInt32) &&& (255 : Int32)).toUInt32.toUInt16.toUInt32.toInt32)), .val (.int ((((d.toUInt32 >>> ((16 : Int32) &&& 31).toUInt32).toInt32) &&& (255 : Int32)).toUInt32.toUInt16.toUInt32.toInt32)), .val (.ref a147)] []))
        refine FinH.by (fun t k => XS.aload X147.here hx rfl (hb hby d_method_2_94) rfl rfl k) ?_
        show FinH _ _ _ _ _ _ _ _ _ (T147.setTop (mkF m 96 #[.val (.int b), .val (.int d), .val (.int (b &&& (3 : Int32))), .val (.int ((d &&& (255 : Int32)).toUInt32.toUInt16.toUInt32.toInt32)), .val (.int ((((d.toUInt32 >>> ((8 : Int32) &&& 31).toUInt32).toInt32) &&& (255 : Int32)).toUInt32.toUInt16.toUInt32.toInt32)), .val (.int ((((d.toUInt32 >>> ((16 : Int32) &&& 31).toUInt32).toInt32) &&& (255 : Int32)).toUInt32.toUInt16.toUInt32.toInt32)), .val (.ref a147)] [(.ref a147)]))
        refine FinH.by (fun t k => XS.iconst X147.here hx rfl (hb hby d_method_2_96) k) ?_
        show FinH _ _ _ _ _ _ _ _ _ (T147.setTop (mkF m 97 #[.val (.int b), .val (.int d), .val (.int (b &&& (3 : Int32))), .val (.int ((d &&& (255 : Int32)).toUInt32.toUInt16.toUInt32.toInt32)), .val (.int ((((d.toUInt32 >>> ((8 : Int32) &&& 31).toUInt32).toInt32) &&& (255 : Int32)).toUInt32.toUInt16.toUInt32.toInt32)), .val (.int ((((d.toUInt32 >>> ((16 : Int32) &&& 31).toUInt32).toInt32) &&& (255 : Int32)).toUInt32.toUInt16.toUInt32.toInt32)), .val (.ref a147)] [(.int (0 : Int32)), (.ref a147)]))
        refine FinH.by (fun t k => XS.iloadN X147.here hx rfl (hb hby d_method_2_97) rfl k) ?_
        show FinH _ _ _ _ _ _ _ _ _ (T147.setTop (mkF m 98 #[.val (.int b), .val (.int d), .val (.int (b &&& (3 : Int32))), .val (.int ((d &&& (255 : Int32)).toUInt32.toUInt16.toUInt32.toInt32)), .val (.int ((((d.toUInt32 >>> ((8 : Int32) &&& 31).toUInt32).toInt32) &&& (255 : Int32)).toUInt32.toUInt16.toUInt32.toInt32)), .val (.int ((((d.toUInt32 >>> ((16 : Int32) &&& 31).toUInt32).toInt32) &&& (255 : Int32)).toUInt32.toUInt16.toUInt32.toInt32)), .val (.ref a147)] [(.int ((d &&& (255 : Int32)).toUInt32.toUInt16.toUInt32.toInt32)), (.int (0 : Int32)), (.ref a147)]))
        obtain ⟨cl148, Ar148, q148, S148, N148, H148, G148⟩ := id V147
        obtain ⟨T148, h148, X148, e148, W148, st148⟩ := stC X147 hx hZ e147 Ar148 (j := (0 : Int32)) (inb_of S148 ⟨by decide, by decide⟩) (g := (mkF m 98 #[.val (.int b), .val (.int d), .val (.int (b &&& (3 : Int32))), .val (.int ((d &&& (255 : Int32)).toUInt32.toUInt16.toUInt32.toInt32)), .val (.int ((((d.toUInt32 >>> ((8 : Int32) &&& 31).toUInt32).toInt32) &&& (255 : Int32)).toUInt32.toUInt16.toUInt32.toInt32)), .val (.int ((((d.toUInt32 >>> ((16 : Int32) &&& 31).toUInt32).toInt32) &&& (255 : Int32)).toUInt32.toUInt16.toUInt32.toInt32)), .val (.ref a147)] [(.int ((d &&& (255 : Int32)).toUInt32.toUInt16.toUInt32.toInt32)), (.int (0 : Int32)), (.ref a147)])) rfl rfl (hb hby d_method_2_98)
        have V148 : Arv Z h148 a147 k147 .char (3 : Int32) [(.int (nar .char ((d &&& (255 : Int32)).toUInt32.toUInt16.toUInt32.toInt32))), (.int (0 : Int32)), (.int (0 : Int32))] (.int (0 : Int32)) := Arv.set Ar148 q148 S148 N148 H148 G148 (fits_nar_char _) W148 0 rfl (Nat.le_of_ble_eq_true rfl)
        have g149 : n0 ≤ a147 := Nat.le_trans Z0 (Nat.le_of_eq g147.symm)
        refine FinH.by (fun t k => st148 t k) ?_
        have N148_ := Fr.snoc X148 N0 g149
        show FinH _ _ _ _ _ _ _ _ _ (T148.setTop (mkF m 99 #[.val (.int b), .val (.int d), .val (.int (b &&& (3 : Int32))), .val (.int ((d &&& (255 : Int32)).toUInt32.toUInt16.toUInt32.toInt32)), .val (.int ((((d.toUInt32 >>> ((8 : Int32) &&& 31).toUInt32).toInt32) &&& (255 : Int32)).toUInt32.toUInt16.toUInt32.toInt32)), .val (.int ((((d.toUInt32 >>> ((16 : Int32) &&& 31).toUInt32).toInt32) &&& (255 : Int32)).toUInt32.toUInt16.toUInt32.toInt32)), .val (.ref a147)] []))
        refine FinH.by (fun t k => XS.aload X148.here hx rfl (hb hby d_method_2_99) rfl rfl k) ?_
        show FinH _ _ _ _ _ _ _ _ _ (T148.setTop (mkF m 101 #[.val (.int b), .val (.int d), .val (.int (b &&& (3 : Int32))), .val (.int ((d &&& (255 : Int32)).toUInt32.toUInt16.toUInt32.toInt32)), .val (.int ((((d.toUInt32 >>> ((8 : Int32) &&& 31).toUInt32).toInt32) &&& (255 : Int32)).toUInt32.toUInt16.toUInt32.toInt32)), .val (.int ((((d.toUInt32 >>> ((16 : Int32) &&& 31).toUInt32).toInt32) &&& (255 : Int32)).toUInt32.toUInt16.toUInt32.toInt32)), .val (.ref a147)] [(.ref a147)]))
        refine FinH.by (fun t k => XS.iconst X148.here hx rfl (hb hby d_method_2_101) k) ?_
        show FinH _ _ _ _ _ _ _ _ _ (T148.setTop (mkF m 102 #[.val (.int b), .val (.int d), .val (.int (b &&& (3 : Int32))), .val (.int ((d &&& (255 : Int32)).toUInt32.toUInt16.toUInt32.toInt32)), .val (.int ((((d.toUInt32 >>> ((8 : Int32) &&& 31).toUInt32).toInt32) &&& (255 : Int32)).toUInt32.toUInt16.toUInt32.toInt32)), .val (.int ((((d.toUInt32 >>> ((16 : Int32) &&& 31).toUInt32).toInt32) &&& (255 : Int32)).toUInt32.toUInt16.toUInt32.toInt32)), .val (.ref a147)] [(.int (1 : Int32)), (.ref a147)]))
        refine FinH.by (fun t k => XS.iload X148.here hx rfl (hb hby d_method_2_102) rfl k) ?_
        show FinH _ _ _ _ _ _ _ _ _ (T148.setTop (mkF m 104 #[.val (.int b), .val (.int d), .val (.int (b &&& (3 : Int32))), .val (.int ((d &&& (255 : Int32)).toUInt32.toUInt16.toUInt32.toInt32)), .val (.int ((((d.toUInt32 >>> ((8 : Int32) &&& 31).toUInt32).toInt32) &&& (255 : Int32)).toUInt32.toUInt16.toUInt32.toInt32)), .val (.int ((((d.toUInt32 >>> ((16 : Int32) &&& 31).toUInt32).toInt32) &&& (255 : Int32)).toUInt32.toUInt16.toUInt32.toInt32)), .val (.ref a147)] [(.int ((((d.toUInt32 >>> ((8 : Int32) &&& 31).toUInt32).toInt32) &&& (255 : Int32)).toUInt32.toUInt16.toUInt32.toInt32)), (.int (1 : Int32)), (.ref a147)]))
        obtain ⟨cl150, Ar150, q150, S150, N150, H150, G150⟩ := id V148
        obtain ⟨T150, h150, X150, e150, W150, st150⟩ := stC X148 hx hZ e148 Ar150 (j := (1 : Int32)) (inb_of S150 ⟨by decide, by decide⟩) (g := (mkF m 104 #[.val (.int b), .val (.int d), .val (.int (b &&& (3 : Int32))), .val (.int ((d &&& (255 : Int32)).toUInt32.toUInt16.toUInt32.toInt32)), .val (.int ((((d.toUInt32 >>> ((8 : Int32) &&& 31).toUInt32).toInt32) &&& (255 : Int32)).toUInt32.toUInt16.toUInt32.toInt32)), .val (.int ((((d.toUInt32 >>> ((16 : Int32) &&& 31).toUInt32).toInt32) &&& (255 : Int32)).toUInt32.toUInt16.toUInt32.toInt32)), .val (.ref a147)] [(.int ((((d.toUInt32 >>> ((8 : Int32) &&& 31).toUInt32).toInt32) &&& (255 : Int32)).toUInt32.toUInt16.toUInt32.toInt32)), (.int (1 : Int32)), (.ref a147)])) rfl rfl (hb hby d_method_2_104)
        have V150 : Arv Z h150 a147 k147 .char (3 : Int32) [(.int (nar .char ((d &&& (255 : Int32)).toUInt32.toUInt16.toUInt32.toInt32))), (.int (nar .char ((((d.toUInt32 >>> ((8 : Int32) &&& 31).toUInt32).toInt32) &&& (255 : Int32)).toUInt32.toUInt16.toUInt32.toInt32))), (.int (0 : Int32))] (.int (0 : Int32)) := Arv.set Ar150 q150 S150 N150 H150 G150 (fits_nar_char _) W150 1 rfl (Nat.le_of_ble_eq_true rfl)
        refine FinH.by (fun t k => st150 t k) ?_
        have N150_ := Fr.snoc X150 N148_ g149
        show FinH _ _ _ _ _ _ _ _ _ (T150.setTop (mkF m 105 #[.val (.int b), .val (.int d), .val (.int (b &&& (3 : Int32))), .val (.int ((d &&& (255 : Int32)).toUInt32.toUInt16.toUInt32.toInt32)), .val (.int ((((d.toUInt32 >>> ((8 : Int32) &&& 31).toUInt32).toInt32) &&& (255 : Int32)).toUInt32.toUInt16.toUInt32.toInt32)), .val (.int ((((d.toUInt32 >>> ((16 : Int32) &&& 31).toUInt32).toInt32) &&& (255 : Int32)).toUInt32.toUInt16.toUInt32.toInt32)), .val (.ref a147)] []))
        refine FinH.by (fun t k => XS.aload X150.here hx rfl (hb hby d_method_2_105) rfl rfl k) ?_
        show FinH _ _ _ _ _ _ _ _ _ (T150.setTop (mkF m 107 #[.val (.int b), .val (.int d), .val (.int (b &&& (3 : Int32))), .val (.int ((d &&& (255 : Int32)).toUInt32.toUInt16.toUInt32.toInt32)), .val (.int ((((d.toUInt32 >>> ((8 : Int32) &&& 31).toUInt32).toInt32) &&& (255 : Int32)).toUInt32.toUInt16.toUInt32.toInt32)), .val (.int ((((d.toUInt32 >>> ((16 : Int32) &&& 31).toUInt32).toInt32) &&& (255 : Int32)).toUInt32.toUInt16.toUInt32.toInt32)), .val (.ref a147)] [(.ref a147)]))
        refine FinH.by (fun t k => XS.iconst X150.here hx rfl (hb hby d_method_2_107) k) ?_
        show FinH _ _ _ _ _ _ _ _ _ (T150.setTop (mkF m 108 #[.val (.int b), .val (.int d), .val (.int (b &&& (3 : Int32))), .val (.int ((d &&& (255 : Int32)).toUInt32.toUInt16.toUInt32.toInt32)), .val (.int ((((d.toUInt32 >>> ((8 : Int32) &&& 31).toUInt32).toInt32) &&& (255 : Int32)).toUInt32.toUInt16.toUInt32.toInt32)), .val (.int ((((d.toUInt32 >>> ((16 : Int32) &&& 31).toUInt32).toInt32) &&& (255 : Int32)).toUInt32.toUInt16.toUInt32.toInt32)), .val (.ref a147)] [(.int (2 : Int32)), (.ref a147)]))
        refine FinH.by (fun t k => XS.iload X150.here hx rfl (hb hby d_method_2_108) rfl k) ?_
        show FinH _ _ _ _ _ _ _ _ _ (T150.setTop (mkF m 110 #[.val (.int b), .val (.int d), .val (.int (b &&& (3 : Int32))), .val (.int ((d &&& (255 : Int32)).toUInt32.toUInt16.toUInt32.toInt32)), .val (.int ((((d.toUInt32 >>> ((8 : Int32) &&& 31).toUInt32).toInt32) &&& (255 : Int32)).toUInt32.toUInt16.toUInt32.toInt32)), .val (.int ((((d.toUInt32 >>> ((16 : Int32) &&& 31).toUInt32).toInt32) &&& (255 : Int32)).toUInt32.toUInt16.toUInt32.toInt32)), .val (.ref a147)] [(.int ((((d.toUInt32 >>> ((16 : Int32) &&& 31).toUInt32).toInt32) &&& (255 : Int32)).toUInt32.toUInt16.toUInt32.toInt32)), (.int (2 : Int32)), (.ref a147)]))
        obtain ⟨cl151, Ar151, q151, S151, N151, H151, G151⟩ := id V150
        obtain ⟨T151, h151, X151, e151, W151, st151⟩ := stC X150 hx hZ e150 Ar151 (j := (2 : Int32)) (inb_of S151 ⟨by decide, by decide⟩) (g := (mkF m 110 #[.val (.int b), .val (.int d), .val (.int (b &&& (3 : Int32))), .val (.int ((d &&& (255 : Int32)).toUInt32.toUInt16.toUInt32.toInt32)), .val (.int ((((d.toUInt32 >>> ((8 : Int32) &&& 31).toUInt32).toInt32) &&& (255 : Int32)).toUInt32.toUInt16.toUInt32.toInt32)), .val (.int ((((d.toUInt32 >>> ((16 : Int32) &&& 31).toUInt32).toInt32) &&& (255 : Int32)).toUInt32.toUInt16.toUInt32.toInt32)), .val (.ref a147)] [(.int ((((d.toUInt32 >>> ((16 : Int32) &&& 31).toUInt32).toInt32) &&& (255 : Int32)).toUInt32.toUInt16.toUInt32.toInt32)), (.int (2 : Int32)), (.ref a147)])) rfl rfl (hb hby d_method_2_110)
        have V151 : Arv Z h151 a147 k147 .char (3 : Int32) [(.int (nar .char ((d &&& (255 : Int32)).toUInt32.toUInt16.toUInt32.toInt32))), (.int (nar .char ((((d.toUInt32 >>> ((8 : Int32) &&& 31).toUInt32).toInt32) &&& (255 : Int32)).toUInt32.toUInt16.toUInt32.toInt32))), (.int (nar .char ((((d.toUInt32 >>> ((16 : Int32) &&& 31).toUInt32).toInt32) &&& (255 : Int32)).toUInt32.toUInt16.toUInt32.toInt32)))] (.int (0 : Int32)) := Arv.set Ar151 q151 S151 N151 H151 G151 (fits_nar_char _) W151 2 rfl (Nat.le_of_ble_eq_true rfl)
        refine FinH.by (fun t k => st151 t k) ?_
        have N151_ := Fr.snoc X151 N150_ g149
        show FinH _ _ _ _ _ _ _ _ _ (T151.setTop (mkF m 111 #[.val (.int b), .val (.int d), .val (.int (b &&& (3 : Int32))), .val (.int ((d &&& (255 : Int32)).toUInt32.toUInt16.toUInt32.toInt32)), .val (.int ((((d.toUInt32 >>> ((8 : Int32) &&& 31).toUInt32).toInt32) &&& (255 : Int32)).toUInt32.toUInt16.toUInt32.toInt32)), .val (.int ((((d.toUInt32 >>> ((16 : Int32) &&& 31).toUInt32).toInt32) &&& (255 : Int32)).toUInt32.toUInt16.toUInt32.toInt32)), .val (.ref a147)] []))
        obtain ⟨T152, h152, X152, e152, E152, A152, D152, -, st152⟩ := newO X151 hx hZ hown (hw _ (List.mem_of_getElem? (i := 31) rfl)) (hw _ (List.mem_of_getElem? (i := 10) rfl)) (hw _ (List.mem_of_getElem? (i := 2) rfl)) e151 (g := (mkF m 111 #[.val (.int b), .val (.int d), .val (.int (b &&& (3 : Int32))), .val (.int ((d &&& (255 : Int32)).toUInt32.toUInt16.toUInt32.toInt32)), .val (.int ((((d.toUInt32 >>> ((8 : Int32) &&& 31).toUInt32).toInt32) &&& (255 : Int32)).toUInt32.toUInt16.toUInt32.toInt32)), .val (.int ((((d.toUInt32 >>> ((16 : Int32) &&& 31).toUInt32).toInt32) &&& (255 : Int32)).toUInt32.toUInt16.toUInt32.toInt32)), .val (.ref a147)] [])) rfl (hb hby d_method_2_111) (by decide) (by decide)
        obtain ⟨a152, g152⟩ : ∃ z, z = h151.size := ⟨_, rfl⟩
        rw [← g152] at A152 D152 st152
        refine FinH.by (fun t k => st152 t k) ?_
        show FinH _ _ _ _ _ _ _ _ _ (T152.setTop (mkF m 114 #[.val (.int b), .val (.int d), .val (.int (b &&& (3 : Int32))), .val (.int ((d &&& (255 : Int32)).toUInt32.toUInt16.toUInt32.toInt32)), .val (.int ((((d.toUInt32 >>> ((8 : Int32) &&& 31).toUInt32).toInt32) &&& (255 : Int32)).toUInt32.toUInt16.toUInt32.toInt32)), .val (.int ((((d.toUInt32 >>> ((16 : Int32) &&& 31).toUInt32).toInt32) &&& (255 : Int32)).toUInt32.toUInt16.toUInt32.toInt32)), .val (.ref a147)] [(.ref a152)]))
        refine FinH.by (fun t k => XS.dup X152.here hx rfl (hb hby d_method_2_114) rfl rfl k) ?_
        show FinH _ _ _ _ _ _ _ _ _ (T152.setTop (mkF m 115 #[.val (.int b), .val (.int d), .val (.int (b &&& (3 : Int32))), .val (.int ((d &&& (255 : Int32)).toUInt32.toUInt16.toUInt32.toInt32)), .val (.int ((((d.toUInt32 >>> ((8 : Int32) &&& 31).toUInt32).toInt32) &&& (255 : Int32)).toUInt32.toUInt16.toUInt32.toInt32)), .val (.int ((((d.toUInt32 >>> ((16 : Int32) &&& 31).toUInt32).toInt32) &&& (255 : Int32)).toUInt32.toUInt16.toUInt32.toInt32)), .val (.ref a147)] [(.ref a152), (.ref a152)]))
        refine FinH.by (fun t k => XS.aload X152.here hx rfl (hb hby d_method_2_115) rfl rfl k) ?_
        show FinH _ _ _ _ _ _ _ _ _ (T152.setTop (mkF m 117 #[.val (.int b), .val (.int d), .val (.int (b &&& (3 : Int32))), .val (.int ((d &&& (255 : Int32)).toUInt32.toUInt16.toUInt32.toInt32)), .val (.int ((((d.toUInt32 >>> ((8 : Int32) &&& 31).toUInt32).toInt32) &&& (255 : Int32)).toUInt32.toUInt16.toUInt32.toInt32)), .val (.int ((((d.toUInt32 >>> ((16 : Int32) &&& 31).toUInt32).toInt32) &&& (255 : Int32)).toUInt32.toUInt16.toUInt32.toInt32)), .val (.ref a147)] [(.ref a147), (.ref a152), (.ref a152)]))
        have A153 : Arv Z h152 a147 k147 .char (3 : Int32) [(.int (nar .char ((d &&& (255 : Int32)).toUInt32.toUInt16.toUInt32.toInt32))), (.int (nar .char ((((d.toUInt32 >>> ((8 : Int32) &&& 31).toUInt32).toInt32) &&& (255 : Int32)).toUInt32.toUInt16.toUInt32.toInt32))), (.int (nar .char ((((d.toUInt32 >>> ((16 : Int32) &&& 31).toUInt32).toInt32) &&& (255 : Int32)).toUInt32.toUInt16.toUInt32.toInt32)))] (.int (0 : Int32)) := (V151.ext E152)
        have z155 : n0 ≤ h151.size := Nat.le_trans Z0 (Nat.le_trans (Nat.le_trans (Nat.le_trans E147.1 (Keep.of_wr W148).1) (Keep.of_wr W150).1) (Keep.of_wr W151).1)
        have g154 : n0 ≤ a152 := Nat.le_trans z155 (Nat.le_of_eq g152.symm)
        have z156 : n0 ≤ h152.size := Nat.le_trans Z0 (Nat.le_trans (Nat.le_trans (Nat.le_trans (Nat.le_trans E147.1 (Keep.of_wr W148).1) (Keep.of_wr W150).1) (Keep.of_wr W151).1) E152.1)
        have O157 : Old Z n0 h152 := (((((OL.ext E147).wr W148 g149).wr W150 g149).wr W151 g149).ext E152)
        obtain ⟨v158, _, ⟨T158, L158, k158, n158⟩, -, X158, ⟨Lc158, hQ158, l158, y158, z158⟩, st158⟩ := X152.specialBack hx (y := (⟨"java/lang/String", "<init>", "([C)V"⟩ : MethodName)) rfl hown (mvT hZ (hw _ (List.mem_of_getElem? (i := 32) rfl))) (mvT hZ (hw _ (List.mem_of_getElem? (i := 33) rfl))) (mvT hZ (hw _ (List.mem_of_getElem? (i := 34) rfl))) (by decide) (StrChars.Road.backV (W := 1) hZ (fun d hd => hw d (own_words d hd)) (kI := 4) (hw _ (List.mem_of_getElem? (i := 10) rfl)) (cs := ([(nar .char ((d &&& (255 : Int32)).toUInt32.toUInt16.toUInt32.toInt32)), (nar .char ((((d.toUInt32 >>> ((8 : Int32) &&& 31).toUInt32).toInt32) &&& (255 : Int32)).toUInt32.toUInt16.toUInt32.toInt32)), (nar .char ((((d.toUInt32 >>> ((16 : Int32) &&& 31).toUInt32).toInt32) &&& (255 : Int32)).toUInt32.toUInt16.toUInt32.toInt32))] : List Int32)) (bs := ([(nar .char ((d &&& (255 : Int32)).toUInt32.toUInt16.toUInt32.toInt32)), (nar .char ((((d.toUInt32 >>> ((8 : Int32) &&& 31).toUInt32).toInt32) &&& (255 : Int32)).toUInt32.toUInt16.toUInt32.toInt32)), (nar .char ((((d.toUInt32 >>> ((16 : Int32) &&& 31).toUInt32).toInt32) &&& (255 : Int32)).toUInt32.toUInt16.toUInt32.toInt32))] : List Int32).map (fun c => c.toInt8.toInt32)) (n := 3) g154 z156 A152 (D152 (Or.inr (hw _ (List.mem_of_getElem? (i := 23) rfl))) (ty := (.array .byte)) (by decide) : Fld Z h152 a152 "java/lang/String" "value" "[B" .null) (D152 (Or.inr (hw _ (List.mem_of_getElem? (i := 25) rfl))) (ty := .byte) (by decide) : Fld Z h152 a152 "java/lang/String" "coder" "B" (.int (0 : Int32))) A153 (S1.ext O157.2) P1 rfl rfl (by decide) (by decide) (own_cons (own_c255 _) (own_cons (own_c255 _) (own_cons (own_c255 _) own_nil))) rfl (by decide) (by decide)) (g := (mkF m 117 #[.val (.int b), .val (.int d), .val (.int (b &&& (3 : Int32))), .val (.int ((d &&& (255 : Int32)).toUInt32.toUInt16.toUInt32.toInt32)), .val (.int ((((d.toUInt32 >>> ((8 : Int32) &&& 31).toUInt32).toInt32) &&& (255 : Int32)).toUInt32.toUInt16.toUInt32.toInt32)), .val (.int ((((d.toUInt32 >>> ((16 : Int32) &&& 31).toUInt32).toInt32) &&& (255 : Int32)).toUInt32.toUInt16.toUInt32.toInt32)), .val (.ref a147)] [(.ref a147), (.ref a152), (.ref a152)])) rfl (by rw [hml]; rfl) (Steps.refl _) (a := a152) (argsL := [(.ref a147)]) (rest := [(.ref a152)]) (lenOf pd_91 rfl) rfl (by show 2 * 0 + _ ≤ _; exact Nat.le_of_eq rfl) (hb hby d_method_2_117) (fun _ _ => ⟨rfl, e152, (by decide : 2 + 1 ≤ _), (by decide : 7 + 3 ≤ _)⟩)
        dsimp only [Pt.U, Pt.locs, Pt.cells, Pt.slots] at X158 l158 y158 z158 st158 hQ158
        subst l158 y158 z158
        obtain ⟨rfl, Nq158, K158, E158, C158, t158, kb158, gt158, ht158, nt158, V158, A158⟩ := hQ158
        have N158_ := Fr.app N151_ Nq158
        refine FinH.byS st158 ?_
        show FinH _ _ _ _ _ _ _ _ _ (T158.setTop (mkF m 120 #[.val (.int b), .val (.int d), .val (.int (b &&& (3 : Int32))), .val (.int ((d &&& (255 : Int32)).toUInt32.toUInt16.toUInt32.toInt32)), .val (.int ((((d.toUInt32 >>> ((8 : Int32) &&& 31).toUInt32).toInt32) &&& (255 : Int32)).toUInt32.toUInt16.toUInt32.toInt32)), .val (.int ((((d.toUInt32 >>> ((16 : Int32) &&& 31).toUInt32).toInt32) &&& (255 : Int32)).toUInt32.toUInt16.toUInt32.toInt32)), .val (.ref a147)] [(.ref a152)]))
        have kp159 : Keep h0 h147 [] := (Keep.refl h0 []).ext E147
        have kp160 : Keep h0 h148 [] := kp159.wr W148 (Or.inr (Nat.le_trans (Nat.le_refl _) (Nat.le_of_eq g147.symm)))
        have kp161 : Keep h0 h150 [] := kp160.wr W150 (Or.inr (Nat.le_trans (Nat.le_refl _) (Nat.le_of_eq g147.symm)))
        have kp162 : Keep h0 h151 [] := kp161.wr W151 (Or.inr (Nat.le_trans (Nat.le_refl _) (Nat.le_of_eq g147.symm)))
        have kp163 : Keep h0 h152 [] := kp162.ext E152
        have kp164 : Keep h0 T158.heap [] := kp163.trans K158 (allS (Or.inr (Nat.le_trans (Nat.le_trans (Nat.le_trans (Nat.le_trans E147.1 (Keep.of_wr W148).1) (Keep.of_wr W150).1) (Keep.of_wr W151).1) (Nat.le_of_eq g152.symm))) all0)
        have ch165 : CHr Z consts_1 s.vm h0 s.vm h147 := ch0.trans (CHr.ext E147 ch0.1)
        have sf167 : Safe Z consts_1 s.vm h147 a147 := (Safe.ext E147 ch0.1 (Safe.new (Nat.le_of_eq g147.symm)))
        have ch166 : CHr Z consts_1 s.vm h0 s.vm h148 := ch165.trans (CHr.wr W148 sf167 ch165.1)
        have sf169 : Safe Z consts_1 s.vm h148 a147 := (Safe.wr W148 sf167 ch165.1 sf167)
        have ch168 : CHr Z consts_1 s.vm h0 s.vm h150 := ch166.trans (CHr.wr W150 sf169 ch166.1)
        have sf171 : Safe Z consts_1 s.vm h150 a147 := (Safe.wr W150 sf169 ch166.1 sf169)
        have ch170 : CHr Z consts_1 s.vm h0 s.vm h151 := ch168.trans (CHr.wr W151 sf171 ch168.1)
        have ch172 : CHr Z consts_1 s.vm h0 s.vm h152 := ch170.trans (CHr.ext E152 ch170.1)
        have sf174 : Safe Z consts_1 s.vm h152 a152 := (Safe.ext E152 ch170.1 (Safe.new (Nat.le_of_eq g152.symm)))
        have ch173 : CHr Z consts_1 s.vm h0 s.vm T158.heap := ch172.trans (CHr.keep K158 (allS sf174 all0) ch172.1)
        exact FinH.ret (v := some (.ref a152)) X158 hS0 ((Nat.le_trans hk0 (Nat.le_trans (Nat.le_trans (Nat.le_trans (Nat.le_trans (Nat.le_trans E147.1 (Keep.of_wr W148).1) (Keep.of_wr W150).1) (Keep.of_wr W151).1) E152.1) K158.1))) (fun h => by rw [Bd.returns] at h; cases h) Bd.notSynchronized (⟨a152, rfl, N158_, kp164⟩) (by rw [hh]; exact ch173.trans (CHv.at X158 hZ own_EW ch173.1)) (by decide) (by decide) (fun fs hr => retA X158 hx Bd.returns rfl rfl (hb hby d_method_2_120) hr)
theorem d_jdk_30_method_1_0 : decode jdk_30_method_1_code 0 = .ok (.aload_n 0, 1) := by decide +kernel
theorem d_jdk_30_method_1_1 : decode jdk_30_method_1_code 1 = .ok (.invokespecial 1, 3) := by decide +kernel
theorem d_jdk_30_method_1_4 : decode jdk_30_method_1_code 4 = .ok (.return_, 1) := by decide +kernel
theorem pn_java_lang_Record : plainName "java/lang/Record" = true := by first | (simp [plainName, overriddenIn]; done) | decide +kernel
def Q_rec (Z : State) (a : Addr) (h0 : Heap) (n0 : Nat) (vv_ : Option Value) (hh_ : Heap) (LL_ : List Loc) : Prop := vv_ = none ∧ Fr n0 LL_ ∧ hh_ = h0
set_option maxRecDepth 65536 in
set_option maxHeartbeats 40000000 in
theorem rm_rec (l : Launch) (Z : State) (a0 : Array Value) (hw : ∀ d ∈ tables_1, d.before a0 Z = true) (ws : List Jvm.Cond) (a : Addr) (h0 : Heap) (n0 : Nat) (Z0 : n0 ≤ h0.size) :
    MetFree l (⟨"java/lang/Record", "<init>", "()V"⟩ : MethodName) (head1 (Jvm.Cond.code (⟨"java/lang/Record", "<init>", "()V"⟩ : MethodName) jdk_30_method_1_code 1 none :: ws) ({ frames := 1, cells := 0, slots := 0, locals := 12 } : Room)) (fun aa_ U => aa_ = #[(.ref a)] ∧ Z.Warmed39 U.vm ∧ U.heap = h0) (fun _ _ _ _ _ => True) (fun _ U o U' => ∃ vv_ LL_, o = .returned vv_ ∧ Q_rec Z a h0 n0 vv_ U'.heap LL_ ∧ FrameEnd U o U' LL_ 0 0) := by
  refine MetFree.of_bodySF (plainFor_of_name pn_java_lang_Record) hisR ?_
  intro p e s m args below meth c s₁ Bd hml0 hP hK
  obtain ⟨rfl, hZ, hh⟩ := hP
  have hx := Bd.exec
  have hby := Bd.bytes
  have hml : c.maxLocals = 1 := hml0
  have hown : s.vm.findClass "java/lang/Record" = some m.cls := findClass_of_methodNamed Bd.named
  have hnm := (name_of_methodNamed Bd.named Bd.method).1
  have X0 : Stand p l e ({ frames := 1, cells := 0, slots := 0, locals := 12 } : Room) s m #[(.ref a)] below meth c s₁ [] 0 0 := Stand.of_body Bd
  have e0 : s₁.heap = h0 := by rw [← hh, Bd.state]; rfl
  have N0 := Fr.nil n0
  have ef : entryFrame m #[(.ref a)] 1 = mkF m 0 #[.val (.ref a)] [] := by first | (simp [entryFrame, mkF, argsToLocals, Value.category]; done) | rfl
  refine Fin.start (Q := Q_rec Z a h0 n0) ef ?_
  show Fin _ _ _ _ _ _ _ (s₁.setTop (mkF m 0 #[.val (.ref a)] []))
  refine Fin.by (fun t k => XS.aloadN X0.here hx rfl (hb hby d_jdk_30_method_1_0) rfl rfl k) ?_
  show Fin _ _ _ _ _ _ _ (s₁.setTop (mkF m 1 #[.val (.ref a)] [(.ref a)]))
  obtain ⟨T101, X101, e101, st101⟩ := initO X0 hx hZ hown (hw _ (List.mem_of_getElem? (i := 62) rfl)) (hw _ (List.mem_of_getElem? (i := 20) rfl)) (hw _ (List.mem_of_getElem? (i := 21) rfl)) e0 (g := (mkF m 1 #[.val (.ref a)] [(.ref a)])) rfl (by rw [hml]; rfl) rfl (hb hby d_jdk_30_method_1_1) (by decide) (W := 0) (by show 2 * 0 + _ ≤ _; exact Nat.le_of_eq rfl) (by decide)
  refine Fin.by (fun t k => st101 t k) ?_
  show Fin _ _ _ _ _ _ _ (T101.setTop (mkF m 4 #[.val (.ref a)] []))
  exact Fin.ret (v := none) X101 (fun _ => rfl) Bd.notSynchronized (by rw [e101]; exact ⟨rfl, N0, rfl⟩) (by decide) (by decide) (fun fs hr => X101.returnOut hx Bd.returns (hb hby d_jdk_30_method_1_4) hr)
theorem d_prog_1_method_1_0 : decode prog_1_method_1_code 0 = .ok (.aload_n 0, 1) := by decide +kernel
theorem pd_146 : parseMethodDescriptor "()V" = some ⟨[], none⟩ := by decide +kernel
theorem d_prog_1_method_1_1 : decode prog_1_method_1_code 1 = .ok (.invokespecial 1, 3) := by decide +kernel
theorem d_prog_1_method_1_4 : decode prog_1_method_1_code 4 = .ok (.aload_n 0, 1) := by decide +kernel
theorem d_prog_1_method_1_5 : decode prog_1_method_1_code 5 = .ok (.aload_n 1, 1) := by decide +kernel
theorem d_prog_1_method_1_6 : decode prog_1_method_1_code 6 = .ok (.putfield 7, 3) := by decide +kernel
theorem d_prog_1_method_1_9 : decode prog_1_method_1_code 9 = .ok (.aload_n 0, 1) := by decide +kernel
theorem d_prog_1_method_1_10 : decode prog_1_method_1_code 10 = .ok (.aload_n 2, 1) := by decide +kernel
theorem d_prog_1_method_1_11 : decode prog_1_method_1_code 11 = .ok (.putfield 13, 3) := by decide +kernel
theorem d_prog_1_method_1_14 : decode prog_1_method_1_code 14 = .ok (.aload_n 0, 1) := by decide +kernel
theorem d_prog_1_method_1_15 : decode prog_1_method_1_code 15 = .ok (.aload_n 3, 1) := by decide +kernel
theorem d_prog_1_method_1_16 : decode prog_1_method_1_code 16 = .ok (.putfield 16, 3) := by decide +kernel
theorem d_prog_1_method_1_19 : decode prog_1_method_1_code 19 = .ok (.aload_n 0, 1) := by decide +kernel
theorem d_prog_1_method_1_20 : decode prog_1_method_1_code 20 = .ok (.iload 4, 2) := by decide +kernel
theorem d_prog_1_method_1_22 : decode prog_1_method_1_code 22 = .ok (.putfield 19, 3) := by decide +kernel
theorem d_prog_1_method_1_25 : decode prog_1_method_1_code 25 = .ok (.aload_n 0, 1) := by decide +kernel
theorem d_prog_1_method_1_26 : decode prog_1_method_1_code 26 = .ok (.iload 5, 2) := by decide +kernel
theorem d_prog_1_method_1_28 : decode prog_1_method_1_code 28 = .ok (.putfield 23, 3) := by decide +kernel
theorem d_prog_1_method_1_31 : decode prog_1_method_1_code 31 = .ok (.return_, 1) := by decide +kernel
theorem pn_com_example_jiaoge_jiaoge_cli_CommandOption : plainName "com/example/jiaoge/jiaoge/cli/CommandOption" = true := by first | (simp [plainName, overriddenIn]; done) | decide +kernel
def Q_ini (Z : State) (a : Addr) (v1 : Value) (v2 : Value) (v3 : Value) (b1 : Int32) (b2 : Int32) (h0 : Heap) (n0 : Nat) (vv_ : Option Value) (hh_ : Heap) (LL_ : List Loc) : Prop := vv_ = none ∧ Fr n0 LL_ ∧ Keep h0 hh_ [a] ∧ Exa Z hh_ a "com/example/jiaoge/jiaoge/cli/CommandOption" ∧ Fld Z hh_ a "com/example/jiaoge/jiaoge/cli/CommandOption" "label" "Ljava/lang/String;" v2
set_option maxRecDepth 65536 in
set_option maxHeartbeats 40000000 in
theorem rm_ini (l : Launch) (Z : State) (a0 : Array Value) (hw : ∀ d ∈ tables_1, d.before a0 Z = true) (ws : List Jvm.Cond) (a : Addr) (v1 : Value) (v2 : Value) (v3 : Value) (b1 : Int32) (b2 : Int32) (h0 : Heap) (n0 : Nat) (Z0 : n0 ≤ h0.size) (E0 : Exa Z h0 a "com/example/jiaoge/jiaoge/cli/CommandOption") (Fname : Fld Z h0 a "com/example/jiaoge/jiaoge/cli/CommandOption" "name" "Ljava/lang/String;" .null) (Flabel : Fld Z h0 a "com/example/jiaoge/jiaoge/cli/CommandOption" "label" "Ljava/lang/String;" .null) (Fhelp : Fld Z h0 a "com/example/jiaoge/jiaoge/cli/CommandOption" "help" "Ljava/lang/String;" .null) (Frequired : Fld Z h0 a "com/example/jiaoge/jiaoge/cli/CommandOption" "required" "Z" (.int (0 : Int32))) (Frepeatable : Fld Z h0 a "com/example/jiaoge/jiaoge/cli/CommandOption" "repeatable" "Z" (.int (0 : Int32))) (ga : n0 ≤ a) (r1 : v1.isRef = true) (r2 : v2.isRef = true) (r3 : v3.isRef = true) :
    MetFree l (⟨"com/example/jiaoge/jiaoge/cli/CommandOption", "<init>", "(Ljava/lang/String;Ljava/lang/String;Ljava/lang/String;ZZ)V"⟩ : MethodName) (head1 (Jvm.Cond.code (⟨"com/example/jiaoge/jiaoge/cli/CommandOption", "<init>", "(Ljava/lang/String;Ljava/lang/String;Ljava/lang/String;ZZ)V"⟩ : MethodName) prog_1_method_1_code 6 none :: ws) ({ frames := 2, cells := 0, slots := 0, locals := 24 } : Room)) (fun aa_ U => aa_ = #[(.ref a), v1, v2, v3, (.int b1), (.int b2)] ∧ Z.Warmed39 U.vm ∧ U.heap = h0) (fun _ _ _ _ _ => True) (fun _ U o U' => ∃ vv_ LL_, o = .returned vv_ ∧ Q_ini Z a v1 v2 v3 b1 b2 h0 n0 vv_ U'.heap LL_ ∧ FrameEnd U o U' LL_ 0 0) := by
  refine MetFree.of_bodySF (plainFor_of_name pn_com_example_jiaoge_jiaoge_cli_CommandOption) hisR ?_
  intro p e s m args below meth c s₁ Bd hml0 hP hK
  obtain ⟨rfl, hZ, hh⟩ := hP
  have hx := Bd.exec
  have hby := Bd.bytes
  have hml : c.maxLocals = 6 := hml0
  have hown : s.vm.findClass "com/example/jiaoge/jiaoge/cli/CommandOption" = some m.cls := findClass_of_methodNamed Bd.named
  have hnm := (name_of_methodNamed Bd.named Bd.method).1
  have X0 : Stand p l e ({ frames := 2, cells := 0, slots := 0, locals := 24 } : Room) s m #[(.ref a), v1, v2, v3, (.int b1), (.int b2)] below meth c s₁ [] 0 0 := Stand.of_body Bd
  have e0 : s₁.heap = h0 := by rw [← hh, Bd.state]; rfl
  have N0 := Fr.nil n0
  have ef : entryFrame m #[(.ref a), v1, v2, v3, (.int b1), (.int b2)] 6 = mkF m 0 #[.val (.ref a), .val v1, .val v2, .val v3, .val (.int b1), .val (.int b2)] [] := by first | (simp [entryFrame, mkF, argsToLocals, Value.category]; done) | rfl | (rcases ref_cases r1 with rfl | ⟨_, rfl⟩ <;> rcases ref_cases r2 with rfl | ⟨_, rfl⟩ <;> rcases ref_cases r3 with rfl | ⟨_, rfl⟩ <;> simp [entryFrame, mkF, argsToLocals, Value.category])
  refine Fin.start (Q := Q_ini Z a v1 v2 v3 b1 b2 h0 n0) ef ?_
  show Fin _ _ _ _ _ _ _ (s₁.setTop (mkF m 0 #[.val (.ref a), .val v1, .val v2, .val v3, .val (.int b1), .val (.int b2)] []))
  refine Fin.by (fun t k => XS.aloadN X0.here hx rfl (hb hby d_prog_1_method_1_0) rfl rfl k) ?_
  show Fin _ _ _ _ _ _ _ (s₁.setTop (mkF m 1 #[.val (.ref a), .val v1, .val v2, .val v3, .val (.int b1), .val (.int b2)] [(.ref a)]))
  obtain ⟨v101, _, ⟨T101, L101, k101, n101⟩, -, X101, ⟨Lc101, hQ101, l101, y101, z101⟩, st101⟩ := X0.specialBack hx (y := (⟨"java/lang/Record", "<init>", "()V"⟩ : MethodName)) rfl hown (mvT hZ (hw _ (List.mem_of_getElem? (i := 57) rfl))) (mvT hZ (hw _ (List.mem_of_getElem? (i := 58) rfl))) (mvT hZ (hw _ (List.mem_of_getElem? (i := 61) rfl))) (by decide) (backOf (W := 0) (rm_rec l Z a0 hw [] a h0 n0 Z0 ) hZ (hw _ (List.mem_of_getElem? (i := 61) rfl)) (hw _ (List.mem_of_getElem? (i := 60) rfl)) (by decide) (by decide)) (g := (mkF m 1 #[.val (.ref a), .val v1, .val v2, .val v3, .val (.int b1), .val (.int b2)] [(.ref a)])) rfl (by rw [hml]; rfl) (Steps.refl _) (a := a) (argsL := []) (rest := []) (lenOf pd_146 rfl) rfl (by show 2 * 0 + _ ≤ _; exact Nat.le_of_eq rfl) (hb hby d_prog_1_method_1_1) (fun _ _ => ⟨rfl, e0, (by decide : 0 + 0 ≤ _), (by decide : 0 + 0 ≤ _)⟩)
  dsimp only [Pt.U, Pt.locs, Pt.cells, Pt.slots] at X101 l101 y101 z101 st101 hQ101
  subst l101 y101 z101
  obtain ⟨rfl, Nq101, e101_⟩ := hQ101
  have N101_ := Fr.app N0 Nq101
  refine Fin.byS st101 ?_
  have e101 := e101_
  show Fin _ _ _ _ _ _ _ (T101.setTop (mkF m 4 #[.val (.ref a), .val v1, .val v2, .val v3, .val (.int b1), .val (.int b2)] []))
  refine Fin.by (fun t k => XS.aloadN X101.here hx rfl (hb hby d_prog_1_method_1_4) rfl rfl k) ?_
  show Fin _ _ _ _ _ _ _ (T101.setTop (mkF m 5 #[.val (.ref a), .val v1, .val v2, .val v3, .val (.int b1), .val (.int b2)] [(.ref a)]))
  refine Fin.by (fun t k => XS.aloadN X101.here hx rfl (hb hby d_prog_1_method_1_5) rfl r1 k) ?_
  show Fin _ _ _ _ _ _ _ (T101.setTop (mkF m 6 #[.val (.ref a), .val v1, .val v2, .val v3, .val (.int b1), .val (.int b2)] [v1, (.ref a)]))
  obtain ⟨T102, h102, X102, e102, W102, st102⟩ := putF X101 hx hZ hown (host := "") (Or.inl (hw _ (List.mem_of_getElem? (i := 63) rfl))) Via.refl e101 Fname E0 (Or.inr ⟨(hw _ (List.mem_of_getElem? (i := 64) rfl)), rfl, hnm⟩) (hw _ (List.mem_of_getElem? (i := 49) rfl)) (ty := (.object "java/lang/String")) (by decide) (nar_ref _ r1) (fits_obj r1) (g := (mkF m 6 #[.val (.ref a), .val v1, .val v2, .val v3, .val (.int b1), .val (.int b2)] [v1, (.ref a)])) rfl rfl (hb hby d_prog_1_method_1_6)
  refine Fin.by (fun t k => st102 t k) ?_
  have N102_ := Fr.snoc X102 N101_ ga
  show Fin _ _ _ _ _ _ _ (T102.setTop (mkF m 9 #[.val (.ref a), .val v1, .val v2, .val v3, .val (.int b1), .val (.int b2)] []))
  refine Fin.by (fun t k => XS.aloadN X102.here hx rfl (hb hby d_prog_1_method_1_9) rfl rfl k) ?_
  show Fin _ _ _ _ _ _ _ (T102.setTop (mkF m 10 #[.val (.ref a), .val v1, .val v2, .val v3, .val (.int b1), .val (.int b2)] [(.ref a)]))
  refine Fin.by (fun t k => XS.aloadN X102.here hx rfl (hb hby d_prog_1_method_1_10) rfl r2 k) ?_
  show Fin _ _ _ _ _ _ _ (T102.setTop (mkF m 11 #[.val (.ref a), .val v1, .val v2, .val v3, .val (.int b1), .val (.int b2)] [v2, (.ref a)]))
  have F103 : Fld Z h102 a "com/example/jiaoge/jiaoge/cli/CommandOption" "label" "Ljava/lang/String;" .null := (Flabel.other W102 (Or.inr (slot_ne (Or.inr (hw _ (List.mem_of_getElem? (i := 66) rfl))) (Or.inr (hw _ (List.mem_of_getElem? (i := 64) rfl))) (by decide) (t := (.object "java/lang/String")) (t' := (.object "java/lang/String")) (by decide) (by decide))))
  have E104 : Exa Z h102 a "com/example/jiaoge/jiaoge/cli/CommandOption" := (E0.wr W102)
  obtain ⟨T105, h105, X105, e105, W105, st105⟩ := putF X102 hx hZ hown (host := "") (Or.inl (hw _ (List.mem_of_getElem? (i := 65) rfl))) Via.refl e102 F103 E104 (Or.inr ⟨(hw _ (List.mem_of_getElem? (i := 66) rfl)), rfl, hnm⟩) (hw _ (List.mem_of_getElem? (i := 49) rfl)) (ty := (.object "java/lang/String")) (by decide) (nar_ref _ r2) (fits_obj r2) (g := (mkF m 11 #[.val (.ref a), .val v1, .val v2, .val v3, .val (.int b1), .val (.int b2)] [v2, (.ref a)])) rfl rfl (hb hby d_prog_1_method_1_11)
  refine Fin.by (fun t k => st105 t k) ?_
  have N105_ := Fr.snoc X105 N102_ ga
  show Fin _ _ _ _ _ _ _ (T105.setTop (mkF m 14 #[.val (.ref a), .val v1, .val v2, .val v3, .val (.int b1), .val (.int b2)] []))
  refine Fin.by (fun t k => XS.aloadN X105.here hx rfl (hb hby d_prog_1_method_1_14) rfl rfl k) ?_
  show Fin _ _ _ _ _ _ _ (T105.setTop (mkF m 15 #[.val (.ref a), .val v1, .val v2, .val v3, .val (.int b1), .val (.int b2)] [(.ref a)]))
  refine Fin.by (fun t k => XS.aloadN X105.here hx rfl (hb hby d_prog_1_method_1_15) rfl r3 k) ?_
  show Fin _ _ _ _ _ _ _ (T105.setTop (mkF m 16 #[.val (.ref a), .val v1, .val v2, .val v3, .val (.int b1), .val (.int b2)] [v3, (.ref a)]))
  have F106 : Fld Z h105 a "com/example/jiaoge/jiaoge/cli/CommandOption" "help" "Ljava/lang/String;" .null := ((Fhelp.other W102 (Or.inr (slot_ne (Or.inr (hw _ (List.mem_of_getElem? (i := 68) rfl))) (Or.inr (hw _ (List.mem_of_getElem? (i := 64) rfl))) (by decide) (t := (.object "java/lang/String")) (t' := (.object "java/lang/String")) (by decide) (by decide)))).other W105 (Or.inr (slot_ne (Or.inr (hw _ (List.mem_of_getElem? (i := 68) rfl))) (Or.inr (hw _ (List.mem_of_getElem? (i := 66) rfl))) (by decide) (t := (.object "java/lang/String")) (t' := (.object "java/lang/String")) (by decide) (by decide))))
  have E107 : Exa Z h105 a "com/example/jiaoge/jiaoge/cli/CommandOption" := (E104.wr W105)
  obtain ⟨T108, h108, X108, e108, W108, st108⟩ := putF X105 hx hZ hown (host := "") (Or.inl (hw _ (List.mem_of_getElem? (i := 67) rfl))) Via.refl e105 F106 E107 (Or.inr ⟨(hw _ (List.mem_of_getElem? (i := 68) rfl)), rfl, hnm⟩) (hw _ (List.mem_of_getElem? (i := 49) rfl)) (ty := (.object "java/lang/String")) (by decide) (nar_ref _ r3) (fits_obj r3) (g := (mkF m 16 #[.val (.ref a), .val v1, .val v2, .val v3, .val (.int b1), .val (.int b2)] [v3, (.ref a)])) rfl rfl (hb hby d_prog_1_method_1_16)
  refine Fin.by (fun t k => st108 t k) ?_
  have N108_ := Fr.snoc X108 N105_ ga
  show Fin _ _ _ _ _ _ _ (T108.setTop (mkF m 19 #[.val (.ref a), .val v1, .val v2, .val v3, .val (.int b1), .val (.int b2)] []))
  refine Fin.by (fun t k => XS.aloadN X108.here hx rfl (hb hby d_prog_1_method_1_19) rfl rfl k) ?_
  show Fin _ _ _ _ _ _ _ (T108.setTop (mkF m 20 #[.val (.ref a), .val v1, .val v2, .val v3, .val (.int b1), .val (.int b2)] [(.ref a)]))
  refine Fin.by (fun t k => XS.iload X108.here hx rfl (hb hby d_prog_1_method_1_20) rfl k) ?_
  show Fin _ _ _ _ _ _ _ (T108.setTop (mkF m 22 #[.val (.ref a), .val v1, .val v2, .val v3, .val (.int b1), .val (.int b2)] [(.int b1), (.ref a)]))
  have F109 : Fld Z h108 a "com/example/jiaoge/jiaoge/cli/CommandOption" "required" "Z" (.int (0 : Int32)) := (((Frequired.other W102 (Or.inr (slot_ne (Or.inr (hw _ (List.mem_of_getElem? (i := 70) rfl))) (Or.inr (hw _ (List.mem_of_getElem? (i := 64) rfl))) (by decide) (t := .boolean) (t' := (.object "java/lang/String")) (by decide) (by decide)))).other W105 (Or.inr (slot_ne (Or.inr (hw _ (List.mem_of_getElem? (i := 70) rfl))) (Or.inr (hw _ (List.mem_of_getElem? (i := 66) rfl))) (by decide) (t := .boolean) (t' := (.object "java/lang/String")) (by decide) (by decide)))).other W108 (Or.inr (slot_ne (Or.inr (hw _ (List.mem_of_getElem? (i := 70) rfl))) (Or.inr (hw _ (List.mem_of_getElem? (i := 68) rfl))) (by decide) (t := .boolean) (t' := (.object "java/lang/String")) (by decide) (by decide))))
  have E110 : Exa Z h108 a "com/example/jiaoge/jiaoge/cli/CommandOption" := (E107.wr W108)
  obtain ⟨T111, h111, X111, e111, W111, st111⟩ := putFN X108 hx hZ hown (hw _ (List.mem_of_getElem? (i := 69) rfl)) Via.refl e108 F109 E110 (Or.inr ⟨(hw _ (List.mem_of_getElem? (i := 70) rfl)), rfl, hnm⟩) (hw _ (List.mem_of_getElem? (i := 49) rfl)) (ty := .boolean) (v' := .int (nar .boolean b1)) (by decide) rfl (fits_nar_bool _) (g := (mkF m 22 #[.val (.ref a), .val v1, .val v2, .val v3, .val (.int b1), .val (.int b2)] [(.int b1), (.ref a)])) rfl rfl (hb hby d_prog_1_method_1_22)
  refine Fin.by (fun t k => st111 t k) ?_
  have N111_ := Fr.snoc X111 N108_ ga
  show Fin _ _ _ _ _ _ _ (T111.setTop (mkF m 25 #[.val (.ref a), .val v1, .val v2, .val v3, .val (.int b1), .val (.int b2)] []))
  refine Fin.by (fun t k => XS.aloadN X111.here hx rfl (hb hby d_prog_1_method_1_25) rfl rfl k) ?_
  show Fin _ _ _ _ _ _ _ (T111.setTop (mkF m 26 #[.val (.ref a), .val v1, .val v2, .val v3, .val (.int b1), .val (.int b2)] [(.ref a)]))
  refine Fin.by (fun t k => XS.iload X111.here hx rfl (hb hby d_prog_1_method_1_26) rfl k) ?_
  show Fin _ _ _ _ _ _ _ (T111.setTop (mkF m 28 #[.val (.ref a), .val v1, .val v2, .val v3, .val (.int b1), .val (.int b2)] [(.int b2), (.ref a)]))
  have F112 : Fld Z h111 a "com/example/jiaoge/jiaoge/cli/CommandOption" "repeatable" "Z" (.int (0 : Int32)) := ((((Frepeatable.other W102 (Or.inr (slot_ne (Or.inr (hw _ (List.mem_of_getElem? (i := 72) rfl))) (Or.inr (hw _ (List.mem_of_getElem? (i := 64) rfl))) (by decide) (t := .boolean) (t' := (.object "java/lang/String")) (by decide) (by decide)))).other W105 (Or.inr (slot_ne (Or.inr (hw _ (List.mem_of_getElem? (i := 72) rfl))) (Or.inr (hw _ (List.mem_of_getElem? (i := 66) rfl))) (by decide) (t := .boolean) (t' := (.object "java/lang/String")) (by decide) (by decide)))).other W108 (Or.inr (slot_ne (Or.inr (hw _ (List.mem_of_getElem? (i := 72) rfl))) (Or.inr (hw _ (List.mem_of_getElem? (i := 68) rfl))) (by decide) (t := .boolean) (t' := (.object "java/lang/String")) (by decide) (by decide)))).other W111 (Or.inr (slot_ne (Or.inr (hw _ (List.mem_of_getElem? (i := 72) rfl))) (Or.inr (hw _ (List.mem_of_getElem? (i := 70) rfl))) (by decide) (t := .boolean) (t' := .boolean) (by decide) (by decide))))
  have E113 : Exa Z h111 a "com/example/jiaoge/jiaoge/cli/CommandOption" := (E110.wr W111)
  obtain ⟨T114, h114, X114, e114, W114, st114⟩ := putFN X111 hx hZ hown (hw _ (List.mem_of_getElem? (i := 71) rfl)) Via.refl e111 F112 E113 (Or.inr ⟨(hw _ (List.mem_of_getElem? (i := 72) rfl)), rfl, hnm⟩) (hw _ (List.mem_of_getElem? (i := 49) rfl)) (ty := .boolean) (v' := .int (nar .boolean b2)) (by decide) rfl (fits_nar_bool _) (g := (mkF m 28 #[.val (.ref a), .val v1, .val v2, .val v3, .val (.int b1), .val (.int b2)] [(.int b2), (.ref a)])) rfl rfl (hb hby d_prog_1_method_1_28)
  refine Fin.by (fun t k => st114 t k) ?_
  have N114_ := Fr.snoc X114 N111_ ga
  show Fin _ _ _ _ _ _ _ (T114.setTop (mkF m 31 #[.val (.ref a), .val v1, .val v2, .val v3, .val (.int b1), .val (.int b2)] []))
  have kp115 : Keep h0 h102 [a] := (Keep.refl h0 [a]).wr W102 (Or.inl (List.mem_of_getElem? (i := 0) rfl))
  have kp116 : Keep h0 h105 [a] := kp115.wr W105 (Or.inl (List.mem_of_getElem? (i := 0) rfl))
  have kp117 : Keep h0 h108 [a] := kp116.wr W108 (Or.inl (List.mem_of_getElem? (i := 0) rfl))
  have kp118 : Keep h0 h111 [a] := kp117.wr W111 (Or.inl (List.mem_of_getElem? (i := 0) rfl))
  have kp119 : Keep h0 h114 [a] := kp118.wr W114 (Or.inl (List.mem_of_getElem? (i := 0) rfl))
  have E120 : Exa Z h114 a "com/example/jiaoge/jiaoge/cli/CommandOption" := (E113.wr W114)
  have F121 : Fld Z h114 a "com/example/jiaoge/jiaoge/cli/CommandOption" "label" "Ljava/lang/String;" v2 := ((((F103.same W105).other W108 (Or.inr (slot_ne (Or.inr (hw _ (List.mem_of_getElem? (i := 66) rfl))) (Or.inr (hw _ (List.mem_of_getElem? (i := 68) rfl))) (by decide) (t := (.object "java/lang/String")) (t' := (.object "java/lang/String")) (by decide) (by decide)))).other W111 (Or.inr (slot_ne (Or.inr (hw _ (List.mem_of_getElem? (i := 66) rfl))) (Or.inr (hw _ (List.mem_of_getElem? (i := 70) rfl))) (by decide) (t := (.object "java/lang/String")) (t' := .boolean) (by decide) (by decide)))).other W114 (Or.inr (slot_ne (Or.inr (hw _ (List.mem_of_getElem? (i := 66) rfl))) (Or.inr (hw _ (List.mem_of_getElem? (i := 72) rfl))) (by decide) (t := (.object "java/lang/String")) (t' := .boolean) (by decide) (by decide))))
  exact Fin.ret (v := none) X114 (fun _ => rfl) Bd.notSynchronized (by rw [e114]; exact ⟨rfl, N114_, kp119, E120, F121⟩) (by decide) (by decide) (fun fs hr => X114.returnOut hx Bd.returns (hb hby d_prog_1_method_1_31) hr)
theorem d_prog_1_method_2_0 : decode prog_1_method_2_code 0 = .ok (.new 8, 3) := by decide +kernel
theorem d_prog_1_method_2_3 : decode prog_1_method_2_code 3 = .ok (.dup, 1) := by decide +kernel
theorem d_prog_1_method_2_4 : decode prog_1_method_2_code 4 = .ok (.aload_n 0, 1) := by decide +kernel
theorem d_prog_1_method_2_5 : decode prog_1_method_2_code 5 = .ok (.aload_n 1, 1) := by decide +kernel
theorem d_prog_1_method_2_6 : decode prog_1_method_2_code 6 = .ok (.aload_n 2, 1) := by decide +kernel
theorem d_prog_1_method_2_7 : decode prog_1_method_2_code 7 = .ok (.iconst 1, 1) := by decide +kernel
theorem d_prog_1_method_2_8 : decode prog_1_method_2_code 8 = .ok (.iconst 0, 1) := by decide +kernel
theorem pd_172 : parseMethodDescriptor "(Ljava/lang/String;Ljava/lang/String;Ljava/lang/String;ZZ)V" = some ⟨[(.object "java/lang/String"), (.object "java/lang/String"), (.object "java/lang/String"), .boolean, .boolean], none⟩ := by decide +kernel
theorem d_prog_1_method_2_9 : decode prog_1_method_2_code 9 = .ok (.invokespecial 26, 3) := by decide +kernel
theorem d_prog_1_method_2_12 : decode prog_1_method_2_code 12 = .ok (.areturn, 1) := by decide +kernel
def Q_f_required (Z : State) (v1 : Value) (v2 : Value) (v3 : Value) (h0 : Heap) (n0 : Nat) (vv_ : Option Value) (hh_ : Heap) (LL_ : List Loc) : Prop := ∃ (t : Addr), vv_ = some (.ref t) ∧ Fr n0 LL_ ∧ Keep h0 hh_ [] ∧ h0.size ≤ t ∧ Exa Z hh_ t "com/example/jiaoge/jiaoge/cli/CommandOption" ∧ Fld Z hh_ t "com/example/jiaoge/jiaoge/cli/CommandOption" "label" "Ljava/lang/String;" v2
set_option maxRecDepth 65536 in
set_option maxHeartbeats 40000000 in
theorem rm_f_required (l : Launch) (Z : State) (a0 : Array Value) (hw : ∀ d ∈ tables_1, d.before a0 Z = true) (ws : List Jvm.Cond) (v1 : Value) (v2 : Value) (v3 : Value) (h0 : Heap) (n0 : Nat) (Z0 : n0 ≤ h0.size) (r1 : v1.isRef = true) (r2 : v2.isRef = true) (r3 : v3.isRef = true) :
    MetFree l (⟨"com/example/jiaoge/jiaoge/cli/CommandOption", "required", "(Ljava/lang/String;Ljava/lang/String;Ljava/lang/String;)Lcom/example/jiaoge/jiaoge/cli/CommandOption;"⟩ : MethodName) (head1 (Jvm.Cond.code (⟨"com/example/jiaoge/jiaoge/cli/CommandOption", "required", "(Ljava/lang/String;Ljava/lang/String;Ljava/lang/String;)Lcom/example/jiaoge/jiaoge/cli/CommandOption;"⟩ : MethodName) prog_1_method_2_code 3 (some (.object "com/example/jiaoge/jiaoge/cli/CommandOption")) :: ws) ({ frames := 3, cells := 1, slots := 5, locals := 42 } : Room)) (fun aa_ U => aa_ = #[v1, v2, v3] ∧ Z.Warmed39 U.vm ∧ U.heap = h0) (fun _ _ _ _ _ => True) (fun _ U o U' => ∃ vv_ LL_, o = .returned vv_ ∧ Q_f_required Z v1 v2 v3 h0 n0 vv_ U'.heap LL_ ∧ FrameEnd U o U' LL_ 1 5) := by
  refine MetFree.of_bodySF (plainFor_of_name pn_com_example_jiaoge_jiaoge_cli_CommandOption) hisR ?_
  intro p e s m args below meth c s₁ Bd hml0 hP hK
  obtain ⟨rfl, hZ, hh⟩ := hP
  have hx := Bd.exec
  have hby := Bd.bytes
  have hml : c.maxLocals = 3 := hml0
  have hown : s.vm.findClass "com/example/jiaoge/jiaoge/cli/CommandOption" = some m.cls := findClass_of_methodNamed Bd.named
  have hnm := (name_of_methodNamed Bd.named Bd.method).1
  have X0 : Stand p l e ({ frames := 3, cells := 1, slots := 5, locals := 42 } : Room) s m #[v1, v2, v3] below meth c s₁ [] 0 0 := Stand.of_body Bd
  have e0 : s₁.heap = h0 := by rw [← hh, Bd.state]; rfl
  have N0 := Fr.nil n0
  have ef : entryFrame m #[v1, v2, v3] 3 = mkF m 0 #[.val v1, .val v2, .val v3] [] := by first | (simp [entryFrame, mkF, argsToLocals, Value.category]; done) | rfl | (rcases ref_cases r1 with rfl | ⟨_, rfl⟩ <;> rcases ref_cases r2 with rfl | ⟨_, rfl⟩ <;> rcases ref_cases r3 with rfl | ⟨_, rfl⟩ <;> simp [entryFrame, mkF, argsToLocals, Value.category])
  refine Fin.start (Q := Q_f_required Z v1 v2 v3 h0 n0) ef ?_
  show Fin _ _ _ _ _ _ _ (s₁.setTop (mkF m 0 #[.val v1, .val v2, .val v3] []))
  obtain ⟨T101, h101, X101, e101, E101, A101, D101, -, st101⟩ := newO X0 hx hZ hown (hw _ (List.mem_of_getElem? (i := 81) rfl)) (hw _ (List.mem_of_getElem? (i := 49) rfl)) (hw _ (List.mem_of_getElem? (i := 50) rfl)) e0 (g := (mkF m 0 #[.val v1, .val v2, .val v3] [])) rfl (hb hby d_prog_1_method_2_0) (by decide) (by decide)
  obtain ⟨a101, g101⟩ : ∃ z, z = h0.size := ⟨_, rfl⟩
  rw [← g101] at A101 D101 st101
  refine Fin.by (fun t k => st101 t k) ?_
  show Fin _ _ _ _ _ _ _ (T101.setTop (mkF m 3 #[.val v1, .val v2, .val v3] [(.ref a101)]))
  refine Fin.by (fun t k => XS.dup X101.here hx rfl (hb hby d_prog_1_method_2_3) rfl rfl k) ?_
  show Fin _ _ _ _ _ _ _ (T101.setTop (mkF m 4 #[.val v1, .val v2, .val v3] [(.ref a101), (.ref a101)]))
  refine Fin.by (fun t k => XS.aloadN X101.here hx rfl (hb hby d_prog_1_method_2_4) rfl r1 k) ?_
  show Fin _ _ _ _ _ _ _ (T101.setTop (mkF m 5 #[.val v1, .val v2, .val v3] [v1, (.ref a101), (.ref a101)]))
  refine Fin.by (fun t k => XS.aloadN X101.here hx rfl (hb hby d_prog_1_method_2_5) rfl r2 k) ?_
  show Fin _ _ _ _ _ _ _ (T101.setTop (mkF m 6 #[.val v1, .val v2, .val v3] [v2, v1, (.ref a101), (.ref a101)]))
  refine Fin.by (fun t k => XS.aloadN X101.here hx rfl (hb hby d_prog_1_method_2_6) rfl r3 k) ?_
  show Fin _ _ _ _ _ _ _ (T101.setTop (mkF m 7 #[.val v1, .val v2, .val v3] [v3, v2, v1, (.ref a101), (.ref a101)]))
  refine Fin.by (fun t k => XS.iconst X101.here hx rfl (hb hby d_prog_1_method_2_7) k) ?_
  show Fin _ _ _ _ _ _ _ (T101.setTop (mkF m 8 #[.val v1, .val v2, .val v3] [(.int (1 : Int32)), v3, v2, v1, (.ref a101), (.ref a101)]))
  refine Fin.by (fun t k => XS.iconst X101.here hx rfl (hb hby d_prog_1_method_2_8) k) ?_
  show Fin _ _ _ _ _ _ _ (T101.setTop (mkF m 9 #[.val v1, .val v2, .val v3] [(.int (0 : Int32)), (.int (1 : Int32)), v3, v2, v1, (.ref a101), (.ref a101)]))
  have g102 : n0 ≤ a101 := Nat.le_trans Z0 (Nat.le_of_eq g101.symm)
  have z103 : n0 ≤ h101.size := Nat.le_trans Z0 E101.1
  obtain ⟨v104, _, ⟨T104, L104, k104, n104⟩, -, X104, ⟨Lc104, hQ104, l104, y104, z104⟩, st104⟩ := X101.specialBack hx (y := (⟨"com/example/jiaoge/jiaoge/cli/CommandOption", "<init>", "(Ljava/lang/String;Ljava/lang/String;Ljava/lang/String;ZZ)V"⟩ : MethodName)) rfl hown (mvT hZ (hw _ (List.mem_of_getElem? (i := 82) rfl))) (mvT hZ (hw _ (List.mem_of_getElem? (i := 55) rfl))) (mvT hZ (hw _ (List.mem_of_getElem? (i := 56) rfl))) (by decide) (backOf (W := 1) (rm_ini l Z a0 hw [] a101 v1 v2 v3 (1 : Int32) (0 : Int32) h101 n0 z103 A101 (D101 (Or.inr (hw _ (List.mem_of_getElem? (i := 64) rfl))) (ty := (.object "java/lang/String")) (by decide) : Fld Z h101 a101 "com/example/jiaoge/jiaoge/cli/CommandOption" "name" "Ljava/lang/String;" .null) (D101 (Or.inr (hw _ (List.mem_of_getElem? (i := 66) rfl))) (ty := (.object "java/lang/String")) (by decide) : Fld Z h101 a101 "com/example/jiaoge/jiaoge/cli/CommandOption" "label" "Ljava/lang/String;" .null) (D101 (Or.inr (hw _ (List.mem_of_getElem? (i := 68) rfl))) (ty := (.object "java/lang/String")) (by decide) : Fld Z h101 a101 "com/example/jiaoge/jiaoge/cli/CommandOption" "help" "Ljava/lang/String;" .null) (D101 (Or.inr (hw _ (List.mem_of_getElem? (i := 70) rfl))) (ty := .boolean) (by decide) : Fld Z h101 a101 "com/example/jiaoge/jiaoge/cli/CommandOption" "required" "Z" (.int (0 : Int32))) (D101 (Or.inr (hw _ (List.mem_of_getElem? (i := 72) rfl))) (ty := .boolean) (by decide) : Fld Z h101 a101 "com/example/jiaoge/jiaoge/cli/CommandOption" "repeatable" "Z" (.int (0 : Int32))) g102 r1 r2 r3) hZ (hw _ (List.mem_of_getElem? (i := 56) rfl)) (hw _ (List.mem_of_getElem? (i := 50) rfl)) (by decide) (by decide)) (g := (mkF m 9 #[.val v1, .val v2, .val v3] [(.int (0 : Int32)), (.int (1 : Int32)), v3, v2, v1, (.ref a101), (.ref a101)])) rfl (by rw [hml]; rfl) (Steps.refl _) (a := a101) (argsL := [v1, v2, v3, (.int (1 : Int32)), (.int (0 : Int32))]) (rest := [(.ref a101)]) (lenOf pd_172 rfl) rfl (by show 2 * 0 + _ ≤ _; exact Nat.le_of_eq rfl) (hb hby d_prog_1_method_2_9) (fun _ _ => ⟨rfl, e101, (by decide : 1 + 0 ≤ _), (by decide : 5 + 0 ≤ _)⟩)
  dsimp only [Pt.U, Pt.locs, Pt.cells, Pt.slots] at X104 l104 y104 z104 st104 hQ104
  subst l104 y104 z104
  obtain ⟨rfl, Nq104, p104_0, p104_1, p104_2⟩ := hQ104
  have N104_ := Fr.app N0 Nq104
  refine Fin.byS st104 ?_
  show Fin _ _ _ _ _ _ _ (T104.setTop (mkF m 12 #[.val v1, .val v2, .val v3] [(.ref a101)]))
  have kp105 : Keep h0 h101 [] := (Keep.refl h0 []).ext E101
  have kp106 : Keep h0 T104.heap [] := kp105.trans p104_0 (allS (Or.inr (Nat.le_trans (Nat.le_refl _) (Nat.le_of_eq g101.symm))) all0)
  exact Fin.ret (v := some (.ref a101)) X104 (fun h => by rw [Bd.returns] at h; cases h) Bd.notSynchronized (⟨a101, rfl, N104_, kp106, (Nat.le_trans (Nat.le_refl _) (Nat.le_of_eq g101.symm)), p104_1, p104_2⟩) (by decide) (by decide) (fun fs hr => retA X104 hx Bd.returns rfl rfl (hb hby d_prog_1_method_2_12) hr)
theorem d_prog_1_method_3_0 : decode prog_1_method_3_code 0 = .ok (.new 8, 3) := by decide +kernel
theorem d_prog_1_method_3_3 : decode prog_1_method_3_code 3 = .ok (.dup, 1) := by decide +kernel
theorem d_prog_1_method_3_4 : decode prog_1_method_3_code 4 = .ok (.aload_n 0, 1) := by decide +kernel
theorem d_prog_1_method_3_5 : decode prog_1_method_3_code 5 = .ok (.aload_n 1, 1) := by decide +kernel
theorem d_prog_1_method_3_6 : decode prog_1_method_3_code 6 = .ok (.aload_n 2, 1) := by decide +kernel
theorem d_prog_1_method_3_7 : decode prog_1_method_3_code 7 = .ok (.iconst 0, 1) := by decide +kernel
theorem d_prog_1_method_3_8 : decode prog_1_method_3_code 8 = .ok (.iconst 0, 1) := by decide +kernel
theorem d_prog_1_method_3_9 : decode prog_1_method_3_code 9 = .ok (.invokespecial 26, 3) := by decide +kernel
theorem d_prog_1_method_3_12 : decode prog_1_method_3_code 12 = .ok (.areturn, 1) := by decide +kernel
def Q_f_optional (Z : State) (v1 : Value) (v2 : Value) (v3 : Value) (h0 : Heap) (n0 : Nat) (vv_ : Option Value) (hh_ : Heap) (LL_ : List Loc) : Prop := ∃ (t : Addr), vv_ = some (.ref t) ∧ Fr n0 LL_ ∧ Keep h0 hh_ [] ∧ h0.size ≤ t ∧ Exa Z hh_ t "com/example/jiaoge/jiaoge/cli/CommandOption" ∧ Fld Z hh_ t "com/example/jiaoge/jiaoge/cli/CommandOption" "label" "Ljava/lang/String;" v2
set_option maxRecDepth 65536 in
set_option maxHeartbeats 40000000 in
theorem rm_f_optional (l : Launch) (Z : State) (a0 : Array Value) (hw : ∀ d ∈ tables_1, d.before a0 Z = true) (ws : List Jvm.Cond) (v1 : Value) (v2 : Value) (v3 : Value) (h0 : Heap) (n0 : Nat) (Z0 : n0 ≤ h0.size) (r1 : v1.isRef = true) (r2 : v2.isRef = true) (r3 : v3.isRef = true) :
    MetFree l (⟨"com/example/jiaoge/jiaoge/cli/CommandOption", "optional", "(Ljava/lang/String;Ljava/lang/String;Ljava/lang/String;)Lcom/example/jiaoge/jiaoge/cli/CommandOption;"⟩ : MethodName) (head1 (Jvm.Cond.code (⟨"com/example/jiaoge/jiaoge/cli/CommandOption", "optional", "(Ljava/lang/String;Ljava/lang/String;Ljava/lang/String;)Lcom/example/jiaoge/jiaoge/cli/CommandOption;"⟩ : MethodName) prog_1_method_3_code 3 (some (.object "com/example/jiaoge/jiaoge/cli/CommandOption")) :: ws) ({ frames := 3, cells := 1, slots := 5, locals := 42 } : Room)) (fun aa_ U => aa_ = #[v1, v2, v3] ∧ Z.Warmed39 U.vm ∧ U.heap = h0) (fun _ _ _ _ _ => True) (fun _ U o U' => ∃ vv_ LL_, o = .returned vv_ ∧ Q_f_optional Z v1 v2 v3 h0 n0 vv_ U'.heap LL_ ∧ FrameEnd U o U' LL_ 1 5) := by
  refine MetFree.of_bodySF (plainFor_of_name pn_com_example_jiaoge_jiaoge_cli_CommandOption) hisR ?_
  intro p e s m args below meth c s₁ Bd hml0 hP hK
  obtain ⟨rfl, hZ, hh⟩ := hP
  have hx := Bd.exec
  have hby := Bd.bytes
  have hml : c.maxLocals = 3 := hml0
  have hown : s.vm.findClass "com/example/jiaoge/jiaoge/cli/CommandOption" = some m.cls := findClass_of_methodNamed Bd.named
  have hnm := (name_of_methodNamed Bd.named Bd.method).1
  have X0 : Stand p l e ({ frames := 3, cells := 1, slots := 5, locals := 42 } : Room) s m #[v1, v2, v3] below meth c s₁ [] 0 0 := Stand.of_body Bd
  have e0 : s₁.heap = h0 := by rw [← hh, Bd.state]; rfl
  have N0 := Fr.nil n0
  have ef : entryFrame m #[v1, v2, v3] 3 = mkF m 0 #[.val v1, .val v2, .val v3] [] := by first | (simp [entryFrame, mkF, argsToLocals, Value.category]; done) | rfl | (rcases ref_cases r1 with rfl | ⟨_, rfl⟩ <;> rcases ref_cases r2 with rfl | ⟨_, rfl⟩ <;> rcases ref_cases r3 with rfl | ⟨_, rfl⟩ <;> simp [entryFrame, mkF, argsToLocals, Value.category])
  refine Fin.start (Q := Q_f_optional Z v1 v2 v3 h0 n0) ef ?_
  show Fin _ _ _ _ _ _ _ (s₁.setTop (mkF m 0 #[.val v1, .val v2, .val v3] []))
  obtain ⟨T101, h101, X101, e101, E101, A101, D101, -, st101⟩ := newO X0 hx hZ hown (hw _ (List.mem_of_getElem? (i := 81) rfl)) (hw _ (List.mem_of_getElem? (i := 49) rfl)) (hw _ (List.mem_of_getElem? (i := 50) rfl)) e0 (g := (mkF m 0 #[.val v1, .val v2, .val v3] [])) rfl (hb hby d_prog_1_method_3_0) (by decide) (by decide)
  obtain ⟨a101, g101⟩ : ∃ z, z = h0.size := ⟨_, rfl⟩
  rw [← g101] at A101 D101 st101
  refine Fin.by (fun t k => st101 t k) ?_
  show Fin _ _ _ _ _ _ _ (T101.setTop (mkF m 3 #[.val v1, .val v2, .val v3] [(.ref a101)]))
  refine Fin.by (fun t k => XS.dup X101.here hx rfl (hb hby d_prog_1_method_3_3) rfl rfl k) ?_
  show Fin _ _ _ _ _ _ _ (T101.setTop (mkF m 4 #[.val v1, .val v2, .val v3] [(.ref a101), (.ref a101)]))
  refine Fin.by (fun t k => XS.aloadN X101.here hx rfl (hb hby d_prog_1_method_3_4) rfl r1 k) ?_
  show Fin _ _ _ _ _ _ _ (T101.setTop (mkF m 5 #[.val v1, .val v2, .val v3] [v1, (.ref a101), (.ref a101)]))
  refine Fin.by (fun t k => XS.aloadN X101.here hx rfl (hb hby d_prog_1_method_3_5) rfl r2 k) ?_
  show Fin _ _ _ _ _ _ _ (T101.setTop (mkF m 6 #[.val v1, .val v2, .val v3] [v2, v1, (.ref a101), (.ref a101)]))
  refine Fin.by (fun t k => XS.aloadN X101.here hx rfl (hb hby d_prog_1_method_3_6) rfl r3 k) ?_
  show Fin _ _ _ _ _ _ _ (T101.setTop (mkF m 7 #[.val v1, .val v2, .val v3] [v3, v2, v1, (.ref a101), (.ref a101)]))
  refine Fin.by (fun t k => XS.iconst X101.here hx rfl (hb hby d_prog_1_method_3_7) k) ?_
  show Fin _ _ _ _ _ _ _ (T101.setTop (mkF m 8 #[.val v1, .val v2, .val v3] [(.int (0 : Int32)), v3, v2, v1, (.ref a101), (.ref a101)]))
  refine Fin.by (fun t k => XS.iconst X101.here hx rfl (hb hby d_prog_1_method_3_8) k) ?_
  show Fin _ _ _ _ _ _ _ (T101.setTop (mkF m 9 #[.val v1, .val v2, .val v3] [(.int (0 : Int32)), (.int (0 : Int32)), v3, v2, v1, (.ref a101), (.ref a101)]))
  have g102 : n0 ≤ a101 := Nat.le_trans Z0 (Nat.le_of_eq g101.symm)
  have z103 : n0 ≤ h101.size := Nat.le_trans Z0 E101.1
  obtain ⟨v104, _, ⟨T104, L104, k104, n104⟩, -, X104, ⟨Lc104, hQ104, l104, y104, z104⟩, st104⟩ := X101.specialBack hx (y := (⟨"com/example/jiaoge/jiaoge/cli/CommandOption", "<init>", "(Ljava/lang/String;Ljava/lang/String;Ljava/lang/String;ZZ)V"⟩ : MethodName)) rfl hown (mvT hZ (hw _ (List.mem_of_getElem? (i := 82) rfl))) (mvT hZ (hw _ (List.mem_of_getElem? (i := 55) rfl))) (mvT hZ (hw _ (List.mem_of_getElem? (i := 56) rfl))) (by decide) (backOf (W := 1) (rm_ini l Z a0 hw [] a101 v1 v2 v3 (0 : Int32) (0 : Int32) h101 n0 z103 A101 (D101 (Or.inr (hw _ (List.mem_of_getElem? (i := 64) rfl))) (ty := (.object "java/lang/String")) (by decide) : Fld Z h101 a101 "com/example/jiaoge/jiaoge/cli/CommandOption" "name" "Ljava/lang/String;" .null) (D101 (Or.inr (hw _ (List.mem_of_getElem? (i := 66) rfl))) (ty := (.object "java/lang/String")) (by decide) : Fld Z h101 a101 "com/example/jiaoge/jiaoge/cli/CommandOption" "label" "Ljava/lang/String;" .null) (D101 (Or.inr (hw _ (List.mem_of_getElem? (i := 68) rfl))) (ty := (.object "java/lang/String")) (by decide) : Fld Z h101 a101 "com/example/jiaoge/jiaoge/cli/CommandOption" "help" "Ljava/lang/String;" .null) (D101 (Or.inr (hw _ (List.mem_of_getElem? (i := 70) rfl))) (ty := .boolean) (by decide) : Fld Z h101 a101 "com/example/jiaoge/jiaoge/cli/CommandOption" "required" "Z" (.int (0 : Int32))) (D101 (Or.inr (hw _ (List.mem_of_getElem? (i := 72) rfl))) (ty := .boolean) (by decide) : Fld Z h101 a101 "com/example/jiaoge/jiaoge/cli/CommandOption" "repeatable" "Z" (.int (0 : Int32))) g102 r1 r2 r3) hZ (hw _ (List.mem_of_getElem? (i := 56) rfl)) (hw _ (List.mem_of_getElem? (i := 50) rfl)) (by decide) (by decide)) (g := (mkF m 9 #[.val v1, .val v2, .val v3] [(.int (0 : Int32)), (.int (0 : Int32)), v3, v2, v1, (.ref a101), (.ref a101)])) rfl (by rw [hml]; rfl) (Steps.refl _) (a := a101) (argsL := [v1, v2, v3, (.int (0 : Int32)), (.int (0 : Int32))]) (rest := [(.ref a101)]) (lenOf pd_172 rfl) rfl (by show 2 * 0 + _ ≤ _; exact Nat.le_of_eq rfl) (hb hby d_prog_1_method_3_9) (fun _ _ => ⟨rfl, e101, (by decide : 1 + 0 ≤ _), (by decide : 5 + 0 ≤ _)⟩)
  dsimp only [Pt.U, Pt.locs, Pt.cells, Pt.slots] at X104 l104 y104 z104 st104 hQ104
  subst l104 y104 z104
  obtain ⟨rfl, Nq104, p104_0, p104_1, p104_2⟩ := hQ104
  have N104_ := Fr.app N0 Nq104
  refine Fin.byS st104 ?_
  show Fin _ _ _ _ _ _ _ (T104.setTop (mkF m 12 #[.val v1, .val v2, .val v3] [(.ref a101)]))
  have kp105 : Keep h0 h101 [] := (Keep.refl h0 []).ext E101
  have kp106 : Keep h0 T104.heap [] := kp105.trans p104_0 (allS (Or.inr (Nat.le_trans (Nat.le_refl _) (Nat.le_of_eq g101.symm))) all0)
  exact Fin.ret (v := some (.ref a101)) X104 (fun h => by rw [Bd.returns] at h; cases h) Bd.notSynchronized (⟨a101, rfl, N104_, kp106, (Nat.le_trans (Nat.le_refl _) (Nat.le_of_eq g101.symm)), p104_1, p104_2⟩) (by decide) (by decide) (fun fs hr => retA X104 hx Bd.returns rfl rfl (hb hby d_prog_1_method_3_12) hr)
theorem d_prog_1_method_4_0 : decode prog_1_method_4_code 0 = .ok (.new 8, 3) := by decide +kernel
theorem d_prog_1_method_4_3 : decode prog_1_method_4_code 3 = .ok (.dup, 1) := by decide +kernel
theorem d_prog_1_method_4_4 : decode prog_1_method_4_code 4 = .ok (.aload_n 0, 1) := by decide +kernel
theorem d_prog_1_method_4_5 : decode prog_1_method_4_code 5 = .ok (.aload_n 1, 1) := by decide +kernel
theorem d_prog_1_method_4_6 : decode prog_1_method_4_code 6 = .ok (.aload_n 2, 1) := by decide +kernel
theorem d_prog_1_method_4_7 : decode prog_1_method_4_code 7 = .ok (.iconst 0, 1) := by decide +kernel
theorem d_prog_1_method_4_8 : decode prog_1_method_4_code 8 = .ok (.iconst 1, 1) := by decide +kernel
theorem d_prog_1_method_4_9 : decode prog_1_method_4_code 9 = .ok (.invokespecial 26, 3) := by decide +kernel
theorem d_prog_1_method_4_12 : decode prog_1_method_4_code 12 = .ok (.areturn, 1) := by decide +kernel
def Q_f_repeatable (Z : State) (v1 : Value) (v2 : Value) (v3 : Value) (h0 : Heap) (n0 : Nat) (vv_ : Option Value) (hh_ : Heap) (LL_ : List Loc) : Prop := ∃ (t : Addr), vv_ = some (.ref t) ∧ Fr n0 LL_ ∧ Keep h0 hh_ [] ∧ h0.size ≤ t ∧ Exa Z hh_ t "com/example/jiaoge/jiaoge/cli/CommandOption" ∧ Fld Z hh_ t "com/example/jiaoge/jiaoge/cli/CommandOption" "label" "Ljava/lang/String;" v2
set_option maxRecDepth 65536 in
set_option maxHeartbeats 40000000 in
theorem rm_f_repeatable (l : Launch) (Z : State) (a0 : Array Value) (hw : ∀ d ∈ tables_1, d.before a0 Z = true) (ws : List Jvm.Cond) (v1 : Value) (v2 : Value) (v3 : Value) (h0 : Heap) (n0 : Nat) (Z0 : n0 ≤ h0.size) (r1 : v1.isRef = true) (r2 : v2.isRef = true) (r3 : v3.isRef = true) :
    MetFree l (⟨"com/example/jiaoge/jiaoge/cli/CommandOption", "repeatable", "(Ljava/lang/String;Ljava/lang/String;Ljava/lang/String;)Lcom/example/jiaoge/jiaoge/cli/CommandOption;"⟩ : MethodName) (head1 (Jvm.Cond.code (⟨"com/example/jiaoge/jiaoge/cli/CommandOption", "repeatable", "(Ljava/lang/String;Ljava/lang/String;Ljava/lang/String;)Lcom/example/jiaoge/jiaoge/cli/CommandOption;"⟩ : MethodName) prog_1_method_4_code 3 (some (.object "com/example/jiaoge/jiaoge/cli/CommandOption")) :: ws) ({ frames := 3, cells := 1, slots := 5, locals := 42 } : Room)) (fun aa_ U => aa_ = #[v1, v2, v3] ∧ Z.Warmed39 U.vm ∧ U.heap = h0) (fun _ _ _ _ _ => True) (fun _ U o U' => ∃ vv_ LL_, o = .returned vv_ ∧ Q_f_repeatable Z v1 v2 v3 h0 n0 vv_ U'.heap LL_ ∧ FrameEnd U o U' LL_ 1 5) := by
  refine MetFree.of_bodySF (plainFor_of_name pn_com_example_jiaoge_jiaoge_cli_CommandOption) hisR ?_
  intro p e s m args below meth c s₁ Bd hml0 hP hK
  obtain ⟨rfl, hZ, hh⟩ := hP
  have hx := Bd.exec
  have hby := Bd.bytes
  have hml : c.maxLocals = 3 := hml0
  have hown : s.vm.findClass "com/example/jiaoge/jiaoge/cli/CommandOption" = some m.cls := findClass_of_methodNamed Bd.named
  have hnm := (name_of_methodNamed Bd.named Bd.method).1
  have X0 : Stand p l e ({ frames := 3, cells := 1, slots := 5, locals := 42 } : Room) s m #[v1, v2, v3] below meth c s₁ [] 0 0 := Stand.of_body Bd
  have e0 : s₁.heap = h0 := by rw [← hh, Bd.state]; rfl
  have N0 := Fr.nil n0
  have ef : entryFrame m #[v1, v2, v3] 3 = mkF m 0 #[.val v1, .val v2, .val v3] [] := by first | (simp [entryFrame, mkF, argsToLocals, Value.category]; done) | rfl | (rcases ref_cases r1 with rfl | ⟨_, rfl⟩ <;> rcases ref_cases r2 with rfl | ⟨_, rfl⟩ <;> rcases ref_cases r3 with rfl | ⟨_, rfl⟩ <;> simp [entryFrame, mkF, argsToLocals, Value.category])
  refine Fin.start (Q := Q_f_repeatable Z v1 v2 v3 h0 n0) ef ?_
  show Fin _ _ _ _ _ _ _ (s₁.setTop (mkF m 0 #[.val v1, .val v2, .val v3] []))
  obtain ⟨T101, h101, X101, e101, E101, A101, D101, -, st101⟩ := newO X0 hx hZ hown (hw _ (List.mem_of_getElem? (i := 81) rfl)) (hw _ (List.mem_of_getElem? (i := 49) rfl)) (hw _ (List.mem_of_getElem? (i := 50) rfl)) e0 (g := (mkF m 0 #[.val v1, .val v2, .val v3] [])) rfl (hb hby d_prog_1_method_4_0) (by decide) (by decide)
  obtain ⟨a101, g101⟩ : ∃ z, z = h0.size := ⟨_, rfl⟩
  rw [← g101] at A101 D101 st101
  refine Fin.by (fun t k => st101 t k) ?_
  show Fin _ _ _ _ _ _ _ (T101.setTop (mkF m 3 #[.val v1, .val v2, .val v3] [(.ref a101)]))
  refine Fin.by (fun t k => XS.dup X101.here hx rfl (hb hby d_prog_1_method_4_3) rfl rfl k) ?_
  show Fin _ _ _ _ _ _ _ (T101.setTop (mkF m 4 #[.val v1, .val v2, .val v3] [(.ref a101), (.ref a101)]))
  refine Fin.by (fun t k => XS.aloadN X101.here hx rfl (hb hby d_prog_1_method_4_4) rfl r1 k) ?_
  show Fin _ _ _ _ _ _ _ (T101.setTop (mkF m 5 #[.val v1, .val v2, .val v3] [v1, (.ref a101), (.ref a101)]))
  refine Fin.by (fun t k => XS.aloadN X101.here hx rfl (hb hby d_prog_1_method_4_5) rfl r2 k) ?_
  show Fin _ _ _ _ _ _ _ (T101.setTop (mkF m 6 #[.val v1, .val v2, .val v3] [v2, v1, (.ref a101), (.ref a101)]))
  refine Fin.by (fun t k => XS.aloadN X101.here hx rfl (hb hby d_prog_1_method_4_6) rfl r3 k) ?_
  show Fin _ _ _ _ _ _ _ (T101.setTop (mkF m 7 #[.val v1, .val v2, .val v3] [v3, v2, v1, (.ref a101), (.ref a101)]))
  refine Fin.by (fun t k => XS.iconst X101.here hx rfl (hb hby d_prog_1_method_4_7) k) ?_
  show Fin _ _ _ _ _ _ _ (T101.setTop (mkF m 8 #[.val v1, .val v2, .val v3] [(.int (0 : Int32)), v3, v2, v1, (.ref a101), (.ref a101)]))
  refine Fin.by (fun t k => XS.iconst X101.here hx rfl (hb hby d_prog_1_method_4_8) k) ?_
  show Fin _ _ _ _ _ _ _ (T101.setTop (mkF m 9 #[.val v1, .val v2, .val v3] [(.int (1 : Int32)), (.int (0 : Int32)), v3, v2, v1, (.ref a101), (.ref a101)]))
  have g102 : n0 ≤ a101 := Nat.le_trans Z0 (Nat.le_of_eq g101.symm)
  have z103 : n0 ≤ h101.size := Nat.le_trans Z0 E101.1
  obtain ⟨v104, _, ⟨T104, L104, k104, n104⟩, -, X104, ⟨Lc104, hQ104, l104, y104, z104⟩, st104⟩ := X101.specialBack hx (y := (⟨"com/example/jiaoge/jiaoge/cli/CommandOption", "<init>", "(Ljava/lang/String;Ljava/lang/String;Ljava/lang/String;ZZ)V"⟩ : MethodName)) rfl hown (mvT hZ (hw _ (List.mem_of_getElem? (i := 82) rfl))) (mvT hZ (hw _ (List.mem_of_getElem? (i := 55) rfl))) (mvT hZ (hw _ (List.mem_of_getElem? (i := 56) rfl))) (by decide) (backOf (W := 1) (rm_ini l Z a0 hw [] a101 v1 v2 v3 (0 : Int32) (1 : Int32) h101 n0 z103 A101 (D101 (Or.inr (hw _ (List.mem_of_getElem? (i := 64) rfl))) (ty := (.object "java/lang/String")) (by decide) : Fld Z h101 a101 "com/example/jiaoge/jiaoge/cli/CommandOption" "name" "Ljava/lang/String;" .null) (D101 (Or.inr (hw _ (List.mem_of_getElem? (i := 66) rfl))) (ty := (.object "java/lang/String")) (by decide) : Fld Z h101 a101 "com/example/jiaoge/jiaoge/cli/CommandOption" "label" "Ljava/lang/String;" .null) (D101 (Or.inr (hw _ (List.mem_of_getElem? (i := 68) rfl))) (ty := (.object "java/lang/String")) (by decide) : Fld Z h101 a101 "com/example/jiaoge/jiaoge/cli/CommandOption" "help" "Ljava/lang/String;" .null) (D101 (Or.inr (hw _ (List.mem_of_getElem? (i := 70) rfl))) (ty := .boolean) (by decide) : Fld Z h101 a101 "com/example/jiaoge/jiaoge/cli/CommandOption" "required" "Z" (.int (0 : Int32))) (D101 (Or.inr (hw _ (List.mem_of_getElem? (i := 72) rfl))) (ty := .boolean) (by decide) : Fld Z h101 a101 "com/example/jiaoge/jiaoge/cli/CommandOption" "repeatable" "Z" (.int (0 : Int32))) g102 r1 r2 r3) hZ (hw _ (List.mem_of_getElem? (i := 56) rfl)) (hw _ (List.mem_of_getElem? (i := 50) rfl)) (by decide) (by decide)) (g := (mkF m 9 #[.val v1, .val v2, .val v3] [(.int (1 : Int32)), (.int (0 : Int32)), v3, v2, v1, (.ref a101), (.ref a101)])) rfl (by rw [hml]; rfl) (Steps.refl _) (a := a101) (argsL := [v1, v2, v3, (.int (0 : Int32)), (.int (1 : Int32))]) (rest := [(.ref a101)]) (lenOf pd_172 rfl) rfl (by show 2 * 0 + _ ≤ _; exact Nat.le_of_eq rfl) (hb hby d_prog_1_method_4_9) (fun _ _ => ⟨rfl, e101, (by decide : 1 + 0 ≤ _), (by decide : 5 + 0 ≤ _)⟩)
  dsimp only [Pt.U, Pt.locs, Pt.cells, Pt.slots] at X104 l104 y104 z104 st104 hQ104
  subst l104 y104 z104
  obtain ⟨rfl, Nq104, p104_0, p104_1, p104_2⟩ := hQ104
  have N104_ := Fr.app N0 Nq104
  refine Fin.byS st104 ?_
  show Fin _ _ _ _ _ _ _ (T104.setTop (mkF m 12 #[.val v1, .val v2, .val v3] [(.ref a101)]))
  have kp105 : Keep h0 h101 [] := (Keep.refl h0 []).ext E101
  have kp106 : Keep h0 T104.heap [] := kp105.trans p104_0 (allS (Or.inr (Nat.le_trans (Nat.le_refl _) (Nat.le_of_eq g101.symm))) all0)
  exact Fin.ret (v := some (.ref a101)) X104 (fun h => by rw [Bd.returns] at h; cases h) Bd.notSynchronized (⟨a101, rfl, N104_, kp106, (Nat.le_trans (Nat.le_refl _) (Nat.le_of_eq g101.symm)), p104_1, p104_2⟩) (by decide) (by decide) (fun fs hr => retA X104 hx Bd.returns rfl rfl (hb hby d_prog_1_method_4_12) hr)
theorem d_prog_1_method_5_0 : decode prog_1_method_5_code 0 = .ok (.new 8, 3) := by decide +kernel
theorem d_prog_1_method_5_3 : decode prog_1_method_5_code 3 = .ok (.dup, 1) := by decide +kernel
theorem d_prog_1_method_5_4 : decode prog_1_method_5_code 4 = .ok (.aload_n 0, 1) := by decide +kernel
theorem d_prog_1_method_5_5 : decode prog_1_method_5_code 5 = .ok (.aconst_null, 1) := by decide +kernel
theorem d_prog_1_method_5_6 : decode prog_1_method_5_code 6 = .ok (.aload_n 1, 1) := by decide +kernel
theorem d_prog_1_method_5_7 : decode prog_1_method_5_code 7 = .ok (.iconst 0, 1) := by decide +kernel
theorem d_prog_1_method_5_8 : decode prog_1_method_5_code 8 = .ok (.iconst 0, 1) := by decide +kernel
theorem d_prog_1_method_5_9 : decode prog_1_method_5_code 9 = .ok (.invokespecial 26, 3) := by decide +kernel
theorem d_prog_1_method_5_12 : decode prog_1_method_5_code 12 = .ok (.areturn, 1) := by decide +kernel
def Q_f_flag (Z : State) (v1 : Value) (v3 : Value) (h0 : Heap) (n0 : Nat) (vv_ : Option Value) (hh_ : Heap) (LL_ : List Loc) : Prop := ∃ (t : Addr), vv_ = some (.ref t) ∧ Fr n0 LL_ ∧ Keep h0 hh_ [] ∧ h0.size ≤ t ∧ Exa Z hh_ t "com/example/jiaoge/jiaoge/cli/CommandOption" ∧ Fld Z hh_ t "com/example/jiaoge/jiaoge/cli/CommandOption" "label" "Ljava/lang/String;" .null
set_option maxRecDepth 65536 in
set_option maxHeartbeats 40000000 in
theorem rm_f_flag (l : Launch) (Z : State) (a0 : Array Value) (hw : ∀ d ∈ tables_1, d.before a0 Z = true) (ws : List Jvm.Cond) (v1 : Value) (v3 : Value) (h0 : Heap) (n0 : Nat) (Z0 : n0 ≤ h0.size) (r1 : v1.isRef = true) (r3 : v3.isRef = true) :
    MetFree l (⟨"com/example/jiaoge/jiaoge/cli/CommandOption", "flag", "(Ljava/lang/String;Ljava/lang/String;)Lcom/example/jiaoge/jiaoge/cli/CommandOption;"⟩ : MethodName) (head1 (Jvm.Cond.code (⟨"com/example/jiaoge/jiaoge/cli/CommandOption", "flag", "(Ljava/lang/String;Ljava/lang/String;)Lcom/example/jiaoge/jiaoge/cli/CommandOption;"⟩ : MethodName) prog_1_method_5_code 2 (some (.object "com/example/jiaoge/jiaoge/cli/CommandOption")) :: ws) ({ frames := 3, cells := 1, slots := 5, locals := 42 } : Room)) (fun aa_ U => aa_ = #[v1, v3] ∧ Z.Warmed39 U.vm ∧ U.heap = h0) (fun _ _ _ _ _ => True) (fun _ U o U' => ∃ vv_ LL_, o = .returned vv_ ∧ Q_f_flag Z v1 v3 h0 n0 vv_ U'.heap LL_ ∧ FrameEnd U o U' LL_ 1 5) := by
  refine MetFree.of_bodySF (plainFor_of_name pn_com_example_jiaoge_jiaoge_cli_CommandOption) hisR ?_
  intro p e s m args below meth c s₁ Bd hml0 hP hK
  obtain ⟨rfl, hZ, hh⟩ := hP
  have hx := Bd.exec
  have hby := Bd.bytes
  have hml : c.maxLocals = 2 := hml0
  have hown : s.vm.findClass "com/example/jiaoge/jiaoge/cli/CommandOption" = some m.cls := findClass_of_methodNamed Bd.named
  have hnm := (name_of_methodNamed Bd.named Bd.method).1
  have X0 : Stand p l e ({ frames := 3, cells := 1, slots := 5, locals := 42 } : Room) s m #[v1, v3] below meth c s₁ [] 0 0 := Stand.of_body Bd
  have e0 : s₁.heap = h0 := by rw [← hh, Bd.state]; rfl
  have N0 := Fr.nil n0
  have ef : entryFrame m #[v1, v3] 2 = mkF m 0 #[.val v1, .val v3] [] := by first | (simp [entryFrame, mkF, argsToLocals, Value.category]; done) | rfl | (rcases ref_cases r1 with rfl | ⟨_, rfl⟩ <;> rcases ref_cases r3 with rfl | ⟨_, rfl⟩ <;> simp [entryFrame, mkF, argsToLocals, Value.category])
  refine Fin.start (Q := Q_f_flag Z v1 v3 h0 n0) ef ?_
  show Fin _ _ _ _ _ _ _ (s₁.setTop (mkF m 0 #[.val v1, .val v3] []))
  obtain ⟨T101, h101, X101, e101, E101, A101, D101, -, st101⟩ := newO X0 hx hZ hown (hw _ (List.mem_of_getElem? (i := 81) rfl)) (hw _ (List.mem_of_getElem? (i := 49) rfl)) (hw _ (List.mem_of_getElem? (i := 50) rfl)) e0 (g := (mkF m 0 #[.val v1, .val v3] [])) rfl (hb hby d_prog_1_method_5_0) (by decide) (by decide)
  obtain ⟨a101, g101⟩ : ∃ z, z = h0.size := ⟨_, rfl⟩
  rw [← g101] at A101 D101 st101
  refine Fin.by (fun t k => st101 t k) ?_
  show Fin _ _ _ _ _ _ _ (T101.setTop (mkF m 3 #[.val v1, .val v3] [(.ref a101)]))
  refine Fin.by (fun t k => XS.dup X101.here hx rfl (hb hby d_prog_1_method_5_3) rfl rfl k) ?_
  show Fin _ _ _ _ _ _ _ (T101.setTop (mkF m 4 #[.val v1, .val v3] [(.ref a101), (.ref a101)]))
  refine Fin.by (fun t k => XS.aloadN X101.here hx rfl (hb hby d_prog_1_method_5_4) rfl r1 k) ?_
  show Fin _ _ _ _ _ _ _ (T101.setTop (mkF m 5 #[.val v1, .val v3] [v1, (.ref a101), (.ref a101)]))
  refine Fin.by (fun t k => XS.aconstNull X101.here hx rfl (hb hby d_prog_1_method_5_5) k) ?_
  show Fin _ _ _ _ _ _ _ (T101.setTop (mkF m 6 #[.val v1, .val v3] [.null, v1, (.ref a101), (.ref a101)]))
  refine Fin.by (fun t k => XS.aloadN X101.here hx rfl (hb hby d_prog_1_method_5_6) rfl r3 k) ?_
  show Fin _ _ _ _ _ _ _ (T101.setTop (mkF m 7 #[.val v1, .val v3] [v3, .null, v1, (.ref a101), (.ref a101)]))
  refine Fin.by (fun t k => XS.iconst X101.here hx rfl (hb hby d_prog_1_method_5_7) k) ?_
  show Fin _ _ _ _ _ _ _ (T101.setTop (mkF m 8 #[.val v1, .val v3] [(.int (0 : Int32)), v3, .null, v1, (.ref a101), (.ref a101)]))
  refine Fin.by (fun t k => XS.iconst X101.here hx rfl (hb hby d_prog_1_method_5_8) k) ?_
  show Fin _ _ _ _ _ _ _ (T101.setTop (mkF m 9 #[.val v1, .val v3] [(.int (0 : Int32)), (.int (0 : Int32)), v3, .null, v1, (.ref a101), (.ref a101)]))
  have g102 : n0 ≤ a101 := Nat.le_trans Z0 (Nat.le_of_eq g101.symm)
  have z103 : n0 ≤ h101.size := Nat.le_trans Z0 E101.1
  obtain ⟨v104, _, ⟨T104, L104, k104, n104⟩, -, X104, ⟨Lc104, hQ104, l104, y104, z104⟩, st104⟩ := X101.specialBack hx (y := (⟨"com/example/jiaoge/jiaoge/cli/CommandOption", "<init>", "(Ljava/lang/String;Ljava/lang/String;Ljava/lang/String;ZZ)V"⟩ : MethodName)) rfl hown (mvT hZ (hw _ (List.mem_of_getElem? (i := 82) rfl))) (mvT hZ (hw _ (List.mem_of_getElem? (i := 55) rfl))) (mvT hZ (hw _ (List.mem_of_getElem? (i := 56) rfl))) (by decide) (backOf (W := 1) (rm_ini l Z a0 hw [] a101 v1 Value.null v3 (0 : Int32) (0 : Int32) h101 n0 z103 A101 (D101 (Or.inr (hw _ (List.mem_of_getElem? (i := 64) rfl))) (ty := (.object "java/lang/String")) (by decide) : Fld Z h101 a101 "com/example/jiaoge/jiaoge/cli/CommandOption" "name" "Ljava/lang/String;" .null) (D101 (Or.inr (hw _ (List.mem_of_getElem? (i := 66) rfl))) (ty := (.object "java/lang/String")) (by decide) : Fld Z h101 a101 "com/example/jiaoge/jiaoge/cli/CommandOption" "label" "Ljava/lang/String;" .null) (D101 (Or.inr (hw _ (List.mem_of_getElem? (i := 68) rfl))) (ty := (.object "java/lang/String")) (by decide) : Fld Z h101 a101 "com/example/jiaoge/jiaoge/cli/CommandOption" "help" "Ljava/lang/String;" .null) (D101 (Or.inr (hw _ (List.mem_of_getElem? (i := 70) rfl))) (ty := .boolean) (by decide) : Fld Z h101 a101 "com/example/jiaoge/jiaoge/cli/CommandOption" "required" "Z" (.int (0 : Int32))) (D101 (Or.inr (hw _ (List.mem_of_getElem? (i := 72) rfl))) (ty := .boolean) (by decide) : Fld Z h101 a101 "com/example/jiaoge/jiaoge/cli/CommandOption" "repeatable" "Z" (.int (0 : Int32))) g102 r1 rfl r3) hZ (hw _ (List.mem_of_getElem? (i := 56) rfl)) (hw _ (List.mem_of_getElem? (i := 50) rfl)) (by decide) (by decide)) (g := (mkF m 9 #[.val v1, .val v3] [(.int (0 : Int32)), (.int (0 : Int32)), v3, .null, v1, (.ref a101), (.ref a101)])) rfl (by rw [hml]; rfl) (Steps.refl _) (a := a101) (argsL := [v1, .null, v3, (.int (0 : Int32)), (.int (0 : Int32))]) (rest := [(.ref a101)]) (lenOf pd_172 rfl) rfl (by show 2 * 0 + _ ≤ _; exact Nat.le_of_eq rfl) (hb hby d_prog_1_method_5_9) (fun _ _ => ⟨rfl, e101, (by decide : 1 + 0 ≤ _), (by decide : 5 + 0 ≤ _)⟩)
  dsimp only [Pt.U, Pt.locs, Pt.cells, Pt.slots] at X104 l104 y104 z104 st104 hQ104
  subst l104 y104 z104
  obtain ⟨rfl, Nq104, p104_0, p104_1, p104_2⟩ := hQ104
  have N104_ := Fr.app N0 Nq104
  refine Fin.byS st104 ?_
  show Fin _ _ _ _ _ _ _ (T104.setTop (mkF m 12 #[.val v1, .val v3] [(.ref a101)]))
  have kp105 : Keep h0 h101 [] := (Keep.refl h0 []).ext E101
  have kp106 : Keep h0 T104.heap [] := kp105.trans p104_0 (allS (Or.inr (Nat.le_trans (Nat.le_refl _) (Nat.le_of_eq g101.symm))) all0)
  exact Fin.ret (v := some (.ref a101)) X104 (fun h => by rw [Bd.returns] at h; cases h) Bd.notSynchronized (⟨a101, rfl, N104_, kp106, (Nat.le_trans (Nat.le_refl _) (Nat.le_of_eq g101.symm)), p104_1, p104_2⟩) (by decide) (by decide) (fun fs hr => retA X104 hx Bd.returns rfl rfl (hb hby d_prog_1_method_5_12) hr)
theorem d_prog_1_method_6_0 : decode prog_1_method_6_code 0 = .ok (.aload_n 0, 1) := by decide +kernel
theorem d_prog_1_method_6_1 : decode prog_1_method_6_code 1 = .ok (.getfield 13, 3) := by decide +kernel
theorem d_prog_1_method_6_4 : decode prog_1_method_6_code 4 = .ok (.ifnull 7, 3) := by decide +kernel
theorem d_prog_1_method_6_11 : decode prog_1_method_6_code 11 = .ok (.iconst 0, 1) := by decide +kernel
theorem d_prog_1_method_6_12 : decode prog_1_method_6_code 12 = .ok (.ireturn, 1) := by decide +kernel
theorem d_prog_1_method_6_7 : decode prog_1_method_6_code 7 = .ok (.iconst 1, 1) := by decide +kernel
theorem d_prog_1_method_6_8 : decode prog_1_method_6_code 8 = .ok (.goto 4, 3) := by decide +kernel
def Q_tak (Z : State) (a : Addr) (v : Value) (h0 : Heap) (n0 : Nat) (vv_ : Option Value) (hh_ : Heap) (LL_ : List Loc) : Prop := vv_ = some (.int (nar .boolean (tv v))) ∧ Fr n0 LL_ ∧ hh_ = h0
set_option maxRecDepth 65536 in
set_option maxHeartbeats 40000000 in
theorem rm_tak (l : Launch) (Z : State) (a0 : Array Value) (hw : ∀ d ∈ tables_1, d.before a0 Z = true) (ws : List Jvm.Cond) (a : Addr) (v : Value) (h0 : Heap) (n0 : Nat) (Z0 : n0 ≤ h0.size) (F0 : Fld Z h0 a "com/example/jiaoge/jiaoge/cli/CommandOption" "label" "Ljava/lang/String;" v) (r0 : v.isRef = true) :
    MetFree l (⟨"com/example/jiaoge/jiaoge/cli/CommandOption", "takesValue", "()Z"⟩ : MethodName) (head1 (Jvm.Cond.code (⟨"com/example/jiaoge/jiaoge/cli/CommandOption", "takesValue", "()Z"⟩ : MethodName) prog_1_method_6_code 1 (some .boolean) :: ws) ({ frames := 0, cells := 0, slots := 0, locals := 0 } : Room)) (fun aa_ U => aa_ = #[(.ref a)] ∧ Z.Warmed39 U.vm ∧ U.heap = h0) (fun _ _ _ _ _ => True) (fun _ U o U' => ∃ vv_ LL_, o = .returned vv_ ∧ Q_tak Z a v h0 n0 vv_ U'.heap LL_ ∧ FrameEnd U o U' LL_ 0 0) := by
  refine MetFree.of_bodySF (plainFor_of_name pn_com_example_jiaoge_jiaoge_cli_CommandOption) hisR ?_
  intro p e s m args below meth c s₁ Bd hml0 hP hK
  obtain ⟨rfl, hZ, hh⟩ := hP
  have hx := Bd.exec
  have hby := Bd.bytes
  have hml : c.maxLocals = 1 := hml0
  have hown : s.vm.findClass "com/example/jiaoge/jiaoge/cli/CommandOption" = some m.cls := findClass_of_methodNamed Bd.named
  have hnm := (name_of_methodNamed Bd.named Bd.method).1
  have X0 : Stand p l e ({ frames := 0, cells := 0, slots := 0, locals := 0 } : Room) s m #[(.ref a)] below meth c s₁ [] 0 0 := Stand.of_body Bd
  have e0 : s₁.heap = h0 := by rw [← hh, Bd.state]; rfl
  have N0 := Fr.nil n0
  have ef : entryFrame m #[(.ref a)] 1 = mkF m 0 #[.val (.ref a)] [] := by first | (simp [entryFrame, mkF, argsToLocals, Value.category]; done) | rfl
  refine Fin.start (Q := Q_tak Z a v h0 n0) ef ?_
  show Fin _ _ _ _ _ _ _ (s₁.setTop (mkF m 0 #[.val (.ref a)] []))
  refine Fin.by (fun t k => XS.aloadN X0.here hx rfl (hb hby d_prog_1_method_6_0) rfl rfl k) ?_
  show Fin _ _ _ _ _ _ _ (s₁.setTop (mkF m 1 #[.val (.ref a)] [(.ref a)]))
  obtain ⟨T101, X101, e101, st101⟩ := getF X0 hx hZ hown (host := "") (Or.inl (hw _ (List.mem_of_getElem? (i := 65) rfl))) Via.refl e0 F0 (g := (mkF m 1 #[.val (.ref a)] [(.ref a)])) rfl rfl (hb hby d_prog_1_method_6_1)
  refine Fin.by (fun t k => st101 t k) ?_
  show Fin _ _ _ _ _ _ _ (T101.setTop (mkF m 4 #[.val (.ref a)] [v]))
  rcases ref_cases r0 with hn | ⟨a102, hn⟩
  · refine Fin.by (fun t k => XnullYes X101 hx rfl hn (pc0 := 4) (pc' := 11) rfl (hb hby d_prog_1_method_6_4) rfl (by decide) (by decide) k) ?_
    show Fin _ _ _ _ _ _ _ (T101.setTop (mkF m 11 #[.val (.ref a)] []))
    refine Fin.by (fun t k => XS.iconst X101.here hx rfl (hb hby d_prog_1_method_6_11) k) ?_
    show Fin _ _ _ _ _ _ _ (T101.setTop (mkF m 12 #[.val (.ref a)] [(.int (0 : Int32))]))
    exact Fin.ret (v := some (.int (nar .boolean (0 : Int32)))) X101 (fun h => by rw [Bd.returns] at h; cases h) Bd.notSynchronized (by rw [e101]; exact ⟨(by rw [hn]; rfl), N0, rfl⟩) (by decide) (by decide) (fun fs hr => retN X101 hx (t := .boolean) Bd.returns (by simp) (hb hby d_prog_1_method_6_12) hr)
  · refine Fin.by (fun t k => XnullNo X101 hx rfl hn (hb hby d_prog_1_method_6_4) rfl k) ?_
    show Fin _ _ _ _ _ _ _ (T101.setTop (mkF m 7 #[.val (.ref a)] []))
    refine Fin.by (fun t k => XS.iconst X101.here hx rfl (hb hby d_prog_1_method_6_7) k) ?_
    show Fin _ _ _ _ _ _ _ (T101.setTop (mkF m 8 #[.val (.ref a)] [(.int (1 : Int32))]))
    refine Fin.by (fun t k => XS.goto X101.here hx rfl (pc0 := 8) (pc' := 12) rfl (hb hby d_prog_1_method_6_8) (by decide) (by decide) k) ?_
    show Fin _ _ _ _ _ _ _ (T101.setTop (mkF m 12 #[.val (.ref a)] [(.int (1 : Int32))]))
    exact Fin.ret (v := some (.int (nar .boolean (1 : Int32)))) X101 (fun h => by rw [Bd.returns] at h; cases h) Bd.notSynchronized (by rw [e101]; exact ⟨(by rw [hn]; rfl), N0, rfl⟩) (by decide) (by decide) (fun fs hr => retN X101 hx (t := .boolean) Bd.returns (by simp) (hb hby d_prog_1_method_6_12) hr)
theorem pd_209 : parseMethodDescriptor "(II)Ljava/lang/String;" = some ⟨[.int, .int], some (.object "java/lang/String")⟩ := by decide +kernel
theorem pd_210 : parseMethodDescriptor "()Z" = some ⟨[], some .boolean⟩ := by decide +kernel
theorem pd_211 : parseMethodDescriptor "(Ljava/lang/String;Ljava/lang/String;)Lcom/example/jiaoge/jiaoge/cli/CommandOption;" = some ⟨[(.object "java/lang/String"), (.object "java/lang/String")], some (.object "com/example/jiaoge/jiaoge/cli/CommandOption")⟩ := by decide +kernel
theorem pd_212 : parseMethodDescriptor "(Ljava/lang/String;Ljava/lang/String;Ljava/lang/String;)Lcom/example/jiaoge/jiaoge/cli/CommandOption;" = some ⟨[(.object "java/lang/String"), (.object "java/lang/String"), (.object "java/lang/String")], some (.object "com/example/jiaoge/jiaoge/cli/CommandOption")⟩ := by decide +kernel
def Q_law (Z : State) (p1 : Int32) (p2 : Int32) (p3 : Int32) (p4 : Int32) (G1 : Int32) (h0 : Heap) (n0 : Nat) (vv_ : Option Value) (hh_ : Heap) (LL_ : List Loc) : Prop := vv_ = some (.int (1 : Int32)) ∧ Fr n0 LL_
set_option maxRecDepth 65536 in
set_option maxHeartbeats 40000000 in
theorem rm_law (l : Launch) (Z : State) (a0 : Array Value) (hw : ∀ d ∈ tables_1, d.before a0 Z = true) (ws : List Jvm.Cond) (p1 : Int32) (p2 : Int32) (p3 : Int32) (p4 : Int32) (G1 : Int32) (h0 : Heap) (n0 : Nat) (Z0 : n0 ≤ h0.size) (S1 : Sta Z Z.heap "java/lang/String" "COMPACT_STRINGS" "Z" (.int G1)) (P1 : ¬ G1 = 0) (OL : Old Z n0 h0) :
    MetFree l x (head1 (Jvm.Cond.code x code maxLocals ret :: ws) room_1) (fun aa_ U => aa_ = #[(.int p1), (.int p2), (.int p3), (.int p4)] ∧ Z.Warmed39 U.vm ∧ U.heap = h0 ∧ CHv Z consts_1 U.vm h0) (fun _ _ _ _ _ => True) (fun _ U o U' => ∃ vv_ LL_, o = .returned vv_ ∧ Q_law Z p1 p2 p3 p4 G1 h0 n0 vv_ U'.heap LL_ ∧ CHr Z consts_1 U.vm U.heap U'.vm U'.heap ∧ ReturnedEndW U o U' LL_ 32 2176) := by
  refine MetFree.of_bodySF (plainFor_of_name pn_com_example_jiaoge_jiaoge_cli_CommandOptionTakesValuePinLaw) hisR ?_
  intro p e s m args below meth c s₁ Bd hml0 hP hK
  obtain ⟨rfl, hZ, hh, hC0⟩ := hP
  have hx := Bd.exec
  have hby := Bd.bytes
  have hml : c.maxLocals = 15 := hml0
  have hown : s.vm.findClass "com/example/jiaoge/jiaoge/cli/CommandOptionTakesValuePinLaw" = some m.cls := findClass_of_methodNamed Bd.named
  have hnm := (name_of_methodNamed Bd.named Bd.method).1
  have X0 : Stand p l e room_1 (s.setVm s.vm) m #[(.int p1), (.int p2), (.int p3), (.int p4)] below meth c s₁ [] 0 0 := Stand.of_body Bd
  have e0 : s₁.heap = h0 := by rw [← hh, Bd.state]; rfl
  have N0 := Fr.nil n0
  have ef : entryFrame m #[(.int p1), (.int p2), (.int p3), (.int p4)] maxLocals = mkF m 0 #[.val (.int p1), .val (.int p2), .val (.int p3), .val (.int p4), .unset, .unset, .unset, .unset, .unset, .unset, .unset, .unset, .unset, .unset, .unset] [] := by first | (simp [entryFrame, mkF, argsToLocals, Value.category, maxLocals]; done) | rfl
  have hS0 : s.Since s.vm h0.size := (State.WarmedH.refl s).since _
  have hk0 : h0.size ≤ h0.size := Nat.le_refl _
  have own_EW := own_EW0 hw
  have ch0 : CHr Z consts_1 s.vm h0 s.vm h0 := CHr.refl hC0
  refine FinH.start (Q := Q_law Z p1 p2 p3 p4 G1 h0 n0) ef ?_
  show FinH _ _ _ _ _ _ _ _ _ (s₁.setTop (mkF m 0 #[.val (.int p1), .val (.int p2), .val (.int p3), .val (.int p4), .unset, .unset, .unset, .unset, .unset, .unset, .unset, .unset, .unset, .unset, .unset] []))
  refine FinH.by (fun t k => XS.iloadN X0.here hx rfl (hb hby at_0) rfl k) ?_
  show FinH _ _ _ _ _ _ _ _ _ (s₁.setTop (mkF m 1 #[.val (.int p1), .val (.int p2), .val (.int p3), .val (.int p4), .unset, .unset, .unset, .unset, .unset, .unset, .unset, .unset, .unset, .unset, .unset] [(.int p4)]))
  refine FinH.by (fun t k => XS.iconst X0.here hx rfl (hb hby at_1) k) ?_
  show FinH _ _ _ _ _ _ _ _ _ (s₁.setTop (mkF m 2 #[.val (.int p1), .val (.int p2), .val (.int p3), .val (.int p4), .unset, .unset, .unset, .unset, .unset, .unset, .unset, .unset, .unset, .unset, .unset] [(.int (3 : Int32)), (.int p4)]))
  refine FinH.by (fun t k => XS.iand X0.here hx rfl (hb hby at_2) rfl k) ?_
  show FinH _ _ _ _ _ _ _ _ _ (s₁.setTop (mkF m 3 #[.val (.int p1), .val (.int p2), .val (.int p3), .val (.int p4), .unset, .unset, .unset, .unset, .unset, .unset, .unset, .unset, .unset, .unset, .unset] [(.int (p4 &&& (3 : Int32)))]))
  refine FinH.by (fun t k => XS.istore X0.here hx rfl (hb hby at_3) rfl (l' := #[.val (.int p1), .val (.int p2), .val (.int p3), .val (.int p4), .val (.int (p4 &&& (3 : Int32))), .unset, .unset, .unset, .unset, .unset, .unset, .unset, .unset, .unset, .unset]) rfl k) ?_
  show FinH _ _ _ _ _ _ _ _ _ (s₁.setTop (mkF m 5 #[.val (.int p1), .val (.int p2), .val (.int p3), .val (.int p4), .val (.int (p4 &&& (3 : Int32))), .unset, .unset, .unset, .unset, .unset, .unset, .unset, .unset, .unset, .unset] []))
  refine FinH.by (fun t k => XS.iloadN X0.here hx rfl (hb hby at_5) rfl k) ?_
  show FinH _ _ _ _ _ _ _ _ _ (s₁.setTop (mkF m 6 #[.val (.int p1), .val (.int p2), .val (.int p3), .val (.int p4), .val (.int (p4 &&& (3 : Int32))), .unset, .unset, .unset, .unset, .unset, .unset, .unset, .unset, .unset, .unset] [(.int p4)]))
  refine FinH.by (fun t k => XS.iconst X0.here hx rfl (hb hby at_6) k) ?_
  show FinH _ _ _ _ _ _ _ _ _ (s₁.setTop (mkF m 7 #[.val (.int p1), .val (.int p2), .val (.int p3), .val (.int p4), .val (.int (p4 &&& (3 : Int32))), .unset, .unset, .unset, .unset, .unset, .unset, .unset, .unset, .unset, .unset] [(.int (2 : Int32)), (.int p4)]))
  refine FinH.by (fun t k => XS.ishr X0.here hx rfl (hb hby at_7) rfl k) ?_
  show FinH _ _ _ _ _ _ _ _ _ (s₁.setTop (mkF m 8 #[.val (.int p1), .val (.int p2), .val (.int p3), .val (.int p4), .val (.int (p4 &&& (3 : Int32))), .unset, .unset, .unset, .unset, .unset, .unset, .unset, .unset, .unset, .unset] [(.int (p4 >>> ((2 : Int32) &&& 31)))]))
  refine FinH.by (fun t k => XS.iconst X0.here hx rfl (hb hby at_8) k) ?_
  show FinH _ _ _ _ _ _ _ _ _ (s₁.setTop (mkF m 9 #[.val (.int p1), .val (.int p2), .val (.int p3), .val (.int p4), .val (.int (p4 &&& (3 : Int32))), .unset, .unset, .unset, .unset, .unset, .unset, .unset, .unset, .unset, .unset] [(.int (1 : Int32)), (.int (p4 >>> ((2 : Int32) &&& 31)))]))
  refine FinH.by (fun t k => XS.iand X0.here hx rfl (hb hby at_9) rfl k) ?_
  show FinH _ _ _ _ _ _ _ _ _ (s₁.setTop (mkF m 10 #[.val (.int p1), .val (.int p2), .val (.int p3), .val (.int p4), .val (.int (p4 &&& (3 : Int32))), .unset, .unset, .unset, .unset, .unset, .unset, .unset, .unset, .unset, .unset] [(.int ((p4 >>> ((2 : Int32) &&& 31)) &&& (1 : Int32)))]))
  have J18 : ∀ (f5 : Int32), FinH p e below Z consts_1 s (Q_law Z p1 p2 p3 p4 G1 h0 n0) 32 2176 (s₁.setTop (mkF m 18 #[.val (.int p1), .val (.int p2), .val (.int p3), .val (.int p4), .val (.int (p4 &&& (3 : Int32))), .unset, .unset, .unset, .unset, .unset, .unset, .unset, .unset, .unset, .unset] [(.int f5)])) := by
    intro f5
    refine FinH.by (fun t k => XS.istore X0.here hx rfl (hb hby at_18) rfl (l' := #[.val (.int p1), .val (.int p2), .val (.int p3), .val (.int p4), .val (.int (p4 &&& (3 : Int32))), .val (.int f5), .unset, .unset, .unset, .unset, .unset, .unset, .unset, .unset, .unset]) rfl k) ?_
    show FinH _ _ _ _ _ _ _ _ _ (s₁.setTop (mkF m 20 #[.val (.int p1), .val (.int p2), .val (.int p3), .val (.int p4), .val (.int (p4 &&& (3 : Int32))), .val (.int f5), .unset, .unset, .unset, .unset, .unset, .unset, .unset, .unset, .unset] []))
    refine FinH.by (fun t k => XS.iloadN X0.here hx rfl (hb hby at_20) rfl k) ?_
    show FinH _ _ _ _ _ _ _ _ _ (s₁.setTop (mkF m 21 #[.val (.int p1), .val (.int p2), .val (.int p3), .val (.int p4), .val (.int (p4 &&& (3 : Int32))), .val (.int f5), .unset, .unset, .unset, .unset, .unset, .unset, .unset, .unset, .unset] [(.int p4)]))
    refine FinH.by (fun t k => XS.iconst X0.here hx rfl (hb hby at_21) k) ?_
    show FinH _ _ _ _ _ _ _ _ _ (s₁.setTop (mkF m 22 #[.val (.int p1), .val (.int p2), .val (.int p3), .val (.int p4), .val (.int (p4 &&& (3 : Int32))), .val (.int f5), .unset, .unset, .unset, .unset, .unset, .unset, .unset, .unset, .unset] [(.int (3 : Int32)), (.int p4)]))
    refine FinH.by (fun t k => XS.ishr X0.here hx rfl (hb hby at_22) rfl k) ?_
    show FinH _ _ _ _ _ _ _ _ _ (s₁.setTop (mkF m 23 #[.val (.int p1), .val (.int p2), .val (.int p3), .val (.int p4), .val (.int (p4 &&& (3 : Int32))), .val (.int f5), .unset, .unset, .unset, .unset, .unset, .unset, .unset, .unset, .unset] [(.int (p4 >>> ((3 : Int32) &&& 31)))]))
    refine FinH.by (fun t k => XS.iconst X0.here hx rfl (hb hby at_23) k) ?_
    show FinH _ _ _ _ _ _ _ _ _ (s₁.setTop (mkF m 24 #[.val (.int p1), .val (.int p2), .val (.int p3), .val (.int p4), .val (.int (p4 &&& (3 : Int32))), .val (.int f5), .unset, .unset, .unset, .unset, .unset, .unset, .unset, .unset, .unset] [(.int (1 : Int32)), (.int (p4 >>> ((3 : Int32) &&& 31)))]))
    refine FinH.by (fun t k => XS.iand X0.here hx rfl (hb hby at_24) rfl k) ?_
    show FinH _ _ _ _ _ _ _ _ _ (s₁.setTop (mkF m 25 #[.val (.int p1), .val (.int p2), .val (.int p3), .val (.int p4), .val (.int (p4 &&& (3 : Int32))), .val (.int f5), .unset, .unset, .unset, .unset, .unset, .unset, .unset, .unset, .unset] [(.int ((p4 >>> ((3 : Int32) &&& 31)) &&& (1 : Int32)))]))
    have J33 : ∀ (f6 : Int32), FinH p e below Z consts_1 s (Q_law Z p1 p2 p3 p4 G1 h0 n0) 32 2176 (s₁.setTop (mkF m 33 #[.val (.int p1), .val (.int p2), .val (.int p3), .val (.int p4), .val (.int (p4 &&& (3 : Int32))), .val (.int f5), .unset, .unset, .unset, .unset, .unset, .unset, .unset, .unset, .unset] [(.int f6)])) := by
      intro f6
      refine FinH.by (fun t k => XS.istore X0.here hx rfl (hb hby at_33) rfl (l' := #[.val (.int p1), .val (.int p2), .val (.int p3), .val (.int p4), .val (.int (p4 &&& (3 : Int32))), .val (.int f5), .val (.int f6), .unset, .unset, .unset, .unset, .unset, .unset, .unset, .unset]) rfl k) ?_
      show FinH _ _ _ _ _ _ _ _ _ (s₁.setTop (mkF m 35 #[.val (.int p1), .val (.int p2), .val (.int p3), .val (.int p4), .val (.int (p4 &&& (3 : Int32))), .val (.int f5), .val (.int f6), .unset, .unset, .unset, .unset, .unset, .unset, .unset, .unset] []))
      refine FinH.by (fun t k => XS.iloadN X0.here hx rfl (hb hby at_35) rfl k) ?_
      show FinH _ _ _ _ _ _ _ _ _ (s₁.setTop (mkF m 36 #[.val (.int p1), .val (.int p2), .val (.int p3), .val (.int p4), .val (.int (p4 &&& (3 : Int32))), .val (.int f5), .val (.int f6), .unset, .unset, .unset, .unset, .unset, .unset, .unset, .unset] [(.int p4)]))
      refine FinH.by (fun t k => XS.iconst X0.here hx rfl (hb hby at_36) k) ?_
      show FinH _ _ _ _ _ _ _ _ _ (s₁.setTop (mkF m 37 #[.val (.int p1), .val (.int p2), .val (.int p3), .val (.int p4), .val (.int (p4 &&& (3 : Int32))), .val (.int f5), .val (.int f6), .unset, .unset, .unset, .unset, .unset, .unset, .unset, .unset] [(.int (4 : Int32)), (.int p4)]))
      refine FinH.by (fun t k => XS.ishr X0.here hx rfl (hb hby at_37) rfl k) ?_
      show FinH _ _ _ _ _ _ _ _ _ (s₁.setTop (mkF m 38 #[.val (.int p1), .val (.int p2), .val (.int p3), .val (.int p4), .val (.int (p4 &&& (3 : Int32))), .val (.int f5), .val (.int f6), .unset, .unset, .unset, .unset, .unset, .unset, .unset, .unset] [(.int (p4 >>> ((4 : Int32) &&& 31)))]))
      refine FinH.by (fun t k => XS.iconst X0.here hx rfl (hb hby at_38) k) ?_
      show FinH _ _ _ _ _ _ _ _ _ (s₁.setTop (mkF m 39 #[.val (.int p1), .val (.int p2), .val (.int p3), .val (.int p4), .val (.int (p4 &&& (3 : Int32))), .val (.int f5), .val (.int f6), .unset, .unset, .unset, .unset, .unset, .unset, .unset, .unset] [(.int (1 : Int32)), (.int (p4 >>> ((4 : Int32) &&& 31)))]))
      refine FinH.by (fun t k => XS.iand X0.here hx rfl (hb hby at_39) rfl k) ?_
      show FinH _ _ _ _ _ _ _ _ _ (s₁.setTop (mkF m 40 #[.val (.int p1), .val (.int p2), .val (.int p3), .val (.int p4), .val (.int (p4 &&& (3 : Int32))), .val (.int f5), .val (.int f6), .unset, .unset, .unset, .unset, .unset, .unset, .unset, .unset] [(.int ((p4 >>> ((4 : Int32) &&& 31)) &&& (1 : Int32)))]))
      have J48 : ∀ (f7 : Int32), FinH p e below Z consts_1 s (Q_law Z p1 p2 p3 p4 G1 h0 n0) 32 2176 (s₁.setTop (mkF m 48 #[.val (.int p1), .val (.int p2), .val (.int p3), .val (.int p4), .val (.int (p4 &&& (3 : Int32))), .val (.int f5), .val (.int f6), .unset, .unset, .unset, .unset, .unset, .unset, .unset, .unset] [(.int f7)])) := by
        intro f7
        refine FinH.by (fun t k => XS.istore X0.here hx rfl (hb hby at_48) rfl (l' := #[.val (.int p1), .val (.int p2), .val (.int p3), .val (.int p4), .val (.int (p4 &&& (3 : Int32))), .val (.int f5), .val (.int f6), .val (.int f7), .unset, .unset, .unset, .unset, .unset, .unset, .unset]) rfl k) ?_
        show FinH _ _ _ _ _ _ _ _ _ (s₁.setTop (mkF m 50 #[.val (.int p1), .val (.int p2), .val (.int p3), .val (.int p4), .val (.int (p4 &&& (3 : Int32))), .val (.int f5), .val (.int f6), .val (.int f7), .unset, .unset, .unset, .unset, .unset, .unset, .unset] []))
        refine FinH.by (fun t k => XS.iloadN X0.here hx rfl (hb hby at_50) rfl k) ?_
        show FinH _ _ _ _ _ _ _ _ _ (s₁.setTop (mkF m 51 #[.val (.int p1), .val (.int p2), .val (.int p3), .val (.int p4), .val (.int (p4 &&& (3 : Int32))), .val (.int f5), .val (.int f6), .val (.int f7), .unset, .unset, .unset, .unset, .unset, .unset, .unset] [(.int p1)]))
        refine FinH.by (fun t k => XS.sipush X0.here hx rfl (hb hby at_51) k) ?_
        show FinH _ _ _ _ _ _ _ _ _ (s₁.setTop (mkF m 54 #[.val (.int p1), .val (.int p2), .val (.int p3), .val (.int p4), .val (.int (p4 &&& (3 : Int32))), .val (.int f5), .val (.int f6), .val (.int f7), .unset, .unset, .unset, .unset, .unset, .unset, .unset] [(.int (255 : Int32)), (.int p1)]))
        refine FinH.by (fun t k => XS.iand X0.here hx rfl (hb hby at_54) rfl k) ?_
        show FinH _ _ _ _ _ _ _ _ _ (s₁.setTop (mkF m 55 #[.val (.int p1), .val (.int p2), .val (.int p3), .val (.int p4), .val (.int (p4 &&& (3 : Int32))), .val (.int f5), .val (.int f6), .val (.int f7), .unset, .unset, .unset, .unset, .unset, .unset, .unset] [(.int (p1 &&& (255 : Int32)))]))
        refine FinH.by (fun t k => XS.i2c X0.here hx rfl (hb hby at_55) rfl k) ?_
        show FinH _ _ _ _ _ _ _ _ _ (s₁.setTop (mkF m 56 #[.val (.int p1), .val (.int p2), .val (.int p3), .val (.int p4), .val (.int (p4 &&& (3 : Int32))), .val (.int f5), .val (.int f6), .val (.int f7), .unset, .unset, .unset, .unset, .unset, .unset, .unset] [(.int ((p1 &&& (255 : Int32)).toUInt32.toUInt16.toUInt32.toInt32))]))
        obtain ⟨v101, _, ⟨T101, L101, k101, n101⟩, -, X101, ⟨Lc101, hQ101, l101, y101, z101⟩, st101⟩ := Jvm.LawKit.callS X0 hx (y := (⟨"java/lang/String", "valueOf", "(C)Ljava/lang/String;"⟩ : MethodName)) hown (mvT hZ (hw _ (List.mem_of_getElem? (i := 0) rfl))) (mvT hZ (hw _ (List.mem_of_getElem? (i := 1) rfl))) (mvT hZ (hw _ (List.mem_of_getElem? (i := 2) rfl))) (mvT hZ (hw _ (List.mem_of_getElem? (i := 3) rfl))) (by decide) (backOf (W := 0) (rm_vof l Z a0 hw [] ((p1 &&& (255 : Int32)).toUInt32.toUInt16.toUInt32.toInt32) G1 h0 n0 Z0 (own_i2c255 _) S1 P1 OL) hZ (hw _ (List.mem_of_getElem? (i := 3) rfl)) (hw _ (List.mem_of_getElem? (i := 2) rfl)) (by decide) (by decide)) (g := (mkF m 56 #[.val (.int p1), .val (.int p2), .val (.int p3), .val (.int p4), .val (.int (p4 &&& (3 : Int32))), .val (.int f5), .val (.int f6), .val (.int f7), .unset, .unset, .unset, .unset, .unset, .unset, .unset] [(.int ((p1 &&& (255 : Int32)).toUInt32.toUInt16.toUInt32.toInt32))])) rfl (by rw [hml]; rfl) (argsL := [(.int ((p1 &&& (255 : Int32)).toUInt32.toUInt16.toUInt32.toInt32))]) (rest := []) (lenOf pd_98 rfl) rfl (by show 2 * 0 + _ ≤ _; exact Nat.le_of_eq rfl) (hb hby at_56) (fun _ _ => ⟨rfl, e0, (by decide : 0 + 2 ≤ _), (by decide : 0 + 5 ≤ _)⟩)
        dsimp only [Pt.U, Pt.locs, Pt.cells, Pt.slots] at X101 l101 y101 z101 st101 hQ101
        subst l101 y101 z101
        obtain ⟨t102, b103, k104, rfl, Nq101, p101_0, p101_1, p101_2, p101_3, p101_4, p101_5, p101_6, p101_7⟩ := hQ101
        have N101_ := Fr.app N0 Nq101
        refine FinH.by (fun t k => st101 t k) ?_
        show FinH _ _ _ _ _ _ _ _ _ (T101.setTop (mkF m 59 #[.val (.int p1), .val (.int p2), .val (.int p3), .val (.int p4), .val (.int (p4 &&& (3 : Int32))), .val (.int f5), .val (.int f6), .val (.int f7), .unset, .unset, .unset, .unset, .unset, .unset, .unset] [(.ref t102)]))
        refine FinH.by (fun t k => XS.astore X101.here hx rfl (hb hby at_59) rfl rfl (l' := #[.val (.int p1), .val (.int p2), .val (.int p3), .val (.int p4), .val (.int (p4 &&& (3 : Int32))), .val (.int f5), .val (.int f6), .val (.int f7), .val (.ref t102), .unset, .unset, .unset, .unset, .unset, .unset]) rfl k) ?_
        show FinH _ _ _ _ _ _ _ _ _ (T101.setTop (mkF m 61 #[.val (.int p1), .val (.int p2), .val (.int p3), .val (.int p4), .val (.int (p4 &&& (3 : Int32))), .val (.int f5), .val (.int f6), .val (.int f7), .val (.ref t102), .unset, .unset, .unset, .unset, .unset, .unset] []))
        refine FinH.by (fun t k => XS.iloadN X101.here hx rfl (hb hby at_61) rfl k) ?_
        show FinH _ _ _ _ _ _ _ _ _ (T101.setTop (mkF m 62 #[.val (.int p1), .val (.int p2), .val (.int p3), .val (.int p4), .val (.int (p4 &&& (3 : Int32))), .val (.int f5), .val (.int f6), .val (.int f7), .val (.ref t102), .unset, .unset, .unset, .unset, .unset, .unset] [(.int p2)]))
        refine FinH.by (fun t k => XS.iloadN X101.here hx rfl (hb hby at_62) rfl k) ?_
        show FinH _ _ _ _ _ _ _ _ _ (T101.setTop (mkF m 63 #[.val (.int p1), .val (.int p2), .val (.int p3), .val (.int p4), .val (.int (p4 &&& (3 : Int32))), .val (.int f5), .val (.int f6), .val (.int f7), .val (.ref t102), .unset, .unset, .unset, .unset, .unset, .unset] [(.int p3), (.int p2)]))
        have O105 : Old Z n0 T101.heap := (OL.keep p101_0 all0)
        have z106 : n0 ≤ T101.heap.size := Nat.le_trans Z0 p101_0.1
        have ch107 : CHr Z consts_1 s.vm h0 s.vm T101.heap := ch0.trans (CHr.keep p101_0 all0 ch0.1)
        obtain ⟨v108, _, ⟨T108, L108, k108, n108⟩, -, X108, hS108, hg108, ⟨Lc108, hQ108, l108, y108, z108, hC108⟩, st108⟩ := callSS X101 hx (y := (⟨"com/example/jiaoge/jiaoge/cli/CommandOptionTakesValuePinLaw", "drawn", "(II)Ljava/lang/String;"⟩ : MethodName)) hown (mvT hZ (hw _ (List.mem_of_getElem? (i := 26) rfl))) (mvT hZ (hw _ (List.mem_of_getElem? (i := 27) rfl))) (mvT hZ (hw _ (List.mem_of_getElem? (i := 28) rfl))) (mvT hZ (hw _ (List.mem_of_getElem? (i := 29) rfl))) (by decide) (backOfSH (W := 0) (rm_dra l Z a0 hw [] p2 p3 G1 T101.heap n0 z106 S1 P1 O105) hZ (hw _ (List.mem_of_getElem? (i := 29) rfl)) (hw _ (List.mem_of_getElem? (i := 28) rfl)) (by decide) (by decide) own_EW ch107.1) (g := (mkF m 63 #[.val (.int p1), .val (.int p2), .val (.int p3), .val (.int p4), .val (.int (p4 &&& (3 : Int32))), .val (.int f5), .val (.int f6), .val (.int f7), .val (.ref t102), .unset, .unset, .unset, .unset, .unset, .unset] [(.int p3), (.int p2)])) rfl (by rw [hml]; rfl) (argsL := [(.int p2), (.int p3)]) (rest := []) (lenOf pd_209 rfl) rfl (by show 2 * 0 + _ ≤ _; exact Nat.le_of_eq rfl) (hb hby at_63) (fun _ _ => ⟨rfl, rfl, (by decide : 2 + 6 ≤ _), (by decide : 5 + 12 ≤ _)⟩)
        dsimp only [Pt.U, Pt.locs, Pt.cells, Pt.slots] at X108 l108 y108 z108 st108 hQ108 hS108 hg108 hC108
        subst l108 y108 z108
        obtain ⟨t109, rfl, Nq108, p108_0⟩ := hQ108
        have N108_ := Fr.app N101_ Nq108
        refine FinH.byS st108 ?_
        obtain ⟨X108w, hS108w, hZ108, hown108⟩ := rebS hS0 ((Nat.le_trans hk0 p101_0.1)) X108 hS108 hg108 hZ hown
        show FinH _ _ _ _ _ _ _ _ _ (T108.setTop (mkF m 66 #[.val (.int p1), .val (.int p2), .val (.int p3), .val (.int p4), .val (.int (p4 &&& (3 : Int32))), .val (.int f5), .val (.int f6), .val (.int f7), .val (.ref t102), .unset, .unset, .unset, .unset, .unset, .unset] [(.ref t109)]))
        refine FinH.by (fun t k => XS.astore X108w.here hx rfl (hb hby at_66) rfl rfl (l' := #[.val (.int p1), .val (.int p2), .val (.int p3), .val (.int p4), .val (.int (p4 &&& (3 : Int32))), .val (.int f5), .val (.int f6), .val (.int f7), .val (.ref t102), .val (.ref t109), .unset, .unset, .unset, .unset, .unset]) rfl k) ?_
        show FinH _ _ _ _ _ _ _ _ _ (T108.setTop (mkF m 68 #[.val (.int p1), .val (.int p2), .val (.int p3), .val (.int p4), .val (.int (p4 &&& (3 : Int32))), .val (.int f5), .val (.int f6), .val (.int f7), .val (.ref t102), .val (.ref t109), .unset, .unset, .unset, .unset, .unset] []))
        refine FinH.by (fun t k => XS.iload X108w.here hx rfl (hb hby at_68) rfl k) ?_
        show FinH _ _ _ _ _ _ _ _ _ (T108.setTop (mkF m 70 #[.val (.int p1), .val (.int p2), .val (.int p3), .val (.int p4), .val (.int (p4 &&& (3 : Int32))), .val (.int f5), .val (.int f6), .val (.int f7), .val (.ref t102), .val (.ref t109), .unset, .unset, .unset, .unset, .unset] [(.int f5)]))
        have J79 : ∀ (v10 : Value), v10.isRef = true → FinH p e below Z consts_1 s (Q_law Z p1 p2 p3 p4 G1 h0 n0) 32 2176 (T108.setTop (mkF m 79 #[.val (.int p1), .val (.int p2), .val (.int p3), .val (.int p4), .val (.int (p4 &&& (3 : Int32))), .val (.int f5), .val (.int f6), .val (.int f7), .val (.ref t102), .val (.ref t109), .unset, .unset, .unset, .unset, .unset] [v10])) := by
          intro v10 r10
          refine FinH.by (fun t k => XS.astore X108w.here hx rfl (hb hby at_79) rfl r10 (l' := #[.val (.int p1), .val (.int p2), .val (.int p3), .val (.int p4), .val (.int (p4 &&& (3 : Int32))), .val (.int f5), .val (.int f6), .val (.int f7), .val (.ref t102), .val (.ref t109), .val v10, .unset, .unset, .unset, .unset]) (XS.store1 (o := .unset) rfl (Or.inl rfl) (cat_ref r10)) k) ?_
          show FinH _ _ _ _ _ _ _ _ _ (T108.setTop (mkF m 81 #[.val (.int p1), .val (.int p2), .val (.int p3), .val (.int p4), .val (.int (p4 &&& (3 : Int32))), .val (.int f5), .val (.int f6), .val (.int f7), .val (.ref t102), .val (.ref t109), .val v10, .unset, .unset, .unset, .unset] []))
          obtain ⟨T110, h110, X110, e110, E110, A110, D110, -, st110⟩ := newO X108w hx hZ108 hown108 (hw _ (List.mem_of_getElem? (i := 48) rfl)) (hw _ (List.mem_of_getElem? (i := 49) rfl)) (hw _ (List.mem_of_getElem? (i := 50) rfl)) rfl (g := (mkF m 81 #[.val (.int p1), .val (.int p2), .val (.int p3), .val (.int p4), .val (.int (p4 &&& (3 : Int32))), .val (.int f5), .val (.int f6), .val (.int f7), .val (.ref t102), .val (.ref t109), .val v10, .unset, .unset, .unset, .unset] [])) rfl (hb hby at_81) (by decide) (by decide)
          obtain ⟨a110, g110⟩ : ∃ z, z = T108.heap.size := ⟨_, rfl⟩
          rw [← g110] at A110 D110 st110
          refine FinH.by (fun t k => st110 t k) ?_
          show FinH _ _ _ _ _ _ _ _ _ (T110.setTop (mkF m 84 #[.val (.int p1), .val (.int p2), .val (.int p3), .val (.int p4), .val (.int (p4 &&& (3 : Int32))), .val (.int f5), .val (.int f6), .val (.int f7), .val (.ref t102), .val (.ref t109), .val v10, .unset, .unset, .unset, .unset] [(.ref a110)]))
          refine FinH.by (fun t k => XS.dup X110.here hx rfl (hb hby at_84) rfl rfl k) ?_
          show FinH _ _ _ _ _ _ _ _ _ (T110.setTop (mkF m 85 #[.val (.int p1), .val (.int p2), .val (.int p3), .val (.int p4), .val (.int (p4 &&& (3 : Int32))), .val (.int f5), .val (.int f6), .val (.int f7), .val (.ref t102), .val (.ref t109), .val v10, .unset, .unset, .unset, .unset] [(.ref a110), (.ref a110)]))
          refine FinH.by (fun t k => XS.aload X110.here hx rfl (hb hby at_85) rfl rfl k) ?_
          show FinH _ _ _ _ _ _ _ _ _ (T110.setTop (mkF m 87 #[.val (.int p1), .val (.int p2), .val (.int p3), .val (.int p4), .val (.int (p4 &&& (3 : Int32))), .val (.int f5), .val (.int f6), .val (.int f7), .val (.ref t102), .val (.ref t109), .val v10, .unset, .unset, .unset, .unset] [(.ref t102), (.ref a110), (.ref a110)]))
          refine FinH.by (fun t k => XS.aload X110.here hx rfl (hb hby at_87) rfl r10 k) ?_
          show FinH _ _ _ _ _ _ _ _ _ (T110.setTop (mkF m 89 #[.val (.int p1), .val (.int p2), .val (.int p3), .val (.int p4), .val (.int (p4 &&& (3 : Int32))), .val (.int f5), .val (.int f6), .val (.int f7), .val (.ref t102), .val (.ref t109), .val v10, .unset, .unset, .unset, .unset] [v10, (.ref t102), (.ref a110), (.ref a110)]))
          have ch112 : CHr Z consts_1 s.vm h0 T108.vm T108.heap := ch107.trans hC108
          have ch113 : CHr Z consts_1 s.vm h0 T108.vm h110 := ch112.trans (CHr.ext E110 ch112.1)
          obtain ⟨a111, T111, h111, k111, b111, kk111, X111, e111, E111, hS111, hk111, hZ111, hown111, xE111, xC111, xV111, xA111, la111, lb111, hC111, hL111, hne111, st111⟩ := ldcCH X110 hx hZ108 hown108 (hw _ (List.mem_of_getElem? (i := 51) rfl)) (fun d hd => hw d (own_strAtoms d hd)) e110 hS108w (Nat.le_trans (Nat.le_refl _) E110.1) own_EW (by decide) ch113.1 (vs := [(.int (104 : Int32))]) (z := (1 : Int32)) ⟨by decide, by rfl⟩ (by decide) rfl (g := (mkF m 89 #[.val (.int p1), .val (.int p2), .val (.int p3), .val (.int p4), .val (.int (p4 &&& (3 : Int32))), .val (.int f5), .val (.int f6), .val (.int f7), .val (.ref t102), .val (.ref t109), .val v10, .unset, .unset, .unset, .unset] [v10, (.ref t102), (.ref a110), (.ref a110)])) rfl (hb hby at_89) (n := 4) (by decide) (by decide) (by decide) (by decide)
          refine FinH.by (fun t k => st111 t k) ?_
          show FinH _ _ _ _ _ _ _ _ _ (T111.setTop (mkF m 91 #[.val (.int p1), .val (.int p2), .val (.int p3), .val (.int p4), .val (.int (p4 &&& (3 : Int32))), .val (.int f5), .val (.int f6), .val (.int f7), .val (.ref t102), .val (.ref t109), .val v10, .unset, .unset, .unset, .unset] [(.ref a111), v10, (.ref t102), (.ref a110), (.ref a110)]))
          refine FinH.by (fun t k => XS.iload X111.here hx rfl (hb hby at_91) rfl k) ?_
          show FinH _ _ _ _ _ _ _ _ _ (T111.setTop (mkF m 93 #[.val (.int p1), .val (.int p2), .val (.int p3), .val (.int p4), .val (.int (p4 &&& (3 : Int32))), .val (.int f5), .val (.int f6), .val (.int f7), .val (.ref t102), .val (.ref t109), .val v10, .unset, .unset, .unset, .unset] [(.int f6), (.ref a111), v10, (.ref t102), (.ref a110), (.ref a110)]))
          refine FinH.by (fun t k => XS.iload X111.here hx rfl (hb hby at_93) rfl k) ?_
          show FinH _ _ _ _ _ _ _ _ _ (T111.setTop (mkF m 95 #[.val (.int p1), .val (.int p2), .val (.int p3), .val (.int p4), .val (.int (p4 &&& (3 : Int32))), .val (.int f5), .val (.int f6), .val (.int f7), .val (.ref t102), .val (.ref t109), .val v10, .unset, .unset, .unset, .unset] [(.int f7), (.int f6), (.ref a111), v10, (.ref t102), (.ref a110), (.ref a110)]))
          have E114 : Exa Z h111 a110 "com/example/jiaoge/jiaoge/cli/CommandOption" := (A110.ext E111)
          have F115 : Fld Z h111 a110 "com/example/jiaoge/jiaoge/cli/CommandOption" "name" "Ljava/lang/String;" .null := ((D110 (Or.inr (hw _ (List.mem_of_getElem? (i := 64) rfl))) (ty := (.object "java/lang/String")) (by decide) : Fld Z h110 a110 "com/example/jiaoge/jiaoge/cli/CommandOption" "name" "Ljava/lang/String;" .null).ext E111)
          have F116 : Fld Z h111 a110 "com/example/jiaoge/jiaoge/cli/CommandOption" "label" "Ljava/lang/String;" .null := ((D110 (Or.inr (hw _ (List.mem_of_getElem? (i := 66) rfl))) (ty := (.object "java/lang/String")) (by decide) : Fld Z h110 a110 "com/example/jiaoge/jiaoge/cli/CommandOption" "label" "Ljava/lang/String;" .null).ext E111)
          have F117 : Fld Z h111 a110 "com/example/jiaoge/jiaoge/cli/CommandOption" "help" "Ljava/lang/String;" .null := ((D110 (Or.inr (hw _ (List.mem_of_getElem? (i := 68) rfl))) (ty := (.object "java/lang/String")) (by decide) : Fld Z h110 a110 "com/example/jiaoge/jiaoge/cli/CommandOption" "help" "Ljava/lang/String;" .null).ext E111)
          have F118 : Fld Z h111 a110 "com/example/jiaoge/jiaoge/cli/CommandOption" "required" "Z" (.int (0 : Int32)) := ((D110 (Or.inr (hw _ (List.mem_of_getElem? (i := 70) rfl))) (ty := .boolean) (by decide) : Fld Z h110 a110 "com/example/jiaoge/jiaoge/cli/CommandOption" "required" "Z" (.int (0 : Int32))).ext E111)
          have F119 : Fld Z h111 a110 "com/example/jiaoge/jiaoge/cli/CommandOption" "repeatable" "Z" (.int (0 : Int32)) := ((D110 (Or.inr (hw _ (List.mem_of_getElem? (i := 72) rfl))) (ty := .boolean) (by decide) : Fld Z h110 a110 "com/example/jiaoge/jiaoge/cli/CommandOption" "repeatable" "Z" (.int (0 : Int32))).ext E111)
          have z121 : n0 ≤ T108.heap.size := Nat.le_trans z106 p108_0.1
          have g120 : n0 ≤ a110 := Nat.le_trans z121 (Nat.le_of_eq g110.symm)
          have z122 : n0 ≤ h111.size := Nat.le_trans z106 (Nat.le_trans (Nat.le_trans p108_0.1 E110.1) E111.1)
          obtain ⟨v123, _, ⟨T123, L123, k123, n123⟩, -, X123, ⟨Lc123, hQ123, l123, y123, z123⟩, st123⟩ := X111.specialBack hx (y := (⟨"com/example/jiaoge/jiaoge/cli/CommandOption", "<init>", "(Ljava/lang/String;Ljava/lang/String;Ljava/lang/String;ZZ)V"⟩ : MethodName)) rfl hown111 (mvT hZ111 (hw _ (List.mem_of_getElem? (i := 54) rfl))) (mvT hZ111 (hw _ (List.mem_of_getElem? (i := 55) rfl))) (mvT hZ111 (hw _ (List.mem_of_getElem? (i := 56) rfl))) (by decide) (backOf (W := 1) (rm_ini l Z a0 hw [] a110 (Value.ref t102) v10 (Value.ref a111) f6 f7 h111 n0 z122 E114 F115 F116 F117 F118 F119 g120 rfl r10 rfl) hZ111 (hw _ (List.mem_of_getElem? (i := 56) rfl)) (hw _ (List.mem_of_getElem? (i := 50) rfl)) (by decide) (by decide)) (g := (mkF m 95 #[.val (.int p1), .val (.int p2), .val (.int p3), .val (.int p4), .val (.int (p4 &&& (3 : Int32))), .val (.int f5), .val (.int f6), .val (.int f7), .val (.ref t102), .val (.ref t109), .val v10, .unset, .unset, .unset, .unset] [(.int f7), (.int f6), (.ref a111), v10, (.ref t102), (.ref a110), (.ref a110)])) rfl (by rw [hml]; rfl) (Steps.refl _) (a := a110) (argsL := [(.ref t102), v10, (.ref a111), (.int f6), (.int f7)]) (rest := [(.ref a110)]) (lenOf pd_172 rfl) rfl (by show 2 * 0 + _ ≤ _; exact Nat.le_of_eq rfl) (hb hby at_95) (fun _ _ => ⟨rfl, e111, (by decide : 11 + 0 ≤ _), (by decide : 30 + 0 ≤ _)⟩)
          dsimp only [Pt.U, Pt.locs, Pt.cells, Pt.slots] at X123 l123 y123 z123 st123 hQ123
          subst l123 y123 z123
          obtain ⟨rfl, Nq123, p123_0, p123_1, p123_2⟩ := hQ123
          have N123_ := Fr.app N108_ Nq123
          refine FinH.byS st123 ?_
          show FinH _ _ _ _ _ _ _ _ _ (T123.setTop (mkF m 98 #[.val (.int p1), .val (.int p2), .val (.int p3), .val (.int p4), .val (.int (p4 &&& (3 : Int32))), .val (.int f5), .val (.int f6), .val (.int f7), .val (.ref t102), .val (.ref t109), .val v10, .unset, .unset, .unset, .unset] [(.ref a110)]))
          refine FinH.by (fun t k => XS.astore X123.here hx rfl (hb hby at_98) rfl rfl (l' := #[.val (.int p1), .val (.int p2), .val (.int p3), .val (.int p4), .val (.int (p4 &&& (3 : Int32))), .val (.int f5), .val (.int f6), .val (.int f7), .val (.ref t102), .val (.ref t109), .val v10, .val (.ref a110), .unset, .unset, .unset]) rfl k) ?_
          show FinH _ _ _ _ _ _ _ _ _ (T123.setTop (mkF m 100 #[.val (.int p1), .val (.int p2), .val (.int p3), .val (.int p4), .val (.int (p4 &&& (3 : Int32))), .val (.int f5), .val (.int f6), .val (.int f7), .val (.ref t102), .val (.ref t109), .val v10, .val (.ref a110), .unset, .unset, .unset] []))
          refine FinH.by (fun t k => XS.aload X123.here hx rfl (hb hby at_100) rfl rfl k) ?_
          show FinH _ _ _ _ _ _ _ _ _ (T123.setTop (mkF m 102 #[.val (.int p1), .val (.int p2), .val (.int p3), .val (.int p4), .val (.int (p4 &&& (3 : Int32))), .val (.int f5), .val (.int f6), .val (.int f7), .val (.ref t102), .val (.ref t109), .val v10, .val (.ref a110), .unset, .unset, .unset] [(.ref a110)]))
          have z124 : n0 ≤ T123.heap.size := Nat.le_trans z122 p123_0.1
          obtain ⟨cq125, kq125, qa125, qb125, qc125⟩ := isOf hZ111 rfl p123_1
          obtain ⟨v125, _, ⟨T125, L125, k125, n125⟩, -, X125, ⟨Lc125, hQ125, l125, y125, z125⟩, st125⟩ := X123.virtualBack hx (y := (⟨"com/example/jiaoge/jiaoge/cli/CommandOption", "takesValue", "()Z"⟩ : MethodName)) (z := (⟨"com/example/jiaoge/jiaoge/cli/CommandOption", "takesValue", "()Z"⟩ : MethodName)) hown111 (mvT hZ111 (hw _ (List.mem_of_getElem? (i := 73) rfl))) (mvT hZ111 (hw _ (List.mem_of_getElem? (i := 74) rfl))) (notFace_of_selects (args := #[]) (mvT hZ111 (hw _ (List.mem_of_getElem? (i := 76) rfl)))) (mvT hZ111 (hw _ (List.mem_of_getElem? (i := 76) rfl))) (mvT hZ111 (hw _ (List.mem_of_getElem? (i := 75) rfl))) (by decide) (backOf (W := 0) (rm_tak l Z a0 hw [] a110 v10 T123.heap n0 z124 p123_2 r10) hZ111 (hw _ (List.mem_of_getElem? (i := 77) rfl)) (hw _ (List.mem_of_getElem? (i := 50) rfl)) (by decide) (by decide)) qa125 qc125 (g := (mkF m 102 #[.val (.int p1), .val (.int p2), .val (.int p3), .val (.int p4), .val (.int (p4 &&& (3 : Int32))), .val (.int f5), .val (.int f6), .val (.int f7), .val (.ref t102), .val (.ref t109), .val v10, .val (.ref a110), .unset, .unset, .unset] [(.ref a110)])) rfl (by rw [hml]; rfl) (Steps.refl _) (argsL := []) (rest := []) (lenOf pd_210 rfl) rfl (by show 2 * 0 + _ ≤ _; exact Nat.le_of_eq rfl) (hb hby at_102) (fun _ _ => ⟨rfl, rfl, (by decide : 11 + 0 ≤ _), (by decide : 30 + 0 ≤ _)⟩)
          dsimp only [Pt.U, Pt.locs, Pt.cells, Pt.slots] at X125 l125 y125 z125 st125 hQ125
          subst l125 y125 z125
          obtain ⟨rfl, Nq125, e125_⟩ := hQ125
          have N125_ := Fr.app N123_ Nq125
          refine FinH.byS st125 ?_
          have e125 := e125_
          show FinH _ _ _ _ _ _ _ _ _ (T125.setTop (mkF m 105 #[.val (.int p1), .val (.int p2), .val (.int p3), .val (.int p4), .val (.int (p4 &&& (3 : Int32))), .val (.int f5), .val (.int f6), .val (.int f7), .val (.ref t102), .val (.ref t109), .val v10, .val (.ref a110), .unset, .unset, .unset] [(.int (nar .boolean (tv v10)))]))
          refine FinH.by (fun t k => XS.aload X125.here hx rfl (hb hby at_105) rfl r10 k) ?_
          show FinH _ _ _ _ _ _ _ _ _ (T125.setTop (mkF m 107 #[.val (.int p1), .val (.int p2), .val (.int p3), .val (.int p4), .val (.int (p4 &&& (3 : Int32))), .val (.int f5), .val (.int f6), .val (.int f7), .val (.ref t102), .val (.ref t109), .val v10, .val (.ref a110), .unset, .unset, .unset] [v10, (.int (nar .boolean (tv v10)))]))
          have J125 : ∀ (_ : True), FinH p e below Z consts_1 s (Q_law Z p1 p2 p3 p4 G1 h0 n0) 32 2176 (T125.setTop (mkF m 125 #[.val (.int p1), .val (.int p2), .val (.int p3), .val (.int p4), .val (.int (p4 &&& (3 : Int32))), .val (.int f5), .val (.int f6), .val (.int f7), .val (.ref t102), .val (.ref t109), .val v10, .val (.ref a110), .val (.int (1 : Int32)), .unset, .unset] [])) := by
            intro _
            refine FinH.by (fun t k => XS.iload X125.here hx rfl (hb hby at_125) rfl k) ?_
            show FinH _ _ _ _ _ _ _ _ _ (T125.setTop (mkF m 127 #[.val (.int p1), .val (.int p2), .val (.int p3), .val (.int p4), .val (.int (p4 &&& (3 : Int32))), .val (.int f5), .val (.int f6), .val (.int f7), .val (.ref t102), .val (.ref t109), .val v10, .val (.ref a110), .val (.int (1 : Int32)), .unset, .unset] [(.int (p4 &&& (3 : Int32)))]))
            by_cases hk0 : (p4 &&& (3 : Int32)) = (0 : Int32)
            · refine FinH.by (fun t k => XS.ifNo X125.here hx rfl (hb hby at_127) rfl ((if0 _ _).trans (teq hk0).2) k) ?_
              show FinH _ _ _ _ _ _ _ _ _ (T125.setTop (mkF m 130 #[.val (.int p1), .val (.int p2), .val (.int p3), .val (.int p4), .val (.int (p4 &&& (3 : Int32))), .val (.int f5), .val (.int f6), .val (.int f7), .val (.ref t102), .val (.ref t109), .val v10, .val (.ref a110), .val (.int (1 : Int32)), .unset, .unset] []))
              refine FinH.by (fun t k => XS.aload X125.here hx rfl (hb hby at_130) rfl rfl k) ?_
              show FinH _ _ _ _ _ _ _ _ _ (T125.setTop (mkF m 132 #[.val (.int p1), .val (.int p2), .val (.int p3), .val (.int p4), .val (.int (p4 &&& (3 : Int32))), .val (.int f5), .val (.int f6), .val (.int f7), .val (.ref t102), .val (.ref t109), .val v10, .val (.ref a110), .val (.int (1 : Int32)), .unset, .unset] [(.ref t102)]))
              have ch128 : CHr Z consts_1 s.vm h0 T111.vm h111 := ch113.trans hC111
              have sf130 : Safe Z consts_1 T108.vm h110 a110 := (Safe.ext E110 ch112.1 (Safe.new (Nat.le_of_eq g110.symm)))
              have sf131 : Safe Z consts_1 T111.vm h111 a110 := (CHr.safe hC111 A110.lt sf130)
              have ch129 : CHr Z consts_1 s.vm h0 T111.vm T123.heap := ch128.trans (CHr.keep p123_0 (allS sf131 all0) ch128.1)
              obtain ⟨a127, T127, h127, k127, b127, kk127, X127, e127, E127, hS127, hk127, hZ127, hown127, xE127, xC127, xV127, xA127, la127, lb127, hC127, hL127, hne127, st127⟩ := ldcCH X125 hx hZ111 hown111 (hw _ (List.mem_of_getElem? (i := 51) rfl)) (fun d hd => hw d (own_strAtoms d hd)) e125 hS111 (Nat.le_trans hk111 p123_0.1) own_EW (by decide) ch129.1 (vs := [(.int (104 : Int32))]) (z := (1 : Int32)) ⟨by decide, by rfl⟩ (by decide) rfl (g := (mkF m 132 #[.val (.int p1), .val (.int p2), .val (.int p3), .val (.int p4), .val (.int (p4 &&& (3 : Int32))), .val (.int f5), .val (.int f6), .val (.int f7), .val (.ref t102), .val (.ref t109), .val v10, .val (.ref a110), .val (.int (1 : Int32)), .unset, .unset] [(.ref t102)])) rfl (hb hby at_132) (n := 4) (by decide) (by decide) (by decide) (by decide)
              refine FinH.by (fun t k => st127 t k) ?_
              show FinH _ _ _ _ _ _ _ _ _ (T127.setTop (mkF m 134 #[.val (.int p1), .val (.int p2), .val (.int p3), .val (.int p4), .val (.int (p4 &&& (3 : Int32))), .val (.int f5), .val (.int f6), .val (.int f7), .val (.ref t102), .val (.ref t109), .val v10, .val (.ref a110), .val (.int (1 : Int32)), .unset, .unset] [(.ref a127), (.ref t102)]))
              have z132 : n0 ≤ h127.size := Nat.le_trans z124 E127.1
              obtain ⟨v133, _, ⟨T133, L133, k133, n133⟩, -, X133, ⟨Lc133, hQ133, l133, y133, z133⟩, st133⟩ := Jvm.LawKit.callS X127 hx (y := (⟨"com/example/jiaoge/jiaoge/cli/CommandOption", "flag", "(Ljava/lang/String;Ljava/lang/String;)Lcom/example/jiaoge/jiaoge/cli/CommandOption;"⟩ : MethodName)) hown127 (mvT hZ127 (hw _ (List.mem_of_getElem? (i := 86) rfl))) (mvT hZ127 (hw _ (List.mem_of_getElem? (i := 87) rfl))) (mvT hZ127 (hw _ (List.mem_of_getElem? (i := 50) rfl))) (mvT hZ127 (hw _ (List.mem_of_getElem? (i := 88) rfl))) (by decide) (backOf (W := 0) (rm_f_flag l Z a0 hw [] (Value.ref t102) (Value.ref a127) h127 n0 z132 rfl rfl) hZ127 (hw _ (List.mem_of_getElem? (i := 88) rfl)) (hw _ (List.mem_of_getElem? (i := 50) rfl)) (by decide) (by decide)) (g := (mkF m 134 #[.val (.int p1), .val (.int p2), .val (.int p3), .val (.int p4), .val (.int (p4 &&& (3 : Int32))), .val (.int f5), .val (.int f6), .val (.int f7), .val (.ref t102), .val (.ref t109), .val v10, .val (.ref a110), .val (.int (1 : Int32)), .unset, .unset] [(.ref a127), (.ref t102)])) rfl (by rw [hml]; rfl) (argsL := [(.ref t102), (.ref a127)]) (rest := []) (lenOf pd_211 rfl) rfl (by show 2 * 0 + _ ≤ _; exact Nat.le_of_eq rfl) (hb hby at_134) (fun _ _ => ⟨rfl, e127, (by decide : 13 + 1 ≤ _), (by decide : 38 + 5 ≤ _)⟩)
              dsimp only [Pt.U, Pt.locs, Pt.cells, Pt.slots] at X133 l133 y133 z133 st133 hQ133
              subst l133 y133 z133
              obtain ⟨t134, rfl, Nq133, p133_0, p133_1, p133_2, p133_3⟩ := hQ133
              have N133_ := Fr.app N125_ Nq133
              refine FinH.by (fun t k => st133 t k) ?_
              show FinH _ _ _ _ _ _ _ _ _ (T133.setTop (mkF m 137 #[.val (.int p1), .val (.int p2), .val (.int p3), .val (.int p4), .val (.int (p4 &&& (3 : Int32))), .val (.int f5), .val (.int f6), .val (.int f7), .val (.ref t102), .val (.ref t109), .val v10, .val (.ref a110), .val (.int (1 : Int32)), .unset, .unset] [(.ref t134)]))
              refine FinH.by (fun t k => XS.astore X133.here hx rfl (hb hby at_137) rfl rfl (l' := #[.val (.int p1), .val (.int p2), .val (.int p3), .val (.int p4), .val (.int (p4 &&& (3 : Int32))), .val (.int f5), .val (.int f6), .val (.int f7), .val (.ref t102), .val (.ref t109), .val v10, .val (.ref a110), .val (.int (1 : Int32)), .val (.ref t134), .unset]) rfl k) ?_
              show FinH _ _ _ _ _ _ _ _ _ (T133.setTop (mkF m 139 #[.val (.int p1), .val (.int p2), .val (.int p3), .val (.int p4), .val (.int (p4 &&& (3 : Int32))), .val (.int f5), .val (.int f6), .val (.int f7), .val (.ref t102), .val (.ref t109), .val v10, .val (.ref a110), .val (.int (1 : Int32)), .val (.ref t134), .unset] []))
              refine FinH.by (fun t k => XS.iconst X133.here hx rfl (hb hby at_139) k) ?_
              show FinH _ _ _ _ _ _ _ _ _ (T133.setTop (mkF m 140 #[.val (.int p1), .val (.int p2), .val (.int p3), .val (.int p4), .val (.int (p4 &&& (3 : Int32))), .val (.int f5), .val (.int f6), .val (.int f7), .val (.ref t102), .val (.ref t109), .val v10, .val (.ref a110), .val (.int (1 : Int32)), .val (.ref t134), .unset] [(.int (0 : Int32))]))
              refine FinH.by (fun t k => XS.istore X133.here hx rfl (hb hby at_140) rfl (l' := #[.val (.int p1), .val (.int p2), .val (.int p3), .val (.int p4), .val (.int (p4 &&& (3 : Int32))), .val (.int f5), .val (.int f6), .val (.int f7), .val (.ref t102), .val (.ref t109), .val v10, .val (.ref a110), .val (.int (1 : Int32)), .val (.ref t134), .val (.int (0 : Int32))]) rfl k) ?_
              show FinH _ _ _ _ _ _ _ _ _ (T133.setTop (mkF m 142 #[.val (.int p1), .val (.int p2), .val (.int p3), .val (.int p4), .val (.int (p4 &&& (3 : Int32))), .val (.int f5), .val (.int f6), .val (.int f7), .val (.ref t102), .val (.ref t109), .val v10, .val (.ref a110), .val (.int (1 : Int32)), .val (.ref t134), .val (.int (0 : Int32))] []))
              refine FinH.by (fun t k => XS.goto X133.here hx rfl (pc0 := 142) (pc' := 205) rfl (hb hby at_142) (by decide) (by decide) k) ?_
              show FinH _ _ _ _ _ _ _ _ _ (T133.setTop (mkF m 205 #[.val (.int p1), .val (.int p2), .val (.int p3), .val (.int p4), .val (.int (p4 &&& (3 : Int32))), .val (.int f5), .val (.int f6), .val (.int f7), .val (.ref t102), .val (.ref t109), .val v10, .val (.ref a110), .val (.int (1 : Int32)), .val (.ref t134), .val (.int (0 : Int32))] []))
              refine FinH.by (fun t k => XS.iload X133.here hx rfl (hb hby at_205) rfl k) ?_
              show FinH _ _ _ _ _ _ _ _ _ (T133.setTop (mkF m 207 #[.val (.int p1), .val (.int p2), .val (.int p3), .val (.int p4), .val (.int (p4 &&& (3 : Int32))), .val (.int f5), .val (.int f6), .val (.int f7), .val (.ref t102), .val (.ref t109), .val v10, .val (.ref a110), .val (.int (1 : Int32)), .val (.ref t134), .val (.int (0 : Int32))] [(.int (1 : Int32))]))
              refine FinH.by (fun t k => XS.ifNo X133.here hx rfl (hb hby at_207) rfl ((if0 _ _).trans (feq (by decide : ¬ (1 : Int32) = (0 : Int32))).1) k) ?_
              show FinH _ _ _ _ _ _ _ _ _ (T133.setTop (mkF m 210 #[.val (.int p1), .val (.int p2), .val (.int p3), .val (.int p4), .val (.int (p4 &&& (3 : Int32))), .val (.int f5), .val (.int f6), .val (.int f7), .val (.ref t102), .val (.ref t109), .val v10, .val (.ref a110), .val (.int (1 : Int32)), .val (.ref t134), .val (.int (0 : Int32))] []))
              refine FinH.by (fun t k => XS.aload X133.here hx rfl (hb hby at_210) rfl rfl k) ?_
              show FinH _ _ _ _ _ _ _ _ _ (T133.setTop (mkF m 212 #[.val (.int p1), .val (.int p2), .val (.int p3), .val (.int p4), .val (.int (p4 &&& (3 : Int32))), .val (.int f5), .val (.int f6), .val (.int f7), .val (.ref t102), .val (.ref t109), .val v10, .val (.ref a110), .val (.int (1 : Int32)), .val (.ref t134), .val (.int (0 : Int32))] [(.ref t134)]))
              have z135 : n0 ≤ T133.heap.size := Nat.le_trans z132 p133_0.1
              obtain ⟨cq136, kq136, qa136, qb136, qc136⟩ := isOf hZ127 rfl p133_2
              obtain ⟨v136, _, ⟨T136, L136, k136, n136⟩, -, X136, ⟨Lc136, hQ136, l136, y136, z136⟩, st136⟩ := X133.virtualBack hx (y := (⟨"com/example/jiaoge/jiaoge/cli/CommandOption", "takesValue", "()Z"⟩ : MethodName)) (z := (⟨"com/example/jiaoge/jiaoge/cli/CommandOption", "takesValue", "()Z"⟩ : MethodName)) hown127 (mvT hZ127 (hw _ (List.mem_of_getElem? (i := 73) rfl))) (mvT hZ127 (hw _ (List.mem_of_getElem? (i := 74) rfl))) (notFace_of_selects (args := #[]) (mvT hZ127 (hw _ (List.mem_of_getElem? (i := 76) rfl)))) (mvT hZ127 (hw _ (List.mem_of_getElem? (i := 76) rfl))) (mvT hZ127 (hw _ (List.mem_of_getElem? (i := 75) rfl))) (by decide) (backOf (W := 0) (rm_tak l Z a0 hw [] t134 Value.null T133.heap n0 z135 p133_3 rfl) hZ127 (hw _ (List.mem_of_getElem? (i := 77) rfl)) (hw _ (List.mem_of_getElem? (i := 50) rfl)) (by decide) (by decide)) qa136 qc136 (g := (mkF m 212 #[.val (.int p1), .val (.int p2), .val (.int p3), .val (.int p4), .val (.int (p4 &&& (3 : Int32))), .val (.int f5), .val (.int f6), .val (.int f7), .val (.ref t102), .val (.ref t109), .val v10, .val (.ref a110), .val (.int (1 : Int32)), .val (.ref t134), .val (.int (0 : Int32))] [(.ref t134)])) rfl (by rw [hml]; rfl) (Steps.refl _) (argsL := []) (rest := []) (lenOf pd_210 rfl) rfl (by show 2 * 0 + _ ≤ _; exact Nat.le_of_eq rfl) (hb hby at_212) (fun _ _ => ⟨rfl, rfl, (by decide : 14 + 0 ≤ _), (by decide : 43 + 0 ≤ _)⟩)
              dsimp only [Pt.U, Pt.locs, Pt.cells, Pt.slots] at X136 l136 y136 z136 st136 hQ136
              subst l136 y136 z136
              obtain ⟨rfl, Nq136, e136_⟩ := hQ136
              have N136_ := Fr.app N133_ Nq136
              refine FinH.byS st136 ?_
              have e136 := e136_
              show FinH _ _ _ _ _ _ _ _ _ (T136.setTop (mkF m 215 #[.val (.int p1), .val (.int p2), .val (.int p3), .val (.int p4), .val (.int (p4 &&& (3 : Int32))), .val (.int f5), .val (.int f6), .val (.int f7), .val (.ref t102), .val (.ref t109), .val v10, .val (.ref a110), .val (.int (1 : Int32)), .val (.ref t134), .val (.int (0 : Int32))] [(.int (nar .boolean (tv Value.null)))]))
              refine FinH.by (fun t k => XS.iload X136.here hx rfl (hb hby at_215) rfl k) ?_
              show FinH _ _ _ _ _ _ _ _ _ (T136.setTop (mkF m 217 #[.val (.int p1), .val (.int p2), .val (.int p3), .val (.int p4), .val (.int (p4 &&& (3 : Int32))), .val (.int f5), .val (.int f6), .val (.int f7), .val (.ref t102), .val (.ref t109), .val v10, .val (.ref a110), .val (.int (1 : Int32)), .val (.ref t134), .val (.int (0 : Int32))] [(.int (0 : Int32)), (.int (nar .boolean (tv Value.null)))]))
              refine FinH.by (fun t k => XS.icmpNo X136.here hx rfl (hb hby at_217) rfl (teq (by decide : (nar .boolean (tv Value.null)) = (0 : Int32))).2 k) ?_
              show FinH _ _ _ _ _ _ _ _ _ (T136.setTop (mkF m 220 #[.val (.int p1), .val (.int p2), .val (.int p3), .val (.int p4), .val (.int (p4 &&& (3 : Int32))), .val (.int f5), .val (.int f6), .val (.int f7), .val (.ref t102), .val (.ref t109), .val v10, .val (.ref a110), .val (.int (1 : Int32)), .val (.ref t134), .val (.int (0 : Int32))] []))
              refine FinH.by (fun t k => XS.iconst X136.here hx rfl (hb hby at_220) k) ?_
              show FinH _ _ _ _ _ _ _ _ _ (T136.setTop (mkF m 221 #[.val (.int p1), .val (.int p2), .val (.int p3), .val (.int p4), .val (.int (p4 &&& (3 : Int32))), .val (.int f5), .val (.int f6), .val (.int f7), .val (.ref t102), .val (.ref t109), .val v10, .val (.ref a110), .val (.int (1 : Int32)), .val (.ref t134), .val (.int (0 : Int32))] [(.int (1 : Int32))]))
              refine FinH.by (fun t k => XS.goto X136.here hx rfl (pc0 := 221) (pc' := 225) rfl (hb hby at_221) (by decide) (by decide) k) ?_
              show FinH _ _ _ _ _ _ _ _ _ (T136.setTop (mkF m 225 #[.val (.int p1), .val (.int p2), .val (.int p3), .val (.int p4), .val (.int (p4 &&& (3 : Int32))), .val (.int f5), .val (.int f6), .val (.int f7), .val (.ref t102), .val (.ref t109), .val v10, .val (.ref a110), .val (.int (1 : Int32)), .val (.ref t134), .val (.int (0 : Int32))] [(.int (1 : Int32))]))
              have ch137 : CHr Z consts_1 s.vm h0 T127.vm h127 := ch129.trans hC127
              have ch138 : CHr Z consts_1 s.vm h0 T127.vm T133.heap := ch137.trans (CHr.keep p133_0 all0 ch137.1)
              exact FinH.ret (v := some (.int (nar .boolean (1 : Int32)))) X136 hS127 (by rw [e136]; exact (Nat.le_trans hk127 p133_0.1)) (fun h => by rw [Bd.returns] at h; cases h) Bd.notSynchronized (by rw [e136]; exact ⟨rfl, N136_⟩) (by rw [hh, e136]; exact ch138.trans (CHv.at X136 hZ127 own_EW ch138.1)) (by decide) (by decide) (fun fs hr => retN X136 hx (t := .boolean) Bd.returns (by simp) (hb hby at_225) hr)
            · refine FinH.by (fun t k => XS.ifYes X125.here hx rfl (pc0 := 127) (pc' := 145) rfl (hb hby at_127) rfl ((if0 _ _).trans (feq hk0).2) (by decide) (by decide) k) ?_
              show FinH _ _ _ _ _ _ _ _ _ (T125.setTop (mkF m 145 #[.val (.int p1), .val (.int p2), .val (.int p3), .val (.int p4), .val (.int (p4 &&& (3 : Int32))), .val (.int f5), .val (.int f6), .val (.int f7), .val (.ref t102), .val (.ref t109), .val v10, .val (.ref a110), .val (.int (1 : Int32)), .unset, .unset] []))
              refine FinH.by (fun t k => XS.iload X125.here hx rfl (hb hby at_145) rfl k) ?_
              show FinH _ _ _ _ _ _ _ _ _ (T125.setTop (mkF m 147 #[.val (.int p1), .val (.int p2), .val (.int p3), .val (.int p4), .val (.int (p4 &&& (3 : Int32))), .val (.int f5), .val (.int f6), .val (.int f7), .val (.ref t102), .val (.ref t109), .val v10, .val (.ref a110), .val (.int (1 : Int32)), .unset, .unset] [(.int (p4 &&& (3 : Int32)))]))
              refine FinH.by (fun t k => XS.iconst X125.here hx rfl (hb hby at_147) k) ?_
              show FinH _ _ _ _ _ _ _ _ _ (T125.setTop (mkF m 148 #[.val (.int p1), .val (.int p2), .val (.int p3), .val (.int p4), .val (.int (p4 &&& (3 : Int32))), .val (.int f5), .val (.int f6), .val (.int f7), .val (.ref t102), .val (.ref t109), .val v10, .val (.ref a110), .val (.int (1 : Int32)), .unset, .unset] [(.int (1 : Int32)), (.int (p4 &&& (3 : Int32)))]))
              by_cases hk1 : (p4 &&& (3 : Int32)) = (1 : Int32)
              · refine FinH.by (fun t k => XS.icmpNo X125.here hx rfl (hb hby at_148) rfl (teq hk1).2 k) ?_
                show FinH _ _ _ _ _ _ _ _ _ (T125.setTop (mkF m 151 #[.val (.int p1), .val (.int p2), .val (.int p3), .val (.int p4), .val (.int (p4 &&& (3 : Int32))), .val (.int f5), .val (.int f6), .val (.int f7), .val (.ref t102), .val (.ref t109), .val v10, .val (.ref a110), .val (.int (1 : Int32)), .unset, .unset] []))
                refine FinH.by (fun t k => XS.aload X125.here hx rfl (hb hby at_151) rfl rfl k) ?_
                show FinH _ _ _ _ _ _ _ _ _ (T125.setTop (mkF m 153 #[.val (.int p1), .val (.int p2), .val (.int p3), .val (.int p4), .val (.int (p4 &&& (3 : Int32))), .val (.int f5), .val (.int f6), .val (.int f7), .val (.ref t102), .val (.ref t109), .val v10, .val (.ref a110), .val (.int (1 : Int32)), .unset, .unset] [(.ref t102)]))
                refine FinH.by (fun t k => XS.aload X125.here hx rfl (hb hby at_153) rfl rfl k) ?_
                show FinH _ _ _ _ _ _ _ _ _ (T125.setTop (mkF m 155 #[.val (.int p1), .val (.int p2), .val (.int p3), .val (.int p4), .val (.int (p4 &&& (3 : Int32))), .val (.int f5), .val (.int f6), .val (.int f7), .val (.ref t102), .val (.ref t109), .val v10, .val (.ref a110), .val (.int (1 : Int32)), .unset, .unset] [(.ref t109), (.ref t102)]))
                have ch140 : CHr Z consts_1 s.vm h0 T111.vm h111 := ch113.trans hC111
                have sf142 : Safe Z consts_1 T108.vm h110 a110 := (Safe.ext E110 ch112.1 (Safe.new (Nat.le_of_eq g110.symm)))
                have sf143 : Safe Z consts_1 T111.vm h111 a110 := (CHr.safe hC111 A110.lt sf142)
                have ch141 : CHr Z consts_1 s.vm h0 T111.vm T123.heap := ch140.trans (CHr.keep p123_0 (allS sf143 all0) ch140.1)
                obtain ⟨a139, T139, h139, k139, b139, kk139, X139, e139, E139, hS139, hk139, hZ139, hown139, xE139, xC139, xV139, xA139, la139, lb139, hC139, hL139, hne139, st139⟩ := ldcCH X125 hx hZ111 hown111 (hw _ (List.mem_of_getElem? (i := 51) rfl)) (fun d hd => hw d (own_strAtoms d hd)) e125 hS111 (Nat.le_trans hk111 p123_0.1) own_EW (by decide) ch141.1 (vs := [(.int (104 : Int32))]) (z := (1 : Int32)) ⟨by decide, by rfl⟩ (by decide) rfl (g := (mkF m 155 #[.val (.int p1), .val (.int p2), .val (.int p3), .val (.int p4), .val (.int (p4 &&& (3 : Int32))), .val (.int f5), .val (.int f6), .val (.int f7), .val (.ref t102), .val (.ref t109), .val v10, .val (.ref a110), .val (.int (1 : Int32)), .unset, .unset] [(.ref t109), (.ref t102)])) rfl (hb hby at_155) (n := 4) (by decide) (by decide) (by decide) (by decide)
                refine FinH.by (fun t k => st139 t k) ?_
                show FinH _ _ _ _ _ _ _ _ _ (T139.setTop (mkF m 157 #[.val (.int p1), .val (.int p2), .val (.int p3), .val (.int p4), .val (.int (p4 &&& (3 : Int32))), .val (.int f5), .val (.int f6), .val (.int f7), .val (.ref t102), .val (.ref t109), .val v10, .val (.ref a110), .val (.int (1 : Int32)), .unset, .unset] [(.ref a139), (.ref t109), (.ref t102)]))
                have z144 : n0 ≤ h139.size := Nat.le_trans z124 E139.1
                obtain ⟨v145, _, ⟨T145, L145, k145, n145⟩, -, X145, ⟨Lc145, hQ145, l145, y145, z145⟩, st145⟩ := Jvm.LawKit.callS X139 hx (y := (⟨"com/example/jiaoge/jiaoge/cli/CommandOption", "required", "(Ljava/lang/String;Ljava/lang/String;Ljava/lang/String;)Lcom/example/jiaoge/jiaoge/cli/CommandOption;"⟩ : MethodName)) hown139 (mvT hZ139 (hw _ (List.mem_of_getElem? (i := 78) rfl))) (mvT hZ139 (hw _ (List.mem_of_getElem? (i := 79) rfl))) (mvT hZ139 (hw _ (List.mem_of_getElem? (i := 50) rfl))) (mvT hZ139 (hw _ (List.mem_of_getElem? (i := 80) rfl))) (by decide) (backOf (W := 0) (rm_f_required l Z a0 hw [] (Value.ref t102) (Value.ref t109) (Value.ref a139) h139 n0 z144 rfl rfl rfl) hZ139 (hw _ (List.mem_of_getElem? (i := 80) rfl)) (hw _ (List.mem_of_getElem? (i := 50) rfl)) (by decide) (by decide)) (g := (mkF m 157 #[.val (.int p1), .val (.int p2), .val (.int p3), .val (.int p4), .val (.int (p4 &&& (3 : Int32))), .val (.int f5), .val (.int f6), .val (.int f7), .val (.ref t102), .val (.ref t109), .val v10, .val (.ref a110), .val (.int (1 : Int32)), .unset, .unset] [(.ref a139), (.ref t109), (.ref t102)])) rfl (by rw [hml]; rfl) (argsL := [(.ref t102), (.ref t109), (.ref a139)]) (rest := []) (lenOf pd_212 rfl) rfl (by show 2 * 0 + _ ≤ _; exact Nat.le_of_eq rfl) (hb hby at_157) (fun _ _ => ⟨rfl, e139, (by decide : 13 + 1 ≤ _), (by decide : 38 + 5 ≤ _)⟩)
                dsimp only [Pt.U, Pt.locs, Pt.cells, Pt.slots] at X145 l145 y145 z145 st145 hQ145
                subst l145 y145 z145
                obtain ⟨t146, rfl, Nq145, p145_0, p145_1, p145_2, p145_3⟩ := hQ145
                have N145_ := Fr.app N125_ Nq145
                refine FinH.by (fun t k => st145 t k) ?_
                show FinH _ _ _ _ _ _ _ _ _ (T145.setTop (mkF m 160 #[.val (.int p1), .val (.int p2), .val (.int p3), .val (.int p4), .val (.int (p4 &&& (3 : Int32))), .val (.int f5), .val (.int f6), .val (.int f7), .val (.ref t102), .val (.ref t109), .val v10, .val (.ref a110), .val (.int (1 : Int32)), .unset, .unset] [(.ref t146)]))
                refine FinH.by (fun t k => XS.astore X145.here hx rfl (hb hby at_160) rfl rfl (l' := #[.val (.int p1), .val (.int p2), .val (.int p3), .val (.int p4), .val (.int (p4 &&& (3 : Int32))), .val (.int f5), .val (.int f6), .val (.int f7), .val (.ref t102), .val (.ref t109), .val v10, .val (.ref a110), .val (.int (1 : Int32)), .val (.ref t146), .unset]) rfl k) ?_
                show FinH _ _ _ _ _ _ _ _ _ (T145.setTop (mkF m 162 #[.val (.int p1), .val (.int p2), .val (.int p3), .val (.int p4), .val (.int (p4 &&& (3 : Int32))), .val (.int f5), .val (.int f6), .val (.int f7), .val (.ref t102), .val (.ref t109), .val v10, .val (.ref a110), .val (.int (1 : Int32)), .val (.ref t146), .unset] []))
                refine FinH.by (fun t k => XS.iconst X145.here hx rfl (hb hby at_162) k) ?_
                show FinH _ _ _ _ _ _ _ _ _ (T145.setTop (mkF m 163 #[.val (.int p1), .val (.int p2), .val (.int p3), .val (.int p4), .val (.int (p4 &&& (3 : Int32))), .val (.int f5), .val (.int f6), .val (.int f7), .val (.ref t102), .val (.ref t109), .val v10, .val (.ref a110), .val (.int (1 : Int32)), .val (.ref t146), .unset] [(.int (1 : Int32))]))
                refine FinH.by (fun t k => XS.istore X145.here hx rfl (hb hby at_163) rfl (l' := #[.val (.int p1), .val (.int p2), .val (.int p3), .val (.int p4), .val (.int (p4 &&& (3 : Int32))), .val (.int f5), .val (.int f6), .val (.int f7), .val (.ref t102), .val (.ref t109), .val v10, .val (.ref a110), .val (.int (1 : Int32)), .val (.ref t146), .val (.int (1 : Int32))]) rfl k) ?_
                show FinH _ _ _ _ _ _ _ _ _ (T145.setTop (mkF m 165 #[.val (.int p1), .val (.int p2), .val (.int p3), .val (.int p4), .val (.int (p4 &&& (3 : Int32))), .val (.int f5), .val (.int f6), .val (.int f7), .val (.ref t102), .val (.ref t109), .val v10, .val (.ref a110), .val (.int (1 : Int32)), .val (.ref t146), .val (.int (1 : Int32))] []))
                refine FinH.by (fun t k => XS.goto X145.here hx rfl (pc0 := 165) (pc' := 205) rfl (hb hby at_165) (by decide) (by decide) k) ?_
                show FinH _ _ _ _ _ _ _ _ _ (T145.setTop (mkF m 205 #[.val (.int p1), .val (.int p2), .val (.int p3), .val (.int p4), .val (.int (p4 &&& (3 : Int32))), .val (.int f5), .val (.int f6), .val (.int f7), .val (.ref t102), .val (.ref t109), .val v10, .val (.ref a110), .val (.int (1 : Int32)), .val (.ref t146), .val (.int (1 : Int32))] []))
                refine FinH.by (fun t k => XS.iload X145.here hx rfl (hb hby at_205) rfl k) ?_
                show FinH _ _ _ _ _ _ _ _ _ (T145.setTop (mkF m 207 #[.val (.int p1), .val (.int p2), .val (.int p3), .val (.int p4), .val (.int (p4 &&& (3 : Int32))), .val (.int f5), .val (.int f6), .val (.int f7), .val (.ref t102), .val (.ref t109), .val v10, .val (.ref a110), .val (.int (1 : Int32)), .val (.ref t146), .val (.int (1 : Int32))] [(.int (1 : Int32))]))
                refine FinH.by (fun t k => XS.ifNo X145.here hx rfl (hb hby at_207) rfl ((if0 _ _).trans (feq (by decide : ¬ (1 : Int32) = (0 : Int32))).1) k) ?_
                show FinH _ _ _ _ _ _ _ _ _ (T145.setTop (mkF m 210 #[.val (.int p1), .val (.int p2), .val (.int p3), .val (.int p4), .val (.int (p4 &&& (3 : Int32))), .val (.int f5), .val (.int f6), .val (.int f7), .val (.ref t102), .val (.ref t109), .val v10, .val (.ref a110), .val (.int (1 : Int32)), .val (.ref t146), .val (.int (1 : Int32))] []))
                refine FinH.by (fun t k => XS.aload X145.here hx rfl (hb hby at_210) rfl rfl k) ?_
                show FinH _ _ _ _ _ _ _ _ _ (T145.setTop (mkF m 212 #[.val (.int p1), .val (.int p2), .val (.int p3), .val (.int p4), .val (.int (p4 &&& (3 : Int32))), .val (.int f5), .val (.int f6), .val (.int f7), .val (.ref t102), .val (.ref t109), .val v10, .val (.ref a110), .val (.int (1 : Int32)), .val (.ref t146), .val (.int (1 : Int32))] [(.ref t146)]))
                have z147 : n0 ≤ T145.heap.size := Nat.le_trans z144 p145_0.1
                obtain ⟨cq148, kq148, qa148, qb148, qc148⟩ := isOf hZ139 rfl p145_2
                obtain ⟨v148, _, ⟨T148, L148, k148, n148⟩, -, X148, ⟨Lc148, hQ148, l148, y148, z148⟩, st148⟩ := X145.virtualBack hx (y := (⟨"com/example/jiaoge/jiaoge/cli/CommandOption", "takesValue", "()Z"⟩ : MethodName)) (z := (⟨"com/example/jiaoge/jiaoge/cli/CommandOption", "takesValue", "()Z"⟩ : MethodName)) hown139 (mvT hZ139 (hw _ (List.mem_of_getElem? (i := 73) rfl))) (mvT hZ139 (hw _ (List.mem_of_getElem? (i := 74) rfl))) (notFace_of_selects (args := #[]) (mvT hZ139 (hw _ (List.mem_of_getElem? (i := 76) rfl)))) (mvT hZ139 (hw _ (List.mem_of_getElem? (i := 76) rfl))) (mvT hZ139 (hw _ (List.mem_of_getElem? (i := 75) rfl))) (by decide) (backOf (W := 0) (rm_tak l Z a0 hw [] t146 (Value.ref t109) T145.heap n0 z147 p145_3 rfl) hZ139 (hw _ (List.mem_of_getElem? (i := 77) rfl)) (hw _ (List.mem_of_getElem? (i := 50) rfl)) (by decide) (by decide)) qa148 qc148 (g := (mkF m 212 #[.val (.int p1), .val (.int p2), .val (.int p3), .val (.int p4), .val (.int (p4 &&& (3 : Int32))), .val (.int f5), .val (.int f6), .val (.int f7), .val (.ref t102), .val (.ref t109), .val v10, .val (.ref a110), .val (.int (1 : Int32)), .val (.ref t146), .val (.int (1 : Int32))] [(.ref t146)])) rfl (by rw [hml]; rfl) (Steps.refl _) (argsL := []) (rest := []) (lenOf pd_210 rfl) rfl (by show 2 * 0 + _ ≤ _; exact Nat.le_of_eq rfl) (hb hby at_212) (fun _ _ => ⟨rfl, rfl, (by decide : 14 + 0 ≤ _), (by decide : 43 + 0 ≤ _)⟩)
                dsimp only [Pt.U, Pt.locs, Pt.cells, Pt.slots] at X148 l148 y148 z148 st148 hQ148
                subst l148 y148 z148
                obtain ⟨rfl, Nq148, e148_⟩ := hQ148
                have N148_ := Fr.app N145_ Nq148
                refine FinH.byS st148 ?_
                have e148 := e148_
                show FinH _ _ _ _ _ _ _ _ _ (T148.setTop (mkF m 215 #[.val (.int p1), .val (.int p2), .val (.int p3), .val (.int p4), .val (.int (p4 &&& (3 : Int32))), .val (.int f5), .val (.int f6), .val (.int f7), .val (.ref t102), .val (.ref t109), .val v10, .val (.ref a110), .val (.int (1 : Int32)), .val (.ref t146), .val (.int (1 : Int32))] [(.int (nar .boolean (tv (Value.ref t109))))]))
                refine FinH.by (fun t k => XS.iload X148.here hx rfl (hb hby at_215) rfl k) ?_
                show FinH _ _ _ _ _ _ _ _ _ (T148.setTop (mkF m 217 #[.val (.int p1), .val (.int p2), .val (.int p3), .val (.int p4), .val (.int (p4 &&& (3 : Int32))), .val (.int f5), .val (.int f6), .val (.int f7), .val (.ref t102), .val (.ref t109), .val v10, .val (.ref a110), .val (.int (1 : Int32)), .val (.ref t146), .val (.int (1 : Int32))] [(.int (1 : Int32)), (.int (nar .boolean (tv (Value.ref t109))))]))
                refine FinH.by (fun t k => XS.icmpNo X148.here hx rfl (hb hby at_217) rfl (teq (by rw [tv_ref]; decide : (nar .boolean (tv (Value.ref t109))) = (1 : Int32))).2 k) ?_
                show FinH _ _ _ _ _ _ _ _ _ (T148.setTop (mkF m 220 #[.val (.int p1), .val (.int p2), .val (.int p3), .val (.int p4), .val (.int (p4 &&& (3 : Int32))), .val (.int f5), .val (.int f6), .val (.int f7), .val (.ref t102), .val (.ref t109), .val v10, .val (.ref a110), .val (.int (1 : Int32)), .val (.ref t146), .val (.int (1 : Int32))] []))
                refine FinH.by (fun t k => XS.iconst X148.here hx rfl (hb hby at_220) k) ?_
                show FinH _ _ _ _ _ _ _ _ _ (T148.setTop (mkF m 221 #[.val (.int p1), .val (.int p2), .val (.int p3), .val (.int p4), .val (.int (p4 &&& (3 : Int32))), .val (.int f5), .val (.int f6), .val (.int f7), .val (.ref t102), .val (.ref t109), .val v10, .val (.ref a110), .val (.int (1 : Int32)), .val (.ref t146), .val (.int (1 : Int32))] [(.int (1 : Int32))]))
                refine FinH.by (fun t k => XS.goto X148.here hx rfl (pc0 := 221) (pc' := 225) rfl (hb hby at_221) (by decide) (by decide) k) ?_
                show FinH _ _ _ _ _ _ _ _ _ (T148.setTop (mkF m 225 #[.val (.int p1), .val (.int p2), .val (.int p3), .val (.int p4), .val (.int (p4 &&& (3 : Int32))), .val (.int f5), .val (.int f6), .val (.int f7), .val (.ref t102), .val (.ref t109), .val v10, .val (.ref a110), .val (.int (1 : Int32)), .val (.ref t146), .val (.int (1 : Int32))] [(.int (1 : Int32))]))
                have ch149 : CHr Z consts_1 s.vm h0 T139.vm h139 := ch141.trans hC139
                have ch150 : CHr Z consts_1 s.vm h0 T139.vm T145.heap := ch149.trans (CHr.keep p145_0 all0 ch149.1)
                exact FinH.ret (v := some (.int (nar .boolean (1 : Int32)))) X148 hS139 (by rw [e148]; exact (Nat.le_trans hk139 p145_0.1)) (fun h => by rw [Bd.returns] at h; cases h) Bd.notSynchronized (by rw [e148]; exact ⟨rfl, N148_⟩) (by rw [hh, e148]; exact ch150.trans (CHv.at X148 hZ139 own_EW ch150.1)) (by decide) (by decide) (fun fs hr => retN X148 hx (t := .boolean) Bd.returns (by simp) (hb hby at_225) hr)
              · refine FinH.by (fun t k => XS.icmpYes X125.here hx rfl (pc0 := 148) (pc' := 168) rfl (hb hby at_148) rfl (feq hk1).2 (by decide) (by decide) k) ?_
                show FinH _ _ _ _ _ _ _ _ _ (T125.setTop (mkF m 168 #[.val (.int p1), .val (.int p2), .val (.int p3), .val (.int p4), .val (.int (p4 &&& (3 : Int32))), .val (.int f5), .val (.int f6), .val (.int f7), .val (.ref t102), .val (.ref t109), .val v10, .val (.ref a110), .val (.int (1 : Int32)), .unset, .unset] []))
                refine FinH.by (fun t k => XS.iload X125.here hx rfl (hb hby at_168) rfl k) ?_
                show FinH _ _ _ _ _ _ _ _ _ (T125.setTop (mkF m 170 #[.val (.int p1), .val (.int p2), .val (.int p3), .val (.int p4), .val (.int (p4 &&& (3 : Int32))), .val (.int f5), .val (.int f6), .val (.int f7), .val (.ref t102), .val (.ref t109), .val v10, .val (.ref a110), .val (.int (1 : Int32)), .unset, .unset] [(.int (p4 &&& (3 : Int32)))]))
                refine FinH.by (fun t k => XS.iconst X125.here hx rfl (hb hby at_170) k) ?_
                show FinH _ _ _ _ _ _ _ _ _ (T125.setTop (mkF m 171 #[.val (.int p1), .val (.int p2), .val (.int p3), .val (.int p4), .val (.int (p4 &&& (3 : Int32))), .val (.int f5), .val (.int f6), .val (.int f7), .val (.ref t102), .val (.ref t109), .val v10, .val (.ref a110), .val (.int (1 : Int32)), .unset, .unset] [(.int (2 : Int32)), (.int (p4 &&& (3 : Int32)))]))
                by_cases hk2 : (p4 &&& (3 : Int32)) = (2 : Int32)
                · refine FinH.by (fun t k => XS.icmpNo X125.here hx rfl (hb hby at_171) rfl (teq hk2).2 k) ?_
                  show FinH _ _ _ _ _ _ _ _ _ (T125.setTop (mkF m 174 #[.val (.int p1), .val (.int p2), .val (.int p3), .val (.int p4), .val (.int (p4 &&& (3 : Int32))), .val (.int f5), .val (.int f6), .val (.int f7), .val (.ref t102), .val (.ref t109), .val v10, .val (.ref a110), .val (.int (1 : Int32)), .unset, .unset] []))
                  refine FinH.by (fun t k => XS.aload X125.here hx rfl (hb hby at_174) rfl rfl k) ?_
                  show FinH _ _ _ _ _ _ _ _ _ (T125.setTop (mkF m 176 #[.val (.int p1), .val (.int p2), .val (.int p3), .val (.int p4), .val (.int (p4 &&& (3 : Int32))), .val (.int f5), .val (.int f6), .val (.int f7), .val (.ref t102), .val (.ref t109), .val v10, .val (.ref a110), .val (.int (1 : Int32)), .unset, .unset] [(.ref t102)]))
                  refine FinH.by (fun t k => XS.aload X125.here hx rfl (hb hby at_176) rfl rfl k) ?_
                  show FinH _ _ _ _ _ _ _ _ _ (T125.setTop (mkF m 178 #[.val (.int p1), .val (.int p2), .val (.int p3), .val (.int p4), .val (.int (p4 &&& (3 : Int32))), .val (.int f5), .val (.int f6), .val (.int f7), .val (.ref t102), .val (.ref t109), .val v10, .val (.ref a110), .val (.int (1 : Int32)), .unset, .unset] [(.ref t109), (.ref t102)]))
                  have ch152 : CHr Z consts_1 s.vm h0 T111.vm h111 := ch113.trans hC111
                  have sf154 : Safe Z consts_1 T108.vm h110 a110 := (Safe.ext E110 ch112.1 (Safe.new (Nat.le_of_eq g110.symm)))
                  have sf155 : Safe Z consts_1 T111.vm h111 a110 := (CHr.safe hC111 A110.lt sf154)
                  have ch153 : CHr Z consts_1 s.vm h0 T111.vm T123.heap := ch152.trans (CHr.keep p123_0 (allS sf155 all0) ch152.1)
                  obtain ⟨a151, T151, h151, k151, b151, kk151, X151, e151, E151, hS151, hk151, hZ151, hown151, xE151, xC151, xV151, xA151, la151, lb151, hC151, hL151, hne151, st151⟩ := ldcCH X125 hx hZ111 hown111 (hw _ (List.mem_of_getElem? (i := 51) rfl)) (fun d hd => hw d (own_strAtoms d hd)) e125 hS111 (Nat.le_trans hk111 p123_0.1) own_EW (by decide) ch153.1 (vs := [(.int (104 : Int32))]) (z := (1 : Int32)) ⟨by decide, by rfl⟩ (by decide) rfl (g := (mkF m 178 #[.val (.int p1), .val (.int p2), .val (.int p3), .val (.int p4), .val (.int (p4 &&& (3 : Int32))), .val (.int f5), .val (.int f6), .val (.int f7), .val (.ref t102), .val (.ref t109), .val v10, .val (.ref a110), .val (.int (1 : Int32)), .unset, .unset] [(.ref t109), (.ref t102)])) rfl (hb hby at_178) (n := 4) (by decide) (by decide) (by decide) (by decide)
                  refine FinH.by (fun t k => st151 t k) ?_
                  show FinH _ _ _ _ _ _ _ _ _ (T151.setTop (mkF m 180 #[.val (.int p1), .val (.int p2), .val (.int p3), .val (.int p4), .val (.int (p4 &&& (3 : Int32))), .val (.int f5), .val (.int f6), .val (.int f7), .val (.ref t102), .val (.ref t109), .val v10, .val (.ref a110), .val (.int (1 : Int32)), .unset, .unset] [(.ref a151), (.ref t109), (.ref t102)]))
                  have z156 : n0 ≤ h151.size := Nat.le_trans z124 E151.1
                  obtain ⟨v157, _, ⟨T157, L157, k157, n157⟩, -, X157, ⟨Lc157, hQ157, l157, y157, z157⟩, st157⟩ := Jvm.LawKit.callS X151 hx (y := (⟨"com/example/jiaoge/jiaoge/cli/CommandOption", "optional", "(Ljava/lang/String;Ljava/lang/String;Ljava/lang/String;)Lcom/example/jiaoge/jiaoge/cli/CommandOption;"⟩ : MethodName)) hown151 (mvT hZ151 (hw _ (List.mem_of_getElem? (i := 83) rfl))) (mvT hZ151 (hw _ (List.mem_of_getElem? (i := 84) rfl))) (mvT hZ151 (hw _ (List.mem_of_getElem? (i := 50) rfl))) (mvT hZ151 (hw _ (List.mem_of_getElem? (i := 85) rfl))) (by decide) (backOf (W := 0) (rm_f_optional l Z a0 hw [] (Value.ref t102) (Value.ref t109) (Value.ref a151) h151 n0 z156 rfl rfl rfl) hZ151 (hw _ (List.mem_of_getElem? (i := 85) rfl)) (hw _ (List.mem_of_getElem? (i := 50) rfl)) (by decide) (by decide)) (g := (mkF m 180 #[.val (.int p1), .val (.int p2), .val (.int p3), .val (.int p4), .val (.int (p4 &&& (3 : Int32))), .val (.int f5), .val (.int f6), .val (.int f7), .val (.ref t102), .val (.ref t109), .val v10, .val (.ref a110), .val (.int (1 : Int32)), .unset, .unset] [(.ref a151), (.ref t109), (.ref t102)])) rfl (by rw [hml]; rfl) (argsL := [(.ref t102), (.ref t109), (.ref a151)]) (rest := []) (lenOf pd_212 rfl) rfl (by show 2 * 0 + _ ≤ _; exact Nat.le_of_eq rfl) (hb hby at_180) (fun _ _ => ⟨rfl, e151, (by decide : 13 + 1 ≤ _), (by decide : 38 + 5 ≤ _)⟩)
                  dsimp only [Pt.U, Pt.locs, Pt.cells, Pt.slots] at X157 l157 y157 z157 st157 hQ157
                  subst l157 y157 z157
                  obtain ⟨t158, rfl, Nq157, p157_0, p157_1, p157_2, p157_3⟩ := hQ157
                  have N157_ := Fr.app N125_ Nq157
                  refine FinH.by (fun t k => st157 t k) ?_
                  show FinH _ _ _ _ _ _ _ _ _ (T157.setTop (mkF m 183 #[.val (.int p1), .val (.int p2), .val (.int p3), .val (.int p4), .val (.int (p4 &&& (3 : Int32))), .val (.int f5), .val (.int f6), .val (.int f7), .val (.ref t102), .val (.ref t109), .val v10, .val (.ref a110), .val (.int (1 : Int32)), .unset, .unset] [(.ref t158)]))
                  refine FinH.by (fun t k => XS.astore X157.here hx rfl (hb hby at_183) rfl rfl (l' := #[.val (.int p1), .val (.int p2), .val (.int p3), .val (.int p4), .val (.int (p4 &&& (3 : Int32))), .val (.int f5), .val (.int f6), .val (.int f7), .val (.ref t102), .val (.ref t109), .val v10, .val (.ref a110), .val (.int (1 : Int32)), .val (.ref t158), .unset]) rfl k) ?_
                  show FinH _ _ _ _ _ _ _ _ _ (T157.setTop (mkF m 185 #[.val (.int p1), .val (.int p2), .val (.int p3), .val (.int p4), .val (.int (p4 &&& (3 : Int32))), .val (.int f5), .val (.int f6), .val (.int f7), .val (.ref t102), .val (.ref t109), .val v10, .val (.ref a110), .val (.int (1 : Int32)), .val (.ref t158), .unset] []))
                  refine FinH.by (fun t k => XS.iconst X157.here hx rfl (hb hby at_185) k) ?_
                  show FinH _ _ _ _ _ _ _ _ _ (T157.setTop (mkF m 186 #[.val (.int p1), .val (.int p2), .val (.int p3), .val (.int p4), .val (.int (p4 &&& (3 : Int32))), .val (.int f5), .val (.int f6), .val (.int f7), .val (.ref t102), .val (.ref t109), .val v10, .val (.ref a110), .val (.int (1 : Int32)), .val (.ref t158), .unset] [(.int (1 : Int32))]))
                  refine FinH.by (fun t k => XS.istore X157.here hx rfl (hb hby at_186) rfl (l' := #[.val (.int p1), .val (.int p2), .val (.int p3), .val (.int p4), .val (.int (p4 &&& (3 : Int32))), .val (.int f5), .val (.int f6), .val (.int f7), .val (.ref t102), .val (.ref t109), .val v10, .val (.ref a110), .val (.int (1 : Int32)), .val (.ref t158), .val (.int (1 : Int32))]) rfl k) ?_
                  show FinH _ _ _ _ _ _ _ _ _ (T157.setTop (mkF m 188 #[.val (.int p1), .val (.int p2), .val (.int p3), .val (.int p4), .val (.int (p4 &&& (3 : Int32))), .val (.int f5), .val (.int f6), .val (.int f7), .val (.ref t102), .val (.ref t109), .val v10, .val (.ref a110), .val (.int (1 : Int32)), .val (.ref t158), .val (.int (1 : Int32))] []))
                  refine FinH.by (fun t k => XS.goto X157.here hx rfl (pc0 := 188) (pc' := 205) rfl (hb hby at_188) (by decide) (by decide) k) ?_
                  show FinH _ _ _ _ _ _ _ _ _ (T157.setTop (mkF m 205 #[.val (.int p1), .val (.int p2), .val (.int p3), .val (.int p4), .val (.int (p4 &&& (3 : Int32))), .val (.int f5), .val (.int f6), .val (.int f7), .val (.ref t102), .val (.ref t109), .val v10, .val (.ref a110), .val (.int (1 : Int32)), .val (.ref t158), .val (.int (1 : Int32))] []))
                  refine FinH.by (fun t k => XS.iload X157.here hx rfl (hb hby at_205) rfl k) ?_
                  show FinH _ _ _ _ _ _ _ _ _ (T157.setTop (mkF m 207 #[.val (.int p1), .val (.int p2), .val (.int p3), .val (.int p4), .val (.int (p4 &&& (3 : Int32))), .val (.int f5), .val (.int f6), .val (.int f7), .val (.ref t102), .val (.ref t109), .val v10, .val (.ref a110), .val (.int (1 : Int32)), .val (.ref t158), .val (.int (1 : Int32))] [(.int (1 : Int32))]))
                  refine FinH.by (fun t k => XS.ifNo X157.here hx rfl (hb hby at_207) rfl ((if0 _ _).trans (feq (by decide : ¬ (1 : Int32) = (0 : Int32))).1) k) ?_
                  show FinH _ _ _ _ _ _ _ _ _ (T157.setTop (mkF m 210 #[.val (.int p1), .val (.int p2), .val (.int p3), .val (.int p4), .val (.int (p4 &&& (3 : Int32))), .val (.int f5), .val (.int f6), .val (.int f7), .val (.ref t102), .val (.ref t109), .val v10, .val (.ref a110), .val (.int (1 : Int32)), .val (.ref t158), .val (.int (1 : Int32))] []))
                  refine FinH.by (fun t k => XS.aload X157.here hx rfl (hb hby at_210) rfl rfl k) ?_
                  show FinH _ _ _ _ _ _ _ _ _ (T157.setTop (mkF m 212 #[.val (.int p1), .val (.int p2), .val (.int p3), .val (.int p4), .val (.int (p4 &&& (3 : Int32))), .val (.int f5), .val (.int f6), .val (.int f7), .val (.ref t102), .val (.ref t109), .val v10, .val (.ref a110), .val (.int (1 : Int32)), .val (.ref t158), .val (.int (1 : Int32))] [(.ref t158)]))
                  have z159 : n0 ≤ T157.heap.size := Nat.le_trans z156 p157_0.1
                  obtain ⟨cq160, kq160, qa160, qb160, qc160⟩ := isOf hZ151 rfl p157_2
                  obtain ⟨v160, _, ⟨T160, L160, k160, n160⟩, -, X160, ⟨Lc160, hQ160, l160, y160, z160⟩, st160⟩ := X157.virtualBack hx (y := (⟨"com/example/jiaoge/jiaoge/cli/CommandOption", "takesValue", "()Z"⟩ : MethodName)) (z := (⟨"com/example/jiaoge/jiaoge/cli/CommandOption", "takesValue", "()Z"⟩ : MethodName)) hown151 (mvT hZ151 (hw _ (List.mem_of_getElem? (i := 73) rfl))) (mvT hZ151 (hw _ (List.mem_of_getElem? (i := 74) rfl))) (notFace_of_selects (args := #[]) (mvT hZ151 (hw _ (List.mem_of_getElem? (i := 76) rfl)))) (mvT hZ151 (hw _ (List.mem_of_getElem? (i := 76) rfl))) (mvT hZ151 (hw _ (List.mem_of_getElem? (i := 75) rfl))) (by decide) (backOf (W := 0) (rm_tak l Z a0 hw [] t158 (Value.ref t109) T157.heap n0 z159 p157_3 rfl) hZ151 (hw _ (List.mem_of_getElem? (i := 77) rfl)) (hw _ (List.mem_of_getElem? (i := 50) rfl)) (by decide) (by decide)) qa160 qc160 (g := (mkF m 212 #[.val (.int p1), .val (.int p2), .val (.int p3), .val (.int p4), .val (.int (p4 &&& (3 : Int32))), .val (.int f5), .val (.int f6), .val (.int f7), .val (.ref t102), .val (.ref t109), .val v10, .val (.ref a110), .val (.int (1 : Int32)), .val (.ref t158), .val (.int (1 : Int32))] [(.ref t158)])) rfl (by rw [hml]; rfl) (Steps.refl _) (argsL := []) (rest := []) (lenOf pd_210 rfl) rfl (by show 2 * 0 + _ ≤ _; exact Nat.le_of_eq rfl) (hb hby at_212) (fun _ _ => ⟨rfl, rfl, (by decide : 14 + 0 ≤ _), (by decide : 43 + 0 ≤ _)⟩)
                  dsimp only [Pt.U, Pt.locs, Pt.cells, Pt.slots] at X160 l160 y160 z160 st160 hQ160
                  subst l160 y160 z160
                  obtain ⟨rfl, Nq160, e160_⟩ := hQ160
                  have N160_ := Fr.app N157_ Nq160
                  refine FinH.byS st160 ?_
                  have e160 := e160_
                  show FinH _ _ _ _ _ _ _ _ _ (T160.setTop (mkF m 215 #[.val (.int p1), .val (.int p2), .val (.int p3), .val (.int p4), .val (.int (p4 &&& (3 : Int32))), .val (.int f5), .val (.int f6), .val (.int f7), .val (.ref t102), .val (.ref t109), .val v10, .val (.ref a110), .val (.int (1 : Int32)), .val (.ref t158), .val (.int (1 : Int32))] [(.int (nar .boolean (tv (Value.ref t109))))]))
                  refine FinH.by (fun t k => XS.iload X160.here hx rfl (hb hby at_215) rfl k) ?_
                  show FinH _ _ _ _ _ _ _ _ _ (T160.setTop (mkF m 217 #[.val (.int p1), .val (.int p2), .val (.int p3), .val (.int p4), .val (.int (p4 &&& (3 : Int32))), .val (.int f5), .val (.int f6), .val (.int f7), .val (.ref t102), .val (.ref t109), .val v10, .val (.ref a110), .val (.int (1 : Int32)), .val (.ref t158), .val (.int (1 : Int32))] [(.int (1 : Int32)), (.int (nar .boolean (tv (Value.ref t109))))]))
                  refine FinH.by (fun t k => XS.icmpNo X160.here hx rfl (hb hby at_217) rfl (teq (by rw [tv_ref]; decide : (nar .boolean (tv (Value.ref t109))) = (1 : Int32))).2 k) ?_
                  show FinH _ _ _ _ _ _ _ _ _ (T160.setTop (mkF m 220 #[.val (.int p1), .val (.int p2), .val (.int p3), .val (.int p4), .val (.int (p4 &&& (3 : Int32))), .val (.int f5), .val (.int f6), .val (.int f7), .val (.ref t102), .val (.ref t109), .val v10, .val (.ref a110), .val (.int (1 : Int32)), .val (.ref t158), .val (.int (1 : Int32))] []))
                  refine FinH.by (fun t k => XS.iconst X160.here hx rfl (hb hby at_220) k) ?_
                  show FinH _ _ _ _ _ _ _ _ _ (T160.setTop (mkF m 221 #[.val (.int p1), .val (.int p2), .val (.int p3), .val (.int p4), .val (.int (p4 &&& (3 : Int32))), .val (.int f5), .val (.int f6), .val (.int f7), .val (.ref t102), .val (.ref t109), .val v10, .val (.ref a110), .val (.int (1 : Int32)), .val (.ref t158), .val (.int (1 : Int32))] [(.int (1 : Int32))]))
                  refine FinH.by (fun t k => XS.goto X160.here hx rfl (pc0 := 221) (pc' := 225) rfl (hb hby at_221) (by decide) (by decide) k) ?_
                  show FinH _ _ _ _ _ _ _ _ _ (T160.setTop (mkF m 225 #[.val (.int p1), .val (.int p2), .val (.int p3), .val (.int p4), .val (.int (p4 &&& (3 : Int32))), .val (.int f5), .val (.int f6), .val (.int f7), .val (.ref t102), .val (.ref t109), .val v10, .val (.ref a110), .val (.int (1 : Int32)), .val (.ref t158), .val (.int (1 : Int32))] [(.int (1 : Int32))]))
                  have ch161 : CHr Z consts_1 s.vm h0 T151.vm h151 := ch153.trans hC151
                  have ch162 : CHr Z consts_1 s.vm h0 T151.vm T157.heap := ch161.trans (CHr.keep p157_0 all0 ch161.1)
                  exact FinH.ret (v := some (.int (nar .boolean (1 : Int32)))) X160 hS151 (by rw [e160]; exact (Nat.le_trans hk151 p157_0.1)) (fun h => by rw [Bd.returns] at h; cases h) Bd.notSynchronized (by rw [e160]; exact ⟨rfl, N160_⟩) (by rw [hh, e160]; exact ch162.trans (CHv.at X160 hZ151 own_EW ch162.1)) (by decide) (by decide) (fun fs hr => retN X160 hx (t := .boolean) Bd.returns (by simp) (hb hby at_225) hr)
                · refine FinH.by (fun t k => XS.icmpYes X125.here hx rfl (pc0 := 171) (pc' := 191) rfl (hb hby at_171) rfl (feq hk2).2 (by decide) (by decide) k) ?_
                  show FinH _ _ _ _ _ _ _ _ _ (T125.setTop (mkF m 191 #[.val (.int p1), .val (.int p2), .val (.int p3), .val (.int p4), .val (.int (p4 &&& (3 : Int32))), .val (.int f5), .val (.int f6), .val (.int f7), .val (.ref t102), .val (.ref t109), .val v10, .val (.ref a110), .val (.int (1 : Int32)), .unset, .unset] []))
                  refine FinH.by (fun t k => XS.aload X125.here hx rfl (hb hby at_191) rfl rfl k) ?_
                  show FinH _ _ _ _ _ _ _ _ _ (T125.setTop (mkF m 193 #[.val (.int p1), .val (.int p2), .val (.int p3), .val (.int p4), .val (.int (p4 &&& (3 : Int32))), .val (.int f5), .val (.int f6), .val (.int f7), .val (.ref t102), .val (.ref t109), .val v10, .val (.ref a110), .val (.int (1 : Int32)), .unset, .unset] [(.ref t102)]))
                  refine FinH.by (fun t k => XS.aload X125.here hx rfl (hb hby at_193) rfl rfl k) ?_
                  show FinH _ _ _ _ _ _ _ _ _ (T125.setTop (mkF m 195 #[.val (.int p1), .val (.int p2), .val (.int p3), .val (.int p4), .val (.int (p4 &&& (3 : Int32))), .val (.int f5), .val (.int f6), .val (.int f7), .val (.ref t102), .val (.ref t109), .val v10, .val (.ref a110), .val (.int (1 : Int32)), .unset, .unset] [(.ref t109), (.ref t102)]))
                  have ch164 : CHr Z consts_1 s.vm h0 T111.vm h111 := ch113.trans hC111
                  have sf166 : Safe Z consts_1 T108.vm h110 a110 := (Safe.ext E110 ch112.1 (Safe.new (Nat.le_of_eq g110.symm)))
                  have sf167 : Safe Z consts_1 T111.vm h111 a110 := (CHr.safe hC111 A110.lt sf166)
                  have ch165 : CHr Z consts_1 s.vm h0 T111.vm T123.heap := ch164.trans (CHr.keep p123_0 (allS sf167 all0) ch164.1)
                  obtain ⟨a163, T163, h163, k163, b163, kk163, X163, e163, E163, hS163, hk163, hZ163, hown163, xE163, xC163, xV163, xA163, la163, lb163, hC163, hL163, hne163, st163⟩ := ldcCH X125 hx hZ111 hown111 (hw _ (List.mem_of_getElem? (i := 51) rfl)) (fun d hd => hw d (own_strAtoms d hd)) e125 hS111 (Nat.le_trans hk111 p123_0.1) own_EW (by decide) ch165.1 (vs := [(.int (104 : Int32))]) (z := (1 : Int32)) ⟨by decide, by rfl⟩ (by decide) rfl (g := (mkF m 195 #[.val (.int p1), .val (.int p2), .val (.int p3), .val (.int p4), .val (.int (p4 &&& (3 : Int32))), .val (.int f5), .val (.int f6), .val (.int f7), .val (.ref t102), .val (.ref t109), .val v10, .val (.ref a110), .val (.int (1 : Int32)), .unset, .unset] [(.ref t109), (.ref t102)])) rfl (hb hby at_195) (n := 4) (by decide) (by decide) (by decide) (by decide)
                  refine FinH.by (fun t k => st163 t k) ?_
                  show FinH _ _ _ _ _ _ _ _ _ (T163.setTop (mkF m 197 #[.val (.int p1), .val (.int p2), .val (.int p3), .val (.int p4), .val (.int (p4 &&& (3 : Int32))), .val (.int f5), .val (.int f6), .val (.int f7), .val (.ref t102), .val (.ref t109), .val v10, .val (.ref a110), .val (.int (1 : Int32)), .unset, .unset] [(.ref a163), (.ref t109), (.ref t102)]))
                  have z168 : n0 ≤ h163.size := Nat.le_trans z124 E163.1
                  obtain ⟨v169, _, ⟨T169, L169, k169, n169⟩, -, X169, ⟨Lc169, hQ169, l169, y169, z169⟩, st169⟩ := Jvm.LawKit.callS X163 hx (y := (⟨"com/example/jiaoge/jiaoge/cli/CommandOption", "repeatable", "(Ljava/lang/String;Ljava/lang/String;Ljava/lang/String;)Lcom/example/jiaoge/jiaoge/cli/CommandOption;"⟩ : MethodName)) hown163 (mvT hZ163 (hw _ (List.mem_of_getElem? (i := 90) rfl))) (mvT hZ163 (hw _ (List.mem_of_getElem? (i := 91) rfl))) (mvT hZ163 (hw _ (List.mem_of_getElem? (i := 50) rfl))) (mvT hZ163 (hw _ (List.mem_of_getElem? (i := 92) rfl))) (by decide) (backOf (W := 0) (rm_f_repeatable l Z a0 hw [] (Value.ref t102) (Value.ref t109) (Value.ref a163) h163 n0 z168 rfl rfl rfl) hZ163 (hw _ (List.mem_of_getElem? (i := 92) rfl)) (hw _ (List.mem_of_getElem? (i := 50) rfl)) (by decide) (by decide)) (g := (mkF m 197 #[.val (.int p1), .val (.int p2), .val (.int p3), .val (.int p4), .val (.int (p4 &&& (3 : Int32))), .val (.int f5), .val (.int f6), .val (.int f7), .val (.ref t102), .val (.ref t109), .val v10, .val (.ref a110), .val (.int (1 : Int32)), .unset, .unset] [(.ref a163), (.ref t109), (.ref t102)])) rfl (by rw [hml]; rfl) (argsL := [(.ref t102), (.ref t109), (.ref a163)]) (rest := []) (lenOf pd_212 rfl) rfl (by show 2 * 0 + _ ≤ _; exact Nat.le_of_eq rfl) (hb hby at_197) (fun _ _ => ⟨rfl, e163, (by decide : 13 + 1 ≤ _), (by decide : 38 + 5 ≤ _)⟩)
                  dsimp only [Pt.U, Pt.locs, Pt.cells, Pt.slots] at X169 l169 y169 z169 st169 hQ169
                  subst l169 y169 z169
                  obtain ⟨t170, rfl, Nq169, p169_0, p169_1, p169_2, p169_3⟩ := hQ169
                  have N169_ := Fr.app N125_ Nq169
                  refine FinH.by (fun t k => st169 t k) ?_
                  show FinH _ _ _ _ _ _ _ _ _ (T169.setTop (mkF m 200 #[.val (.int p1), .val (.int p2), .val (.int p3), .val (.int p4), .val (.int (p4 &&& (3 : Int32))), .val (.int f5), .val (.int f6), .val (.int f7), .val (.ref t102), .val (.ref t109), .val v10, .val (.ref a110), .val (.int (1 : Int32)), .unset, .unset] [(.ref t170)]))
                  refine FinH.by (fun t k => XS.astore X169.here hx rfl (hb hby at_200) rfl rfl (l' := #[.val (.int p1), .val (.int p2), .val (.int p3), .val (.int p4), .val (.int (p4 &&& (3 : Int32))), .val (.int f5), .val (.int f6), .val (.int f7), .val (.ref t102), .val (.ref t109), .val v10, .val (.ref a110), .val (.int (1 : Int32)), .val (.ref t170), .unset]) rfl k) ?_
                  show FinH _ _ _ _ _ _ _ _ _ (T169.setTop (mkF m 202 #[.val (.int p1), .val (.int p2), .val (.int p3), .val (.int p4), .val (.int (p4 &&& (3 : Int32))), .val (.int f5), .val (.int f6), .val (.int f7), .val (.ref t102), .val (.ref t109), .val v10, .val (.ref a110), .val (.int (1 : Int32)), .val (.ref t170), .unset] []))
                  refine FinH.by (fun t k => XS.iconst X169.here hx rfl (hb hby at_202) k) ?_
                  show FinH _ _ _ _ _ _ _ _ _ (T169.setTop (mkF m 203 #[.val (.int p1), .val (.int p2), .val (.int p3), .val (.int p4), .val (.int (p4 &&& (3 : Int32))), .val (.int f5), .val (.int f6), .val (.int f7), .val (.ref t102), .val (.ref t109), .val v10, .val (.ref a110), .val (.int (1 : Int32)), .val (.ref t170), .unset] [(.int (1 : Int32))]))
                  refine FinH.by (fun t k => XS.istore X169.here hx rfl (hb hby at_203) rfl (l' := #[.val (.int p1), .val (.int p2), .val (.int p3), .val (.int p4), .val (.int (p4 &&& (3 : Int32))), .val (.int f5), .val (.int f6), .val (.int f7), .val (.ref t102), .val (.ref t109), .val v10, .val (.ref a110), .val (.int (1 : Int32)), .val (.ref t170), .val (.int (1 : Int32))]) rfl k) ?_
                  show FinH _ _ _ _ _ _ _ _ _ (T169.setTop (mkF m 205 #[.val (.int p1), .val (.int p2), .val (.int p3), .val (.int p4), .val (.int (p4 &&& (3 : Int32))), .val (.int f5), .val (.int f6), .val (.int f7), .val (.ref t102), .val (.ref t109), .val v10, .val (.ref a110), .val (.int (1 : Int32)), .val (.ref t170), .val (.int (1 : Int32))] []))
                  refine FinH.by (fun t k => XS.iload X169.here hx rfl (hb hby at_205) rfl k) ?_
                  show FinH _ _ _ _ _ _ _ _ _ (T169.setTop (mkF m 207 #[.val (.int p1), .val (.int p2), .val (.int p3), .val (.int p4), .val (.int (p4 &&& (3 : Int32))), .val (.int f5), .val (.int f6), .val (.int f7), .val (.ref t102), .val (.ref t109), .val v10, .val (.ref a110), .val (.int (1 : Int32)), .val (.ref t170), .val (.int (1 : Int32))] [(.int (1 : Int32))]))
                  refine FinH.by (fun t k => XS.ifNo X169.here hx rfl (hb hby at_207) rfl ((if0 _ _).trans (feq (by decide : ¬ (1 : Int32) = (0 : Int32))).1) k) ?_
                  show FinH _ _ _ _ _ _ _ _ _ (T169.setTop (mkF m 210 #[.val (.int p1), .val (.int p2), .val (.int p3), .val (.int p4), .val (.int (p4 &&& (3 : Int32))), .val (.int f5), .val (.int f6), .val (.int f7), .val (.ref t102), .val (.ref t109), .val v10, .val (.ref a110), .val (.int (1 : Int32)), .val (.ref t170), .val (.int (1 : Int32))] []))
                  refine FinH.by (fun t k => XS.aload X169.here hx rfl (hb hby at_210) rfl rfl k) ?_
                  show FinH _ _ _ _ _ _ _ _ _ (T169.setTop (mkF m 212 #[.val (.int p1), .val (.int p2), .val (.int p3), .val (.int p4), .val (.int (p4 &&& (3 : Int32))), .val (.int f5), .val (.int f6), .val (.int f7), .val (.ref t102), .val (.ref t109), .val v10, .val (.ref a110), .val (.int (1 : Int32)), .val (.ref t170), .val (.int (1 : Int32))] [(.ref t170)]))
                  have z171 : n0 ≤ T169.heap.size := Nat.le_trans z168 p169_0.1
                  obtain ⟨cq172, kq172, qa172, qb172, qc172⟩ := isOf hZ163 rfl p169_2
                  obtain ⟨v172, _, ⟨T172, L172, k172, n172⟩, -, X172, ⟨Lc172, hQ172, l172, y172, z172⟩, st172⟩ := X169.virtualBack hx (y := (⟨"com/example/jiaoge/jiaoge/cli/CommandOption", "takesValue", "()Z"⟩ : MethodName)) (z := (⟨"com/example/jiaoge/jiaoge/cli/CommandOption", "takesValue", "()Z"⟩ : MethodName)) hown163 (mvT hZ163 (hw _ (List.mem_of_getElem? (i := 73) rfl))) (mvT hZ163 (hw _ (List.mem_of_getElem? (i := 74) rfl))) (notFace_of_selects (args := #[]) (mvT hZ163 (hw _ (List.mem_of_getElem? (i := 76) rfl)))) (mvT hZ163 (hw _ (List.mem_of_getElem? (i := 76) rfl))) (mvT hZ163 (hw _ (List.mem_of_getElem? (i := 75) rfl))) (by decide) (backOf (W := 0) (rm_tak l Z a0 hw [] t170 (Value.ref t109) T169.heap n0 z171 p169_3 rfl) hZ163 (hw _ (List.mem_of_getElem? (i := 77) rfl)) (hw _ (List.mem_of_getElem? (i := 50) rfl)) (by decide) (by decide)) qa172 qc172 (g := (mkF m 212 #[.val (.int p1), .val (.int p2), .val (.int p3), .val (.int p4), .val (.int (p4 &&& (3 : Int32))), .val (.int f5), .val (.int f6), .val (.int f7), .val (.ref t102), .val (.ref t109), .val v10, .val (.ref a110), .val (.int (1 : Int32)), .val (.ref t170), .val (.int (1 : Int32))] [(.ref t170)])) rfl (by rw [hml]; rfl) (Steps.refl _) (argsL := []) (rest := []) (lenOf pd_210 rfl) rfl (by show 2 * 0 + _ ≤ _; exact Nat.le_of_eq rfl) (hb hby at_212) (fun _ _ => ⟨rfl, rfl, (by decide : 14 + 0 ≤ _), (by decide : 43 + 0 ≤ _)⟩)
                  dsimp only [Pt.U, Pt.locs, Pt.cells, Pt.slots] at X172 l172 y172 z172 st172 hQ172
                  subst l172 y172 z172
                  obtain ⟨rfl, Nq172, e172_⟩ := hQ172
                  have N172_ := Fr.app N169_ Nq172
                  refine FinH.byS st172 ?_
                  have e172 := e172_
                  show FinH _ _ _ _ _ _ _ _ _ (T172.setTop (mkF m 215 #[.val (.int p1), .val (.int p2), .val (.int p3), .val (.int p4), .val (.int (p4 &&& (3 : Int32))), .val (.int f5), .val (.int f6), .val (.int f7), .val (.ref t102), .val (.ref t109), .val v10, .val (.ref a110), .val (.int (1 : Int32)), .val (.ref t170), .val (.int (1 : Int32))] [(.int (nar .boolean (tv (Value.ref t109))))]))
                  refine FinH.by (fun t k => XS.iload X172.here hx rfl (hb hby at_215) rfl k) ?_
                  show FinH _ _ _ _ _ _ _ _ _ (T172.setTop (mkF m 217 #[.val (.int p1), .val (.int p2), .val (.int p3), .val (.int p4), .val (.int (p4 &&& (3 : Int32))), .val (.int f5), .val (.int f6), .val (.int f7), .val (.ref t102), .val (.ref t109), .val v10, .val (.ref a110), .val (.int (1 : Int32)), .val (.ref t170), .val (.int (1 : Int32))] [(.int (1 : Int32)), (.int (nar .boolean (tv (Value.ref t109))))]))
                  refine FinH.by (fun t k => XS.icmpNo X172.here hx rfl (hb hby at_217) rfl (teq (by rw [tv_ref]; decide : (nar .boolean (tv (Value.ref t109))) = (1 : Int32))).2 k) ?_
                  show FinH _ _ _ _ _ _ _ _ _ (T172.setTop (mkF m 220 #[.val (.int p1), .val (.int p2), .val (.int p3), .val (.int p4), .val (.int (p4 &&& (3 : Int32))), .val (.int f5), .val (.int f6), .val (.int f7), .val (.ref t102), .val (.ref t109), .val v10, .val (.ref a110), .val (.int (1 : Int32)), .val (.ref t170), .val (.int (1 : Int32))] []))
                  refine FinH.by (fun t k => XS.iconst X172.here hx rfl (hb hby at_220) k) ?_
                  show FinH _ _ _ _ _ _ _ _ _ (T172.setTop (mkF m 221 #[.val (.int p1), .val (.int p2), .val (.int p3), .val (.int p4), .val (.int (p4 &&& (3 : Int32))), .val (.int f5), .val (.int f6), .val (.int f7), .val (.ref t102), .val (.ref t109), .val v10, .val (.ref a110), .val (.int (1 : Int32)), .val (.ref t170), .val (.int (1 : Int32))] [(.int (1 : Int32))]))
                  refine FinH.by (fun t k => XS.goto X172.here hx rfl (pc0 := 221) (pc' := 225) rfl (hb hby at_221) (by decide) (by decide) k) ?_
                  show FinH _ _ _ _ _ _ _ _ _ (T172.setTop (mkF m 225 #[.val (.int p1), .val (.int p2), .val (.int p3), .val (.int p4), .val (.int (p4 &&& (3 : Int32))), .val (.int f5), .val (.int f6), .val (.int f7), .val (.ref t102), .val (.ref t109), .val v10, .val (.ref a110), .val (.int (1 : Int32)), .val (.ref t170), .val (.int (1 : Int32))] [(.int (1 : Int32))]))
                  have ch173 : CHr Z consts_1 s.vm h0 T163.vm h163 := ch165.trans hC163
                  have ch174 : CHr Z consts_1 s.vm h0 T163.vm T169.heap := ch173.trans (CHr.keep p169_0 all0 ch173.1)
                  exact FinH.ret (v := some (.int (nar .boolean (1 : Int32)))) X172 hS163 (by rw [e172]; exact (Nat.le_trans hk163 p169_0.1)) (fun h => by rw [Bd.returns] at h; cases h) Bd.notSynchronized (by rw [e172]; exact ⟨rfl, N172_⟩) (by rw [hh, e172]; exact ch174.trans (CHv.at X172 hZ163 own_EW ch174.1)) (by decide) (by decide) (fun fs hr => retN X172 hx (t := .boolean) Bd.returns (by simp) (hb hby at_225) hr)
          rcases ref_cases r10 with hn | ⟨a126, hn⟩
          · refine FinH.by (fun t k => XnullYes X125 hx rfl hn (pc0 := 107) (pc' := 114) rfl (hb hby at_107) rfl (by decide) (by decide) k) ?_
            show FinH _ _ _ _ _ _ _ _ _ (T125.setTop (mkF m 114 #[.val (.int p1), .val (.int p2), .val (.int p3), .val (.int p4), .val (.int (p4 &&& (3 : Int32))), .val (.int f5), .val (.int f6), .val (.int f7), .val (.ref t102), .val (.ref t109), .val v10, .val (.ref a110), .unset, .unset, .unset] [(.int (nar .boolean (tv v10)))]))
            refine FinH.by (fun t k => XS.iconst X125.here hx rfl (hb hby at_114) k) ?_
            show FinH _ _ _ _ _ _ _ _ _ (T125.setTop (mkF m 115 #[.val (.int p1), .val (.int p2), .val (.int p3), .val (.int p4), .val (.int (p4 &&& (3 : Int32))), .val (.int f5), .val (.int f6), .val (.int f7), .val (.ref t102), .val (.ref t109), .val v10, .val (.ref a110), .unset, .unset, .unset] [(.int (0 : Int32)), (.int (nar .boolean (tv v10)))]))
            refine FinH.by (fun t k => XS.icmpNo X125.here hx rfl (hb hby at_115) rfl (teq (by rw [hn, tv_null]; decide : (nar .boolean (tv v10)) = (0 : Int32))).2 k) ?_
            show FinH _ _ _ _ _ _ _ _ _ (T125.setTop (mkF m 118 #[.val (.int p1), .val (.int p2), .val (.int p3), .val (.int p4), .val (.int (p4 &&& (3 : Int32))), .val (.int f5), .val (.int f6), .val (.int f7), .val (.ref t102), .val (.ref t109), .val v10, .val (.ref a110), .unset, .unset, .unset] []))
            refine FinH.by (fun t k => XS.iconst X125.here hx rfl (hb hby at_118) k) ?_
            show FinH _ _ _ _ _ _ _ _ _ (T125.setTop (mkF m 119 #[.val (.int p1), .val (.int p2), .val (.int p3), .val (.int p4), .val (.int (p4 &&& (3 : Int32))), .val (.int f5), .val (.int f6), .val (.int f7), .val (.ref t102), .val (.ref t109), .val v10, .val (.ref a110), .unset, .unset, .unset] [(.int (1 : Int32))]))
            refine FinH.by (fun t k => XS.goto X125.here hx rfl (pc0 := 119) (pc' := 123) rfl (hb hby at_119) (by decide) (by decide) k) ?_
            show FinH _ _ _ _ _ _ _ _ _ (T125.setTop (mkF m 123 #[.val (.int p1), .val (.int p2), .val (.int p3), .val (.int p4), .val (.int (p4 &&& (3 : Int32))), .val (.int f5), .val (.int f6), .val (.int f7), .val (.ref t102), .val (.ref t109), .val v10, .val (.ref a110), .unset, .unset, .unset] [(.int (1 : Int32))]))
            refine FinH.by (fun t k => XS.istore X125.here hx rfl (hb hby at_123) rfl (l' := #[.val (.int p1), .val (.int p2), .val (.int p3), .val (.int p4), .val (.int (p4 &&& (3 : Int32))), .val (.int f5), .val (.int f6), .val (.int f7), .val (.ref t102), .val (.ref t109), .val v10, .val (.ref a110), .val (.int (1 : Int32)), .unset, .unset]) rfl k) ?_
            show FinH _ _ _ _ _ _ _ _ _ (T125.setTop (mkF m 125 #[.val (.int p1), .val (.int p2), .val (.int p3), .val (.int p4), .val (.int (p4 &&& (3 : Int32))), .val (.int f5), .val (.int f6), .val (.int f7), .val (.ref t102), .val (.ref t109), .val v10, .val (.ref a110), .val (.int (1 : Int32)), .unset, .unset] []))
            exact J125 trivial
          · refine FinH.by (fun t k => XnullNo X125 hx rfl hn (hb hby at_107) rfl k) ?_
            show FinH _ _ _ _ _ _ _ _ _ (T125.setTop (mkF m 110 #[.val (.int p1), .val (.int p2), .val (.int p3), .val (.int p4), .val (.int (p4 &&& (3 : Int32))), .val (.int f5), .val (.int f6), .val (.int f7), .val (.ref t102), .val (.ref t109), .val v10, .val (.ref a110), .unset, .unset, .unset] [(.int (nar .boolean (tv v10)))]))
            refine FinH.by (fun t k => XS.iconst X125.here hx rfl (hb hby at_110) k) ?_
            show FinH _ _ _ _ _ _ _ _ _ (T125.setTop (mkF m 111 #[.val (.int p1), .val (.int p2), .val (.int p3), .val (.int p4), .val (.int (p4 &&& (3 : Int32))), .val (.int f5), .val (.int f6), .val (.int f7), .val (.ref t102), .val (.ref t109), .val v10, .val (.ref a110), .unset, .unset, .unset] [(.int (1 : Int32)), (.int (nar .boolean (tv v10)))]))
            refine FinH.by (fun t k => XS.goto X125.here hx rfl (pc0 := 111) (pc' := 115) rfl (hb hby at_111) (by decide) (by decide) k) ?_
            show FinH _ _ _ _ _ _ _ _ _ (T125.setTop (mkF m 115 #[.val (.int p1), .val (.int p2), .val (.int p3), .val (.int p4), .val (.int (p4 &&& (3 : Int32))), .val (.int f5), .val (.int f6), .val (.int f7), .val (.ref t102), .val (.ref t109), .val v10, .val (.ref a110), .unset, .unset, .unset] [(.int (1 : Int32)), (.int (nar .boolean (tv v10)))]))
            refine FinH.by (fun t k => XS.icmpNo X125.here hx rfl (hb hby at_115) rfl (teq (by rw [hn, tv_ref]; decide : (nar .boolean (tv v10)) = (1 : Int32))).2 k) ?_
            show FinH _ _ _ _ _ _ _ _ _ (T125.setTop (mkF m 118 #[.val (.int p1), .val (.int p2), .val (.int p3), .val (.int p4), .val (.int (p4 &&& (3 : Int32))), .val (.int f5), .val (.int f6), .val (.int f7), .val (.ref t102), .val (.ref t109), .val v10, .val (.ref a110), .unset, .unset, .unset] []))
            refine FinH.by (fun t k => XS.iconst X125.here hx rfl (hb hby at_118) k) ?_
            show FinH _ _ _ _ _ _ _ _ _ (T125.setTop (mkF m 119 #[.val (.int p1), .val (.int p2), .val (.int p3), .val (.int p4), .val (.int (p4 &&& (3 : Int32))), .val (.int f5), .val (.int f6), .val (.int f7), .val (.ref t102), .val (.ref t109), .val v10, .val (.ref a110), .unset, .unset, .unset] [(.int (1 : Int32))]))
            refine FinH.by (fun t k => XS.goto X125.here hx rfl (pc0 := 119) (pc' := 123) rfl (hb hby at_119) (by decide) (by decide) k) ?_
            show FinH _ _ _ _ _ _ _ _ _ (T125.setTop (mkF m 123 #[.val (.int p1), .val (.int p2), .val (.int p3), .val (.int p4), .val (.int (p4 &&& (3 : Int32))), .val (.int f5), .val (.int f6), .val (.int f7), .val (.ref t102), .val (.ref t109), .val v10, .val (.ref a110), .unset, .unset, .unset] [(.int (1 : Int32))]))
            refine FinH.by (fun t k => XS.istore X125.here hx rfl (hb hby at_123) rfl (l' := #[.val (.int p1), .val (.int p2), .val (.int p3), .val (.int p4), .val (.int (p4 &&& (3 : Int32))), .val (.int f5), .val (.int f6), .val (.int f7), .val (.ref t102), .val (.ref t109), .val v10, .val (.ref a110), .val (.int (1 : Int32)), .unset, .unset]) rfl k) ?_
            show FinH _ _ _ _ _ _ _ _ _ (T125.setTop (mkF m 125 #[.val (.int p1), .val (.int p2), .val (.int p3), .val (.int p4), .val (.int (p4 &&& (3 : Int32))), .val (.int f5), .val (.int f6), .val (.int f7), .val (.ref t102), .val (.ref t109), .val v10, .val (.ref a110), .val (.int (1 : Int32)), .unset, .unset] []))
            exact J125 trivial
        by_cases hc70 : f5 = (0 : Int32)
        · refine FinH.by (fun t k => XS.ifYes X108w.here hx rfl (pc0 := 70) (pc' := 77) rfl (hb hby at_70) rfl ((if0 _ _).trans (teq hc70).1) (by decide) (by decide) k) ?_
          show FinH _ _ _ _ _ _ _ _ _ (T108.setTop (mkF m 77 #[.val (.int p1), .val (.int p2), .val (.int p3), .val (.int p4), .val (.int (p4 &&& (3 : Int32))), .val (.int f5), .val (.int f6), .val (.int f7), .val (.ref t102), .val (.ref t109), .unset, .unset, .unset, .unset, .unset] []))
          refine FinH.by (fun t k => XS.aload X108w.here hx rfl (hb hby at_77) rfl rfl k) ?_
          show FinH _ _ _ _ _ _ _ _ _ (T108.setTop (mkF m 79 #[.val (.int p1), .val (.int p2), .val (.int p3), .val (.int p4), .val (.int (p4 &&& (3 : Int32))), .val (.int f5), .val (.int f6), .val (.int f7), .val (.ref t102), .val (.ref t109), .unset, .unset, .unset, .unset, .unset] [(.ref t109)]))
          exact J79 (Value.ref t109) rfl
        · refine FinH.by (fun t k => XS.ifNo X108w.here hx rfl (hb hby at_70) rfl ((if0 _ _).trans (feq hc70).1) k) ?_
          show FinH _ _ _ _ _ _ _ _ _ (T108.setTop (mkF m 73 #[.val (.int p1), .val (.int p2), .val (.int p3), .val (.int p4), .val (.int (p4 &&& (3 : Int32))), .val (.int f5), .val (.int f6), .val (.int f7), .val (.ref t102), .val (.ref t109), .unset, .unset, .unset, .unset, .unset] []))
          refine FinH.by (fun t k => XS.aconstNull X108w.here hx rfl (hb hby at_73) k) ?_
          show FinH _ _ _ _ _ _ _ _ _ (T108.setTop (mkF m 74 #[.val (.int p1), .val (.int p2), .val (.int p3), .val (.int p4), .val (.int (p4 &&& (3 : Int32))), .val (.int f5), .val (.int f6), .val (.int f7), .val (.ref t102), .val (.ref t109), .unset, .unset, .unset, .unset, .unset] [.null]))
          refine FinH.by (fun t k => XS.goto X108w.here hx rfl (pc0 := 74) (pc' := 79) rfl (hb hby at_74) (by decide) (by decide) k) ?_
          show FinH _ _ _ _ _ _ _ _ _ (T108.setTop (mkF m 79 #[.val (.int p1), .val (.int p2), .val (.int p3), .val (.int p4), .val (.int (p4 &&& (3 : Int32))), .val (.int f5), .val (.int f6), .val (.int f7), .val (.ref t102), .val (.ref t109), .unset, .unset, .unset, .unset, .unset] [.null]))
          exact J79 Value.null rfl
      by_cases hc48 : ((p4 >>> ((4 : Int32) &&& 31)) &&& (1 : Int32)) = (0 : Int32)
      · refine FinH.by (fun t k => XS.ifYes X0.here hx rfl (pc0 := 40) (pc' := 47) rfl (hb hby at_40) rfl ((if0 _ _).trans (teq hc48).1) (by decide) (by decide) k) ?_
        show FinH _ _ _ _ _ _ _ _ _ (s₁.setTop (mkF m 47 #[.val (.int p1), .val (.int p2), .val (.int p3), .val (.int p4), .val (.int (p4 &&& (3 : Int32))), .val (.int f5), .val (.int f6), .unset, .unset, .unset, .unset, .unset, .unset, .unset, .unset] []))
        refine FinH.by (fun t k => XS.iconst X0.here hx rfl (hb hby at_47) k) ?_
        show FinH _ _ _ _ _ _ _ _ _ (s₁.setTop (mkF m 48 #[.val (.int p1), .val (.int p2), .val (.int p3), .val (.int p4), .val (.int (p4 &&& (3 : Int32))), .val (.int f5), .val (.int f6), .unset, .unset, .unset, .unset, .unset, .unset, .unset, .unset] [(.int (0 : Int32))]))
        exact J48 (0 : Int32)
      · refine FinH.by (fun t k => XS.ifNo X0.here hx rfl (hb hby at_40) rfl ((if0 _ _).trans (feq hc48).1) k) ?_
        show FinH _ _ _ _ _ _ _ _ _ (s₁.setTop (mkF m 43 #[.val (.int p1), .val (.int p2), .val (.int p3), .val (.int p4), .val (.int (p4 &&& (3 : Int32))), .val (.int f5), .val (.int f6), .unset, .unset, .unset, .unset, .unset, .unset, .unset, .unset] []))
        refine FinH.by (fun t k => XS.iconst X0.here hx rfl (hb hby at_43) k) ?_
        show FinH _ _ _ _ _ _ _ _ _ (s₁.setTop (mkF m 44 #[.val (.int p1), .val (.int p2), .val (.int p3), .val (.int p4), .val (.int (p4 &&& (3 : Int32))), .val (.int f5), .val (.int f6), .unset, .unset, .unset, .unset, .unset, .unset, .unset, .unset] [(.int (1 : Int32))]))
        refine FinH.by (fun t k => XS.goto X0.here hx rfl (pc0 := 44) (pc' := 48) rfl (hb hby at_44) (by decide) (by decide) k) ?_
        show FinH _ _ _ _ _ _ _ _ _ (s₁.setTop (mkF m 48 #[.val (.int p1), .val (.int p2), .val (.int p3), .val (.int p4), .val (.int (p4 &&& (3 : Int32))), .val (.int f5), .val (.int f6), .unset, .unset, .unset, .unset, .unset, .unset, .unset, .unset] [(.int (1 : Int32))]))
        exact J48 (1 : Int32)
    by_cases hc33 : ((p4 >>> ((3 : Int32) &&& 31)) &&& (1 : Int32)) = (0 : Int32)
    · refine FinH.by (fun t k => XS.ifYes X0.here hx rfl (pc0 := 25) (pc' := 32) rfl (hb hby at_25) rfl ((if0 _ _).trans (teq hc33).1) (by decide) (by decide) k) ?_
      show FinH _ _ _ _ _ _ _ _ _ (s₁.setTop (mkF m 32 #[.val (.int p1), .val (.int p2), .val (.int p3), .val (.int p4), .val (.int (p4 &&& (3 : Int32))), .val (.int f5), .unset, .unset, .unset, .unset, .unset, .unset, .unset, .unset, .unset] []))
      refine FinH.by (fun t k => XS.iconst X0.here hx rfl (hb hby at_32) k) ?_
      show FinH _ _ _ _ _ _ _ _ _ (s₁.setTop (mkF m 33 #[.val (.int p1), .val (.int p2), .val (.int p3), .val (.int p4), .val (.int (p4 &&& (3 : Int32))), .val (.int f5), .unset, .unset, .unset, .unset, .unset, .unset, .unset, .unset, .unset] [(.int (0 : Int32))]))
      exact J33 (0 : Int32)
    · refine FinH.by (fun t k => XS.ifNo X0.here hx rfl (hb hby at_25) rfl ((if0 _ _).trans (feq hc33).1) k) ?_
      show FinH _ _ _ _ _ _ _ _ _ (s₁.setTop (mkF m 28 #[.val (.int p1), .val (.int p2), .val (.int p3), .val (.int p4), .val (.int (p4 &&& (3 : Int32))), .val (.int f5), .unset, .unset, .unset, .unset, .unset, .unset, .unset, .unset, .unset] []))
      refine FinH.by (fun t k => XS.iconst X0.here hx rfl (hb hby at_28) k) ?_
      show FinH _ _ _ _ _ _ _ _ _ (s₁.setTop (mkF m 29 #[.val (.int p1), .val (.int p2), .val (.int p3), .val (.int p4), .val (.int (p4 &&& (3 : Int32))), .val (.int f5), .unset, .unset, .unset, .unset, .unset, .unset, .unset, .unset, .unset] [(.int (1 : Int32))]))
      refine FinH.by (fun t k => XS.goto X0.here hx rfl (pc0 := 29) (pc' := 33) rfl (hb hby at_29) (by decide) (by decide) k) ?_
      show FinH _ _ _ _ _ _ _ _ _ (s₁.setTop (mkF m 33 #[.val (.int p1), .val (.int p2), .val (.int p3), .val (.int p4), .val (.int (p4 &&& (3 : Int32))), .val (.int f5), .unset, .unset, .unset, .unset, .unset, .unset, .unset, .unset, .unset] [(.int (1 : Int32))]))
      exact J33 (1 : Int32)
  by_cases hc18 : ((p4 >>> ((2 : Int32) &&& 31)) &&& (1 : Int32)) = (0 : Int32)
  · refine FinH.by (fun t k => XS.ifYes X0.here hx rfl (pc0 := 10) (pc' := 17) rfl (hb hby at_10) rfl ((if0 _ _).trans (teq hc18).1) (by decide) (by decide) k) ?_
    show FinH _ _ _ _ _ _ _ _ _ (s₁.setTop (mkF m 17 #[.val (.int p1), .val (.int p2), .val (.int p3), .val (.int p4), .val (.int (p4 &&& (3 : Int32))), .unset, .unset, .unset, .unset, .unset, .unset, .unset, .unset, .unset, .unset] []))
    refine FinH.by (fun t k => XS.iconst X0.here hx rfl (hb hby at_17) k) ?_
    show FinH _ _ _ _ _ _ _ _ _ (s₁.setTop (mkF m 18 #[.val (.int p1), .val (.int p2), .val (.int p3), .val (.int p4), .val (.int (p4 &&& (3 : Int32))), .unset, .unset, .unset, .unset, .unset, .unset, .unset, .unset, .unset, .unset] [(.int (0 : Int32))]))
    exact J18 (0 : Int32)
  · refine FinH.by (fun t k => XS.ifNo X0.here hx rfl (hb hby at_10) rfl ((if0 _ _).trans (feq hc18).1) k) ?_
    show FinH _ _ _ _ _ _ _ _ _ (s₁.setTop (mkF m 13 #[.val (.int p1), .val (.int p2), .val (.int p3), .val (.int p4), .val (.int (p4 &&& (3 : Int32))), .unset, .unset, .unset, .unset, .unset, .unset, .unset, .unset, .unset, .unset] []))
    refine FinH.by (fun t k => XS.iconst X0.here hx rfl (hb hby at_13) k) ?_
    show FinH _ _ _ _ _ _ _ _ _ (s₁.setTop (mkF m 14 #[.val (.int p1), .val (.int p2), .val (.int p3), .val (.int p4), .val (.int (p4 &&& (3 : Int32))), .unset, .unset, .unset, .unset, .unset, .unset, .unset, .unset, .unset, .unset] [(.int (1 : Int32))]))
    refine FinH.by (fun t k => XS.goto X0.here hx rfl (pc0 := 14) (pc' := 18) rfl (hb hby at_14) (by decide) (by decide) k) ?_
    show FinH _ _ _ _ _ _ _ _ _ (s₁.setTop (mkF m 18 #[.val (.int p1), .val (.int p2), .val (.int p3), .val (.int p4), .val (.int (p4 &&& (3 : Int32))), .unset, .unset, .unset, .unset, .unset, .unset, .unset, .unset, .unset, .unset] [(.int (1 : Int32))]))
    exact J18 (1 : Int32)
set_option maxRecDepth 65536 in
set_option maxHeartbeats 40000000 in
theorem comes_1 {Post : Tables → Env → Array Value → State → Outcome → State → Prop} (hpost : ∀ tb e args s v u, (limb_1_1.after args s (.returned v) u = true ∧ limb_1_2.after args s (.returned v) u = true ∧ True) → ReturnedEndW s (.returned v) u (Jvm.fieldLocs frame_1_writes args s ++ Jvm.arrayLocs frame_1_arrays args s ++ Jvm.staticLocs frame_1_statics s) 32 2176 → Post tb e args s (.returned v) u) :
    ArmFor flags0 classFile x code maxLocals ret World_1 tables_1 room_1 Calls_1 rest_1 Pre_1 Post := by
  intro l hfl _ _ p e ha hc hk s m args below hf hA hF happ hP
  obtain ⟨hcalls, hrest, hpre⟩ := hP
  obtain ⟨-, -, -, hnamed, -, -, -, hat⟩ := (Spec.applies_iff hf).mp happ
  obtain ⟨hg, hn⟩ := and_e (Cond.before_iff.mp (show (Jvm.Cond.and given_1 narrow_1).before args s = true from hpre))
  obtain ⟨q0, r0⟩ := and_e hg
  obtain ⟨q1, r1⟩ := and_e r0
  obtain ⟨q2, r2⟩ := and_e r1
  obtain ⟨q3, r3⟩ := and_e r2
  obtain ⟨w0, w1, w2, w3, rfl⟩ : ∃ w0 w1 w2 w3 : Value, args = #[w0, w1, w2, w3] := by
    have hs : args.size = 4 := by simpa [Cond.value, given_1] using q0
    obtain ⟨L⟩ := args
    match L, hs with
    | [w0, w1, w2, w3], _ => exact ⟨w0, w1, w2, w3, rfl⟩
  have hw := fun d (hd : d ∈ tables_1) => atoms_spec (ws := Jvm.Cond.code x code maxLocals ret :: tables_1) hat d (List.mem_cons_of_mem _ hd)
  obtain ⟨hsets, hown0⟩ := atoms_of _ (rest_1_c_eq ▸ (show rest_1_c.before _ s = true from hrest))
  have hfit : Fit s := fun {y c} hc i hi => by
    obtain ⟨ha, rfl⟩ := Array.getElem?_eq_some_iff.mp hc
    have q := List.all_eq_true.mp ((Array.all_eq_true_iff_forall_mem.mp hF) _ (Array.getElem_mem ha)) i (List.mem_range.mpr hi)
    simpa [Array.getElem?_eq_getElem hi] using q
  obtain ⟨i0, e0⟩ := is_v q1
  obtain rfl : w0 = (.int i0) := Option.some.inj e0
  obtain ⟨i1, e1⟩ := is_v q2
  obtain rfl : w1 = (.int i1) := Option.some.inj e1
  obtain ⟨i2, e2⟩ := is_v q3
  obtain rfl : w2 = (.int i2) := Option.some.inj e2
  obtain ⟨i3, e3⟩ := is_v r3
  obtain rfl : w3 = (.int i3) := Option.some.inj e3
  have nz_cs := not_v (Cond.before_iff.mp (hsets _ (List.mem_of_getElem? (i := 2) rfl)))
  obtain ⟨G1, ee_cs⟩ := is_v (Cond.before_iff.mp (hsets _ (List.mem_of_getElem? (i := 1) rfl)))
  have S1 : Sta s s.heap "java/lang/String" "COMPACT_STRINGS" "Z" (.int G1) := Sta.start ee_cs (Or.inl (hsets _ (List.mem_of_getElem? (i := 0) rfl)))
  have P1 : ¬ (G1 = (0 : Int32)) := gotF (Cond.eq_ints ee_cs (Term.int_eval (0))) nz_cs
  have hC0 : CHv s consts_1 s.vm s.heap := CHv.start (own_EW0 hw) (fun p hp => hcalls.1 p hp) (hsets _ (List.mem_of_getElem? (i := 2) rfl)) (hw _ (List.mem_of_getElem? (i := 14) rfl)) (hw _ (List.mem_of_getElem? (i := 10) rfl))
  obtain ⟨n, o, h1, h2, h3, _, L, rfl, ⟨rfl, N⟩, -, hq⟩ := rm_law l s _ hw tables_1 i0 i1 i2 i3 G1 s.heap s.heap.size (Nat.le_refl _) S1 P1 (Old.start s) p e ha hc hk s m _ below hf ((Spec.applies_iff_loose hf).mp happ).1 ⟨rfl, State.Warmed39.refl s, rfl, hC0⟩ trivial
  refine ⟨n, _, h1, h2, h3, hpost _ _ _ _ _ _ ⟨Cond.after_iff.mpr rfl, Cond.after_iff.mpr (eq_i res_at (Term.int_eval (1)) rfl), trivial⟩ ⟨hq.1, hq.2.1, hq.2.2.1, (hq.2.2.2.sift fun y hy => Or.inr (N y hy)).mono (by decide) (by decide)⟩⟩
theorem main_1_1 : Claimed_1_1 := comes_1 fun _ _ _ _ _ _ h hF => ⟨h.1, hF⟩
theorem main_1_2 : Claimed_1_2 := comes_1 fun _ _ _ _ _ _ h hF => ⟨h.2.1, hF⟩
end Jvm.Pilot.@@N@@
namespace Jvm.Pilot.@@N@@
open Jvm Jvm.ClassFile Sem Op Lib Jvm.Free Jvm.Stand Jvm.Pilot.@@N@@.Jvm.D
/-! MADE BY PROGRAM (witnessworld.py) out of the Statement's table words and the real class files: 21 classes; the members and pool entries that the words name. The judged class is class 1, her method 2. -/
namespace start1
open Jvm.ClassFile
def u (s : String) : CpInfo := .utf8 (stringToUtf16 s)
/-- a pool by its gaps: so many unusable entries, then the entry; so many at the end -/
def gap : Nat → List CpInfo → List CpInfo
  | 0, r => r
  | n + 1, r => .unusable :: gap n r
def poolList (es : List (Nat × CpInfo)) (last : Nat) : List CpInfo := es.foldr (fun e r => gap e.1 (e.2 :: r)) (gap last [])
def pool (es : List (Nat × CpInfo)) (last : Nat) : Array CpInfo := ⟨poolList es last⟩
def fileOf (pool : Array CpInfo) (this : Nat) (attrs : Array Attribute := #[]) (ms : Array MethodInfo := #[]) (fl : Nat := 33) (sup : Nat := 0) (ifs : Array Nat := #[]) (fds : Array FieldInfo := #[]) : ClassFile where
  minorVersion := 0
  majorVersion := 65
  constantPool := pool
  accessFlags := fl
  thisClass := this
  superClass := sup
  interfaces := ifs
  fields := fds
  methods := ms
  attributes := attrs
def plain (name : String) (sup : Option ClassId) : Class where
  name := name
  kind := .ordinary
  loader := none
  accessFlags := 33
  super := sup
  interfaces := #[]
  cf := none
  fields := #[]
  methods := #[]
  instanceTypes := #[]
  staticTypes := #[]
  resolved := #[]
  callSites := []
  init := .initialized
  statics := none
  mirror := none

def pool0 : Array CpInfo := pool [(5, u "<init>"), (0, u "()V"), (1, .class_ 10), (1, u "java/lang/Object")] 113

def k0c0 : Code := { maxStack := 0, maxLocals := 1, code := object_method_1_code, exceptionTable := #[], attributes := #[] }
def k0m0 : Method := { name := "<init>", desc := "()V", sig := { parameters := [], returnType := none }, accessFlags := 1, code := some k0c0 }
/-- java/lang/Object -/
def k0 : Class := { plain "java/lang/Object" none with
  accessFlags := 33
  interfaces := #[]
  cf := some (fileOf pool0 8 #[] #[{ accessFlags := 1, nameIndex := 5, descriptorIndex := 6, attributes := #[] }] 33 0 #[] #[])
  fields := #[]
  methods := #[k0m0]
  instanceTypes := #[]
  staticTypes := #[]
  resolved := Array.replicate 124 none
  statics := none }

def pool1 : Array CpInfo := pool [(2, .class_ 4), (1, u "java/lang/Object"), (0, u "<init>"), (0, u "()V"), (0, .class_ 8), (0, u "java/lang/String"), (0, .methodref 7 10), (0, .nameAndType 5 11), (0, u "([C)V"), (0, .methodref 7 13), (0, .nameAndType 14 15), (0, u "valueOf"), (0, u "(C)Ljava/lang/String;"), (0, .methodref 17 18), (0, .class_ 19), (0, .nameAndType 20 21), (0, u "com/example/jiaoge/jiaoge/cli/CommandOptionTakesValuePinLaw"), (0, u "drawn"), (0, u "(II)Ljava/lang/String;"), (0, .class_ 23), (0, u "com/example/jiaoge/jiaoge/cli/CommandOption"), (0, .string 25), (0, u "h"), (0, .methodref 22 27), (0, .nameAndType 5 28), (0, u "(Ljava/lang/String;Ljava/lang/String;Ljava/lang/String;ZZ)V"), (0, .methodref 22 30), (0, .nameAndType 31 32), (0, u "takesValue"), (0, u "()Z"), (0, .methodref 22 34), (0, .nameAndType 35 36), (0, u "flag"), (0, u "(Ljava/lang/String;Ljava/lang/String;)Lcom/example/jiaoge/jiaoge/cli/CommandOption;"), (0, .methodref 22 38), (0, .nameAndType 39 40), (0, u "required"), (0, u "(Ljava/lang/String;Ljava/lang/String;Ljava/lang/String;)Lcom/example/jiaoge/jiaoge/cli/CommandOption;"), (0, .methodref 22 42), (0, .nameAndType 43 40), (0, u "optional"), (0, .methodref 22 45), (0, .nameAndType 46 40), (0, u "repeatable"), (3, u "law"), (0, u "(IIII)Z")] 2

def k1m0 : Method := { name := "<init>", desc := "()V", sig := { parameters := [], returnType := none }, accessFlags := 1, code := none }
def k1c1 : Code := { maxStack := 3, maxLocals := 7, code := method_2_code, exceptionTable := #[], attributes := #[] }
def k1m1 : Method := { name := "drawn", desc := "(II)Ljava/lang/String;", sig := { parameters := [.int, .int], returnType := some (.object "java/lang/String") }, accessFlags := 10, code := some k1c1 }
def k1c2 : Code := { maxStack := 7, maxLocals := 15, code := code, exceptionTable := #[], attributes := #[] }
def k1m2 : Method := { name := "law", desc := "(IIII)Z", sig := { parameters := [.int, .int, .int, .int], returnType := some .boolean }, accessFlags := 9, code := some k1c2 }
/-- com/example/jiaoge/jiaoge/cli/CommandOptionTakesValuePinLaw -/
def k1 : Class := { plain "com/example/jiaoge/jiaoge/cli/CommandOptionTakesValuePinLaw" (some 0) with
  accessFlags := 49
  interfaces := #[]
  cf := some (fileOf pool1 17 #[] #[{ accessFlags := 1, nameIndex := 5, descriptorIndex := 6, attributes := #[] }, { accessFlags := 10, nameIndex := 20, descriptorIndex := 21, attributes := #[] }, { accessFlags := 9, nameIndex := 50, descriptorIndex := 51, attributes := #[] }] 49 2 #[] #[])
  fields := #[]
  methods := #[k1m0, k1m1, k1m2]
  instanceTypes := #[]
  staticTypes := #[]
  resolved := Array.replicate 54 none
  statics := none }

def pool2 : Array CpInfo := pool [(1, .class_ 2), (0, u "java/io/Serializable"), (0, .class_ 4), (0, u "java/lang/Object")] 2

/-- java/io/Serializable -/
def k2 : Class := { plain "java/io/Serializable" (some 0) with
  accessFlags := 1537
  interfaces := #[]
  cf := some (fileOf pool2 1 #[] #[] 1537 3 #[] #[])
  fields := #[]
  methods := #[]
  instanceTypes := #[]
  staticTypes := #[]
  resolved := Array.replicate 7 none
  statics := none }

def pool3 : Array CpInfo := pool [(1, .class_ 2), (0, u "java/lang/Comparable"), (0, .class_ 4), (0, u "java/lang/Object")] 7

/-- java/lang/Comparable -/
def k3 : Class := { plain "java/lang/Comparable" (some 0) with
  accessFlags := 1537
  interfaces := #[]
  cf := some (fileOf pool3 1 #[] #[] 1537 3 #[] #[])
  fields := #[]
  methods := #[]
  instanceTypes := #[]
  staticTypes := #[]
  resolved := Array.replicate 12 none
  statics := none }

def pool4 : Array CpInfo := pool [(2, .class_ 4), (1, u "java/lang/CharSequence"), (42, .class_ 48), (0, u "java/lang/CharSequence$1CodePointIterator"), (10, .class_ 60), (0, u "java/lang/CharSequence$1CharIterator"), (5, .class_ 67), (0, u "java/lang/Object")] 63

/-- java/lang/CharSequence -/
def k4 : Class := { plain "java/lang/CharSequence" (some 0) with
  accessFlags := 1537
  interfaces := #[]
  cf := some (fileOf pool4 2 #[.nestMembers #[47, 59]] #[] 1537 66 #[] #[])
  fields := #[]
  methods := #[]
  instanceTypes := #[]
  staticTypes := #[]
  resolved := Array.replicate 131 none
  statics := none }

def pool5 : Array CpInfo := pool [(1, .class_ 2), (0, u "java/lang/constant/Constable"), (0, .class_ 4), (0, u "java/lang/Object")] 6

/-- java/lang/constant/Constable -/
def k5 : Class := { plain "java/lang/constant/Constable" (some 0) with
  accessFlags := 1537
  interfaces := #[]
  cf := some (fileOf pool5 1 #[] #[] 1537 3 #[] #[])
  fields := #[]
  methods := #[]
  instanceTypes := #[]
  staticTypes := #[]
  resolved := Array.replicate 11 none
  statics := none }

def pool6 : Array CpInfo := pool [(1, .class_ 2), (0, u "java/lang/constant/ConstantDesc"), (0, .class_ 4), (0, u "java/lang/Object")] 32

/-- java/lang/constant/ConstantDesc -/
def k6 : Class := { plain "java/lang/constant/ConstantDesc" (some 0) with
  accessFlags := 1537
  interfaces := #[]
  cf := some (fileOf pool6 1 #[] #[] 1537 3 #[] #[])
  fields := #[]
  methods := #[]
  instanceTypes := #[]
  staticTypes := #[]
  resolved := Array.replicate 37 none
  statics := none }

def pool7 : Array CpInfo := pool [(1, .methodref 2 3), (0, .class_ 4), (0, .nameAndType 5 6), (0, u "java/lang/Object"), (0, u "<init>"), (0, u "()V"), (0, .string 8), (0, u ""), (0, .fieldref 10 11), (0, .class_ 12), (0, .nameAndType 13 14), (0, u "java/lang/String"), (0, u "value"), (0, u "[B"), (0, .fieldref 10 16), (0, .nameAndType 17 18), (0, u "coder"), (0, u "B"), (2, u "hash"), (0, u "I"), (2, u "hashIsZero"), (0, u "Z"), (0, .methodref 10 28), (0, .nameAndType 5 29), (0, u "([CIILjava/lang/Void;)V"), (8, .fieldref 10 39), (0, .nameAndType 40 26), (0, u "COMPACT_STRINGS"), (1, .class_ 44), (1, u "java/lang/StringUTF16"), (0, u "compress"), (1, .methodref 42 48), (0, .nameAndType 49 50), (0, u "coderFromArrayLen"), (0, u "([BI)B"), (2, u "toBytes"), (53, .class_ 109), (1, u "java/lang/StringLatin1"), (67, .methodref 42 178), (0, .nameAndType 45 179), (0, u "([CII)[B"), (29, .methodref 10 210), (0, .nameAndType 5 211), (0, u "([BB)V"), (157, u "(C)Z"), (205, .class_ 576), (0, u "java/lang/CharSequence"), (22, u "CASE_INSENSITIVE_ORDER"), (0, u "Ljava/util/Comparator;"), (181, u "valueOf"), (0, u "(C)Ljava/lang/String;"), (226, u "([C)V"), (4, .methodref 107 1016), (0, .nameAndType 1017 369), (0, u "canEncode"), (0, .methodref 107 1019), (0, .nameAndType 53 1020), (0, u "(C)[B"), (80, u "serialPersistentFields"), (0, u "[Ljava/io/ObjectStreamField;"), (0, .class_ 1104), (0, u "java/lang/String$CaseInsensitiveComparator"), (1, .class_ 1107), (0, u "java/io/Serializable"), (0, .class_ 1109), (0, u "java/lang/Comparable"), (0, .class_ 1111), (0, u "java/lang/constant/Constable"), (0, .class_ 1113), (0, u "java/lang/constant/ConstantDesc"), (2, u "serialVersionUID"), (0, u "J"), (3, u "REPL"), (0, u "C"), (2, u "LATIN1"), (1, u "UTF16")] 323

def k7m0 : Method := { name := "<init>", desc := "()V", sig := { parameters := [], returnType := none }, accessFlags := 1, code := none }
def k7c1 : Code := { maxStack := 5, maxLocals := 2, code := jdk_42_method_3_code, exceptionTable := #[], attributes := #[] }
def k7m1 : Method := { name := "<init>", desc := "([C)V", sig := { parameters := [(.array .char)], returnType := none }, accessFlags := 1, code := some k7c1 }
def k7c2 : Code := { maxStack := 4, maxLocals := 1, code := jdk_42_method_139_code, exceptionTable := #[], attributes := #[] }
def k7m2 : Method := { name := "valueOf", desc := "(C)Ljava/lang/String;", sig := { parameters := [.char], returnType := some (.object "java/lang/String") }, accessFlags := 9, code := some k7c2 }
def k7c3 : Code := { maxStack := 4, maxLocals := 6, code := jdk_42_method_149_code, exceptionTable := #[], attributes := #[] }
def k7m3 : Method := { name := "<init>", desc := "([CIILjava/lang/Void;)V", sig := { parameters := [(.array .char), .int, .int, (.object "java/lang/Void")], returnType := none }, accessFlags := 2, code := some k7c3 }
def k7c4 : Code := { maxStack := 2, maxLocals := 3, code := jdk_42_method_151_code, exceptionTable := #[], attributes := #[] }
def k7m4 : Method := { name := "<init>", desc := "([BB)V", sig := { parameters := [(.array .byte), .byte], returnType := none }, accessFlags := 0, code := some k7c4 }
/-- java/lang/String -/
def k7 : Class := { plain "java/lang/String" (some 0) with
  accessFlags := 49
  interfaces := #[2, 3, 4, 5, 6]
  cf := some (fileOf pool7 10 #[.nestMembers #[1103]] #[{ accessFlags := 1, nameIndex := 5, descriptorIndex := 6, attributes := #[] }, { accessFlags := 1, nameIndex := 5, descriptorIndex := 1010, attributes := #[] }, { accessFlags := 9, nameIndex := 782, descriptorIndex := 783, attributes := #[] }, { accessFlags := 2, nameIndex := 5, descriptorIndex := 29, attributes := #[] }, { accessFlags := 0, nameIndex := 5, descriptorIndex := 211, attributes := #[] }] 49 2 #[1106, 1108, 575, 1110, 1112] #[{ accessFlags := 18, nameIndex := 13, descriptorIndex := 14, attributes := #[] }, { accessFlags := 18, nameIndex := 17, descriptorIndex := 18, attributes := #[] }, { accessFlags := 2, nameIndex := 21, descriptorIndex := 22, attributes := #[] }, { accessFlags := 2, nameIndex := 25, descriptorIndex := 26, attributes := #[] }, { accessFlags := 26, nameIndex := 1116, descriptorIndex := 1117, attributes := #[] }, { accessFlags := 24, nameIndex := 40, descriptorIndex := 26, attributes := #[] }, { accessFlags := 26, nameIndex := 1101, descriptorIndex := 1102, attributes := #[] }, { accessFlags := 26, nameIndex := 1121, descriptorIndex := 1122, attributes := #[] }, { accessFlags := 25, nameIndex := 599, descriptorIndex := 600, attributes := #[] }, { accessFlags := 24, nameIndex := 1125, descriptorIndex := 18, attributes := #[] }, { accessFlags := 24, nameIndex := 1127, descriptorIndex := 18, attributes := #[] }])
  fields := #[{ name := "value", type := (.array .byte), accessFlags := 18, slot := 0, constantValue := 0 }, { name := "coder", type := .byte, accessFlags := 18, slot := 1, constantValue := 0 }, { name := "hash", type := .int, accessFlags := 2, slot := 2, constantValue := 0 }, { name := "hashIsZero", type := .boolean, accessFlags := 2, slot := 3, constantValue := 0 }, { name := "serialVersionUID", type := .long, accessFlags := 26, slot := 0, constantValue := 0 }, { name := "COMPACT_STRINGS", type := .boolean, accessFlags := 24, slot := 1, constantValue := 0 }, { name := "serialPersistentFields", type := (.array (.object "java/io/ObjectStreamField")), accessFlags := 26, slot := 2, constantValue := 0 }, { name := "REPL", type := .char, accessFlags := 26, slot := 3, constantValue := 0 }, { name := "CASE_INSENSITIVE_ORDER", type := (.object "java/util/Comparator"), accessFlags := 25, slot := 4, constantValue := 0 }, { name := "LATIN1", type := .byte, accessFlags := 24, slot := 5, constantValue := 0 }, { name := "UTF16", type := .byte, accessFlags := 24, slot := 6, constantValue := 0 }]
  methods := #[k7m0, k7m1, k7m2, k7m3, k7m4]
  instanceTypes := #[(.array .byte), .byte, .int, .boolean]
  staticTypes := #[.long, .boolean, (.array (.object "java/io/ObjectStreamField")), .char, (.object "java/util/Comparator"), .byte, .byte]
  resolved := Array.replicate 1451 none
  statics := some 0 }

def pool8 : Array CpInfo := pool [(4, .class_ 6), (1, u "java/lang/Object"), (0, u "<init>"), (0, u "()V"), (5, .class_ 16), (1, u "java/lang/StringLatin1"), (73, u "canEncode"), (14, u "(C)Z"), (15, u "$assertionsDisabled"), (0, u "Z"), (98, .class_ 223), (1, u "java/lang/StringLatin1$LinesSpliterator"), (156, u "toBytes"), (1, u "(C)[B"), (7, .class_ 391), (0, u "java/lang/StringLatin1$CharsSpliterator")] 3

def k8m0 : Method := { name := "<init>", desc := "()V", sig := { parameters := [], returnType := none }, accessFlags := 0, code := none }
def k8c1 : Code := { maxStack := 2, maxLocals := 1, code := jdk_43_method_3_code, exceptionTable := #[], attributes := #[] }
def k8m1 : Method := { name := "canEncode", desc := "(C)Z", sig := { parameters := [.char], returnType := some .boolean }, accessFlags := 9, code := some k8c1 }
def k8c2 : Code := { maxStack := 4, maxLocals := 1, code := jdk_43_method_46_code, exceptionTable := #[], attributes := #[] }
def k8m2 : Method := { name := "toBytes", desc := "(C)[B", sig := { parameters := [.char], returnType := some (.array .byte) }, accessFlags := 9, code := some k8c2 }
/-- java/lang/StringLatin1 -/
def k8 : Class := { plain "java/lang/StringLatin1" (some 0) with
  accessFlags := 48
  interfaces := #[]
  cf := some (fileOf pool8 14 #[.nestMembers #[390, 221]] #[{ accessFlags := 0, nameIndex := 7, descriptorIndex := 8, attributes := #[] }, { accessFlags := 9, nameIndex := 90, descriptorIndex := 105, attributes := #[] }, { accessFlags := 9, nameIndex := 380, descriptorIndex := 382, attributes := #[] }] 48 4 #[] #[{ accessFlags := 4120, nameIndex := 121, descriptorIndex := 122, attributes := #[] }])
  fields := #[{ name := "$assertionsDisabled", type := .boolean, accessFlags := 4120, slot := 0, constantValue := 0 }]
  methods := #[k8m0, k8m1, k8m2]
  instanceTypes := #[]
  staticTypes := #[.boolean]
  resolved := Array.replicate 395 none
  statics := none }

def pool9 : Array CpInfo := pool [(6, .class_ 8), (1, u "java/lang/Object"), (0, u "<init>"), (0, u "()V"), (1, .class_ 14), (1, u "java/lang/StringUTF16"), (31, u "$assertionsDisabled"), (0, u "Z"), (13, u "HI_BYTE_SHIFT"), (0, u "I"), (2, u "LO_BYTE_SHIFT"), (49, .methodref 12 116), (0, .nameAndType 117 118), (0, u "compress"), (0, u "([CI[BII)I"), (3, u "([CII)[B"), (138, u "coderFromArrayLen"), (0, u "([BI)B"), (106, .class_ 371), (1, u "java/lang/StringUTF16$LinesSpliterator"), (58, u "MAX_LENGTH"), (196, .class_ 628), (0, u "java/lang/StringUTF16$CodePointsSpliterator"), (0, .class_ 630), (0, u "java/lang/StringUTF16$CharsSpliterator")] 4

def k9m0 : Method := { name := "<init>", desc := "()V", sig := { parameters := [], returnType := none }, accessFlags := 0, code := none }
def k9c1 : Code := { maxStack := 2, maxLocals := 2, code := jdk_52_method_15_code, exceptionTable := #[], attributes := #[] }
def k9m1 : Method := { name := "coderFromArrayLen", desc := "([BI)B", sig := { parameters := [(.array .byte), .int], returnType := some .byte }, accessFlags := 8, code := some k9c1 }
def k9c2 : Code := { maxStack := 5, maxLocals := 6, code := jdk_52_method_16_code, exceptionTable := #[], attributes := #[] }
def k9m2 : Method := { name := "compress", desc := "([CII)[B", sig := { parameters := [(.array .char), .int, .int], returnType := some (.array .byte) }, accessFlags := 9, code := some k9c2 }
def k9c3 : Code := { maxStack := 3, maxLocals := 7, code := jdk_52_method_21_code, exceptionTable := #[], attributes := #[] }
def k9m3 : Method := { name := "compress", desc := "([CI[BII)I", sig := { parameters := [(.array .char), .int, (.array .byte), .int, .int], returnType := some .int }, accessFlags := 9, code := some k9c3 }
/-- java/lang/StringUTF16 -/
def k9 : Class := { plain "java/lang/StringUTF16" (some 0) with
  accessFlags := 48
  interfaces := #[]
  cf := some (fileOf pool9 12 #[.nestMembers #[627, 629, 369]] #[{ accessFlags := 0, nameIndex := 9, descriptorIndex := 10, attributes := #[] }, { accessFlags := 8, nameIndex := 261, descriptorIndex := 262, attributes := #[] }, { accessFlags := 9, nameIndex := 117, descriptorIndex := 122, attributes := #[] }, { accessFlags := 9, nameIndex := 117, descriptorIndex := 118, attributes := #[] }] 48 6 #[] #[{ accessFlags := 26, nameIndex := 61, descriptorIndex := 62, attributes := #[] }, { accessFlags := 26, nameIndex := 65, descriptorIndex := 62, attributes := #[] }, { accessFlags := 24, nameIndex := 430, descriptorIndex := 62, attributes := #[] }, { accessFlags := 4120, nameIndex := 46, descriptorIndex := 47, attributes := #[] }])
  fields := #[{ name := "HI_BYTE_SHIFT", type := .int, accessFlags := 26, slot := 0, constantValue := 0 }, { name := "LO_BYTE_SHIFT", type := .int, accessFlags := 26, slot := 1, constantValue := 0 }, { name := "MAX_LENGTH", type := .int, accessFlags := 24, slot := 2, constantValue := 0 }, { name := "$assertionsDisabled", type := .boolean, accessFlags := 4120, slot := 3, constantValue := 0 }]
  methods := #[k9m0, k9m1, k9m2, k9m3]
  instanceTypes := #[]
  staticTypes := #[.int, .int, .int, .boolean]
  resolved := Array.replicate 635 none
  statics := none }

def pool10 : Array CpInfo := pool [(1, .methodref 2 3), (0, .class_ 4), (0, .nameAndType 5 6), (0, u "java/lang/Object"), (0, u "<init>"), (0, u "()V"), (0, .class_ 8), (0, u "java/lang/Record")] 13

def k10c0 : Code := { maxStack := 1, maxLocals := 1, code := jdk_30_method_1_code, exceptionTable := #[], attributes := #[] }
def k10m0 : Method := { name := "<init>", desc := "()V", sig := { parameters := [], returnType := none }, accessFlags := 4, code := some k10c0 }
/-- java/lang/Record -/
def k10 : Class := { plain "java/lang/Record" (some 0) with
  accessFlags := 1057
  interfaces := #[]
  cf := some (fileOf pool10 7 #[] #[{ accessFlags := 4, nameIndex := 5, descriptorIndex := 6, attributes := #[] }] 1057 2 #[] #[])
  fields := #[]
  methods := #[k10m0]
  instanceTypes := #[]
  staticTypes := #[]
  resolved := Array.replicate 22 none
  statics := none }

def pool11 : Array CpInfo := pool [(1, .methodref 2 3), (0, .class_ 4), (0, .nameAndType 5 6), (0, u "java/lang/Record"), (0, u "<init>"), (0, u "()V"), (0, .fieldref 8 9), (0, .class_ 10), (0, .nameAndType 11 12), (0, u "com/example/jiaoge/jiaoge/cli/CommandOption"), (0, u "name"), (0, u "Ljava/lang/String;"), (0, .fieldref 8 14), (0, .nameAndType 15 12), (0, u "label"), (0, .fieldref 8 17), (0, .nameAndType 18 12), (0, u "help"), (0, .fieldref 8 20), (0, .nameAndType 21 22), (0, u "required"), (0, u "Z"), (0, .fieldref 8 24), (0, .nameAndType 25 22), (0, u "repeatable"), (0, .methodref 8 27), (0, .nameAndType 5 28), (0, u "(Ljava/lang/String;Ljava/lang/String;Ljava/lang/String;ZZ)V"), (2, u "takesValue"), (0, u "()Z"), (19, u "(Ljava/lang/String;Ljava/lang/String;Ljava/lang/String;)Lcom/example/jiaoge/jiaoge/cli/CommandOption;"), (0, u "optional"), (0, u "flag"), (0, u "(Ljava/lang/String;Ljava/lang/String;)Lcom/example/jiaoge/jiaoge/cli/CommandOption;")] 39

def k11c0 : Code := { maxStack := 2, maxLocals := 6, code := prog_1_method_1_code, exceptionTable := #[], attributes := #[] }
def k11m0 : Method := { name := "<init>", desc := "(Ljava/lang/String;Ljava/lang/String;Ljava/lang/String;ZZ)V", sig := { parameters := [(.object "java/lang/String"), (.object "java/lang/String"), (.object "java/lang/String"), .boolean, .boolean], returnType := none }, accessFlags := 0, code := some k11c0 }
def k11c1 : Code := { maxStack := 7, maxLocals := 3, code := prog_1_method_2_code, exceptionTable := #[], attributes := #[] }
def k11m1 : Method := { name := "required", desc := "(Ljava/lang/String;Ljava/lang/String;Ljava/lang/String;)Lcom/example/jiaoge/jiaoge/cli/CommandOption;", sig := { parameters := [(.object "java/lang/String"), (.object "java/lang/String"), (.object "java/lang/String")], returnType := some (.object "com/example/jiaoge/jiaoge/cli/CommandOption") }, accessFlags := 8, code := some k11c1 }
def k11c2 : Code := { maxStack := 7, maxLocals := 3, code := prog_1_method_3_code, exceptionTable := #[], attributes := #[] }
def k11m2 : Method := { name := "optional", desc := "(Ljava/lang/String;Ljava/lang/String;Ljava/lang/String;)Lcom/example/jiaoge/jiaoge/cli/CommandOption;", sig := { parameters := [(.object "java/lang/String"), (.object "java/lang/String"), (.object "java/lang/String")], returnType := some (.object "com/example/jiaoge/jiaoge/cli/CommandOption") }, accessFlags := 8, code := some k11c2 }
def k11c3 : Code := { maxStack := 7, maxLocals := 3, code := prog_1_method_4_code, exceptionTable := #[], attributes := #[] }
def k11m3 : Method := { name := "repeatable", desc := "(Ljava/lang/String;Ljava/lang/String;Ljava/lang/String;)Lcom/example/jiaoge/jiaoge/cli/CommandOption;", sig := { parameters := [(.object "java/lang/String"), (.object "java/lang/String"), (.object "java/lang/String")], returnType := some (.object "com/example/jiaoge/jiaoge/cli/CommandOption") }, accessFlags := 8, code := some k11c3 }
def k11c4 : Code := { maxStack := 7, maxLocals := 2, code := prog_1_method_5_code, exceptionTable := #[], attributes := #[] }
def k11m4 : Method := { name := "flag", desc := "(Ljava/lang/String;Ljava/lang/String;)Lcom/example/jiaoge/jiaoge/cli/CommandOption;", sig := { parameters := [(.object "java/lang/String"), (.object "java/lang/String")], returnType := some (.object "com/example/jiaoge/jiaoge/cli/CommandOption") }, accessFlags := 8, code := some k11c4 }
def k11c5 : Code := { maxStack := 1, maxLocals := 1, code := prog_1_method_6_code, exceptionTable := #[], attributes := #[] }
def k11m5 : Method := { name := "takesValue", desc := "()Z", sig := { parameters := [], returnType := some .boolean }, accessFlags := 0, code := some k11c5 }
/-- com/example/jiaoge/jiaoge/cli/CommandOption -/
def k11 : Class := { plain "com/example/jiaoge/jiaoge/cli/CommandOption" (some 10) with
  accessFlags := 48
  interfaces := #[]
  cf := some (fileOf pool11 8 #[] #[{ accessFlags := 0, nameIndex := 5, descriptorIndex := 28, attributes := #[] }, { accessFlags := 8, nameIndex := 21, descriptorIndex := 52, attributes := #[] }, { accessFlags := 8, nameIndex := 53, descriptorIndex := 52, attributes := #[] }, { accessFlags := 8, nameIndex := 25, descriptorIndex := 52, attributes := #[] }, { accessFlags := 8, nameIndex := 54, descriptorIndex := 55, attributes := #[] }, { accessFlags := 0, nameIndex := 31, descriptorIndex := 32, attributes := #[] }] 48 2 #[] #[{ accessFlags := 18, nameIndex := 11, descriptorIndex := 12, attributes := #[] }, { accessFlags := 18, nameIndex := 15, descriptorIndex := 12, attributes := #[] }, { accessFlags := 18, nameIndex := 18, descriptorIndex := 12, attributes := #[] }, { accessFlags := 18, nameIndex := 21, descriptorIndex := 22, attributes := #[] }, { accessFlags := 18, nameIndex := 25, descriptorIndex := 22, attributes := #[] }])
  fields := #[{ name := "name", type := (.object "java/lang/String"), accessFlags := 18, slot := 0, constantValue := 0 }, { name := "label", type := (.object "java/lang/String"), accessFlags := 18, slot := 1, constantValue := 0 }, { name := "help", type := (.object "java/lang/String"), accessFlags := 18, slot := 2, constantValue := 0 }, { name := "required", type := .boolean, accessFlags := 18, slot := 3, constantValue := 0 }, { name := "repeatable", type := .boolean, accessFlags := 18, slot := 4, constantValue := 0 }]
  methods := #[k11m0, k11m1, k11m2, k11m3, k11m4, k11m5]
  instanceTypes := #[(.object "java/lang/String"), (.object "java/lang/String"), (.object "java/lang/String"), .boolean, .boolean]
  staticTypes := #[]
  resolved := Array.replicate 95 none
  statics := none }

def pool12 : Array CpInfo := pool [(2, .class_ 4), (1, u "java/lang/Object"), (0, u "<init>"), (0, u "()V"), (17, .class_ 26), (1, u "jdk/internal/util/Preconditions"), (28, .class_ 56), (0, u "jdk/internal/util/Preconditions$4"), (57, .class_ 115), (0, u "jdk/internal/util/Preconditions$1"), (7, u "SIOOBE_FORMATTER"), (0, u "Ljava/util/function/BiFunction;"), (0, .class_ 126), (0, u "jdk/internal/util/Preconditions$2"), (3, u "AIOOBE_FORMATTER"), (0, .class_ 132), (0, u "jdk/internal/util/Preconditions$3"), (3, u "IOOBE_FORMATTER")] 57

def k12m0 : Method := { name := "<init>", desc := "()V", sig := { parameters := [], returnType := none }, accessFlags := 1, code := none }
/-- jdk/internal/util/Preconditions -/
def k12 : Class := { plain "jdk/internal/util/Preconditions" (some 0) with
  accessFlags := 33
  interfaces := #[]
  cf := some (fileOf pool12 24 #[.nestMembers #[55, 131, 125, 114]] #[{ accessFlags := 1, nameIndex := 5, descriptorIndex := 6, attributes := #[] }] 33 2 #[] #[{ accessFlags := 25, nameIndex := 123, descriptorIndex := 124, attributes := #[] }, { accessFlags := 25, nameIndex := 130, descriptorIndex := 124, attributes := #[] }, { accessFlags := 25, nameIndex := 136, descriptorIndex := 124, attributes := #[] }])
  fields := #[{ name := "SIOOBE_FORMATTER", type := (.object "java/util/function/BiFunction"), accessFlags := 25, slot := 0, constantValue := 0 }, { name := "AIOOBE_FORMATTER", type := (.object "java/util/function/BiFunction"), accessFlags := 25, slot := 1, constantValue := 0 }, { name := "IOOBE_FORMATTER", type := (.object "java/util/function/BiFunction"), accessFlags := 25, slot := 2, constantValue := 0 }]
  methods := #[k12m0]
  instanceTypes := #[]
  staticTypes := #[(.object "java/util/function/BiFunction"), (.object "java/util/function/BiFunction"), (.object "java/util/function/BiFunction")]
  resolved := Array.replicate 194 none
  statics := some 1 }

def pool13 : Array CpInfo := pool [(9, u "<init>"), (6, .class_ 18), (1, u "java/lang/Object"), (0, u "()V"), (1, .class_ 23), (1, u "jdk/internal/util/ArraysSupport"), (0, u "LOG2_ARRAY_LONG_INDEX_SCALE"), (0, u "I"), (2, u "U"), (0, u "Ljdk/internal/misc/Unsafe;"), (8, u "BIG_ENDIAN"), (0, u "Z"), (8, u "LOG2_BYTE_BIT_SIZE"), (4, u "LOG2_ARRAY_INT_INDEX_SCALE"), (54, u "JLA"), (0, u "Ljdk/internal/access/JavaLangAccess;"), (11, u "LOG2_ARRAY_BOOLEAN_INDEX_SCALE"), (9, u "LOG2_ARRAY_BYTE_INDEX_SCALE"), (5, u "LOG2_ARRAY_CHAR_INDEX_SCALE"), (5, u "LOG2_ARRAY_SHORT_INDEX_SCALE"), (18, u "LOG2_ARRAY_FLOAT_INDEX_SCALE"), (24, u "LOG2_ARRAY_DOUBLE_INDEX_SCALE"), (89, u "T_BOOLEAN"), (2, u "T_CHAR"), (1, u "T_FLOAT"), (1, u "T_DOUBLE"), (1, u "T_BYTE"), (1, u "T_SHORT"), (1, u "T_INT"), (1, u "T_LONG"), (1, u "SOFT_MAX_ARRAY_LENGTH")] 83

def k13m0 : Method := { name := "<init>", desc := "()V", sig := { parameters := [], returnType := none }, accessFlags := 2, code := none }
/-- jdk/internal/util/ArraysSupport -/
def k13 : Class := { plain "jdk/internal/util/ArraysSupport" (some 0) with
  accessFlags := 33
  interfaces := #[]
  cf := some (fileOf pool13 21 #[] #[{ accessFlags := 2, nameIndex := 9, descriptorIndex := 19, attributes := #[] }] 33 16 #[] #[{ accessFlags := 24, nameIndex := 28, descriptorIndex := 29, attributes := #[] }, { accessFlags := 26, nameIndex := 38, descriptorIndex := 39, attributes := #[] }, { accessFlags := 25, nameIndex := 121, descriptorIndex := 25, attributes := #[] }, { accessFlags := 25, nameIndex := 131, descriptorIndex := 25, attributes := #[] }, { accessFlags := 25, nameIndex := 137, descriptorIndex := 25, attributes := #[] }, { accessFlags := 25, nameIndex := 143, descriptorIndex := 25, attributes := #[] }, { accessFlags := 25, nameIndex := 53, descriptorIndex := 25, attributes := #[] }, { accessFlags := 25, nameIndex := 24, descriptorIndex := 25, attributes := #[] }, { accessFlags := 25, nameIndex := 162, descriptorIndex := 25, attributes := #[] }, { accessFlags := 25, nameIndex := 187, descriptorIndex := 25, attributes := #[] }, { accessFlags := 26, nameIndex := 48, descriptorIndex := 25, attributes := #[] }, { accessFlags := 25, nameIndex := 277, descriptorIndex := 25, attributes := #[] }, { accessFlags := 25, nameIndex := 280, descriptorIndex := 25, attributes := #[] }, { accessFlags := 25, nameIndex := 282, descriptorIndex := 25, attributes := #[] }, { accessFlags := 25, nameIndex := 284, descriptorIndex := 25, attributes := #[] }, { accessFlags := 25, nameIndex := 286, descriptorIndex := 25, attributes := #[] }, { accessFlags := 25, nameIndex := 288, descriptorIndex := 25, attributes := #[] }, { accessFlags := 25, nameIndex := 290, descriptorIndex := 25, attributes := #[] }, { accessFlags := 25, nameIndex := 292, descriptorIndex := 25, attributes := #[] }, { accessFlags := 26, nameIndex := 108, descriptorIndex := 109, attributes := #[] }, { accessFlags := 25, nameIndex := 294, descriptorIndex := 25, attributes := #[] }])
  fields := #[{ name := "U", type := (.object "jdk/internal/misc/Unsafe"), accessFlags := 24, slot := 0, constantValue := 0 }, { name := "BIG_ENDIAN", type := .boolean, accessFlags := 26, slot := 1, constantValue := 0 }, { name := "LOG2_ARRAY_BOOLEAN_INDEX_SCALE", type := .int, accessFlags := 25, slot := 2, constantValue := 0 }, { name := "LOG2_ARRAY_BYTE_INDEX_SCALE", type := .int, accessFlags := 25, slot := 3, constantValue := 0 }, { name := "LOG2_ARRAY_CHAR_INDEX_SCALE", type := .int, accessFlags := 25, slot := 4, constantValue := 0 }, { name := "LOG2_ARRAY_SHORT_INDEX_SCALE", type := .int, accessFlags := 25, slot := 5, constantValue := 0 }, { name := "LOG2_ARRAY_INT_INDEX_SCALE", type := .int, accessFlags := 25, slot := 6, constantValue := 0 }, { name := "LOG2_ARRAY_LONG_INDEX_SCALE", type := .int, accessFlags := 25, slot := 7, constantValue := 0 }, { name := "LOG2_ARRAY_FLOAT_INDEX_SCALE", type := .int, accessFlags := 25, slot := 8, constantValue := 0 }, { name := "LOG2_ARRAY_DOUBLE_INDEX_SCALE", type := .int, accessFlags := 25, slot := 9, constantValue := 0 }, { name := "LOG2_BYTE_BIT_SIZE", type := .int, accessFlags := 26, slot := 10, constantValue := 0 }, { name := "T_BOOLEAN", type := .int, accessFlags := 25, slot := 11, constantValue := 0 }, { name := "T_CHAR", type := .int, accessFlags := 25, slot := 12, constantValue := 0 }, { name := "T_FLOAT", type := .int, accessFlags := 25, slot := 13, constantValue := 0 }, { name := "T_DOUBLE", type := .int, accessFlags := 25, slot := 14, constantValue := 0 }, { name := "T_BYTE", type := .int, accessFlags := 25, slot := 15, constantValue := 0 }, { name := "T_SHORT", type := .int, accessFlags := 25, slot := 16, constantValue := 0 }, { name := "T_INT", type := .int, accessFlags := 25, slot := 17, constantValue := 0 }, { name := "T_LONG", type := .int, accessFlags := 25, slot := 18, constantValue := 0 }, { name := "JLA", type := (.object "jdk/internal/access/JavaLangAccess"), accessFlags := 26, slot := 19, constantValue := 0 }, { name := "SOFT_MAX_ARRAY_LENGTH", type := .int, accessFlags := 25, slot := 20, constantValue := 0 }]
  methods := #[k13m0]
  instanceTypes := #[]
  staticTypes := #[(.object "jdk/internal/misc/Unsafe"), .boolean, .int, .int, .int, .int, .int, .int, .int, .int, .int, .int, .int, .int, .int, .int, .int, .int, .int, (.object "jdk/internal/access/JavaLangAccess"), .int]
  resolved := Array.replicate 378 none
  statics := none }

def pool14 : Array CpInfo := pool [(1, u "java/lang/Cloneable"), (0, .class_ 1), (0, u "java/lang/Object"), (0, .class_ 3)] 3

/-- java/lang/Cloneable -/
def k14 : Class := { plain "java/lang/Cloneable" (some 0) with
  accessFlags := 1537
  interfaces := #[]
  cf := some (fileOf pool14 2 #[] #[] 1537 4 #[] #[])
  fields := #[]
  methods := #[]
  instanceTypes := #[]
  staticTypes := #[]
  resolved := Array.replicate 8 none
  statics := none }

/-- the primitive byte -/
def k15 : Class := { plain "byte" none with kind := .primitive 'B', accessFlags := 0x411 }
/-- [B -/
def k16 : Class := { plain "[B" (some 0) with kind := .array 15 .byte, interfaces := #[14, 2], accessFlags := 1041 }

/-- the primitive char -/
def k17 : Class := { plain "char" none with kind := .primitive 'C', accessFlags := 0x411 }
/-- [C -/
def k18 : Class := { plain "[C" (some 0) with kind := .array 17 .char, interfaces := #[14, 2], accessFlags := 1041 }

/-- the primitive int -/
def k19 : Class := { plain "int" none with kind := .primitive 'I', accessFlags := 0x411 }
/-- [I -/
def k20 : Class := { plain "[I" (some 0) with kind := .array 19 .int, interfaces := #[14, 2], accessFlags := 1041 }

def heap : Heap := #[{ cls := 7, slots := #[.long 0, .int 1, .null, .int 0, .null, .int 0, .int 0], vm := .statics 7 },
  { cls := 12, slots := #[.null, .null, .null], vm := .statics 12 }]
def classes : Array Class := #[k0, k1, k2, k3, k4, k5, k6, k7, k8, k9, k10, k11, k12, k13, k14, k15, k16, k17, k18, k19, k20]
def interned : List (Array UInt16 × Addr) := []
def slotsUsed : Nat := 10
def theMethod : MethodId := ⟨1, 2⟩
def args0 : Array Value := #[.int 5, .int 5, .int 5, .int 5]
def aboutOver (below : List Frame) : State where
  vm := { classes := classes, interned := interned.toArray }
  heap := heap
  slotsUsed := slotsUsed
  threads := #[{ frames := .invoking theMethod args0 :: below }]
def below0 : List Frame := [.native { method := ⟨0, 0⟩, args := #[] }]
def about1 : State := aboutOver below0
def p0 : Program := .bare "" "" ""
def e0 : Env := launch0.env 0 0 0
theorem w_frames : about1.frames = Frame.invoking theMethod args0 :: below0 := rfl
set_option maxRecDepth 65536 in
theorem w_args : argsFit about1.vm theMethod args0 = true := by decide +kernel
set_option maxRecDepth 65536 in
theorem w_heap : heapFits about1 = true := by decide +kernel
set_option maxRecDepth 65536 in
theorem w_runnable : about1.curStatus? = some .runnable := by decide +kernel
set_option maxRecDepth 65536 in
theorem w_alone : about1.alone = true := by decide +kernel
set_option maxRecDepth 65536 in
theorem w_named : about1.methodNamed? x = some theMethod := by decide +kernel
set_option maxRecDepth 65536 in
theorem w_hears : about1.hears theMethod below0 = true := by decide +kernel
set_option maxRecDepth 65536 in
theorem w_ripe : about1.ripe theMethod args0 below0 = true := by decide +kernel
theorem w_running : about1.status = .running := rfl
set_option maxRecDepth 65536 in
theorem w_room : about1.hasRoom e0.platform room_1 = true :=
  launch0.hasRoom_least _ room_1 (by decide +kernel) (by decide +kernel) (by decide +kernel) (by decide +kernel) (by decide +kernel) (by decide +kernel)
theorem allAtoms_all (ts : List Jvm.Cond) (a : Array Jvm.Value) (st : Jvm.State) : (allAtoms ts).before a st = ts.all (fun c => c.before a st) := by
  induction ts with
  | nil => rfl
  | cons c t ih =>
    show (Jvm.Cond.and c (allAtoms t)).before a st = _
    rw [Jvm.Cond.before_and, ih, List.all_cons]
def words1 : List Jvm.Cond := Jvm.Cond.code x code maxLocals ret :: tables_1
/-- a 'code' word, met by the world's own term for the bytes: nothing is compared byte by byte -/
theorem code_word {y : MethodName} {bytes : ByteArray} {mx : Nat} {rt : Option FieldType} {a : Array Value} {s : State} {m : MethodId} {meth : Method} {c : Code} (h1 : s.methodNamed? y = some m) (h2 : s.vm.method? m = some meth) (h3 : meth.code = some c) (h4 : c.code = bytes)
    (h5 : (c.maxLocals == mx && c.exceptionTable.isEmpty && decide (c.maxStack ≤ mostOperands) && decide (meth.sig.returnType = rt) && !meth.locks && decide (parseMethodDescriptor y.desc = some meth.sig)) = true) : (Jvm.Cond.code y bytes mx rt).before a s = true := by
  simp only [Bool.and_eq_true, beq_iff_eq, Bool.not_eq_true', decide_eq_true_eq] at h5
  obtain ⟨⟨⟨⟨⟨g1, g2⟩, g3⟩, g4⟩, g5⟩, g6⟩ := h5
  simp [Cond.before, Cond.holds, Cond.value, h1, h2, h3, h4, g1, g2, g3, g4, g5, g6]
def isCode : Jvm.Cond → Bool
  | .code _ _ _ _ => true
  | _ => false
theorem all_split {L : List Jvm.Cond} {P : Jvm.Cond → Bool} (h1 : L.all (fun c => isCode c || P c) = true) (h2 : ∀ c ∈ L.filter isCode, P c = true) : L.all P = true := by
  refine List.all_eq_true.mpr fun c hc => ?_
  have h := List.all_eq_true.mp h1 c hc
  rcases Bool.eq_false_or_eq_true (isCode c) with hi | hi
  · exact h2 c (List.mem_filter.mpr ⟨hc, hi⟩)
  · simpa [hi] using h
set_option maxRecDepth 65536 in
theorem w_c0 : (Jvm.Cond.code x code maxLocals ret).before args0 about1 = true := code_word (m := ⟨1, 2⟩) (meth := k1m2) (c := k1c2) (by decide +kernel) rfl rfl rfl (by decide +kernel)
set_option maxRecDepth 65536 in
theorem w_c1 : (Jvm.Cond.code ({ cls := "java/lang/String", name := "valueOf", desc := "(C)Ljava/lang/String;" } : Jvm.MethodName) jdk_42_method_139_code (1 : Nat) (Option.some (Jvm.ClassFile.FieldType.object "java/lang/String"))).before args0 about1 = true := code_word (m := ⟨7, 2⟩) (meth := k7m2) (c := k7c2) (by decide +kernel) rfl rfl rfl (by decide +kernel)
set_option maxRecDepth 65536 in
theorem w_c2 : (Jvm.Cond.code ({ cls := "java/lang/StringLatin1", name := "canEncode", desc := "(C)Z" } : Jvm.MethodName) jdk_43_method_3_code (1 : Nat) (Option.some Jvm.ClassFile.FieldType.boolean)).before args0 about1 = true := code_word (m := ⟨8, 1⟩) (meth := k8m1) (c := k8c1) (by decide +kernel) rfl rfl rfl (by decide +kernel)
set_option maxRecDepth 65536 in
theorem w_c3 : (Jvm.Cond.code ({ cls := "java/lang/StringLatin1", name := "toBytes", desc := "(C)[B" } : Jvm.MethodName) jdk_43_method_46_code (1 : Nat) (Option.some (Jvm.ClassFile.FieldType.array Jvm.ClassFile.FieldType.byte))).before args0 about1 = true := code_word (m := ⟨8, 2⟩) (meth := k8m2) (c := k8c2) (by decide +kernel) rfl rfl rfl (by decide +kernel)
set_option maxRecDepth 65536 in
theorem w_c4 : (Jvm.Cond.code ({ cls := "java/lang/String", name := "<init>", desc := "([BB)V" } : Jvm.MethodName) jdk_42_method_151_code (3 : Nat) (Option.none : Option Jvm.ClassFile.FieldType)).before args0 about1 = true := code_word (m := ⟨7, 4⟩) (meth := k7m4) (c := k7c4) (by decide +kernel) rfl rfl rfl (by decide +kernel)
set_option maxRecDepth 65536 in
theorem w_c5 : (Jvm.Cond.code ({ cls := "java/lang/Object", name := "<init>", desc := "()V" } : Jvm.MethodName) object_method_1_code (1 : Nat) (Option.none : Option Jvm.ClassFile.FieldType)).before args0 about1 = true := code_word (m := ⟨0, 0⟩) (meth := k0m0) (c := k0c0) (by decide +kernel) rfl rfl rfl (by decide +kernel)
set_option maxRecDepth 65536 in
theorem w_c6 : (Jvm.Cond.code ({ cls := "com/example/jiaoge/jiaoge/cli/CommandOptionTakesValuePinLaw", name := "drawn", desc := "(II)Ljava/lang/String;" } : Jvm.MethodName) method_2_code (7 : Nat) (Option.some (Jvm.ClassFile.FieldType.object "java/lang/String"))).before args0 about1 = true := code_word (m := ⟨1, 1⟩) (meth := k1m1) (c := k1c1) (by decide +kernel) rfl rfl rfl (by decide +kernel)
set_option maxRecDepth 65536 in
theorem w_c7 : (Jvm.Cond.code ({ cls := "java/lang/String", name := "<init>", desc := "([C)V" } : Jvm.MethodName) jdk_42_method_3_code (2 : Nat) (Option.none : Option Jvm.ClassFile.FieldType)).before args0 about1 = true := code_word (m := ⟨7, 1⟩) (meth := k7m1) (c := k7c1) (by decide +kernel) rfl rfl rfl (by decide +kernel)
set_option maxRecDepth 65536 in
theorem w_c8 : (Jvm.Cond.code ({ cls := "java/lang/String", name := "<init>", desc := "([CIILjava/lang/Void;)V" } : Jvm.MethodName) jdk_42_method_149_code (6 : Nat) (Option.none : Option Jvm.ClassFile.FieldType)).before args0 about1 = true := code_word (m := ⟨7, 3⟩) (meth := k7m3) (c := k7c3) (by decide +kernel) rfl rfl rfl (by decide +kernel)
set_option maxRecDepth 65536 in
theorem w_c9 : (Jvm.Cond.code ({ cls := "java/lang/StringUTF16", name := "compress", desc := "([CII)[B" } : Jvm.MethodName) jdk_52_method_16_code (6 : Nat) (Option.some (Jvm.ClassFile.FieldType.array Jvm.ClassFile.FieldType.byte))).before args0 about1 = true := code_word (m := ⟨9, 2⟩) (meth := k9m2) (c := k9c2) (by decide +kernel) rfl rfl rfl (by decide +kernel)
set_option maxRecDepth 65536 in
theorem w_c10 : (Jvm.Cond.code ({ cls := "java/lang/StringUTF16", name := "compress", desc := "([CI[BII)I" } : Jvm.MethodName) jdk_52_method_21_code (7 : Nat) (Option.some Jvm.ClassFile.FieldType.int)).before args0 about1 = true := code_word (m := ⟨9, 3⟩) (meth := k9m3) (c := k9c3) (by decide +kernel) rfl rfl rfl (by decide +kernel)
set_option maxRecDepth 65536 in
theorem w_c11 : (Jvm.Cond.code ({ cls := "java/lang/StringUTF16", name := "coderFromArrayLen", desc := "([BI)B" } : Jvm.MethodName) jdk_52_method_15_code (2 : Nat) (Option.some Jvm.ClassFile.FieldType.byte)).before args0 about1 = true := code_word (m := ⟨9, 1⟩) (meth := k9m1) (c := k9c1) (by decide +kernel) rfl rfl rfl (by decide +kernel)
set_option maxRecDepth 65536 in
theorem w_c12 : (Jvm.Cond.code ({ cls := "com/example/jiaoge/jiaoge/cli/CommandOption", name := "<init>", desc := "(Ljava/lang/String;Ljava/lang/String;Ljava/lang/String;ZZ)V" } : Jvm.MethodName) prog_1_method_1_code (6 : Nat) (Option.none : Option Jvm.ClassFile.FieldType)).before args0 about1 = true := code_word (m := ⟨11, 0⟩) (meth := k11m0) (c := k11c0) (by decide +kernel) rfl rfl rfl (by decide +kernel)
set_option maxRecDepth 65536 in
theorem w_c13 : (Jvm.Cond.code ({ cls := "java/lang/Record", name := "<init>", desc := "()V" } : Jvm.MethodName) jdk_30_method_1_code (1 : Nat) (Option.none : Option Jvm.ClassFile.FieldType)).before args0 about1 = true := code_word (m := ⟨10, 0⟩) (meth := k10m0) (c := k10c0) (by decide +kernel) rfl rfl rfl (by decide +kernel)
set_option maxRecDepth 65536 in
theorem w_c14 : (Jvm.Cond.code ({ cls := "com/example/jiaoge/jiaoge/cli/CommandOption", name := "takesValue", desc := "()Z" } : Jvm.MethodName) prog_1_method_6_code (1 : Nat) (Option.some Jvm.ClassFile.FieldType.boolean)).before args0 about1 = true := code_word (m := ⟨11, 5⟩) (meth := k11m5) (c := k11c5) (by decide +kernel) rfl rfl rfl (by decide +kernel)
set_option maxRecDepth 65536 in
theorem w_c15 : (Jvm.Cond.code ({ cls := "com/example/jiaoge/jiaoge/cli/CommandOption", name := "required", desc := "(Ljava/lang/String;Ljava/lang/String;Ljava/lang/String;)Lcom/example/jiaoge/jiaoge/cli/CommandOption;" } : Jvm.MethodName) prog_1_method_2_code (3 : Nat) (Option.some (Jvm.ClassFile.FieldType.object "com/example/jiaoge/jiaoge/cli/CommandOption"))).before args0 about1 = true := code_word (m := ⟨11, 1⟩) (meth := k11m1) (c := k11c1) (by decide +kernel) rfl rfl rfl (by decide +kernel)
set_option maxRecDepth 65536 in
theorem w_c16 : (Jvm.Cond.code ({ cls := "com/example/jiaoge/jiaoge/cli/CommandOption", name := "optional", desc := "(Ljava/lang/String;Ljava/lang/String;Ljava/lang/String;)Lcom/example/jiaoge/jiaoge/cli/CommandOption;" } : Jvm.MethodName) prog_1_method_3_code (3 : Nat) (Option.some (Jvm.ClassFile.FieldType.object "com/example/jiaoge/jiaoge/cli/CommandOption"))).before args0 about1 = true := code_word (m := ⟨11, 2⟩) (meth := k11m2) (c := k11c2) (by decide +kernel) rfl rfl rfl (by decide +kernel)
set_option maxRecDepth 65536 in
theorem w_c17 : (Jvm.Cond.code ({ cls := "com/example/jiaoge/jiaoge/cli/CommandOption", name := "flag", desc := "(Ljava/lang/String;Ljava/lang/String;)Lcom/example/jiaoge/jiaoge/cli/CommandOption;" } : Jvm.MethodName) prog_1_method_5_code (2 : Nat) (Option.some (Jvm.ClassFile.FieldType.object "com/example/jiaoge/jiaoge/cli/CommandOption"))).before args0 about1 = true := code_word (m := ⟨11, 4⟩) (meth := k11m4) (c := k11c4) (by decide +kernel) rfl rfl rfl (by decide +kernel)
set_option maxRecDepth 65536 in
theorem w_c18 : (Jvm.Cond.code ({ cls := "com/example/jiaoge/jiaoge/cli/CommandOption", name := "repeatable", desc := "(Ljava/lang/String;Ljava/lang/String;Ljava/lang/String;)Lcom/example/jiaoge/jiaoge/cli/CommandOption;" } : Jvm.MethodName) prog_1_method_4_code (3 : Nat) (Option.some (Jvm.ClassFile.FieldType.object "com/example/jiaoge/jiaoge/cli/CommandOption"))).before args0 about1 = true := code_word (m := ⟨11, 3⟩) (meth := k11m3) (c := k11c3) (by decide +kernel) rfl rfl rfl (by decide +kernel)
def codes1 : List Jvm.Cond := [Jvm.Cond.code x code maxLocals ret, Jvm.Cond.code ({ cls := "java/lang/String", name := "valueOf", desc := "(C)Ljava/lang/String;" } : Jvm.MethodName) jdk_42_method_139_code (1 : Nat) (Option.some (Jvm.ClassFile.FieldType.object "java/lang/String")), Jvm.Cond.code ({ cls := "java/lang/StringLatin1", name := "canEncode", desc := "(C)Z" } : Jvm.MethodName) jdk_43_method_3_code (1 : Nat) (Option.some Jvm.ClassFile.FieldType.boolean), Jvm.Cond.code ({ cls := "java/lang/StringLatin1", name := "toBytes", desc := "(C)[B" } : Jvm.MethodName) jdk_43_method_46_code (1 : Nat) (Option.some (Jvm.ClassFile.FieldType.array Jvm.ClassFile.FieldType.byte)), Jvm.Cond.code ({ cls := "java/lang/String", name := "<init>", desc := "([BB)V" } : Jvm.MethodName) jdk_42_method_151_code (3 : Nat) (Option.none : Option Jvm.ClassFile.FieldType), Jvm.Cond.code ({ cls := "java/lang/Object", name := "<init>", desc := "()V" } : Jvm.MethodName) object_method_1_code (1 : Nat) (Option.none : Option Jvm.ClassFile.FieldType), Jvm.Cond.code ({ cls := "com/example/jiaoge/jiaoge/cli/CommandOptionTakesValuePinLaw", name := "drawn", desc := "(II)Ljava/lang/String;" } : Jvm.MethodName) method_2_code (7 : Nat) (Option.some (Jvm.ClassFile.FieldType.object "java/lang/String")), Jvm.Cond.code ({ cls := "java/lang/String", name := "<init>", desc := "([C)V" } : Jvm.MethodName) jdk_42_method_3_code (2 : Nat) (Option.none : Option Jvm.ClassFile.FieldType), Jvm.Cond.code ({ cls := "java/lang/String", name := "<init>", desc := "([CIILjava/lang/Void;)V" } : Jvm.MethodName) jdk_42_method_149_code (6 : Nat) (Option.none : Option Jvm.ClassFile.FieldType), Jvm.Cond.code ({ cls := "java/lang/StringUTF16", name := "compress", desc := "([CII)[B" } : Jvm.MethodName) jdk_52_method_16_code (6 : Nat) (Option.some (Jvm.ClassFile.FieldType.array Jvm.ClassFile.FieldType.byte)), Jvm.Cond.code ({ cls := "java/lang/StringUTF16", name := "compress", desc := "([CI[BII)I" } : Jvm.MethodName) jdk_52_method_21_code (7 : Nat) (Option.some Jvm.ClassFile.FieldType.int), Jvm.Cond.code ({ cls := "java/lang/StringUTF16", name := "coderFromArrayLen", desc := "([BI)B" } : Jvm.MethodName) jdk_52_method_15_code (2 : Nat) (Option.some Jvm.ClassFile.FieldType.byte), Jvm.Cond.code ({ cls := "com/example/jiaoge/jiaoge/cli/CommandOption", name := "<init>", desc := "(Ljava/lang/String;Ljava/lang/String;Ljava/lang/String;ZZ)V" } : Jvm.MethodName) prog_1_method_1_code (6 : Nat) (Option.none : Option Jvm.ClassFile.FieldType), Jvm.Cond.code ({ cls := "java/lang/Record", name := "<init>", desc := "()V" } : Jvm.MethodName) jdk_30_method_1_code (1 : Nat) (Option.none : Option Jvm.ClassFile.FieldType), Jvm.Cond.code ({ cls := "com/example/jiaoge/jiaoge/cli/CommandOption", name := "takesValue", desc := "()Z" } : Jvm.MethodName) prog_1_method_6_code (1 : Nat) (Option.some Jvm.ClassFile.FieldType.boolean), Jvm.Cond.code ({ cls := "com/example/jiaoge/jiaoge/cli/CommandOption", name := "required", desc := "(Ljava/lang/String;Ljava/lang/String;Ljava/lang/String;)Lcom/example/jiaoge/jiaoge/cli/CommandOption;" } : Jvm.MethodName) prog_1_method_2_code (3 : Nat) (Option.some (Jvm.ClassFile.FieldType.object "com/example/jiaoge/jiaoge/cli/CommandOption")), Jvm.Cond.code ({ cls := "com/example/jiaoge/jiaoge/cli/CommandOption", name := "optional", desc := "(Ljava/lang/String;Ljava/lang/String;Ljava/lang/String;)Lcom/example/jiaoge/jiaoge/cli/CommandOption;" } : Jvm.MethodName) prog_1_method_3_code (3 : Nat) (Option.some (Jvm.ClassFile.FieldType.object "com/example/jiaoge/jiaoge/cli/CommandOption")), Jvm.Cond.code ({ cls := "com/example/jiaoge/jiaoge/cli/CommandOption", name := "flag", desc := "(Ljava/lang/String;Ljava/lang/String;)Lcom/example/jiaoge/jiaoge/cli/CommandOption;" } : Jvm.MethodName) prog_1_method_5_code (2 : Nat) (Option.some (Jvm.ClassFile.FieldType.object "com/example/jiaoge/jiaoge/cli/CommandOption")), Jvm.Cond.code ({ cls := "com/example/jiaoge/jiaoge/cli/CommandOption", name := "repeatable", desc := "(Ljava/lang/String;Ljava/lang/String;Ljava/lang/String;)Lcom/example/jiaoge/jiaoge/cli/CommandOption;" } : Jvm.MethodName) prog_1_method_4_code (3 : Nat) (Option.some (Jvm.ClassFile.FieldType.object "com/example/jiaoge/jiaoge/cli/CommandOption"))]
set_option maxRecDepth 65536 in
theorem codes_eq : words1.filter isCode = codes1 := rfl
theorem w_codes : ∀ c ∈ words1.filter isCode, c.before args0 about1 = true := by
  rw [codes_eq]
  intro c hc
  simp only [codes1, List.mem_cons, List.not_mem_nil, or_false] at hc
  rcases hc with rfl | rfl | rfl | rfl | rfl | rfl | rfl | rfl | rfl | rfl | rfl | rfl | rfl | rfl | rfl | rfl | rfl | rfl | rfl
  · exact w_c0
  · exact w_c1
  · exact w_c2
  · exact w_c3
  · exact w_c4
  · exact w_c5
  · exact w_c6
  · exact w_c7
  · exact w_c8
  · exact w_c9
  · exact w_c10
  · exact w_c11
  · exact w_c12
  · exact w_c13
  · exact w_c14
  · exact w_c15
  · exact w_c16
  · exact w_c17
  · exact w_c18
set_option maxRecDepth 65536 in
theorem w_t1 : (words1.take 24).all (fun c => isCode c || c.before args0 about1) = true := by decide +kernel
set_option maxRecDepth 65536 in
theorem w_t2 : ((words1.drop 24).take 24).all (fun c => isCode c || c.before args0 about1) = true := by decide +kernel
set_option maxRecDepth 65536 in
theorem w_t3 : (((words1.drop 24).drop 24).take 24).all (fun c => isCode c || c.before args0 about1) = true := by decide +kernel
set_option maxRecDepth 65536 in
theorem w_t4 : (((words1.drop 24).drop 24).drop 24).all (fun c => isCode c || c.before args0 about1) = true := by decide +kernel
theorem w_tables : (allAtoms (Jvm.Cond.code x code maxLocals ret :: tables_1)).before args0 about1 = true := by
  rw [allAtoms_all]
  show words1.all (fun c => c.before args0 about1) = true
  refine all_split ?_ w_codes
  rw [← List.take_append_drop 24 words1, List.all_append, w_t1, ← List.take_append_drop 24 (words1.drop 24), List.all_append, w_t2, ← List.take_append_drop 24 ((words1.drop 24).drop 24), List.all_append, w_t3, w_t4]
  rfl
set_option maxRecDepth 65536 in
theorem w_rest : rest_1_c.before args0 about1 = true := by decide +kernel
set_option maxRecDepth 65536 in
theorem w_case : (Jvm.Cond.and given_1 narrow_1).before args0 about1 = true := by decide +kernel
set_option maxRecDepth 65536 in
theorem w_consts : constsHeld consts_1 about1 := Jvm.Lit.constsHeldB_iff.mp (by decide +kernel)
theorem w_applies : (headSpec (Jvm.Cond.code x code maxLocals ret :: tables_1) room_1).applies x e0.platform about1 = true :=
  (Spec.applies_iff w_frames).mpr ⟨w_running, w_runnable, w_alone, w_named, w_hears, w_ripe, w_room, w_tables⟩
theorem atStart : AtStart classFile x code maxLocals ret World_1 tables_1 room_1 Calls_1 rest_1 Pre_1 launch0 p0 e0 about1 theMethod args0 below0 :=
  ⟨lists_1, trivial, launch0.admits_env _ _ _, launch0.least_env, fairChoices_fair.cas, fairChoices_fair.clock, w_frames, w_args, w_heap, w_applies, ⟨w_consts, trivial⟩, w_rest, w_case⟩
end start1
theorem witness_1 : WitnessClaimed_1 := ⟨start1.p0, start1.e0, start1.about1, start1.theMethod, start1.args0, start1.below0, start1.atStart⟩
end Jvm.Pilot.@@N@@
