import JvmDerived
import JvmDerived.Pilot.@@N@@Statement
import JvmDerived.Pilot.@@N@@Code
set_option linter.unusedVariables false
set_option linter.unusedSimpArgs false
/- laws to paste: Road.backV (cut by pick.py; bodies as the Statement names them) -/
namespace Jvm.Pilot.@@N@@
namespace StrChars
open Jvm Sem ClassFile Op Lib Jvm.Stand Jvm.Free.XT Jvm.Free.ALB Jvm.Free.JM Jvm.Free
open Jvm.Lib.Cold (StaticIs)
/-- a char array whose places are chars -/
def Ch (a : Addr) (A : Cell) (U : State) : Prop := Arr .char a A U ∧ Typed .char A
theorem Ch.mv {a : Addr} {A : Cell} {U U' : State} (h : Ch a A U) (hal : U.vm.Alike U'.vm) (hh : U'.heap = U.heap) : Ch a A U' := ⟨h.1.mv hal hh, h.2⟩
theorem Ch.keep {a : Addr} {A : Cell} {U U' : State} (h : Ch a A U) (hal : U.vm.Alike U'.vm) (hk : U'.heap[a]? = some A) : Ch a A U' := ⟨h.1.keep hal hk, h.2⟩
/-- what place i of a char[]'s cell holds -/
def cv (A : Cell) (i : Nat) : Int32 := match A.slots[i]? with | some (.int x) => x | _ => 0
theorem Ch.get {a : Addr} {A : Cell} {U : State} (h : Ch a A U) {i : Nat} (hi : i < A.slots.size) : A.slots[i]? = some (.int (cv A i)) := by
  have e := Array.getElem?_eq_getElem hi
  have f := h.2 i _ e
  unfold cv; rw [e]
  generalize A.slots[i] = v at f
  cases v <;> simp [fits] at f ⊢
/-- the byte that i2b leaves of a char -/
def lo8 (x : Int32) : Int32 := x.toInt8.toInt32
theorem fits_lo8 (y : Int32) : fits .byte (.int (lo8 y)) = true := by
  have h1 := y.toInt8.le_toInt
  have h2 := y.toInt8.toInt_lt
  simp only [lo8, fits, Bool.and_eq_true, decide_eq_true_eq, Int32.le_iff_toInt_le, Int8.toInt_toInt32, show (-128 : Int32).toInt = -128 from by decide, show (127 : Int32).toInt = 127 from by decide]
  omega
/-- A' is A but that each place j of lo .. hi - 1 holds f j -/
def Laid (A A' : Cell) (lo hi : Nat) (f : Nat → Value) : Prop := A'.cls = A.cls ∧ A'.vm = A.vm ∧ A'.slots.size = A.slots.size ∧ ∀ i, A'.slots[i]? = if lo ≤ i ∧ i < hi then some (f i) else A.slots[i]?
theorem Laid.zero (A : Cell) (lo : Nat) (f : Nat → Value) : Laid A A lo (lo + 0) f := ⟨rfl, rfl, rfl, fun i => by rw [if_neg (by omega)]⟩
theorem Laid.step {A Ak : Cell} {lo k : Nat} {f : Nat → Value} {v : Value} (h : Laid A Ak lo k f) (hlo : lo ≤ k) (hk : k < Ak.slots.size) (hv : v = f k) : Laid A (Ak.setSlot k v) lo (k + 1) f := by
  refine ⟨h.1, h.2.1, by simpa [Cell.setSlot] using h.2.2.1, fun i => ?_⟩
  by_cases e : k = i
  · subst e; rw [Cell.slots_setSlot_self v hk, if_pos (by omega), hv]
  · rw [Cell.slots_setSlot_ne v e, h.2.2.2 i]
    by_cases q : lo ≤ i ∧ i < k
    · rw [if_pos q, if_pos (by omega)]
    · rw [if_neg q, if_neg (by omega)]
def U16 : String := "java/lang/StringUTF16"
namespace Cmp5
def yN : MethodName := ⟨"java/lang/StringUTF16", "compress", "([CI[BII)I"⟩
abbrev yB : ByteArray := jdk_52_method_21_code
theorem d0 : decode yB 0 = .ok (.iconst 0, 1) := by decide +kernel
theorem d1 : decode yB 1 = .ok (.istore 5, 2) := by decide +kernel
theorem d3 : decode yB 3 = .ok (.iload 5, 2) := by decide +kernel
theorem d5 : decode yB 5 = .ok (.iload 4, 2) := by decide +kernel
theorem d7 : decode yB 7 = .ok (.if_icmp (.ge) 37, 3) := by decide +kernel
theorem d10 : decode yB 10 = .ok (.aload_n 0, 1) := by decide +kernel
theorem d11 : decode yB 11 = .ok (.iload_n 1, 1) := by decide +kernel
theorem d12 : decode yB 12 = .ok (.caload, 1) := by decide +kernel
theorem d13 : decode yB 13 = .ok (.istore 6, 2) := by decide +kernel
theorem d15 : decode yB 15 = .ok (.iload 6, 2) := by decide +kernel
theorem d17 : decode yB 17 = .ok (.sipush 255, 3) := by decide +kernel
theorem d20 : decode yB 20 = .ok (.if_icmp (.le) 6, 3) := by decide +kernel
theorem d26 : decode yB 26 = .ok (.aload_n 2, 1) := by decide +kernel
theorem d27 : decode yB 27 = .ok (.iload_n 3, 1) := by decide +kernel
theorem d28 : decode yB 28 = .ok (.iload 6, 2) := by decide +kernel
theorem d30 : decode yB 30 = .ok (.i2b, 1) := by decide +kernel
theorem d31 : decode yB 31 = .ok (.bastore, 1) := by decide +kernel
theorem d32 : decode yB 32 = .ok (.iinc 1 1, 3) := by decide +kernel
theorem d35 : decode yB 35 = .ok (.iinc 3 1, 3) := by decide +kernel
theorem d38 : decode yB 38 = .ok (.iinc 5 1, 3) := by decide +kernel
theorem d41 : decode yB 41 = .ok (.goto (-38), 3) := by decide +kernel
theorem d44 : decode yB 44 = .ok (.iload 4, 2) := by decide +kernel
theorem d46 : decode yB 46 = .ok (.ireturn, 1) := by decide +kernel
def site : List Cond := []
def tab : Cond := tabOf yN yB 7 (some .int) site
def P (b : Addr) (A : Cell) (d : Addr) (B : Cell) (o q len : Nat) (args : Array Value) (s : State) : Prop := args = #[.ref b, .int (Int32.ofNat o), .ref d, .int (Int32.ofNat q), .int (Int32.ofNat len)] ∧ Ch b A s ∧ Arr .byte d B s ∧ b ≠ d ∧ o + len ≤ A.slots.size ∧ q + len ≤ B.slots.size ∧ ∀ i, i < len → ¬ 255 < cv A (o + i)
def E (b : Addr) (A : Cell) (d : Addr) (B : Cell) (o q len : Nat) (r : Option Value) (s u : State) : Prop := r = some (.int (Int32.ofNat len)) ∧ ∃ B', Put d B' s u ∧ Laid B B' q (q + len) (fun j => Value.int (lo8 (cv A (o + (j - q)))))
/-- no char of the range above 255: len; the places written hold each char's low byte -/
theorem law (l : Launch) (b : Addr) (A : Cell) (d : Addr) (B : Cell) (o q len : Nat) : Law l yN 5 5 0 0 yB 7 (some .int) site (P b A d B o q len) (E b A d B o q len) (copyLocs d q len) 0 0 := by
  refine Law.of_walk (plainFor_of_name (by decide +kernel)) (by decide +kernel) (by decide +kernel) (by decide) (fun _ _ h => by rw [h.1]; rfl) (fun _ U U' hal hh h => ⟨h.1, h.2.1.mv hal hh, h.2.2.1.mv hal hh, h.2.2.2⟩) (fun r U U' V V' h1 hal h2 h => ⟨h.1, h.2.elim fun B' q => ⟨B', q.1.mv h1 h2, q.2⟩⟩) ?_
  intro p e s m args below meth c s₁ X0 hexec hbytes hml hret hlk hnm hown hh0 W hP
  obtain ⟨rfl, hA, hB, hne, l1, l2, hp⟩ := hP
  have c1 : Steps p.tables e below (s₁.setTop (entryFrame m #[.ref b, .int (Int32.ofNat o), .ref d, .int (Int32.ofNat q), .int (Int32.ofNat len)] 7)) (s₁.setTop (mkF m 0 #[.val (.ref b), .val (.int (Int32.ofNat o)), .val (.ref d), .val (.int (Int32.ofNat q)), .val (.int (Int32.ofNat len)), .unset, .unset] [])) := entry rfl
  have hA0 := hA.1.mv X0.warmed.alike hh0
  have hB0 := hB.mv X0.warmed.alike hh0
  have a31 := hA.1.2.2.2
  have c2 : Steps p.tables e below (s₁.setTop (entryFrame m #[.ref b, .int (Int32.ofNat o), .ref d, .int (Int32.ofNat q), .int (Int32.ofNat len)] 7)) (s₁.setTop (mkF m 3 #[.val (.ref b), .val (.int (Int32.ofNat o)), .val (.ref d), .val (.int (Int32.ofNat q)), .val (.int (Int32.ofNat len)), .val (.int 0), .unset] [])) := c1.trans (by
    refine iconstV X0.here hexec rfl 0 (hb hbytes d0) (by decide) ?_
    refine XS.istore X0.here hexec rfl (hb hbytes d1) rfl rfl ?_
    exact Steps.refl _)
  have loop : ∀ (r i : Nat), i + r = len → ∀ (z : Slot), (z = .unset ∨ ∃ w, z = .val w ∧ w.category = 1) → ∀ (Tl : State) (Bk : Cell), Stand p l e { frames := 0, locals := 0, cells := 0, slots := 0 } s m #[.ref b, .int (Int32.ofNat o), .ref d, .int (Int32.ofNat q), .int (Int32.ofNat len)] below meth c Tl ([] ++ copyLocs d q i) 0 0 → Put d Bk s₁ Tl → Laid B Bk q (q + i) (fun j => Value.int (lo8 (cv A (o + (j - q))))) →
      Steps p.tables e below (s₁.setTop (entryFrame m #[.ref b, .int (Int32.ofNat o), .ref d, .int (Int32.ofNat q), .int (Int32.ofNat len)] 7)) (Tl.setTop (mkF m 3 #[.val (.ref b), .val (.int (Int32.ofNat (o + i))), .val (.ref d), .val (.int (Int32.ofNat (q + i))), .val (.int (Int32.ofNat len)), .val (.int (Int32.ofNat i)), z] [])) → ∃ (T' : State) (B' : Cell) (z' : Slot), Stand p l e { frames := 0, locals := 0, cells := 0, slots := 0 } s m #[.ref b, .int (Int32.ofNat o), .ref d, .int (Int32.ofNat q), .int (Int32.ofNat len)] below meth c T' ([] ++ copyLocs d q len) 0 0 ∧ Put d B' s₁ T' ∧ Laid B B' q (q + len) (fun j => Value.int (lo8 (cv A (o + (j - q))))) ∧
      Steps p.tables e below (s₁.setTop (entryFrame m #[.ref b, .int (Int32.ofNat o), .ref d, .int (Int32.ofNat q), .int (Int32.ofNat len)] 7)) (T'.setTop (mkF m 3 #[.val (.ref b), .val (.int (Int32.ofNat (o + len))), .val (.ref d), .val (.int (Int32.ofNat (q + len))), .val (.int (Int32.ofNat len)), .val (.int (Int32.ofNat len)), z'] [])) := by
    intro r
    induction r with
    | zero =>
      intro i hi z hz Tl Bk Xl pl fl cl
      have hil : i = len := by omega
      rw [hil] at Xl fl cl
      exact ⟨Tl, Bk, z, Xl, pl, fl, cl⟩
    | succ r ih =>
      intro i hi z hz Tl Bk Xl pl fl cl
      have all := X0.warmed.alike.symm.trans Xl.warmed.alike
      have hAl := hA0.keep all (pl.other hne hA0.1)
      have hBk := hB0.like all pl.1 fl.1 fl.2.1 fl.2.2.1
      have hlt : q + i < Bk.slots.size := by rw [fl.2.2.1]; omega
      have c3 : Steps p.tables e below (s₁.setTop (entryFrame m #[.ref b, .int (Int32.ofNat o), .ref d, .int (Int32.ofNat q), .int (Int32.ofNat len)] 7)) (Tl.setTop (mkF m 12 #[.val (.ref b), .val (.int (Int32.ofNat (o + i))), .val (.ref d), .val (.int (Int32.ofNat (q + i))), .val (.int (Int32.ofNat len)), .val (.int (Int32.ofNat i)), z] [.int (Int32.ofNat (o + i)), .ref b])) := cl.trans (by
        refine XS.iload Xl.here hexec rfl (hb hbytes d3) rfl ?_
        refine XS.iload Xl.here hexec rfl (hb hbytes d5) rfl ?_
        refine XS.icmpNo Xl.here hexec rfl (hb hbytes d7) rfl (ii_ge_f (lt32 (by omega) (by omega))) ?_
        refine XS.aloadN Xl.here hexec rfl (hb hbytes d10) rfl rfl ?_
        refine XS.iloadN Xl.here hexec rfl (hb hbytes d11) rfl ?_
        exact Steps.refl _)
      have c4 : Steps p.tables e below (s₁.setTop (entryFrame m #[.ref b, .int (Int32.ofNat o), .ref d, .int (Int32.ofNat q), .int (Int32.ofNat len)] 7)) (Tl.setTop (mkF m 13 #[.val (.ref b), .val (.int (Int32.ofNat (o + i))), .val (.ref d), .val (.int (Int32.ofNat (q + i))), .val (.int (Int32.ofNat len)), .val (.int (Int32.ofNat i)), z] [.int (cv A (o + i))])) := c3.trans (by
        refine Xl.aget hexec hAl rfl (hA.get (i := o + i) (by omega)) rfl rfl (hb hbytes d12) ?_
        exact Steps.refl _)
      have c5 : Steps p.tables e below (s₁.setTop (entryFrame m #[.ref b, .int (Int32.ofNat o), .ref d, .int (Int32.ofNat q), .int (Int32.ofNat len)] 7)) (Tl.setTop (mkF m 15 #[.val (.ref b), .val (.int (Int32.ofNat (o + i))), .val (.ref d), .val (.int (Int32.ofNat (q + i))), .val (.int (Int32.ofNat len)), .val (.int (Int32.ofNat i)), .val (.int (cv A (o + i)))] [])) := c4.trans (by
        refine XS.istoreS Xl.here hexec rfl (hb hbytes d13) rfl rfl hz ?_
        exact Steps.refl _)
      have c6 : Steps p.tables e below (s₁.setTop (entryFrame m #[.ref b, .int (Int32.ofNat o), .ref d, .int (Int32.ofNat q), .int (Int32.ofNat len)] 7)) (Tl.setTop (mkF m 31 #[.val (.ref b), .val (.int (Int32.ofNat (o + i))), .val (.ref d), .val (.int (Int32.ofNat (q + i))), .val (.int (Int32.ofNat len)), .val (.int (Int32.ofNat i)), .val (.int (cv A (o + i)))] [.int (lo8 (cv A (o + i))), .int (Int32.ofNat (q + i)), .ref d])) := c5.trans (by
        refine XS.iload Xl.here hexec rfl (hb hbytes d15) rfl ?_
        refine sipushV Xl.here hexec rfl 255 (hb hbytes d17) (by decide) ?_
        refine XS.icmpYes Xl.here hexec rfl (pc0 := 20) rfl (hb hbytes d20) rfl (ii_le_t (hp i (by omega))) (by decide) rfl ?_
        refine XS.aloadN Xl.here hexec rfl (hb hbytes d26) rfl rfl ?_
        refine XS.iloadN Xl.here hexec rfl (hb hbytes d27) rfl ?_
        refine XS.iload Xl.here hexec rfl (hb hbytes d28) rfl ?_
        refine i2b Xl.here hexec rfl (hb hbytes d30) rfl ?_
        exact Steps.refl _)
      obtain ⟨T7, X7, p7, st7⟩ := Xl.aput hexec hBk rfl hlt rfl (fits_lo8 (cv A (o + i))) (g := (mkF m 31 #[.val (.ref b), .val (.int (Int32.ofNat (o + i))), .val (.ref d), .val (.int (Int32.ofNat (q + i))), .val (.int (Int32.ofNat len)), .val (.int (Int32.ofNat i)), .val (.int (cv A (o + i)))] [.int (lo8 (cv A (o + i))), .int (Int32.ofNat (q + i)), .ref d])) rfl (rest := []) rfl (hb hbytes d31)
      have c8 : Steps p.tables e below (s₁.setTop (entryFrame m #[.ref b, .int (Int32.ofNat o), .ref d, .int (Int32.ofNat q), .int (Int32.ofNat len)] 7)) (T7.setTop (mkF m 32 #[.val (.ref b), .val (.int (Int32.ofNat (o + i))), .val (.ref d), .val (.int (Int32.ofNat (q + i))), .val (.int (Int32.ofNat len)), .val (.int (Int32.ofNat i)), .val (.int (cv A (o + i)))] [])) := c6.trans (st7 _ (Steps.refl _))
      have c9 : Steps p.tables e below (s₁.setTop (entryFrame m #[.ref b, .int (Int32.ofNat o), .ref d, .int (Int32.ofNat q), .int (Int32.ofNat len)] 7)) (T7.setTop (mkF m 3 #[.val (.ref b), .val (.int (Int32.ofNat (o + i) + 1)), .val (.ref d), .val (.int (Int32.ofNat (q + i) + 1)), .val (.int (Int32.ofNat len)), .val (.int (Int32.ofNat i + 1)), .val (.int (cv A (o + i)))] [])) := c8.trans (by
        refine iincV X7.here hexec rfl 1 (hb hbytes d32) (by decide) rfl rfl ?_
        refine iincV X7.here hexec rfl 1 (hb hbytes d35) (by decide) rfl rfl ?_
        refine iincV X7.here hexec rfl 1 (hb hbytes d38) (by decide) rfl rfl ?_
        refine XS.goto X7.here hexec rfl (pc0 := 41) rfl (hb hbytes d41) (by decide) rfl ?_
        exact Steps.refl _)
      have c10 : Steps p.tables e below (s₁.setTop (entryFrame m #[.ref b, .int (Int32.ofNat o), .ref d, .int (Int32.ofNat q), .int (Int32.ofNat len)] 7)) (T7.setTop (mkF m 3 #[.val (.ref b), .val (.int (Int32.ofNat (o + (i + 1)))), .val (.ref d), .val (.int (Int32.ofNat (q + (i + 1)))), .val (.int (Int32.ofNat len)), .val (.int (Int32.ofNat (i + 1))), .val (.int (cv A (o + i)))] [])) := by
        have := c9
        rw [succ32, succ32, succ32] at this
        exact this
      exact ih (i + 1) (by omega) _ (Or.inr ⟨_, rfl, rfl⟩) T7 _ (by rw [copyLocs_step, ← List.append_assoc]; exact X7) (pl.trans p7) (fl.step (by omega) hlt (by simp)) c10
  obtain ⟨T9, B9, z9, X9, p9, f9, g9⟩ := loop len 0 (by omega) .unset (Or.inl rfl) s₁ B (by simpa [copyLocs] using X0) ⟨hB0.1, fun _ _ => rfl, rfl⟩ (Laid.zero _ _ _) c2
  have c11 : Steps p.tables e below (s₁.setTop (entryFrame m #[.ref b, .int (Int32.ofNat o), .ref d, .int (Int32.ofNat q), .int (Int32.ofNat len)] 7)) (T9.setTop (mkF m 46 #[.val (.ref b), .val (.int (Int32.ofNat (o + len))), .val (.ref d), .val (.int (Int32.ofNat (q + len))), .val (.int (Int32.ofNat len)), .val (.int (Int32.ofNat len)), z9] [.int (Int32.ofNat len)])) := g9.trans (by
    refine XS.iload X9.here hexec rfl (hb hbytes d3) rfl ?_
    refine XS.iload X9.here hexec rfl (hb hbytes d5) rfl ?_
    refine XS.icmpYes X9.here hexec rfl (pc0 := 7) rfl (hb hbytes d7) rfl (ii_ge_t (nlt32 (by omega) (Nat.le_refl _))) (by decide) rfl ?_
    refine XS.iload X9.here hexec rfl (hb hbytes d44) rfl ?_
    exact Steps.refl _)
  exact ⟨T9, some (.int (Int32.ofNat len)), _, _, _, X9, by simp, rfl, rfl, (fun h => by cases h), ⟨rfl, B9, p9.from hh0, f9⟩, fun fs hl => c11.trans (X9.ireturnOut hexec hret rfl (Or.inl rfl) (hb hbytes d46) hl)⟩
end Cmp5
namespace Cmp3
def yN : MethodName := ⟨"java/lang/StringUTF16", "compress", "([CII)[B"⟩
abbrev yB : ByteArray := jdk_52_method_16_code
theorem d0 : decode yB 0 = .ok (.iload_n 2, 1) := by decide +kernel
theorem d1 : decode yB 1 = .ok (.newarray .byte, 2) := by decide +kernel
theorem d3 : decode yB 3 = .ok (.astore_n 3, 1) := by decide +kernel
theorem d4 : decode yB 4 = .ok (.aload_n 0, 1) := by decide +kernel
theorem d5 : decode yB 5 = .ok (.iload_n 1, 1) := by decide +kernel
theorem d6 : decode yB 6 = .ok (.aload_n 3, 1) := by decide +kernel
theorem d7 : decode yB 7 = .ok (.iconst 0, 1) := by decide +kernel
theorem d8 : decode yB 8 = .ok (.iload_n 2, 1) := by decide +kernel
theorem d9 : decode yB 9 = .ok (.invokestatic 115, 3) := by decide +kernel
theorem d12 : decode yB 12 = .ok (.istore 4, 2) := by decide +kernel
theorem d14 : decode yB 14 = .ok (.iload 4, 2) := by decide +kernel
theorem d16 : decode yB 16 = .ok (.iload_n 2, 1) := by decide +kernel
theorem d17 : decode yB 17 = .ok (.if_icmp (.eq) 40, 3) := by decide +kernel
theorem d57 : decode yB 57 = .ok (.aload_n 3, 1) := by decide +kernel
theorem d58 : decode yB 58 = .ok (.areturn, 1) := by decide +kernel
def site : List Cond := [.arrayClass .byte, Cmp5.tab] ++ staticW U16 115 Cmp5.yN
def tab : Cond := tabOf yN yB 6 (some (.array .byte)) site
def P (b : Addr) (A : Cell) (o len : Nat) (args : Array Value) (s : State) : Prop := args = #[.ref b, .int (Int32.ofNat o), .int (Int32.ofNat len)] ∧ Ch b A s ∧ o + len ≤ A.slots.size ∧ len ≤ 536870912 ∧ ∀ i, i < len → ¬ 255 < cv A (o + i)
def E (b : Addr) (A : Cell) (o len : Nat) (r : Option Value) (s u : State) : Prop := NewArr .byte "[B" len (fun j => .int (lo8 (cv A (o + j)))) r s u ∧ u.heap.size = s.heap.size + 1
/-- no char of the range above 255: a new byte[] of their low bytes -/
theorem law (l : Launch) (b : Addr) (A : Cell) (o len : Nat) : Law l yN 3 3 1 18 yB 6 (some (.array .byte)) site (P b A o len) (E b A o len) [] 1 len := by
  refine Law.of_walk (plainFor_of_name (by decide +kernel)) (by decide +kernel) (by decide +kernel) (by decide) (fun _ _ h => by rw [h.1]; rfl) (fun _ U U' hal hh h => ⟨h.1, h.2.1.mv hal hh, h.2.2⟩) (fun r U U' V V' h1 hal h2 h => ⟨NewArr.mv r U U' V V' h1 hal h2 h.1, by rw [h1, h2]; exact h.2⟩) ?_
  intro p e s m args below meth c s₁ X0 hexec hbytes hml hret hlk hnm hown hh0 W hP
  obtain ⟨rfl, hA, l1, l2, hp⟩ := hP
  have a31 := hA.1.2.2.2
  have c1 : Steps p.tables e below (s₁.setTop (entryFrame m #[.ref b, .int (Int32.ofNat o), .int (Int32.ofNat len)] 6)) (s₁.setTop (mkF m 0 #[.val (.ref b), .val (.int (Int32.ofNat o)), .val (.int (Int32.ofNat len)), .unset, .unset, .unset] [])) := entry rfl
  have c2 : Steps p.tables e below (s₁.setTop (entryFrame m #[.ref b, .int (Int32.ofNat o), .int (Int32.ofNat len)] 6)) (s₁.setTop (mkF m 1 #[.val (.ref b), .val (.int (Int32.ofNat o)), .val (.int (Int32.ofNat len)), .unset, .unset, .unset] [.int (Int32.ofNat len)])) := c1.trans (by
    refine XS.iloadN X0.here hexec rfl (hb hbytes d0) rfl ?_
    exact Steps.refl _)
  obtain ⟨T3, B3, X3, ba3, bs3, bv3, bh3, bf3, st3⟩ := X0.anew hexec (atype := .byte) (wk W (.arrayClass .byte)) rfl (by show len * 1 ≤ _; omega) (by omega) (g := (mkF m 1 #[.val (.ref b), .val (.int (Int32.ofNat o)), .val (.int (Int32.ofNat len)), .unset, .unset, .unset] [.int (Int32.ofNat len)])) rfl (hb hbytes d1) (rest := []) rfl (Nat.le_refl _) (by show 0 + len ≤ len; omega)
  rw [hh0] at ba3 st3
  have kp3 : XT.Kept s T3 := (XT.Kept.of_eq hh0).push bh3
  have hA3 := hA.keep X3.warmed.alike (kp3 _ _ hA.1.1)
  have hne : b ≠ s.heap.size := hA.1.ne
  have c4 : Steps p.tables e below (s₁.setTop (entryFrame m #[.ref b, .int (Int32.ofNat o), .int (Int32.ofNat len)] 6)) (T3.setTop (mkF m 3 #[.val (.ref b), .val (.int (Int32.ofNat o)), .val (.int (Int32.ofNat len)), .unset, .unset, .unset] [.ref s.heap.size])) := c2.trans (st3 _ (Steps.refl _))
  have c5 : Steps p.tables e below (s₁.setTop (entryFrame m #[.ref b, .int (Int32.ofNat o), .int (Int32.ofNat len)] 6)) (T3.setTop (mkF m 9 #[.val (.ref b), .val (.int (Int32.ofNat o)), .val (.int (Int32.ofNat len)), .val (.ref s.heap.size), .unset, .unset] [.int (Int32.ofNat len), .int 0, .ref s.heap.size, .int (Int32.ofNat o), .ref b])) := c4.trans (by
    refine XS.astoreN X3.here hexec rfl (hb hbytes d3) rfl rfl rfl ?_
    refine XS.aloadN X3.here hexec rfl (hb hbytes d4) rfl rfl ?_
    refine XS.iloadN X3.here hexec rfl (hb hbytes d5) rfl ?_
    refine XS.aloadN X3.here hexec rfl (hb hbytes d6) rfl rfl ?_
    refine iconstV X3.here hexec rfl 0 (hb hbytes d7) (by decide) ?_
    refine XS.iloadN X3.here hexec rfl (hb hbytes d8) rfl ?_
    exact Steps.refl _)
  obtain ⟨v6, T6, X6, E6, g6⟩ := X3.callS hexec (Cmp5.law l b A s.heap.size B3 o 0 len) hown (wks W (staticW U16 115 Cmp5.yN)) (wk W Cmp5.tab) (W := 0) (Nat.le_of_ble_eq_true rfl) (Nat.le_of_ble_eq_true rfl) (Nat.le_refl _) (by show 0 + len + 0 ≤ len; omega) (g := (mkF m 9 #[.val (.ref b), .val (.int (Int32.ofNat o)), .val (.int (Int32.ofNat len)), .val (.ref s.heap.size), .unset, .unset] [.int (Int32.ofNat len), .int (Int32.ofNat 0), .ref s.heap.size, .int (Int32.ofNat o), .ref b])) rfl (by rw [hml]; rfl) c5 (argsL := [.ref b, .int (Int32.ofNat o), .ref s.heap.size, .int (Int32.ofNat 0), .int (Int32.ofNat len)]) (rest := []) rfl rfl (by show 2 * 0 + 0 ≤ _; decide) (hb hbytes d9) (⟨rfl, hA3, ba3, hne, l1, by rw [bs3]; simp, hp⟩)
  obtain ⟨rfl, B6, p6, f6⟩ := E6
  have c7 : Steps p.tables e below (s₁.setTop (entryFrame m #[.ref b, .int (Int32.ofNat o), .int (Int32.ofNat len)] 6)) (T6.setTop (mkF m 12 #[.val (.ref b), .val (.int (Int32.ofNat o)), .val (.int (Int32.ofNat len)), .val (.ref s.heap.size), .unset, .unset] [.int (Int32.ofNat len)])) := g6
  have c8 : Steps p.tables e below (s₁.setTop (entryFrame m #[.ref b, .int (Int32.ofNat o), .int (Int32.ofNat len)] 6)) (T6.setTop (mkF m 58 #[.val (.ref b), .val (.int (Int32.ofNat o)), .val (.int (Int32.ofNat len)), .val (.ref s.heap.size), .val (.int (Int32.ofNat len)), .unset] [.ref s.heap.size])) := c7.trans (by
    refine XS.istore X6.here hexec rfl (hb hbytes d12) rfl rfl ?_
    refine XS.iload X6.here hexec rfl (hb hbytes d14) rfl ?_
    refine XS.iloadN X6.here hexec rfl (hb hbytes d16) rfl ?_
    refine XS.icmpYes X6.here hexec rfl (pc0 := 17) rfl (hb hbytes d17) rfl (ii_eq_t rfl) (by decide) rfl ?_
    refine XS.aloadN X6.here hexec rfl (hb hbytes d57) rfl rfl ?_
    exact Steps.refl _)
  have X8 := X6.wide (L' := []) (cells' := 1) (slots' := len) (fun x hx hlt => by
    simp only [List.nil_append, copyLocs, List.mem_map, List.mem_range] at hx
    obtain ⟨i, -, rfl⟩ := hx
    exact absurd hlt (Nat.lt_irrefl _)) (Nat.le_refl _) (by omega)
  exact ⟨T6, some (.ref s.heap.size), _, _, _, X8, rfl, rfl, rfl, (fun h => by cases h), ⟨⟨rfl, B6, ba3.like (X3.warmed.alike.symm.trans X6.warmed.alike) p6.1 f6.1 f6.2.1 f6.2.2.1, f6.2.1.trans bv3, by rw [X6.warmed.alike.findClass, f6.1]; exact bf3, by rw [f6.2.2.1, bs3]; simp, fun j hj => by rw [f6.2.2.2 j, if_pos (by omega)]; rfl, kp3.put p6 (Nat.le_refl _)⟩, by rw [p6.2.2, bh3, hh0]; simp⟩, fun fs hl => c8.trans (X8.areturnOut hexec rfl hret rfl (hb hbytes d58) hl)⟩
end Cmp3
namespace CodL
def yN : MethodName := ⟨"java/lang/StringUTF16", "coderFromArrayLen", "([BI)B"⟩
abbrev yB : ByteArray := jdk_52_method_15_code
theorem d0 : decode yB 0 = .ok (.iload_n 1, 1) := by decide +kernel
theorem d1 : decode yB 1 = .ok (.aload_n 0, 1) := by decide +kernel
theorem d2 : decode yB 2 = .ok (.arraylength, 1) := by decide +kernel
theorem d3 : decode yB 3 = .ok (.isub, 1) := by decide +kernel
theorem d4 : decode yB 4 = .ok (.bipush 31, 2) := by decide +kernel
theorem d6 : decode yB 6 = .ok (.iushr, 1) := by decide +kernel
theorem d7 : decode yB 7 = .ok (.i2b, 1) := by decide +kernel
theorem d8 : decode yB 8 = .ok (.ireturn, 1) := by decide +kernel
def site : List Cond := []
def tab : Cond := tabOf yN yB 2 (some .byte) site
def P (d : Addr) (B : Cell) (args : Array Value) (s : State) : Prop := args = #[.ref d, .int (Int32.ofNat B.slots.size)] ∧ Arr .byte d B s
def E (r : Option Value) (s u : State) : Prop := XT.PureE (some (.int 0)) r s u
/-- an array as long as the number of chars: LATIN1 -/
theorem law (l : Launch) (d : Addr) (B : Cell) : Law l yN 2 2 0 0 yB 2 (some .byte) site (P d B) E [] 0 0 := by
  refine Law.of_walk (plainFor_of_name (by decide +kernel)) (by decide +kernel) (by decide +kernel) (by decide) (fun _ _ h => by rw [h.1]; rfl) (fun _ U U' hal hh h => ⟨h.1, h.2.mv hal hh⟩) (fun r U U' V V' h1 hal h2 h => XT.PureE.mv r U U' V V' h1 hal h2 h) ?_
  intro p e s m args below meth c s₁ X0 hexec hbytes hml hret hlk hnm hown hh0 W hP
  obtain ⟨rfl, hB⟩ := hP
  have hB0 := hB.mv X0.warmed.alike hh0
  have c1 : Steps p.tables e below (s₁.setTop (entryFrame m #[.ref d, .int (Int32.ofNat B.slots.size)] 2)) (s₁.setTop (mkF m 0 #[.val (.ref d), .val (.int (Int32.ofNat B.slots.size))] [])) := entry rfl
  have c2 : Steps p.tables e below (s₁.setTop (entryFrame m #[.ref d, .int (Int32.ofNat B.slots.size)] 2)) (s₁.setTop (mkF m 2 #[.val (.ref d), .val (.int (Int32.ofNat B.slots.size))] [.ref d, .int (Int32.ofNat B.slots.size)])) := c1.trans (by
    refine XS.iloadN X0.here hexec rfl (hb hbytes d0) rfl ?_
    refine XS.aloadN X0.here hexec rfl (hb hbytes d1) rfl rfl ?_
    exact Steps.refl _)
  have c3 : Steps p.tables e below (s₁.setTop (entryFrame m #[.ref d, .int (Int32.ofNat B.slots.size)] 2)) (s₁.setTop (mkF m 8 #[.val (.ref d), .val (.int (Int32.ofNat B.slots.size))] [.int (lo8 (ushr (Int32.ofNat B.slots.size - Int32.ofNat B.slots.size) 31))])) := c2.trans (by
    refine X0.alen hexec hB0 rfl rfl (hb hbytes d2) ?_
    refine XS.isub X0.here hexec rfl (hb hbytes d3) rfl ?_
    refine bipushV X0.here hexec rfl 31 (hb hbytes d4) (by decide) ?_
    refine iushr X0.here hexec rfl (hb hbytes d6) rfl ?_
    refine i2b X0.here hexec rfl (hb hbytes d7) rfl ?_
    exact Steps.refl _)
  have e0 : lo8 (ushr (Int32.ofNat B.slots.size - Int32.ofNat B.slots.size) 31) = 0 := by rw [Int32.sub_self]; decide
  rw [e0] at c3
  exact ⟨s₁, some (.int 0), _, _, _, X0, rfl, rfl, rfl, (fun h => by cases h), ⟨rfl, hh0⟩, fun fs hl => c3.trans (X0.ireturnOut hexec hret rfl (Or.inr (Or.inr (Or.inl rfl))) (hb hbytes d8) hl)⟩
end CodL
/-- the String at a is Latin-1 over a new byte[] (the heap's one new cell): the low bytes of the len chars of A from o on; every cell but a is kept -/
def Got (a : Addr) (D : Cell) (fV fC : Field) (A : Cell) (o len : Nat) (r : Option Value) (s u : State) : Prop := r = none ∧ ∃ D' V : Cell, Blank "java/lang/String" a D' u ∧ Same D D' [fV.slot, fC.slot] ∧ D'.slots[fV.slot]? = some (.ref s.heap.size) ∧ D'.slots[fC.slot]? = some (.int 0) ∧ Arr .byte s.heap.size V u ∧ V.vm = .none ∧ u.vm.findClass "[B" = some V.cls ∧ V.slots.size = len ∧ (∀ j, j < len → V.slots[j]? = some (.int (lo8 (cv A (o + j))))) ∧ (∀ (y : Addr) (c : Cell), y ≠ a → s.heap[y]? = some c → u.heap[y]? = some c) ∧ u.heap.size = s.heap.size + 1
theorem Got.mv {a : Addr} {D A : Cell} {fV fC : Field} {o len : Nat} : ∀ r (U U' V V' : State), U'.heap = U.heap → V.vm.Alike V'.vm → V'.heap = V.heap → Got a D fV fC A o len r U V → Got a D fV fC A o len r U' V' :=
  fun r U U' V V' h1 hal h2 ⟨e0, D', X, a1, a2, a3, a4, a5, a6, a7, a8, a9, a10, a11⟩ => ⟨e0, D', X, a1.mv hal h2, a2, by rw [h1]; exact a3, a4, by rw [h1]; exact a5.mv hal h2, a6, by rw [hal.findClass]; exact a7, a8, a9, by rw [h1, h2]; exact a10, by rw [h1, h2]; exact a11⟩
namespace New4
def yN : MethodName := ⟨"java/lang/String", "<init>", "([CIILjava/lang/Void;)V"⟩
abbrev yB : ByteArray := jdk_42_method_149_code
theorem d0 : decode yB 0 = .ok (.aload_n 0, 1) := by decide +kernel
theorem d1 : decode yB 1 = .ok (.invokespecial 1, 3) := by decide +kernel
theorem d4 : decode yB 4 = .ok (.iload_n 3, 1) := by decide +kernel
theorem d5 : decode yB 5 = .ok (.ifCond (.ne) 22, 3) := by decide +kernel
theorem d27 : decode yB 27 = .ok (.getstatic 38, 3) := by decide +kernel
theorem d30 : decode yB 30 = .ok (.ifCond (.eq) 28, 3) := by decide +kernel
theorem d33 : decode yB 33 = .ok (.aload_n 1, 1) := by decide +kernel
theorem d34 : decode yB 34 = .ok (.iload_n 2, 1) := by decide +kernel
theorem d35 : decode yB 35 = .ok (.iload_n 3, 1) := by decide +kernel
theorem d36 : decode yB 36 = .ok (.invokestatic 177, 3) := by decide +kernel
theorem d39 : decode yB 39 = .ok (.astore 5, 2) := by decide +kernel
theorem d41 : decode yB 41 = .ok (.aload_n 0, 1) := by decide +kernel
theorem d42 : decode yB 42 = .ok (.aload 5, 2) := by decide +kernel
theorem d44 : decode yB 44 = .ok (.iload_n 3, 1) := by decide +kernel
theorem d45 : decode yB 45 = .ok (.invokestatic 47, 3) := by decide +kernel
theorem d48 : decode yB 48 = .ok (.putfield 15, 3) := by decide +kernel
theorem d51 : decode yB 51 = .ok (.aload_n 0, 1) := by decide +kernel
theorem d52 : decode yB 52 = .ok (.aload 5, 2) := by decide +kernel
theorem d54 : decode yB 54 = .ok (.putfield 9, 3) := by decide +kernel
theorem d57 : decode yB 57 = .ok (.return_, 1) := by decide +kernel
def site : List Cond := [.fieldLink "java/lang/String" 38 "java/lang/String" "COMPACT_STRINGS" "Z", Cmp3.tab, CodL.tab, .laysFinal "java/lang/String" "java/lang/String" "value" "[B", .fieldLink "java/lang/String" 9 "java/lang/String" "value" "[B", .laysFinal "java/lang/String" "java/lang/String" "coder" "B", .fieldLink "java/lang/String" 15 "java/lang/String" "coder" "B"] ++ objW "java/lang/String" 1 ++ staticW "java/lang/String" 177 Cmp3.yN ++ staticW "java/lang/String" 47 CodL.yN
def tab : Cond := tabOf yN yB 6 none site
def P (a : Addr) (D : Cell) (fV fC : Field) (b : Addr) (A : Cell) (z : Int32) (o len : Nat) (args : Array Value) (s : State) : Prop := args = #[.ref a, .ref b, .int (Int32.ofNat o), .int (Int32.ofNat len), .null] ∧ Blank "java/lang/String" a D s ∧ Found "java/lang/String" "value" "[B" fV s ∧ Found "java/lang/String" "coder" "B" fC s ∧ Ch b A s ∧ StaticIs s "java/lang/String" "COMPACT_STRINGS" "Z" (.int z) ∧ ¬ z = 0 ∧ 0 < len ∧ o + len ≤ A.slots.size ∧ len ≤ 536870912 ∧ ∀ i, i < len → ¬ 255 < cv A (o + i)
def E (a : Addr) (D : Cell) (fV fC : Field) (A : Cell) (o len : Nat) (r : Option Value) (s u : State) : Prop := Got a D fV fC A o len r s u
/-- len > 0, no char of the range above 255: a Latin-1 String of their low bytes -/
theorem law (l : Launch) (a : Addr) (D : Cell) (fV fC : Field) (b : Addr) (A : Cell) (z : Int32) (o len : Nat) : Law l yN 5 4 2 35 yB 6 none site (P a D fV fC b A z o len) (E a D fV fC A o len) [⟨a, fC.slot⟩, ⟨a, fV.slot⟩] 1 len := by
  refine Law.of_walk (plainFor_of_name (by decide +kernel)) (by decide +kernel) (by decide +kernel) (by decide) (fun _ _ h => by rw [h.1]; rfl) (fun _ U U' hal hh h => ⟨h.1, h.2.1.mv hal hh, h.2.2.1.al hal, h.2.2.2.1.al hal, h.2.2.2.2.1.mv hal hh, h.2.2.2.2.2.1.there hal hh, h.2.2.2.2.2.2⟩) (fun r U U' V V' h1 hal h2 h => Got.mv r U U' V V' h1 hal h2 h) ?_
  intro p e s m args below meth c s₁ X0 hexec hbytes hml hret hlk hnm hown hh0 W hP
  obtain ⟨rfl, hB, f1, f2, hA, s1, hz, l0, l1, l2, hp⟩ := hP
  have a31 := hA.1.2.2.2
  have c1 : Steps p.tables e below (s₁.setTop (entryFrame m #[.ref a, .ref b, .int (Int32.ofNat o), .int (Int32.ofNat len), .null] 6)) (s₁.setTop (mkF m 0 #[.val (.ref a), .val (.ref b), .val (.int (Int32.ofNat o)), .val (.int (Int32.ofNat len)), .val .null, .unset] [])) := entry rfl
  have c2 : Steps p.tables e below (s₁.setTop (entryFrame m #[.ref a, .ref b, .int (Int32.ofNat o), .int (Int32.ofNat len), .null] 6)) (s₁.setTop (mkF m 1 #[.val (.ref a), .val (.ref b), .val (.int (Int32.ofNat o)), .val (.int (Int32.ofNat len)), .val .null, .unset] [.ref a])) := c1.trans (by
    refine XS.aloadN X0.here hexec rfl (hb hbytes d0) rfl rfl ?_
    exact Steps.refl _)
  obtain ⟨T3, X3, q3, st3⟩ := X0.oinit hexec hown (wks W (objW "java/lang/String" 1)) (g := (mkF m 1 #[.val (.ref a), .val (.ref b), .val (.int (Int32.ofNat o)), .val (.int (Int32.ofNat len)), .val .null, .unset] [.ref a])) rfl (by rw [hml]; rfl) (rest := []) rfl (hb hbytes d1) (W := 0) (by show 2 * 0 + 0 ≤ _; decide) (Nat.le_of_ble_eq_true rfl) (Nat.le_of_ble_eq_true rfl)
  have hh3 := q3.trans hh0
  have c4 : Steps p.tables e below (s₁.setTop (entryFrame m #[.ref a, .ref b, .int (Int32.ofNat o), .int (Int32.ofNat len), .null] 6)) (T3.setTop (mkF m 27 #[.val (.ref a), .val (.ref b), .val (.int (Int32.ofNat o)), .val (.int (Int32.ofNat len)), .val .null, .unset] [])) := (c2.trans (st3 _ (Steps.refl _))).trans (by
    refine XS.iloadN X3.here hexec rfl (hb hbytes d4) rfl ?_
    refine XS.ifYes X3.here hexec rfl (pc0 := 5) rfl (hb hbytes d5) rfl (i0_ne_t (nz32 (by omega) l0)) (by decide) rfl ?_
    exact Steps.refl _)
  obtain ⟨T5, X5, q5, st5⟩ := X3.sget hexec hown (wk W (.fieldLink "java/lang/String" 38 "java/lang/String" "COMPACT_STRINGS" "Z")) s1 (fun _ _ h => by rw [hh3]; exact h) (g := (mkF m 27 #[.val (.ref a), .val (.ref b), .val (.int (Int32.ofNat o)), .val (.int (Int32.ofNat len)), .val .null, .unset] [])) rfl (hb hbytes d27)
  have hh5 := q5.trans hh3
  have c6 : Steps p.tables e below (s₁.setTop (entryFrame m #[.ref a, .ref b, .int (Int32.ofNat o), .int (Int32.ofNat len), .null] 6)) (T5.setTop (mkF m 30 #[.val (.ref a), .val (.ref b), .val (.int (Int32.ofNat o)), .val (.int (Int32.ofNat len)), .val .null, .unset] [.int z])) := c4.trans (st5 _ (Steps.refl _))
  have c7 : Steps p.tables e below (s₁.setTop (entryFrame m #[.ref a, .ref b, .int (Int32.ofNat o), .int (Int32.ofNat len), .null] 6)) (T5.setTop (mkF m 36 #[.val (.ref a), .val (.ref b), .val (.int (Int32.ofNat o)), .val (.int (Int32.ofNat len)), .val .null, .unset] [.int (Int32.ofNat len), .int (Int32.ofNat o), .ref b])) := c6.trans (by
    refine XS.ifNo X5.here hexec rfl (hb hbytes d30) rfl (i0_eq_f hz) ?_
    refine XS.aloadN X5.here hexec rfl (hb hbytes d33) rfl rfl ?_
    refine XS.iloadN X5.here hexec rfl (hb hbytes d34) rfl ?_
    refine XS.iloadN X5.here hexec rfl (hb hbytes d35) rfl ?_
    exact Steps.refl _)
  obtain ⟨v8, T8, X8, E8, g8⟩ := X5.callS hexec (Cmp3.law l b A o len) hown (wks W (staticW "java/lang/String" 177 Cmp3.yN)) (wk W Cmp3.tab) (W := 0) (Nat.le_of_ble_eq_true rfl) (Nat.le_of_ble_eq_true rfl) (Nat.le_refl _) (by show 0 + len ≤ len; omega) (g := (mkF m 36 #[.val (.ref a), .val (.ref b), .val (.int (Int32.ofNat o)), .val (.int (Int32.ofNat len)), .val .null, .unset] [.int (Int32.ofNat len), .int (Int32.ofNat o), .ref b])) rfl (by rw [hml]; rfl) c7 (argsL := [.ref b, .int (Int32.ofNat o), .int (Int32.ofNat len)]) (rest := []) rfl rfl (by show 2 * 0 + 0 ≤ _; decide) (hb hbytes d36) (⟨rfl, hA.mv X5.warmed.alike hh5, l1, l2, hp⟩)
  obtain ⟨e8, z8⟩ := E8
  obtain ⟨rfl, N, n1, n2, n3, n4, n5, n6⟩ := NewArr.mv _ T5 s _ _ hh5.symm (Vm.Alike.refl _) rfl e8
  rw [hh5] at z8
  have hB1 := hB.keep X8.warmed.alike (n6 _ _ hB.1)
  have hne : s.heap.size ≠ a := (Nat.ne_of_lt (Array.getElem?_eq_some_iff.mp hB.1).1).symm
  have c9 : Steps p.tables e below (s₁.setTop (entryFrame m #[.ref a, .ref b, .int (Int32.ofNat o), .int (Int32.ofNat len), .null] 6)) (T8.setTop (mkF m 39 #[.val (.ref a), .val (.ref b), .val (.int (Int32.ofNat o)), .val (.int (Int32.ofNat len)), .val .null, .unset] [.ref s.heap.size])) := g8
  have c10 : Steps p.tables e below (s₁.setTop (entryFrame m #[.ref a, .ref b, .int (Int32.ofNat o), .int (Int32.ofNat len), .null] 6)) (T8.setTop (mkF m 45 #[.val (.ref a), .val (.ref b), .val (.int (Int32.ofNat o)), .val (.int (Int32.ofNat len)), .val .null, .val (.ref s.heap.size)] [.int (Int32.ofNat N.slots.size), .ref s.heap.size, .ref a])) := by
    have hc : Steps p.tables e below (s₁.setTop (entryFrame m #[.ref a, .ref b, .int (Int32.ofNat o), .int (Int32.ofNat len), .null] 6)) (T8.setTop (mkF m 45 #[.val (.ref a), .val (.ref b), .val (.int (Int32.ofNat o)), .val (.int (Int32.ofNat len)), .val .null, .val (.ref s.heap.size)] [.int (Int32.ofNat len), .ref s.heap.size, .ref a])) := c9.trans (by
      refine XS.astore X8.here hexec rfl (hb hbytes d39) rfl rfl rfl ?_
      refine XS.aloadN X8.here hexec rfl (hb hbytes d41) rfl rfl ?_
      refine XS.aload X8.here hexec rfl (hb hbytes d42) rfl rfl ?_
      refine XS.iloadN X8.here hexec rfl (hb hbytes d44) rfl ?_
      exact Steps.refl _)
    rw [n4]; exact hc
  obtain ⟨v11, T11, X11, E11, g11⟩ := X8.callS hexec (CodL.law l s.heap.size N) hown (wks W (staticW "java/lang/String" 47 CodL.yN)) (wk W CodL.tab) (W := 1) (Nat.le_of_ble_eq_true rfl) (Nat.le_of_ble_eq_true rfl) (Nat.le_refl _) (by show 0 + len + 0 ≤ len; omega) (g := (mkF m 45 #[.val (.ref a), .val (.ref b), .val (.int (Int32.ofNat o)), .val (.int (Int32.ofNat len)), .val .null, .val (.ref s.heap.size)] [.int (Int32.ofNat N.slots.size), .ref s.heap.size, .ref a])) rfl (by rw [hml]; rfl) c10 (argsL := [.ref s.heap.size, .int (Int32.ofNat N.slots.size)]) (rest := [.ref a]) rfl rfl (by show 2 * 0 + (1 + 0) ≤ _; decide) (hb hbytes d45) (⟨rfl, n1⟩)
  obtain ⟨rfl, q11⟩ := E11
  have hB11 := hB1.mv (X8.warmed.alike.symm.trans X11.warmed.alike) q11
  have c12 : Steps p.tables e below (s₁.setTop (entryFrame m #[.ref a, .ref b, .int (Int32.ofNat o), .int (Int32.ofNat len), .null] 6)) (T11.setTop (mkF m 48 #[.val (.ref a), .val (.ref b), .val (.int (Int32.ofNat o)), .val (.int (Int32.ofNat len)), .val .null, .val (.ref s.heap.size)] [.int 0, .ref a])) := g11
  obtain ⟨T13, X13, p13, bl13, sl13, st13⟩ := X11.finit hexec hown (wk W (.fieldLink "java/lang/String" 15 "java/lang/String" "coder" "B")) (Or.inr ⟨_, (wk W (.laysFinal "java/lang/String" "java/lang/String" "coder" "B"))⟩) (Or.inl ⟨rfl, hnm⟩) f2 (Or.inl rfl) hB11 (t := .byte) (by decide +kernel) rfl (g := (mkF m 48 #[.val (.ref a), .val (.ref b), .val (.int (Int32.ofNat o)), .val (.int (Int32.ofNat len)), .val .null, .val (.ref s.heap.size)] [.int 0, .ref a])) rfl (rest := []) rfl (hb hbytes d48)
  have c14 : Steps p.tables e below (s₁.setTop (entryFrame m #[.ref a, .ref b, .int (Int32.ofNat o), .int (Int32.ofNat len), .null] 6)) (T13.setTop (mkF m 54 #[.val (.ref a), .val (.ref b), .val (.int (Int32.ofNat o)), .val (.int (Int32.ofNat len)), .val .null, .val (.ref s.heap.size)] [.ref s.heap.size, .ref a])) := (c12.trans (st13 _ (Steps.refl _))).trans (by
    refine XS.aloadN X13.here hexec rfl (hb hbytes d51) rfl rfl ?_
    refine XS.aload X13.here hexec rfl (hb hbytes d52) rfl rfl ?_
    exact Steps.refl _)
  obtain ⟨T15, X15, p15, bl15, sl15, st15⟩ := X13.finit hexec hown (wk W (.fieldLink "java/lang/String" 9 "java/lang/String" "value" "[B")) (Or.inr ⟨_, (wk W (.laysFinal "java/lang/String" "java/lang/String" "value" "[B"))⟩) (Or.inl ⟨rfl, hnm⟩) f1 (Or.inl rfl) bl13 (t := (.array .byte)) (by decide +kernel) rfl (g := (mkF m 54 #[.val (.ref a), .val (.ref b), .val (.int (Int32.ofNat o)), .val (.int (Int32.ofNat len)), .val .null, .val (.ref s.heap.size)] [.ref s.heap.size, .ref a])) rfl (rest := []) rfl (hb hbytes d54)
  have c16 : Steps p.tables e below (s₁.setTop (entryFrame m #[.ref a, .ref b, .int (Int32.ofNat o), .int (Int32.ofNat len), .null] 6)) (T15.setTop (mkF m 57 #[.val (.ref a), .val (.ref b), .val (.int (Int32.ofNat o)), .val (.int (Int32.ofNat len)), .val .null, .val (.ref s.heap.size)] [])) := c14.trans (st15 _ (Steps.refl _))
  have ap := apart (Or.inr ⟨_, (wk W (.laysFinal "java/lang/String" "java/lang/String" "value" "[B"))⟩) (Or.inr ⟨_, (wk W (.laysFinal "java/lang/String" "java/lang/String" "coder" "B"))⟩) f1 f2 (t₁ := .array .byte) (t₂ := .byte) (by decide +kernel) (by decide +kernel) (by decide)
  have al := X8.warmed.alike.symm.trans X15.warmed.alike
  have n7 : T11.heap[s.heap.size]? = some N := by rw [q11]; exact n1.1
  exact ⟨T15, none, _, _, _, X15, by simp, rfl, by omega, (fun _ => rfl), ⟨rfl, _, N, bl15, ((Same.refl D _).set _ (by simp)).set _ (by simp), sl15, (Cell.slots_setSlot_ne _ ap).trans sl13, n1.keep al (p15.other hne (p13.other hne n7)), n2, by rw [al.findClass]; exact n3, n4, n5, fun y c h1 h2 => p15.other h1 (p13.other h1 (by rw [q11]; exact n6 y c h2)), by rw [p15.2.2, p13.2.2, q11]; exact z8⟩, fun fs hl => c16.trans (X15.returnOut hexec hret (hb hbytes d57) hl)⟩
end New4
namespace New1
def yN : MethodName := ⟨"java/lang/String", "<init>", "([C)V"⟩
abbrev yB : ByteArray := jdk_42_method_3_code
theorem d0 : decode yB 0 = .ok (.aload_n 0, 1) := by decide +kernel
theorem d1 : decode yB 1 = .ok (.aload_n 1, 1) := by decide +kernel
theorem d2 : decode yB 2 = .ok (.iconst 0, 1) := by decide +kernel
theorem d3 : decode yB 3 = .ok (.aload_n 1, 1) := by decide +kernel
theorem d4 : decode yB 4 = .ok (.arraylength, 1) := by decide +kernel
theorem d5 : decode yB 5 = .ok (.aconst_null, 1) := by decide +kernel
theorem d6 : decode yB 6 = .ok (.invokespecial 27, 3) := by decide +kernel
theorem d9 : decode yB 9 = .ok (.return_, 1) := by decide +kernel
def site : List Cond := [New4.tab] ++ initW "java/lang/String" 27 New4.yN
def tab : Cond := tabOf yN yB 2 none site
def P (a : Addr) (D : Cell) (fV fC : Field) (b : Addr) (A : Cell) (z : Int32) (args : Array Value) (s : State) : Prop := args = #[.ref a, .ref b] ∧ Blank "java/lang/String" a D s ∧ Found "java/lang/String" "value" "[B" fV s ∧ Found "java/lang/String" "coder" "B" fC s ∧ Ch b A s ∧ StaticIs s "java/lang/String" "COMPACT_STRINGS" "Z" (.int z) ∧ ¬ z = 0 ∧ 0 < A.slots.size ∧ A.slots.size ≤ 536870912 ∧ ∀ i, i < A.slots.size → ¬ 255 < cv A i
def E (a : Addr) (D : Cell) (fV fC : Field) (A : Cell) (r : Option Value) (s u : State) : Prop := Got a D fV fC A 0 A.slots.size r s u
/-- new String(chars), not empty, no char above 255: a Latin-1 String of their low bytes -/
theorem law (l : Launch) (a : Addr) (D : Cell) (fV fC : Field) (b : Addr) (A : Cell) (z : Int32) : Law l yN 2 1 3 52 yB 2 none site (P a D fV fC b A z) (E a D fV fC A) [⟨a, fC.slot⟩, ⟨a, fV.slot⟩] 1 A.slots.size := by
  refine Law.of_walk (plainFor_of_name (by decide +kernel)) (by decide +kernel) (by decide +kernel) (by decide) (fun _ _ h => by rw [h.1]; rfl) (fun _ U U' hal hh h => ⟨h.1, h.2.1.mv hal hh, h.2.2.1.al hal, h.2.2.2.1.al hal, h.2.2.2.2.1.mv hal hh, h.2.2.2.2.2.1.there hal hh, h.2.2.2.2.2.2⟩) (fun r U U' V V' h1 hal h2 h => Got.mv r U U' V V' h1 hal h2 h) ?_
  intro p e s m args below meth c s₁ X0 hexec hbytes hml hret hlk hnm hown hh0 W hP
  obtain ⟨rfl, hB, f1, f2, hA, s1, hz, l0, l2, hp⟩ := hP
  have c1 : Steps p.tables e below (s₁.setTop (entryFrame m #[.ref a, .ref b] 2)) (s₁.setTop (mkF m 0 #[.val (.ref a), .val (.ref b)] [])) := entry rfl
  have c2 : Steps p.tables e below (s₁.setTop (entryFrame m #[.ref a, .ref b] 2)) (s₁.setTop (mkF m 6 #[.val (.ref a), .val (.ref b)] [.null, .int (Int32.ofNat A.slots.size), .int 0, .ref b, .ref a])) := c1.trans (by
    refine XS.aloadN X0.here hexec rfl (hb hbytes d0) rfl rfl ?_
    refine XS.aloadN X0.here hexec rfl (hb hbytes d1) rfl rfl ?_
    refine iconstV X0.here hexec rfl 0 (hb hbytes d2) (by decide) ?_
    refine XS.aloadN X0.here hexec rfl (hb hbytes d3) rfl rfl ?_
    refine X0.alen hexec (hA.1.mv X0.warmed.alike hh0) rfl rfl (hb hbytes d4) ?_
    refine XS.aconstNull X0.here hexec rfl (hb hbytes d5) ?_
    exact Steps.refl _)
  obtain ⟨v3, T3, X3, E3, g3⟩ := X0.callN hexec (New4.law l a D fV fC b A z 0 A.slots.size) rfl hown (wks W (initW "java/lang/String" 27 New4.yN)) (W New4.tab (by simp only [site, List.mem_cons, List.mem_append, true_or, or_true])) (W := 0) (Nat.le_of_ble_eq_true rfl) (Nat.le_of_ble_eq_true rfl) (Nat.le_refl _) (by show 0 + A.slots.size ≤ A.slots.size; omega) (g := (mkF m 6 #[.val (.ref a), .val (.ref b)] [.null, .int (Int32.ofNat A.slots.size), .int (Int32.ofNat 0), .ref b, .ref a])) rfl (by rw [hml]; rfl) c2 (argsL := [.ref b, .int (Int32.ofNat 0), .int (Int32.ofNat A.slots.size), .null]) (rest := []) rfl rfl (by show 2 * 0 + 0 ≤ _; decide) (hb hbytes d6) (⟨rfl, hB.mv X0.warmed.alike hh0, f1.al X0.warmed.alike, f2.al X0.warmed.alike, hA.mv X0.warmed.alike hh0, s1.there X0.warmed.alike hh0, hz, l0, by omega, l2, fun i hi => by rw [Nat.zero_add]; exact hp i hi⟩)
  have e0 := Got.mv _ s₁ s _ _ hh0.symm (Vm.Alike.refl _) rfl E3
  obtain rfl := e0.1
  have c4 : Steps p.tables e below (s₁.setTop (entryFrame m #[.ref a, .ref b] 2)) (T3.setTop (mkF m 9 #[.val (.ref a), .val (.ref b)] [])) := g3
  exact ⟨T3, none, _, _, _, X3, by simp, rfl, by omega, (fun _ => rfl), e0, fun fs hl => c4.trans (X3.returnOut hexec hret (hb hbytes d9) hl)⟩
theorem pays {l : Launch} {R : Room} {p : Program} {e : Env} {below : List Frame} {s : State} {sargs : Array Value} {len W : Nat} (a : Addr) (D : Cell) (fV fC : Field) (b : Addr) (A : Cell) (z : Int32) (htab : tab.before sargs s = true) (hfr : 4 ≤ R.frames) (hlo : W + 65 ≤ R.locals) :
    Back l R p e below s sargs yN len W (fun A₁ a₁ => A₁.cells + 1 ≤ R.cells ∧ A₁.slots + A.slots.size ≤ R.slots ∧ P a D fV fC b A z a₁ A₁.U) (fun A₁ _ v₁ B₁ => E a D fV fC A v₁ A₁.U B₁.U ∧ B₁.locs = A₁.locs ++ [⟨a, fC.slot⟩, ⟨a, fV.slot⟩] ∧ B₁.cells = A₁.cells + 1 ∧ B₁.slots = A₁.slots + A.slots.size) :=
  (law l a D fV fC b A z).pays htab hfr (by omega)
end New1
end StrChars
namespace StrChars.Road
open Jvm Sem ClassFile Op Lib Jvm.Stand Jvm.Free Jvm.Free.XT
open Jvm.Lib.Cold (StaticIs)
abbrev ST : String := "java/lang/String"
/-- every table word that New1's law asks, flat -/
abbrev words : List Jvm.Cond := [.code New1.yN New1.yB 2 none, .initialized ST, .methodLink ST 27 New4.yN, .instanceMethod New4.yN,
  .code New4.yN New4.yB 6 none, .fieldLink ST 38 ST "COMPACT_STRINGS" "Z", .laysFinal ST ST "value" "[B", .fieldLink ST 9 ST "value" "[B", .laysFinal ST ST "coder" "B", .fieldLink ST 15 ST "coder" "B",
  .methodLink ST 1 Lib.objectInit, .instanceMethod Lib.objectInit, .code Lib.objectInit ⟨#[0xb1]⟩ 1 none, .methodLink ST 177 Cmp3.yN, .static Cmp3.yN, .methodLink ST 47 CodL.yN, .static CodL.yN,
  .code Cmp3.yN Cmp3.yB 6 (some (.array .byte)), .initialized U16, .arrayClass .byte, .methodLink U16 115 Cmp5.yN, .static Cmp5.yN, .code Cmp5.yN Cmp5.yB 7 (some .int), .code CodL.yN CodL.yB 2 (some .byte)]
theorem tab_of {a : Array Value} {s : State} (h : ∀ w ∈ words, w.before a s = true) : New1.tab.before a s = true := by
  have h5 : Cmp5.tab.before a s = true := unparts (wk h (.code Cmp5.yN Cmp5.yB 7 (some .int))) (wks h (.initialized Cmp5.yN.cls :: Cmp5.site))
  have hc : CodL.tab.before a s = true := unparts (wk h (.code CodL.yN CodL.yB 2 (some .byte))) (wks h (.initialized CodL.yN.cls :: CodL.site))
  have q5 : ∀ w ∈ Cmp5.tab :: words, w.before a s = true := fun w hw => (List.mem_cons.mp hw).elim (fun e => e ▸ h5) (h w)
  have h3 : Cmp3.tab.before a s = true := unparts (wk q5 (.code Cmp3.yN Cmp3.yB 6 (some (.array .byte)))) (wks q5 (.initialized Cmp3.yN.cls :: Cmp3.site))
  have q3 : ∀ w ∈ Cmp3.tab :: CodL.tab :: words, w.before a s = true := fun w hw => (List.mem_cons.mp hw).elim (fun e => e ▸ h3) fun hw => (List.mem_cons.mp hw).elim (fun e => e ▸ hc) (h w)
  have h4 : New4.tab.before a s = true := unparts (wk q3 (.code New4.yN New4.yB 6 none)) (wks q3 (.initialized New4.yN.cls :: New4.site))
  have q4 : ∀ w ∈ New4.tab :: words, w.before a s = true := fun w hw => (List.mem_cons.mp hw).elim (fun e => e ▸ h4) (h w)
  exact unparts (wk q4 (.code New1.yN New1.yB 2 none)) (wks q4 (.initialized New1.yN.cls :: New1.site))
/-- the words ride from the start Z to the walk's own state -/
theorem moved {Z s : State} {a0 args : Array Value} (hZ : Z.Warmed39 s.vm) (hw : ∀ d ∈ words, d.before a0 Z = true) : ∀ d ∈ words, d.before args s = true := fun d hd => by
  have q := hw d hd
  have t : ∀ d ∈ words, d = .arrayClass .byte ∨ (d.onTables && d.keepsFace) = true := by decide +kernel
  rcases t d hd with rfl | t
  · exact RoadKit.mvA hZ q
  · exact RoadKit.mv hZ q t
/-- WHAT COMES BACK, over the tables of the start Z: h the heap at the call, h' behind it -/
def Q (Z : State) (x : Addr) (A : Cell) (h : Heap) (v : Option Value) (h' : Heap) (L : List Loc) : Prop := v = none ∧ (∀ y ∈ L, y.base = x) ∧ RoadKit.Keep h h' [x] ∧ h'.size = h.size + 1 ∧ RoadKit.Exa Z h' x ST ∧ RoadKit.Fld Z h' x ST "value" "[B" (.ref h.size) ∧ RoadKit.Fld Z h' x ST "coder" "B" (.int 0) ∧
  (∃ V : Cell, RoadKit.Arr Z h' h.size V .byte ∧ V.vm = .none ∧ Z.vm.findClass "[B" = some V.cls ∧ V.slots.size = A.slots.size ∧ ∀ j, j < A.slots.size → V.slots[j]? = some (.int (lo8 (cv A j)))) ∧
  ∀ (O n d : String) (w : Value), RoadKit.Fld Z h x O n d w → RoadKit.slotOf Z O n d ≠ RoadKit.slotOf Z ST "value" "[B" → RoadKit.slotOf Z O n d ≠ RoadKit.slotOf Z ST "coder" "B" → RoadKit.Fld Z h' x O n d w
/-- **new String(chars) AT A CALL, IN THE ROAD'S FORM**: for specialBack behind newO: x the fresh String, b the char[] with the cell A -/
theorem back {p : Program} {l : Launch} {e : Env} {R : Room} {s : State} {args : Array Value} {below : List Frame} {len W : Nat} {Z : State} {a0 : Array Value} {h : Heap} (hZ : Z.Warmed39 s.vm) (hw : ∀ d ∈ words, d.before a0 Z = true) {kI : Nat} (wi : (Jvm.Cond.instantiable ST kI).before a0 Z = true)
    {x b : Addr} {A : Cell} {z : Int32} {v0 c0 : Value} (E : RoadKit.Exa Z h x ST) (V : RoadKit.Fld Z h x ST "value" "[B" v0) (C : RoadKit.Fld Z h x ST "coder" "B" c0) (K : RoadKit.Arr Z h b A .char) (hty : Typed .char A) (S : RoadKit.Sta Z h ST "COMPACT_STRINGS" "Z" (.int z)) (hz : ¬ z = 0)
    (l0 : 0 < A.slots.size) (l2 : A.slots.size ≤ 536870912) (hp : ∀ i, i < A.slots.size → ¬ 255 < cv A i) (hfr : 4 ≤ R.frames) (hlo : W + 65 ≤ R.locals) :
    Back l R p e below s args New1.yN len W (fun P a => a = #[.ref x, .ref b] ∧ P.U.heap = h ∧ P.cells + 1 ≤ R.cells ∧ P.slots + A.slots.size ≤ R.slots)
      (fun P _ v B => ∃ L, Q Z x A h v B.U.heap L ∧ B.locs = P.locs ++ L ∧ B.cells = P.cells + 1 ∧ B.slots = P.slots + A.slots.size) := by
  intro m meth c P g ig mk a X hg hsize hdg hW hn hp'
  obtain ⟨rfl, rfl, r1, r2⟩ := hp'
  have al : Z.vm.Alike P.U.vm := hZ.alike.trans X.warmed.alike
  obtain ⟨D, cfV, kV, iV, fV, hD, gV, stV, knV, obV, asV, slV⟩ := id V
  obtain ⟨D', cfC, kC, iC, fC, hD', gC, stC, -, -, asC, slC⟩ := id C
  cases hD.symm.trans hD'
  obtain ⟨D2, kD, e1, e2, e3, e4, e5⟩ := id E
  cases hD.symm.trans e1
  obtain ⟨c2, k2, i1, i2, i3, -⟩ := Cond.instantiable_spec wi
  cases e2.symm.trans i1
  cases e3.symm.trans i2
  obtain ⟨kU, u1, u2⟩ := al.2.2 _ _ e3
  have hB : Blank ST x D P.U := ⟨hD, ⟨knV, fun q hq => by rw [hq] at obV; cases obV⟩, by rw [al.findClass]; exact e2, kU, u1, by rw [u2]; exact i3, by rw [u2]; exact e5 i3⟩
  have F1 : Found ST "value" "[B" fV P.U := ⟨SBG.found_only al ⟨cfV, kV, iV, gV⟩, stV⟩
  have F2 : Found ST "coder" "B" fC P.U := ⟨SBG.found_only al ⟨cfC, kC, iC, gC⟩, stC⟩
  have hA : Ch b A P.U := ⟨⟨K.1, State.isArrayOf_alike al K.2.1, K.2.2, by omega⟩, hty⟩
  have hS : StaticIs P.U ST "COMPACT_STRINGS" "Z" (.int z) := by
    obtain ⟨cfS, iS, kS, fS, st, cS, t1, t2, t3, t4, t5, t6, t7⟩ := S
    exact StaticIs.there (s := { Z with heap := P.U.heap }) ⟨cfS, iS, kS, fS, st, cS, t1, t2, t3, t4, t5, (fun q => by rw [q] at t6; cases t6), t7⟩ al rfl
  obtain ⟨v, B, X', ⟨⟨hv, E', V', q1, q2, q3, q4, q5, q6, q7, q8, q9, q10, q11⟩, hl, hc, hs⟩, st⟩ := New1.pays x D fV fC b A z (tab_of (moved hZ hw)) hfr hlo m meth c P g ig mk _ X hg hsize hdg hW hn ⟨r1, r2, rfl, hB, F1, F2, hA, hS, hz, l0, l2, hp⟩
  have al' : Z.vm.Alike B.U.vm := hZ.alike.trans X'.warmed.alike
  have hsz : E'.slots.size = D.slots.size := by
    obtain ⟨-, -, -, kB, w1, w2, w3⟩ := q1
    obtain ⟨kB', y1, y2⟩ := al'.2.2 _ _ e3
    rw [q2.2.1] at w1
    cases w1.symm.trans y1
    rw [w3, e5 i3, y2]
  refine ⟨v, B, X', ⟨_, ⟨hv, ?_, ⟨by omega, fun y cy hy hn' => q10 y cy (by simpa using hn') hy, fun y cy hy => ?_⟩, q11, ⟨E', _, q1.1, by rw [q2.2.1]; exact e2, by rw [q2.2.1]; exact e3, by rw [q2.1]; exact obV, fun _ => by rw [hsz]; exact e5 i3⟩,
    ⟨E', cfV, kV, iV, fV, q1.1, gV, stV, by rw [q2.1]; exact knV, by rw [q2.1]; exact obV, by rw [q2.2.1]; exact asV, q3⟩, ⟨E', cfC, kC, iC, fC, q1.1, gC, stC, by rw [q2.1]; exact knV, by rw [q2.1]; exact obV, by rw [q2.2.1]; exact asC, q4⟩,
    ⟨V', ⟨q5.1, State.isArrayOf_alike al'.symm q5.2.1, q5.2.2.1⟩, q6, by rw [← al'.findClass]; exact q7, q8, fun j hj => by have := q9 j hj; rwa [Nat.zero_add] at this⟩, fun O n d w F n1 n2 => ?_⟩, hl, hc, hs⟩, st⟩
  · intro y hy
    simp only [List.mem_cons, List.not_mem_nil, or_false] at hy
    rcases hy with rfl | rfl <;> rfl
  · by_cases q : y = x
    · subst q
      cases hD.symm.trans hy
      exact ⟨E', q1.1, q2.2.1, q2.1, hsz⟩
    · exact ⟨cy, q10 y cy q hy, rfl, rfl, rfl⟩
  · obtain ⟨D3, cf, k, i, f, g1, g2, g3, g4, g5, g6, g7⟩ := F
    cases hD.symm.trans g1
    simp only [RoadKit.slotOf, g2, gV, gC, Option.map_some, Option.getD_some] at n1 n2
    exact ⟨E', cf, k, i, f, q1.1, g2, g3, by rw [q2.1]; exact g4, by rw [q2.1]; exact g5, by rw [q2.2.1]; exact g6, by rw [q2.2.2 f.slot (by simp [n1, n2])]; exact g7⟩
end StrChars.Road
namespace StrChars.Road
open Jvm Sem ClassFile Op Lib Jvm.Stand Jvm.Free Jvm.Free.XT
/-- WHAT COMES BACK, the byte[] as a list of values -/
def QA (Z : State) (x : Addr) (zn : Int32) (cs : List Int32) (h : Heap) (v : Option Value) (h' : Heap) (L : List Loc) : Prop := v = none ∧ (∀ y ∈ L, y.base = x) ∧ RoadKit.Keep h h' [x] ∧ h'.size = h.size + 1 ∧ RoadKit.Exa Z h' x ST ∧ RoadKit.Fld Z h' x ST "value" "[B" (.ref h.size) ∧ RoadKit.Fld Z h' x ST "coder" "B" (.int 0) ∧
  (∃ kb, Z.vm.findClass "[B" = some kb ∧ RoadKit.Arv Z h' h.size kb .byte zn (cs.map fun c => .int (lo8 c)) (.int 0)) ∧
  ∀ (O n d : String) (w : Value), RoadKit.Fld Z h x O n d w → RoadKit.slotOf Z O n d ≠ RoadKit.slotOf Z ST "value" "[B" → RoadKit.slotOf Z O n d ≠ RoadKit.slotOf Z ST "coder" "B" → RoadKit.Fld Z h' x O n d w
/-- **new String(chars) AT A CALL, THE ARRAYS AS LISTS**: the char[] at b holds cs, not empty, no char above 255 -/
theorem backArv {p : Program} {l : Launch} {e : Env} {R : Room} {s : State} {args : Array Value} {below : List Frame} {len W : Nat} {Z : State} {a0 : Array Value} {h : Heap} (hZ : Z.Warmed39 s.vm) (hw : ∀ d ∈ words, d.before a0 Z = true) {kI : Nat} (wi : (Jvm.Cond.instantiable ST kI).before a0 Z = true)
    {x b : Addr} {k : ClassId} {zn z : Int32} {cs : List Int32} {dv v0 c0 : Value} (E : RoadKit.Exa Z h x ST) (V : RoadKit.Fld Z h x ST "value" "[B" v0) (C : RoadKit.Fld Z h x ST "coder" "B" c0) (K : RoadKit.Arv Z h b k .char zn (cs.map Value.int) dv) (S : RoadKit.Sta Z h ST "COMPACT_STRINGS" "Z" (.int z)) (hz : ¬ z = 0)
    (hlen : zn.toNatClampNeg = cs.length) (h0 : 0 < cs.length) (hbig : cs.length ≤ 536870912) (hall : ∀ c ∈ cs, ¬ 255 < c) (hfr : 4 ≤ R.frames) (hlo : W + 65 ≤ R.locals) :
    Back l R p e below s args New1.yN len W (fun P a => a = #[.ref x, .ref b] ∧ P.U.heap = h ∧ P.cells + 1 ≤ R.cells ∧ P.slots + cs.length ≤ R.slots)
      (fun P _ v B => ∃ L, QA Z x zn cs h v B.U.heap L ∧ B.locs = P.locs ++ L ∧ B.cells = P.cells + 1 ∧ B.slots = P.slots + cs.length) := by
  obtain ⟨A, K1, K2, K3, K4, K5, K6⟩ := K
  have e : A.slots.size = cs.length := K3.trans hlen
  have hat : ∀ (i : Nat) (hi : i < cs.length), A.slots[i]? = some (.int cs[i]) := fun i hi => by rw [K5 i (by omega)]; simp [List.getD_eq_getElem?_getD, hi]
  have hcv : ∀ (i : Nat) (hi : i < cs.length), cv A i = cs[i] := fun i hi => by unfold cv; rw [hat i hi]
  have hty : Typed .char A := fun i v hv => by
    have hi : i < A.slots.size := (Array.getElem?_eq_some_iff.mp hv).1
    have q := K5 i hi
    rw [hv] at q
    rw [Option.some.inj q]
    exact K6 i hi
  refine Back.mono (back hZ hw wi E V C K1 hty S hz (by omega) (by omega) (fun i hi => by rw [hcv i (by omega)]; exact hall _ (List.getElem_mem _)) hfr hlo) (fun P a hp => ⟨hp.1, hp.2.1, hp.2.2.1, by rw [e]; exact hp.2.2.2⟩) (fun P a v B hp hq => ?_)
  obtain ⟨L, ⟨q1, q2, q3, q4, q5, q6, q7, ⟨V', v1, v2, v3, v4, v5⟩, q9⟩, hl, hc, hs⟩ := hq
  refine ⟨L, ⟨q1, q2, q3, q4, q5, q6, q7, ⟨V'.cls, v3, V', v1, rfl, by rw [v4, e, hlen], K4, fun i hi => ?_, fun i hi => ?_⟩, q9⟩, hl, hc, by rw [hs, e]⟩
  · have hi' : i < cs.length := by omega
    rw [v5 i (by omega), hcv i hi']; simp [List.getD_eq_getElem?_getD, hi']
  · have hi' : i < cs.length := by omega
    simp only [List.getD_eq_getElem?_getD, List.getElem?_map, List.getElem?_eq_getElem hi', Option.map_some, Option.getD_some]
    exact fits_lo8 _
end StrChars.Road
namespace StrChars.Road
open Jvm Sem ClassFile Op Lib Jvm.Stand Jvm.Free Jvm.Free.XT
/-- WHAT COMES BACK, in the writer's own shape -/
def QV (Z : State) (x : Addr) (N : Int32) (bs : List Int32) (h : Heap) (n0 : Nat) (v : Option Value) (h' : Heap) (L : List Loc) : Prop := v = none ∧ RoadKit.Fr n0 L ∧ RoadKit.Keep h h' [x] ∧ RoadKit.Exa Z h' x ST ∧ RoadKit.Fld Z h' x ST "coder" "B" (.int 0) ∧
  ∃ (t : Addr) (kb : ClassId), n0 ≤ t ∧ h.size ≤ t ∧ ¬ t = x ∧ RoadKit.Fld Z h' x ST "value" "[B" (.ref t) ∧ RoadKit.Arv Z h' t kb .byte N (bs.map Value.int) (.int 0)
/-- **new String(chars) AT A CALL, FOR THE WRITER**: a char[] of n known ints, each 0 to 255 -/
theorem backV {p : Program} {l : Launch} {e : Env} {R : Room} {s : State} {args : Array Value} {below : List Frame} {len W : Nat} {Z : State} {a0 : Array Value} {h : Heap} (hZ : Z.Warmed39 s.vm) (hw : ∀ d ∈ words, d.before a0 Z = true) {kI : Nat} (wi : (Jvm.Cond.instantiable ST kI).before a0 Z = true)
    {x b : Addr} {kC : ClassId} {cs bs : List Int32} {d v0 c0 : Value} {z N : Int32} {n n0 : Nat} (hx0 : n0 ≤ x) (hh0 : n0 ≤ h.size) (E : RoadKit.Exa Z h x ST) (V : RoadKit.Fld Z h x ST "value" "[B" v0) (C : RoadKit.Fld Z h x ST "coder" "B" c0) (K : RoadKit.Arv Z h b kC .char N (cs.map Value.int) d) (S : RoadKit.Sta Z h ST "COMPACT_STRINGS" "Z" (.int z)) (hz : ¬ z = 0)
    (hn : cs.length = n) (hN : N = Int32.ofNat n) (l0 : 0 < n) (l2 : n ≤ 4000) (hp : ∀ c ∈ cs, ¬ c < 0 ∧ ¬ (255 : Int32) < c) (hb : bs = cs.map (fun c => c.toInt8.toInt32)) (hfr : 4 ≤ R.frames) (hlo : W + 65 ≤ R.locals) :
    Back l R p e below s args (⟨"java/lang/String", "<init>", "([C)V"⟩ : MethodName) len W (fun P a => a = #[.ref x, .ref b] ∧ P.U.heap = h ∧ P.cells + 1 ≤ R.cells ∧ P.slots + n ≤ R.slots)
      (fun P _ v B => ∃ L, QV Z x N bs h n0 v B.U.heap L ∧ B.locs = P.locs ++ L ∧ B.cells = P.cells + 1 ∧ B.slots = P.slots + n) := by
  subst hn hN hb
  refine Back.mono (backArv hZ hw wi E V C K S hz (n32 (by omega)) l0 (by omega) (fun c hc => (hp c hc).2) hfr hlo) (fun P a hp => hp) (fun P a v B hp hq => ?_)
  obtain ⟨L, ⟨q1, q2, q3, q4, q5, q6, q7, ⟨kb, v1, v2⟩, q9⟩, hl, hc, hs⟩ := hq
  exact ⟨L, ⟨q1, fun y hy => by rw [q2 y hy]; exact hx0, q3, q5, q7, h.size, kb, hh0, Nat.le_refl _, Nat.ne_of_gt E.lt, q6, by rw [List.map_map]; exact v2⟩, hl, hc, hs⟩
end StrChars.Road
end Jvm.Pilot.@@N@@
namespace Jvm.Pilot.@@N@@
open Jvm Jvm.ClassFile Sem Op Lib Jvm.Free Jvm.Stand Jvm.LawKit Jvm.RoadKit Bundle Jvm.Pilot.@@N@@.Jvm.D
section OwnKit
variable {p : Program} {l : Launch} {e : Env} {R : Room} {s : State} {m : MethodId} {args : Array Value} {below : List Frame} {meth : Method} {c : Code} {T : State} {locs : List Loc} {cells slots : Nat}
/-- the walk from t comes back with what Q says -/
def Fin (p : Program) (e : Env) (below : List Frame) (s : State) (Q : Option Value → Heap → List Loc → Prop) (C S : Nat) (t : State) : Prop :=
  ∃ s₂ o, Steps p.tables e below t s₂ ∧ s₂.status = .running ∧ Ended s₂ below o ∧ ∃ v L, o = .returned v ∧ Q v s₂.heap L ∧ FrameEnd s o s₂ L C S
theorem Fin.by {Q : Option Value → Heap → List Loc → Prop} {C S : Nat} {a b : State} (h : ∀ t, Steps p.tables e below b t → Steps p.tables e below a t) (k : Fin p e below s Q C S b) : Fin p e below s Q C S a := by
  obtain ⟨s₂, o, h1, h2⟩ := k; exact ⟨s₂, o, h _ h1, h2⟩
theorem Fin.byS {Q : Option Value → Heap → List Loc → Prop} {C S : Nat} {a b : State} (h : Steps p.tables e below a b) (k : Fin p e below s Q C S b) : Fin p e below s Q C S a := Fin.by (fun _ k => h.trans k) k
theorem Fin.start {Q : Option Value → Heap → List Loc → Prop} {C S : Nat} {g g' : JFrame} (q : g = g') (k : Fin p e below s Q C S (T.setTop g')) :
    ∃ s₂ o, Steps p.tables e below (T.setTop g) s₂ ∧ s₂.status = .running ∧ Ended s₂ below o ∧ ∃ v L, o = .returned v ∧ Q v s₂.heap L ∧ FrameEnd s o s₂ L C S := by
  subst q; exact k
theorem Fin.ret {Q : Option Value → Heap → List Loc → Prop} {C S : Nat} {v : Option Value} {g : JFrame} (X : Stand p l e R s m args below meth c T locs cells slots) (hv : meth.sig.returnType = none → v = none) (hl : meth.locks = false)
    (hq : Q v T.heap locs) (hc : cells ≤ C) (hs : slots ≤ S) (st : ∀ fs, (∀ (f : JFrame) (acts : List Action), f.method = m → f.locked = none → f.entered = [] → (doReturn e (T.setTop f) acts v).1 = T.setFrames fs) → Steps p.tables e below (T.setTop g) (T.setFrames fs)) :
    Fin p e below s Q C S (T.setTop g) := by
  obtain ⟨fs, hr, hrun, hended, hW, hsame⟩ := X.leave hv hl
  exact ⟨_, _, st fs hr, hrun, hended, _, _, rfl, hq, ⟨_, rfl⟩, hW, hsame.mono hc hs⟩
theorem retI (X : Stand p l e R s m args below meth c T locs cells slots) (hx : p.tables.exec = Jvm.exec) {pc : Nat} {Ls : Array Slot} {z : Int32} {rest : List Value} (hret : meth.sig.returnType = some .int) (hd : decode c.code pc = .ok (.ireturn, 1)) {fs : List Frame}
    (hl : ∀ (f : JFrame) (acts : List Action), f.method = m → f.locked = none → f.entered = [] → (doReturn e (T.setTop f) acts (some (.int z))).1 = T.setFrames fs) : Steps p.tables e below (T.setTop (mkF m pc Ls (.int z :: rest))) (T.setFrames fs) :=
  retOut X hx hret rfl (Or.inl ⟨rfl, Or.inl rfl, _, rfl⟩) hd hl
theorem retA (X : Stand p l e R s m args below meth c T locs cells slots) (hx : p.tables.exec = Jvm.exec) {pc : Nat} {Ls : Array Slot} {w : Value} {t : FieldType} {rest : List Value} (hret : meth.sig.returnType = some t) (ht : t.isReference = true) (hw : w.isRef = true) (hd : decode c.code pc = .ok (.areturn, 1)) {fs : List Frame}
    (hl : ∀ (f : JFrame) (acts : List Action), f.method = m → f.locked = none → f.entered = [] → (doReturn e (T.setTop f) acts (some w)).1 = T.setFrames fs) : Steps p.tables e below (T.setTop (mkF m pc Ls (w :: rest))) (T.setFrames fs) :=
  retOut X hx hret (by cases t <;> first | (cases ht; done) | rfl) (Or.inr (Or.inr (Or.inr (Or.inr ⟨rfl, ht, hw⟩)))) hd hl
theorem retJ (X : Stand p l e R s m args below meth c T locs cells slots) (hx : p.tables.exec = Jvm.exec) {pc : Nat} {Ls : Array Slot} {z : Int64} {rest : List Value} (hret : meth.sig.returnType = some .long) (hd : decode c.code pc = .ok (.lreturn, 1)) {fs : List Frame}
    (hl : ∀ (f : JFrame) (acts : List Action), f.method = m → f.locked = none → f.entered = [] → (doReturn e (T.setTop f) acts (some (.long z))).1 = T.setFrames fs) : Steps p.tables e below (T.setTop (mkF m pc Ls (.long z :: rest))) (T.setFrames fs) :=
  retOut X hx hret rfl (Or.inr (Or.inl ⟨rfl, rfl, _, rfl⟩)) hd hl
theorem XnullYes {target : State} (X : Stand p l e R s m args below meth c T locs cells slots) (hx : p.tables.exec = Jvm.exec) {g : JFrame} (hg : g.method = m) {v : Value} {rest : List Value} {o : Int} {pc0 pc' : Nat} (hv : v = .null) (hpc : g.pc = pc0) (hd : decode c.code g.pc = .ok (.ifnull o, 3)) (hs : g.stack = v :: rest) (ho : 0 ≤ (pc0 : Int) + o) (hp : ((pc0 : Int) + o).toNat = pc')
    (k : Steps p.tables e below (T.setTop { g with pc := pc', stack := rest }) target) : Steps p.tables e below (T.setTop g) target := by subst hv; exact XS.ifnullYes X.here hx hg hpc hd hs ho hp k
theorem XnullNo {target : State} (X : Stand p l e R s m args below meth c T locs cells slots) (hx : p.tables.exec = Jvm.exec) {g : JFrame} (hg : g.method = m) {v : Value} {a : Addr} {rest : List Value} {o : Int} (hv : v = .ref a) (hd : decode c.code g.pc = .ok (.ifnull o, 3)) (hs : g.stack = v :: rest)
    (k : Steps p.tables e below (T.setTop { g with pc := g.pc + 3, stack := rest }) target) : Steps p.tables e below (T.setTop g) target := by subst hv; exact XS.ifnullNo X.here hx hg hd hs k
theorem XnonnullYes {target : State} (X : Stand p l e R s m args below meth c T locs cells slots) (hx : p.tables.exec = Jvm.exec) {g : JFrame} (hg : g.method = m) {v : Value} {a : Addr} {rest : List Value} {o : Int} {pc0 pc' : Nat} (hv : v = .ref a) (hpc : g.pc = pc0) (hd : decode c.code g.pc = .ok (.ifnonnull o, 3)) (hs : g.stack = v :: rest) (ho : 0 ≤ (pc0 : Int) + o) (hp : ((pc0 : Int) + o).toNat = pc')
    (k : Steps p.tables e below (T.setTop { g with pc := pc', stack := rest }) target) : Steps p.tables e below (T.setTop g) target := by subst hv; exact XS.ifnonnullYes X.here hx hg hpc hd hs ho hp k
theorem XnonnullNo {target : State} (X : Stand p l e R s m args below meth c T locs cells slots) (hx : p.tables.exec = Jvm.exec) {g : JFrame} (hg : g.method = m) {v : Value} {rest : List Value} {o : Int} (hv : v = .null) (hd : decode c.code g.pc = .ok (.ifnonnull o, 3)) (hs : g.stack = v :: rest)
    (k : Steps p.tables e below (T.setTop { g with pc := g.pc + 3, stack := rest }) target) : Steps p.tables e below (T.setTop g) target := by subst hv; exact XS.ifnonnullNo X.here hx hg hd hs k
theorem cat_ref {v : Value} (h : v.isRef = true) : v.category = 1 := by rcases ref_cases h with rfl | ⟨a, rfl⟩ <;> rfl
theorem nar_ref (C : String) {v : Value} (h : v.isRef = true) : narrow (.object C) v = v := rfl
theorem fits_obj {C : String} {v : Value} (h : v.isRef = true) : fits (.object C) v = true := by rcases ref_cases h with rfl | ⟨a, rfl⟩ <;> rfl
end OwnKit
def tv (v : Value) : Int32 := match v with | .null => 0 | _ => 1
theorem tv_ref (a : Addr) : tv (.ref a) = 1 := rfl
theorem tv_null : tv .null = 0 := rfl
theorem own_and255 (x : Int32) : ¬ (x &&& 255) < 0 ∧ ¬ (255 : Int32) < (x &&& 255) := by
  have h := c_and x 255 (by decide)
  have h255 : (255 : Int32).toInt = 255 := by decide
  have h0 : (0 : Int32).toInt = 0 := by decide
  constructor
  · rw [Int32.lt_iff_toInt_lt]; omega
  · rw [Int32.lt_iff_toInt_lt]; omega
theorem own_c255 (x : Int32) : ¬ (nar .char ((x &&& (255 : Int32)).toUInt32.toUInt16.toUInt32.toInt32)) < 0 ∧ ¬ (255 : Int32) < (nar .char ((x &&& (255 : Int32)).toUInt32.toUInt16.toUInt32.toInt32)) := by
  rw [show nar .char ((x &&& (255 : Int32)).toUInt32.toUInt16.toUInt32.toInt32) = x &&& 255 from by simp only [nar, i2c_mask]]; exact own_and255 x
theorem own_cons {P : Int32 → Prop} {a : Int32} {L : List Int32} (h : P a) (k : ∀ c ∈ L, P c) : ∀ c ∈ a :: L, P c := fun c hc => (List.mem_cons.mp hc).elim (fun q => q ▸ h) (k c)
theorem own_nil {P : Int32 → Prop} : ∀ c ∈ ([] : List Int32), P c := fun _ h => nomatch h
theorem own_words : ∀ d ∈ StrChars.Road.words, d ∈ tables_1 := by decide +kernel
theorem d_jdk_30_method_1_0 : decode jdk_30_method_1_code 0 = .ok (.aload_n 0, 1) := by decide +kernel
theorem d_jdk_30_method_1_1 : decode jdk_30_method_1_code 1 = .ok (.invokespecial 1, 3) := by decide +kernel
theorem d_jdk_30_method_1_4 : decode jdk_30_method_1_code 4 = .ok (.return_, 1) := by decide +kernel
theorem pn_java_lang_Record : plainName "java/lang/Record" = true := by first | (simp [plainName, overriddenIn]; done) | decide +kernel
def Q_rec (Z : State) (a : Addr) (h0 : Heap) (n0 : Nat) (vv_ : Option Value) (hh_ : Heap) (LL_ : List Loc) : Prop := vv_ = none ∧ Fr n0 LL_ ∧ hh_ = h0
set_option maxRecDepth 65536 in
set_option maxHeartbeats 40000000 in
theorem rm_rec (l : Launch) (Z : State) (a0 : Array Value) (hw : ∀ d ∈ tables_1, d.before a0 Z = true) (ws : List Jvm.Cond) (a : Addr) (h0 : Heap) (n0 : Nat) (Z0 : n0 ≤ h0.size) :
    MetFree l (⟨"java/lang/Record", "<init>", "()V"⟩ : MethodName) (head1 (Jvm.Cond.code (⟨"java/lang/Record", "<init>", "()V"⟩ : MethodName) jdk_30_method_1_code 1 none :: ws) ({ frames := 1, cells := 0, slots := 0, locals := 12 } : Room)) (fun aa_ U => aa_ = #[(.ref a)] ∧ Z.Warmed39 U.vm ∧ U.heap = h0) (fun _ _ _ _ _ => True) (fun _ U o U' => ∃ vv_ LL_, o = .returned vv_ ∧ Q_rec Z a h0 n0 vv_ U'.heap LL_ ∧ FrameEnd U o U' LL_ 0 0) := by
  refine MetFree.of_bodySF (plainFor_of_name pn_java_lang_Record) hisR ?_
  intro p e s m args below meth c s₁ Bd hml0 hP hK
  obtain ⟨rfl, hZ, hh⟩ := hP
  have hx := Bd.exec
  have hby := Bd.bytes
  have hml : c.maxLocals = 1 := hml0
  have hown : s.vm.findClass "java/lang/Record" = some m.cls := findClass_of_methodNamed Bd.named
  have hnm := (name_of_methodNamed Bd.named Bd.method).1
  have X0 : Stand p l e ({ frames := 1, cells := 0, slots := 0, locals := 12 } : Room) s m #[(.ref a)] below meth c s₁ [] 0 0 := Stand.of_body Bd
  have e0 : s₁.heap = h0 := by rw [← hh, Bd.state]; rfl
  have N0 := Fr.nil n0
  have ef : entryFrame m #[(.ref a)] 1 = mkF m 0 #[.val (.ref a)] [] := by first | (simp [entryFrame, mkF, argsToLocals, Value.category]; done) | rfl
  refine Fin.start (Q := Q_rec Z a h0 n0) ef ?_
  show Fin _ _ _ _ _ _ _ (s₁.setTop (mkF m 0 #[.val (.ref a)] []))
  refine Fin.by (fun t k => XS.aloadN X0.here hx rfl (hb hby d_jdk_30_method_1_0) rfl rfl k) ?_
  show Fin _ _ _ _ _ _ _ (s₁.setTop (mkF m 1 #[.val (.ref a)] [(.ref a)]))
  obtain ⟨T101, X101, e101, st101⟩ := initO X0 hx hZ hown (hw _ (List.mem_of_getElem? (i := 44) rfl)) (hw _ (List.mem_of_getElem? (i := 12) rfl)) (hw _ (List.mem_of_getElem? (i := 13) rfl)) e0 (g := (mkF m 1 #[.val (.ref a)] [(.ref a)])) rfl (by rw [hml]; rfl) rfl (hb hby d_jdk_30_method_1_1) (by decide) (W := 0) (by show 2 * 0 + _ ≤ _; exact Nat.le_of_eq rfl) (by decide)
  refine Fin.by (fun t k => st101 t k) ?_
  show Fin _ _ _ _ _ _ _ (T101.setTop (mkF m 4 #[.val (.ref a)] []))
  exact Fin.ret (v := none) X101 (fun _ => rfl) Bd.notSynchronized (by rw [e101]; exact ⟨rfl, N0, rfl⟩) (by decide) (by decide) (fun fs hr => X101.returnOut hx Bd.returns (hb hby d_jdk_30_method_1_4) hr)
theorem d_prog_1_method_1_0 : decode prog_1_method_1_code 0 = .ok (.aload_n 0, 1) := by decide +kernel
theorem pd_5 : parseMethodDescriptor "()V" = some ⟨[], none⟩ := by decide +kernel
theorem d_prog_1_method_1_1 : decode prog_1_method_1_code 1 = .ok (.invokespecial 1, 3) := by decide +kernel
theorem d_prog_1_method_1_4 : decode prog_1_method_1_code 4 = .ok (.aload_n 0, 1) := by decide +kernel
theorem d_prog_1_method_1_5 : decode prog_1_method_1_code 5 = .ok (.aload_n 1, 1) := by decide +kernel
theorem d_prog_1_method_1_6 : decode prog_1_method_1_code 6 = .ok (.putfield 7, 3) := by decide +kernel
theorem d_prog_1_method_1_9 : decode prog_1_method_1_code 9 = .ok (.aload_n 0, 1) := by decide +kernel
theorem d_prog_1_method_1_10 : decode prog_1_method_1_code 10 = .ok (.aload_n 2, 1) := by decide +kernel
theorem d_prog_1_method_1_11 : decode prog_1_method_1_code 11 = .ok (.putfield 13, 3) := by decide +kernel
theorem d_prog_1_method_1_14 : decode prog_1_method_1_code 14 = .ok (.aload_n 0, 1) := by decide +kernel
theorem d_prog_1_method_1_15 : decode prog_1_method_1_code 15 = .ok (.aload_n 3, 1) := by decide +kernel
theorem d_prog_1_method_1_16 : decode prog_1_method_1_code 16 = .ok (.putfield 16, 3) := by decide +kernel
theorem d_prog_1_method_1_19 : decode prog_1_method_1_code 19 = .ok (.aload_n 0, 1) := by decide +kernel
theorem d_prog_1_method_1_20 : decode prog_1_method_1_code 20 = .ok (.iload 4, 2) := by decide +kernel
theorem d_prog_1_method_1_22 : decode prog_1_method_1_code 22 = .ok (.putfield 19, 3) := by decide +kernel
theorem d_prog_1_method_1_25 : decode prog_1_method_1_code 25 = .ok (.aload_n 0, 1) := by decide +kernel
theorem d_prog_1_method_1_26 : decode prog_1_method_1_code 26 = .ok (.iload 5, 2) := by decide +kernel
theorem d_prog_1_method_1_28 : decode prog_1_method_1_code 28 = .ok (.putfield 23, 3) := by decide +kernel
theorem d_prog_1_method_1_31 : decode prog_1_method_1_code 31 = .ok (.return_, 1) := by decide +kernel
theorem pn_com_example_jiaoge_jiaoge_cli_CommandOption : plainName "com/example/jiaoge/jiaoge/cli/CommandOption" = true := by first | (simp [plainName, overriddenIn]; done) | decide +kernel
def Q_ini (Z : State) (a : Addr) (v1 : Value) (v2 : Value) (v3 : Value) (b1 : Int32) (b2 : Int32) (h0 : Heap) (n0 : Nat) (vv_ : Option Value) (hh_ : Heap) (LL_ : List Loc) : Prop := vv_ = none ∧ Fr n0 LL_ ∧ Keep h0 hh_ [a] ∧ Exa Z hh_ a "com/example/jiaoge/jiaoge/cli/CommandOption" ∧ Fld Z hh_ a "com/example/jiaoge/jiaoge/cli/CommandOption" "name" "Ljava/lang/String;" v1 ∧ Fld Z hh_ a "com/example/jiaoge/jiaoge/cli/CommandOption" "label" "Ljava/lang/String;" v2 ∧ Fld Z hh_ a "com/example/jiaoge/jiaoge/cli/CommandOption" "help" "Ljava/lang/String;" v3 ∧ Fld Z hh_ a "com/example/jiaoge/jiaoge/cli/CommandOption" "required" "Z" (.int (nar .boolean b1)) ∧ Fld Z hh_ a "com/example/jiaoge/jiaoge/cli/CommandOption" "repeatable" "Z" (.int (nar .boolean b2))
set_option maxRecDepth 65536 in
set_option maxHeartbeats 40000000 in
theorem rm_ini (l : Launch) (Z : State) (a0 : Array Value) (hw : ∀ d ∈ tables_1, d.before a0 Z = true) (ws : List Jvm.Cond) (a : Addr) (v1 : Value) (v2 : Value) (v3 : Value) (b1 : Int32) (b2 : Int32) (h0 : Heap) (n0 : Nat) (Z0 : n0 ≤ h0.size) (E0 : Exa Z h0 a "com/example/jiaoge/jiaoge/cli/CommandOption") (Fname : Fld Z h0 a "com/example/jiaoge/jiaoge/cli/CommandOption" "name" "Ljava/lang/String;" .null) (Flabel : Fld Z h0 a "com/example/jiaoge/jiaoge/cli/CommandOption" "label" "Ljava/lang/String;" .null) (Fhelp : Fld Z h0 a "com/example/jiaoge/jiaoge/cli/CommandOption" "help" "Ljava/lang/String;" .null) (Frequired : Fld Z h0 a "com/example/jiaoge/jiaoge/cli/CommandOption" "required" "Z" (.int (0 : Int32))) (Frepeatable : Fld Z h0 a "com/example/jiaoge/jiaoge/cli/CommandOption" "repeatable" "Z" (.int (0 : Int32))) (ga : n0 ≤ a) (r1 : v1.isRef = true) (r2 : v2.isRef = true) (r3 : v3.isRef = true) :
    MetFree l (⟨"com/example/jiaoge/jiaoge/cli/CommandOption", "<init>", "(Ljava/lang/String;Ljava/lang/String;Ljava/lang/String;ZZ)V"⟩ : MethodName) (head1 (Jvm.Cond.code (⟨"com/example/jiaoge/jiaoge/cli/CommandOption", "<init>", "(Ljava/lang/String;Ljava/lang/String;Ljava/lang/String;ZZ)V"⟩ : MethodName) prog_1_method_1_code 6 none :: ws) ({ frames := 2, cells := 0, slots := 0, locals := 24 } : Room)) (fun aa_ U => aa_ = #[(.ref a), v1, v2, v3, (.int b1), (.int b2)] ∧ Z.Warmed39 U.vm ∧ U.heap = h0) (fun _ _ _ _ _ => True) (fun _ U o U' => ∃ vv_ LL_, o = .returned vv_ ∧ Q_ini Z a v1 v2 v3 b1 b2 h0 n0 vv_ U'.heap LL_ ∧ FrameEnd U o U' LL_ 0 0) := by
  refine MetFree.of_bodySF (plainFor_of_name pn_com_example_jiaoge_jiaoge_cli_CommandOption) hisR ?_
  intro p e s m args below meth c s₁ Bd hml0 hP hK
  obtain ⟨rfl, hZ, hh⟩ := hP
  have hx := Bd.exec
  have hby := Bd.bytes
  have hml : c.maxLocals = 6 := hml0
  have hown : s.vm.findClass "com/example/jiaoge/jiaoge/cli/CommandOption" = some m.cls := findClass_of_methodNamed Bd.named
  have hnm := (name_of_methodNamed Bd.named Bd.method).1
  have X0 : Stand p l e ({ frames := 2, cells := 0, slots := 0, locals := 24 } : Room) s m #[(.ref a), v1, v2, v3, (.int b1), (.int b2)] below meth c s₁ [] 0 0 := Stand.of_body Bd
  have e0 : s₁.heap = h0 := by rw [← hh, Bd.state]; rfl
  have N0 := Fr.nil n0
  have ef : entryFrame m #[(.ref a), v1, v2, v3, (.int b1), (.int b2)] 6 = mkF m 0 #[.val (.ref a), .val v1, .val v2, .val v3, .val (.int b1), .val (.int b2)] [] := by first | (simp [entryFrame, mkF, argsToLocals, Value.category]; done) | rfl | (rcases ref_cases r1 with rfl | ⟨_, rfl⟩ <;> rcases ref_cases r2 with rfl | ⟨_, rfl⟩ <;> rcases ref_cases r3 with rfl | ⟨_, rfl⟩ <;> simp [entryFrame, mkF, argsToLocals, Value.category])
  refine Fin.start (Q := Q_ini Z a v1 v2 v3 b1 b2 h0 n0) ef ?_
  show Fin _ _ _ _ _ _ _ (s₁.setTop (mkF m 0 #[.val (.ref a), .val v1, .val v2, .val v3, .val (.int b1), .val (.int b2)] []))
  refine Fin.by (fun t k => XS.aloadN X0.here hx rfl (hb hby d_prog_1_method_1_0) rfl rfl k) ?_
  show Fin _ _ _ _ _ _ _ (s₁.setTop (mkF m 1 #[.val (.ref a), .val v1, .val v2, .val v3, .val (.int b1), .val (.int b2)] [(.ref a)]))
  obtain ⟨v101, _, ⟨T101, L101, k101, n101⟩, -, X101, ⟨Lc101, hQ101, l101, y101, z101⟩, st101⟩ := X0.specialBack hx (y := (⟨"java/lang/Record", "<init>", "()V"⟩ : MethodName)) rfl hown (mvT hZ (hw _ (List.mem_of_getElem? (i := 39) rfl))) (mvT hZ (hw _ (List.mem_of_getElem? (i := 40) rfl))) (mvT hZ (hw _ (List.mem_of_getElem? (i := 43) rfl))) (by decide) (backOf (W := 0) (rm_rec l Z a0 hw [] a h0 n0 Z0 ) hZ (hw _ (List.mem_of_getElem? (i := 43) rfl)) (hw _ (List.mem_of_getElem? (i := 42) rfl)) (by decide) (by decide)) (g := (mkF m 1 #[.val (.ref a), .val v1, .val v2, .val v3, .val (.int b1), .val (.int b2)] [(.ref a)])) rfl (by rw [hml]; rfl) (Steps.refl _) (a := a) (argsL := []) (rest := []) (lenOf pd_5 rfl) rfl (by show 2 * 0 + _ ≤ _; exact Nat.le_of_eq rfl) (hb hby d_prog_1_method_1_1) (fun _ _ => ⟨rfl, e0, (by decide : 0 + 0 ≤ _), (by decide : 0 + 0 ≤ _)⟩)
  dsimp only [Pt.U, Pt.locs, Pt.cells, Pt.slots] at X101 l101 y101 z101 st101 hQ101
  subst l101 y101 z101
  obtain ⟨rfl, Nq101, e101_⟩ := hQ101
  have N101_ := Fr.app N0 Nq101
  refine Fin.byS st101 ?_
  have e101 := e101_
  show Fin _ _ _ _ _ _ _ (T101.setTop (mkF m 4 #[.val (.ref a), .val v1, .val v2, .val v3, .val (.int b1), .val (.int b2)] []))
  refine Fin.by (fun t k => XS.aloadN X101.here hx rfl (hb hby d_prog_1_method_1_4) rfl rfl k) ?_
  show Fin _ _ _ _ _ _ _ (T101.setTop (mkF m 5 #[.val (.ref a), .val v1, .val v2, .val v3, .val (.int b1), .val (.int b2)] [(.ref a)]))
  refine Fin.by (fun t k => XS.aloadN X101.here hx rfl (hb hby d_prog_1_method_1_5) rfl r1 k) ?_
  show Fin _ _ _ _ _ _ _ (T101.setTop (mkF m 6 #[.val (.ref a), .val v1, .val v2, .val v3, .val (.int b1), .val (.int b2)] [v1, (.ref a)]))
  obtain ⟨T102, h102, X102, e102, W102, st102⟩ := putF X101 hx hZ hown (host := "") (Or.inl (hw _ (List.mem_of_getElem? (i := 45) rfl))) Via.refl e101 Fname E0 (Or.inr ⟨(hw _ (List.mem_of_getElem? (i := 46) rfl)), rfl, hnm⟩) (hw _ (List.mem_of_getElem? (i := 35) rfl)) (ty := (.object "java/lang/String")) (by decide) (nar_ref _ r1) (fits_obj r1) (g := (mkF m 6 #[.val (.ref a), .val v1, .val v2, .val v3, .val (.int b1), .val (.int b2)] [v1, (.ref a)])) rfl rfl (hb hby d_prog_1_method_1_6)
  refine Fin.by (fun t k => st102 t k) ?_
  have N102_ := Fr.snoc X102 N101_ ga
  show Fin _ _ _ _ _ _ _ (T102.setTop (mkF m 9 #[.val (.ref a), .val v1, .val v2, .val v3, .val (.int b1), .val (.int b2)] []))
  refine Fin.by (fun t k => XS.aloadN X102.here hx rfl (hb hby d_prog_1_method_1_9) rfl rfl k) ?_
  show Fin _ _ _ _ _ _ _ (T102.setTop (mkF m 10 #[.val (.ref a), .val v1, .val v2, .val v3, .val (.int b1), .val (.int b2)] [(.ref a)]))
  refine Fin.by (fun t k => XS.aloadN X102.here hx rfl (hb hby d_prog_1_method_1_10) rfl r2 k) ?_
  show Fin _ _ _ _ _ _ _ (T102.setTop (mkF m 11 #[.val (.ref a), .val v1, .val v2, .val v3, .val (.int b1), .val (.int b2)] [v2, (.ref a)]))
  have F103 : Fld Z h102 a "com/example/jiaoge/jiaoge/cli/CommandOption" "label" "Ljava/lang/String;" .null := (Flabel.other W102 (Or.inr (slot_ne (Or.inr (hw _ (List.mem_of_getElem? (i := 48) rfl))) (Or.inr (hw _ (List.mem_of_getElem? (i := 46) rfl))) (by decide) (t := (.object "java/lang/String")) (t' := (.object "java/lang/String")) (by decide) (by decide))))
  have E104 : Exa Z h102 a "com/example/jiaoge/jiaoge/cli/CommandOption" := (E0.wr W102)
  obtain ⟨T105, h105, X105, e105, W105, st105⟩ := putF X102 hx hZ hown (host := "") (Or.inl (hw _ (List.mem_of_getElem? (i := 47) rfl))) Via.refl e102 F103 E104 (Or.inr ⟨(hw _ (List.mem_of_getElem? (i := 48) rfl)), rfl, hnm⟩) (hw _ (List.mem_of_getElem? (i := 35) rfl)) (ty := (.object "java/lang/String")) (by decide) (nar_ref _ r2) (fits_obj r2) (g := (mkF m 11 #[.val (.ref a), .val v1, .val v2, .val v3, .val (.int b1), .val (.int b2)] [v2, (.ref a)])) rfl rfl (hb hby d_prog_1_method_1_11)
  refine Fin.by (fun t k => st105 t k) ?_
  have N105_ := Fr.snoc X105 N102_ ga
  show Fin _ _ _ _ _ _ _ (T105.setTop (mkF m 14 #[.val (.ref a), .val v1, .val v2, .val v3, .val (.int b1), .val (.int b2)] []))
  refine Fin.by (fun t k => XS.aloadN X105.here hx rfl (hb hby d_prog_1_method_1_14) rfl rfl k) ?_
  show Fin _ _ _ _ _ _ _ (T105.setTop (mkF m 15 #[.val (.ref a), .val v1, .val v2, .val v3, .val (.int b1), .val (.int b2)] [(.ref a)]))
  refine Fin.by (fun t k => XS.aloadN X105.here hx rfl (hb hby d_prog_1_method_1_15) rfl r3 k) ?_
  show Fin _ _ _ _ _ _ _ (T105.setTop (mkF m 16 #[.val (.ref a), .val v1, .val v2, .val v3, .val (.int b1), .val (.int b2)] [v3, (.ref a)]))
  have F106 : Fld Z h105 a "com/example/jiaoge/jiaoge/cli/CommandOption" "help" "Ljava/lang/String;" .null := ((Fhelp.other W102 (Or.inr (slot_ne (Or.inr (hw _ (List.mem_of_getElem? (i := 50) rfl))) (Or.inr (hw _ (List.mem_of_getElem? (i := 46) rfl))) (by decide) (t := (.object "java/lang/String")) (t' := (.object "java/lang/String")) (by decide) (by decide)))).other W105 (Or.inr (slot_ne (Or.inr (hw _ (List.mem_of_getElem? (i := 50) rfl))) (Or.inr (hw _ (List.mem_of_getElem? (i := 48) rfl))) (by decide) (t := (.object "java/lang/String")) (t' := (.object "java/lang/String")) (by decide) (by decide))))
  have E107 : Exa Z h105 a "com/example/jiaoge/jiaoge/cli/CommandOption" := (E104.wr W105)
  obtain ⟨T108, h108, X108, e108, W108, st108⟩ := putF X105 hx hZ hown (host := "") (Or.inl (hw _ (List.mem_of_getElem? (i := 49) rfl))) Via.refl e105 F106 E107 (Or.inr ⟨(hw _ (List.mem_of_getElem? (i := 50) rfl)), rfl, hnm⟩) (hw _ (List.mem_of_getElem? (i := 35) rfl)) (ty := (.object "java/lang/String")) (by decide) (nar_ref _ r3) (fits_obj r3) (g := (mkF m 16 #[.val (.ref a), .val v1, .val v2, .val v3, .val (.int b1), .val (.int b2)] [v3, (.ref a)])) rfl rfl (hb hby d_prog_1_method_1_16)
  refine Fin.by (fun t k => st108 t k) ?_
  have N108_ := Fr.snoc X108 N105_ ga
  show Fin _ _ _ _ _ _ _ (T108.setTop (mkF m 19 #[.val (.ref a), .val v1, .val v2, .val v3, .val (.int b1), .val (.int b2)] []))
  refine Fin.by (fun t k => XS.aloadN X108.here hx rfl (hb hby d_prog_1_method_1_19) rfl rfl k) ?_
  show Fin _ _ _ _ _ _ _ (T108.setTop (mkF m 20 #[.val (.ref a), .val v1, .val v2, .val v3, .val (.int b1), .val (.int b2)] [(.ref a)]))
  refine Fin.by (fun t k => XS.iload X108.here hx rfl (hb hby d_prog_1_method_1_20) rfl k) ?_
  show Fin _ _ _ _ _ _ _ (T108.setTop (mkF m 22 #[.val (.ref a), .val v1, .val v2, .val v3, .val (.int b1), .val (.int b2)] [(.int b1), (.ref a)]))
  have F109 : Fld Z h108 a "com/example/jiaoge/jiaoge/cli/CommandOption" "required" "Z" (.int (0 : Int32)) := (((Frequired.other W102 (Or.inr (slot_ne (Or.inr (hw _ (List.mem_of_getElem? (i := 52) rfl))) (Or.inr (hw _ (List.mem_of_getElem? (i := 46) rfl))) (by decide) (t := .boolean) (t' := (.object "java/lang/String")) (by decide) (by decide)))).other W105 (Or.inr (slot_ne (Or.inr (hw _ (List.mem_of_getElem? (i := 52) rfl))) (Or.inr (hw _ (List.mem_of_getElem? (i := 48) rfl))) (by decide) (t := .boolean) (t' := (.object "java/lang/String")) (by decide) (by decide)))).other W108 (Or.inr (slot_ne (Or.inr (hw _ (List.mem_of_getElem? (i := 52) rfl))) (Or.inr (hw _ (List.mem_of_getElem? (i := 50) rfl))) (by decide) (t := .boolean) (t' := (.object "java/lang/String")) (by decide) (by decide))))
  have E110 : Exa Z h108 a "com/example/jiaoge/jiaoge/cli/CommandOption" := (E107.wr W108)
  obtain ⟨T111, h111, X111, e111, W111, st111⟩ := putFN X108 hx hZ hown (hw _ (List.mem_of_getElem? (i := 51) rfl)) Via.refl e108 F109 E110 (Or.inr ⟨(hw _ (List.mem_of_getElem? (i := 52) rfl)), rfl, hnm⟩) (hw _ (List.mem_of_getElem? (i := 35) rfl)) (ty := .boolean) (v' := .int (nar .boolean b1)) (by decide) rfl (fits_nar_bool _) (g := (mkF m 22 #[.val (.ref a), .val v1, .val v2, .val v3, .val (.int b1), .val (.int b2)] [(.int b1), (.ref a)])) rfl rfl (hb hby d_prog_1_method_1_22)
  refine Fin.by (fun t k => st111 t k) ?_
  have N111_ := Fr.snoc X111 N108_ ga
  show Fin _ _ _ _ _ _ _ (T111.setTop (mkF m 25 #[.val (.ref a), .val v1, .val v2, .val v3, .val (.int b1), .val (.int b2)] []))
  refine Fin.by (fun t k => XS.aloadN X111.here hx rfl (hb hby d_prog_1_method_1_25) rfl rfl k) ?_
  show Fin _ _ _ _ _ _ _ (T111.setTop (mkF m 26 #[.val (.ref a), .val v1, .val v2, .val v3, .val (.int b1), .val (.int b2)] [(.ref a)]))
  refine Fin.by (fun t k => XS.iload X111.here hx rfl (hb hby d_prog_1_method_1_26) rfl k) ?_
  show Fin _ _ _ _ _ _ _ (T111.setTop (mkF m 28 #[.val (.ref a), .val v1, .val v2, .val v3, .val (.int b1), .val (.int b2)] [(.int b2), (.ref a)]))
  have F112 : Fld Z h111 a "com/example/jiaoge/jiaoge/cli/CommandOption" "repeatable" "Z" (.int (0 : Int32)) := ((((Frepeatable.other W102 (Or.inr (slot_ne (Or.inr (hw _ (List.mem_of_getElem? (i := 54) rfl))) (Or.inr (hw _ (List.mem_of_getElem? (i := 46) rfl))) (by decide) (t := .boolean) (t' := (.object "java/lang/String")) (by decide) (by decide)))).other W105 (Or.inr (slot_ne (Or.inr (hw _ (List.mem_of_getElem? (i := 54) rfl))) (Or.inr (hw _ (List.mem_of_getElem? (i := 48) rfl))) (by decide) (t := .boolean) (t' := (.object "java/lang/String")) (by decide) (by decide)))).other W108 (Or.inr (slot_ne (Or.inr (hw _ (List.mem_of_getElem? (i := 54) rfl))) (Or.inr (hw _ (List.mem_of_getElem? (i := 50) rfl))) (by decide) (t := .boolean) (t' := (.object "java/lang/String")) (by decide) (by decide)))).other W111 (Or.inr (slot_ne (Or.inr (hw _ (List.mem_of_getElem? (i := 54) rfl))) (Or.inr (hw _ (List.mem_of_getElem? (i := 52) rfl))) (by decide) (t := .boolean) (t' := .boolean) (by decide) (by decide))))
  have E113 : Exa Z h111 a "com/example/jiaoge/jiaoge/cli/CommandOption" := (E110.wr W111)
  obtain ⟨T114, h114, X114, e114, W114, st114⟩ := putFN X111 hx hZ hown (hw _ (List.mem_of_getElem? (i := 53) rfl)) Via.refl e111 F112 E113 (Or.inr ⟨(hw _ (List.mem_of_getElem? (i := 54) rfl)), rfl, hnm⟩) (hw _ (List.mem_of_getElem? (i := 35) rfl)) (ty := .boolean) (v' := .int (nar .boolean b2)) (by decide) rfl (fits_nar_bool _) (g := (mkF m 28 #[.val (.ref a), .val v1, .val v2, .val v3, .val (.int b1), .val (.int b2)] [(.int b2), (.ref a)])) rfl rfl (hb hby d_prog_1_method_1_28)
  refine Fin.by (fun t k => st114 t k) ?_
  have N114_ := Fr.snoc X114 N111_ ga
  show Fin _ _ _ _ _ _ _ (T114.setTop (mkF m 31 #[.val (.ref a), .val v1, .val v2, .val v3, .val (.int b1), .val (.int b2)] []))
  have kp115 : Keep h0 h102 [a] := (Keep.refl h0 [a]).wr W102 (Or.inl (List.mem_of_getElem? (i := 0) rfl))
  have kp116 : Keep h0 h105 [a] := kp115.wr W105 (Or.inl (List.mem_of_getElem? (i := 0) rfl))
  have kp117 : Keep h0 h108 [a] := kp116.wr W108 (Or.inl (List.mem_of_getElem? (i := 0) rfl))
  have kp118 : Keep h0 h111 [a] := kp117.wr W111 (Or.inl (List.mem_of_getElem? (i := 0) rfl))
  have kp119 : Keep h0 h114 [a] := kp118.wr W114 (Or.inl (List.mem_of_getElem? (i := 0) rfl))
  have E120 : Exa Z h114 a "com/example/jiaoge/jiaoge/cli/CommandOption" := (E113.wr W114)
  have F121 : Fld Z h114 a "com/example/jiaoge/jiaoge/cli/CommandOption" "name" "Ljava/lang/String;" v1 := (((((Fname.same W102).other W105 (Or.inr (slot_ne (Or.inr (hw _ (List.mem_of_getElem? (i := 46) rfl))) (Or.inr (hw _ (List.mem_of_getElem? (i := 48) rfl))) (by decide) (t := (.object "java/lang/String")) (t' := (.object "java/lang/String")) (by decide) (by decide)))).other W108 (Or.inr (slot_ne (Or.inr (hw _ (List.mem_of_getElem? (i := 46) rfl))) (Or.inr (hw _ (List.mem_of_getElem? (i := 50) rfl))) (by decide) (t := (.object "java/lang/String")) (t' := (.object "java/lang/String")) (by decide) (by decide)))).other W111 (Or.inr (slot_ne (Or.inr (hw _ (List.mem_of_getElem? (i := 46) rfl))) (Or.inr (hw _ (List.mem_of_getElem? (i := 52) rfl))) (by decide) (t := (.object "java/lang/String")) (t' := .boolean) (by decide) (by decide)))).other W114 (Or.inr (slot_ne (Or.inr (hw _ (List.mem_of_getElem? (i := 46) rfl))) (Or.inr (hw _ (List.mem_of_getElem? (i := 54) rfl))) (by decide) (t := (.object "java/lang/String")) (t' := .boolean) (by decide) (by decide))))
  have F122 : Fld Z h114 a "com/example/jiaoge/jiaoge/cli/CommandOption" "label" "Ljava/lang/String;" v2 := ((((F103.same W105).other W108 (Or.inr (slot_ne (Or.inr (hw _ (List.mem_of_getElem? (i := 48) rfl))) (Or.inr (hw _ (List.mem_of_getElem? (i := 50) rfl))) (by decide) (t := (.object "java/lang/String")) (t' := (.object "java/lang/String")) (by decide) (by decide)))).other W111 (Or.inr (slot_ne (Or.inr (hw _ (List.mem_of_getElem? (i := 48) rfl))) (Or.inr (hw _ (List.mem_of_getElem? (i := 52) rfl))) (by decide) (t := (.object "java/lang/String")) (t' := .boolean) (by decide) (by decide)))).other W114 (Or.inr (slot_ne (Or.inr (hw _ (List.mem_of_getElem? (i := 48) rfl))) (Or.inr (hw _ (List.mem_of_getElem? (i := 54) rfl))) (by decide) (t := (.object "java/lang/String")) (t' := .boolean) (by decide) (by decide))))
  have F123 : Fld Z h114 a "com/example/jiaoge/jiaoge/cli/CommandOption" "help" "Ljava/lang/String;" v3 := (((F106.same W108).other W111 (Or.inr (slot_ne (Or.inr (hw _ (List.mem_of_getElem? (i := 50) rfl))) (Or.inr (hw _ (List.mem_of_getElem? (i := 52) rfl))) (by decide) (t := (.object "java/lang/String")) (t' := .boolean) (by decide) (by decide)))).other W114 (Or.inr (slot_ne (Or.inr (hw _ (List.mem_of_getElem? (i := 50) rfl))) (Or.inr (hw _ (List.mem_of_getElem? (i := 54) rfl))) (by decide) (t := (.object "java/lang/String")) (t' := .boolean) (by decide) (by decide))))
  have F124 : Fld Z h114 a "com/example/jiaoge/jiaoge/cli/CommandOption" "required" "Z" (.int (nar .boolean b1)) := ((F109.same W111).other W114 (Or.inr (slot_ne (Or.inr (hw _ (List.mem_of_getElem? (i := 52) rfl))) (Or.inr (hw _ (List.mem_of_getElem? (i := 54) rfl))) (by decide) (t := .boolean) (t' := .boolean) (by decide) (by decide))))
  exact Fin.ret (v := none) X114 (fun _ => rfl) Bd.notSynchronized (by rw [e114]; exact ⟨rfl, N114_, kp119, E120, F121, F122, F123, F124, (F112.same W114)⟩) (by decide) (by decide) (fun fs hr => X114.returnOut hx Bd.returns (hb hby d_prog_1_method_1_31) hr)
theorem d_prog_1_method_3_0 : decode prog_1_method_3_code 0 = .ok (.new 8, 3) := by decide +kernel
theorem d_prog_1_method_3_3 : decode prog_1_method_3_code 3 = .ok (.dup, 1) := by decide +kernel
theorem d_prog_1_method_3_4 : decode prog_1_method_3_code 4 = .ok (.aload_n 0, 1) := by decide +kernel
theorem d_prog_1_method_3_5 : decode prog_1_method_3_code 5 = .ok (.aload_n 1, 1) := by decide +kernel
theorem d_prog_1_method_3_6 : decode prog_1_method_3_code 6 = .ok (.aload_n 2, 1) := by decide +kernel
theorem d_prog_1_method_3_7 : decode prog_1_method_3_code 7 = .ok (.iconst 0, 1) := by decide +kernel
theorem d_prog_1_method_3_8 : decode prog_1_method_3_code 8 = .ok (.iconst 0, 1) := by decide +kernel
theorem pd_31 : parseMethodDescriptor "(Ljava/lang/String;Ljava/lang/String;Ljava/lang/String;ZZ)V" = some ⟨[(.object "java/lang/String"), (.object "java/lang/String"), (.object "java/lang/String"), .boolean, .boolean], none⟩ := by decide +kernel
theorem d_prog_1_method_3_9 : decode prog_1_method_3_code 9 = .ok (.invokespecial 26, 3) := by decide +kernel
theorem d_prog_1_method_3_12 : decode prog_1_method_3_code 12 = .ok (.areturn, 1) := by decide +kernel
def Q_opt (Z : State) (v1 : Value) (v2 : Value) (v3 : Value) (h0 : Heap) (n0 : Nat) (vv_ : Option Value) (hh_ : Heap) (LL_ : List Loc) : Prop := ∃ (t : Addr), vv_ = some (.ref t) ∧ Fr n0 LL_ ∧ Keep h0 hh_ [] ∧ h0.size ≤ t ∧ Exa Z hh_ t "com/example/jiaoge/jiaoge/cli/CommandOption" ∧ Fld Z hh_ t "com/example/jiaoge/jiaoge/cli/CommandOption" "name" "Ljava/lang/String;" v1 ∧ Fld Z hh_ t "com/example/jiaoge/jiaoge/cli/CommandOption" "label" "Ljava/lang/String;" v2 ∧ Fld Z hh_ t "com/example/jiaoge/jiaoge/cli/CommandOption" "help" "Ljava/lang/String;" v3 ∧ Fld Z hh_ t "com/example/jiaoge/jiaoge/cli/CommandOption" "required" "Z" (.int (nar .boolean (0 : Int32))) ∧ Fld Z hh_ t "com/example/jiaoge/jiaoge/cli/CommandOption" "repeatable" "Z" (.int (nar .boolean (0 : Int32)))
set_option maxRecDepth 65536 in
set_option maxHeartbeats 40000000 in
theorem rm_opt (l : Launch) (Z : State) (a0 : Array Value) (hw : ∀ d ∈ tables_1, d.before a0 Z = true) (ws : List Jvm.Cond) (v1 : Value) (v2 : Value) (v3 : Value) (h0 : Heap) (n0 : Nat) (Z0 : n0 ≤ h0.size) (r1 : v1.isRef = true) (r2 : v2.isRef = true) (r3 : v3.isRef = true) :
    MetFree l (⟨"com/example/jiaoge/jiaoge/cli/CommandOption", "optional", "(Ljava/lang/String;Ljava/lang/String;Ljava/lang/String;)Lcom/example/jiaoge/jiaoge/cli/CommandOption;"⟩ : MethodName) (head1 (Jvm.Cond.code (⟨"com/example/jiaoge/jiaoge/cli/CommandOption", "optional", "(Ljava/lang/String;Ljava/lang/String;Ljava/lang/String;)Lcom/example/jiaoge/jiaoge/cli/CommandOption;"⟩ : MethodName) prog_1_method_3_code 3 (some (.object "com/example/jiaoge/jiaoge/cli/CommandOption")) :: ws) ({ frames := 3, cells := 1, slots := 5, locals := 42 } : Room)) (fun aa_ U => aa_ = #[v1, v2, v3] ∧ Z.Warmed39 U.vm ∧ U.heap = h0) (fun _ _ _ _ _ => True) (fun _ U o U' => ∃ vv_ LL_, o = .returned vv_ ∧ Q_opt Z v1 v2 v3 h0 n0 vv_ U'.heap LL_ ∧ FrameEnd U o U' LL_ 1 5) := by
  refine MetFree.of_bodySF (plainFor_of_name pn_com_example_jiaoge_jiaoge_cli_CommandOption) hisR ?_
  intro p e s m args below meth c s₁ Bd hml0 hP hK
  obtain ⟨rfl, hZ, hh⟩ := hP
  have hx := Bd.exec
  have hby := Bd.bytes
  have hml : c.maxLocals = 3 := hml0
  have hown : s.vm.findClass "com/example/jiaoge/jiaoge/cli/CommandOption" = some m.cls := findClass_of_methodNamed Bd.named
  have hnm := (name_of_methodNamed Bd.named Bd.method).1
  have X0 : Stand p l e ({ frames := 3, cells := 1, slots := 5, locals := 42 } : Room) s m #[v1, v2, v3] below meth c s₁ [] 0 0 := Stand.of_body Bd
  have e0 : s₁.heap = h0 := by rw [← hh, Bd.state]; rfl
  have N0 := Fr.nil n0
  have ef : entryFrame m #[v1, v2, v3] 3 = mkF m 0 #[.val v1, .val v2, .val v3] [] := by first | (simp [entryFrame, mkF, argsToLocals, Value.category]; done) | rfl | (rcases ref_cases r1 with rfl | ⟨_, rfl⟩ <;> rcases ref_cases r2 with rfl | ⟨_, rfl⟩ <;> rcases ref_cases r3 with rfl | ⟨_, rfl⟩ <;> simp [entryFrame, mkF, argsToLocals, Value.category])
  refine Fin.start (Q := Q_opt Z v1 v2 v3 h0 n0) ef ?_
  show Fin _ _ _ _ _ _ _ (s₁.setTop (mkF m 0 #[.val v1, .val v2, .val v3] []))
  obtain ⟨T101, h101, X101, e101, E101, A101, D101, -, st101⟩ := newO X0 hx hZ hown (hw _ (List.mem_of_getElem? (i := 34) rfl)) (hw _ (List.mem_of_getElem? (i := 35) rfl)) (hw _ (List.mem_of_getElem? (i := 32) rfl)) e0 (g := (mkF m 0 #[.val v1, .val v2, .val v3] [])) rfl (hb hby d_prog_1_method_3_0) (by decide) (by decide)
  obtain ⟨a101, g101⟩ : ∃ z, z = h0.size := ⟨_, rfl⟩
  rw [← g101] at A101 D101 st101
  refine Fin.by (fun t k => st101 t k) ?_
  show Fin _ _ _ _ _ _ _ (T101.setTop (mkF m 3 #[.val v1, .val v2, .val v3] [(.ref a101)]))
  refine Fin.by (fun t k => XS.dup X101.here hx rfl (hb hby d_prog_1_method_3_3) rfl rfl k) ?_
  show Fin _ _ _ _ _ _ _ (T101.setTop (mkF m 4 #[.val v1, .val v2, .val v3] [(.ref a101), (.ref a101)]))
  refine Fin.by (fun t k => XS.aloadN X101.here hx rfl (hb hby d_prog_1_method_3_4) rfl r1 k) ?_
  show Fin _ _ _ _ _ _ _ (T101.setTop (mkF m 5 #[.val v1, .val v2, .val v3] [v1, (.ref a101), (.ref a101)]))
  refine Fin.by (fun t k => XS.aloadN X101.here hx rfl (hb hby d_prog_1_method_3_5) rfl r2 k) ?_
  show Fin _ _ _ _ _ _ _ (T101.setTop (mkF m 6 #[.val v1, .val v2, .val v3] [v2, v1, (.ref a101), (.ref a101)]))
  refine Fin.by (fun t k => XS.aloadN X101.here hx rfl (hb hby d_prog_1_method_3_6) rfl r3 k) ?_
  show Fin _ _ _ _ _ _ _ (T101.setTop (mkF m 7 #[.val v1, .val v2, .val v3] [v3, v2, v1, (.ref a101), (.ref a101)]))
  refine Fin.by (fun t k => XS.iconst X101.here hx rfl (hb hby d_prog_1_method_3_7) k) ?_
  show Fin _ _ _ _ _ _ _ (T101.setTop (mkF m 8 #[.val v1, .val v2, .val v3] [(.int (0 : Int32)), v3, v2, v1, (.ref a101), (.ref a101)]))
  refine Fin.by (fun t k => XS.iconst X101.here hx rfl (hb hby d_prog_1_method_3_8) k) ?_
  show Fin _ _ _ _ _ _ _ (T101.setTop (mkF m 9 #[.val v1, .val v2, .val v3] [(.int (0 : Int32)), (.int (0 : Int32)), v3, v2, v1, (.ref a101), (.ref a101)]))
  have g102 : n0 ≤ a101 := Nat.le_trans Z0 (Nat.le_of_eq g101.symm)
  have z103 : n0 ≤ h101.size := Nat.le_trans Z0 E101.1
  obtain ⟨v104, _, ⟨T104, L104, k104, n104⟩, -, X104, ⟨Lc104, hQ104, l104, y104, z104⟩, st104⟩ := X101.specialBack hx (y := (⟨"com/example/jiaoge/jiaoge/cli/CommandOption", "<init>", "(Ljava/lang/String;Ljava/lang/String;Ljava/lang/String;ZZ)V"⟩ : MethodName)) rfl hown (mvT hZ (hw _ (List.mem_of_getElem? (i := 36) rfl))) (mvT hZ (hw _ (List.mem_of_getElem? (i := 37) rfl))) (mvT hZ (hw _ (List.mem_of_getElem? (i := 38) rfl))) (by decide) (backOf (W := 1) (rm_ini l Z a0 hw [] a101 v1 v2 v3 (0 : Int32) (0 : Int32) h101 n0 z103 A101 (D101 (Or.inr (hw _ (List.mem_of_getElem? (i := 46) rfl))) (ty := (.object "java/lang/String")) (by decide) : Fld Z h101 a101 "com/example/jiaoge/jiaoge/cli/CommandOption" "name" "Ljava/lang/String;" .null) (D101 (Or.inr (hw _ (List.mem_of_getElem? (i := 48) rfl))) (ty := (.object "java/lang/String")) (by decide) : Fld Z h101 a101 "com/example/jiaoge/jiaoge/cli/CommandOption" "label" "Ljava/lang/String;" .null) (D101 (Or.inr (hw _ (List.mem_of_getElem? (i := 50) rfl))) (ty := (.object "java/lang/String")) (by decide) : Fld Z h101 a101 "com/example/jiaoge/jiaoge/cli/CommandOption" "help" "Ljava/lang/String;" .null) (D101 (Or.inr (hw _ (List.mem_of_getElem? (i := 52) rfl))) (ty := .boolean) (by decide) : Fld Z h101 a101 "com/example/jiaoge/jiaoge/cli/CommandOption" "required" "Z" (.int (0 : Int32))) (D101 (Or.inr (hw _ (List.mem_of_getElem? (i := 54) rfl))) (ty := .boolean) (by decide) : Fld Z h101 a101 "com/example/jiaoge/jiaoge/cli/CommandOption" "repeatable" "Z" (.int (0 : Int32))) g102 r1 r2 r3) hZ (hw _ (List.mem_of_getElem? (i := 38) rfl)) (hw _ (List.mem_of_getElem? (i := 32) rfl)) (by decide) (by decide)) (g := (mkF m 9 #[.val v1, .val v2, .val v3] [(.int (0 : Int32)), (.int (0 : Int32)), v3, v2, v1, (.ref a101), (.ref a101)])) rfl (by rw [hml]; rfl) (Steps.refl _) (a := a101) (argsL := [v1, v2, v3, (.int (0 : Int32)), (.int (0 : Int32))]) (rest := [(.ref a101)]) (lenOf pd_31 rfl) rfl (by show 2 * 0 + _ ≤ _; exact Nat.le_of_eq rfl) (hb hby d_prog_1_method_3_9) (fun _ _ => ⟨rfl, e101, (by decide : 1 + 0 ≤ _), (by decide : 5 + 0 ≤ _)⟩)
  dsimp only [Pt.U, Pt.locs, Pt.cells, Pt.slots] at X104 l104 y104 z104 st104 hQ104
  subst l104 y104 z104
  obtain ⟨rfl, Nq104, p104_0, p104_1, p104_2, p104_3, p104_4, p104_5, p104_6⟩ := hQ104
  have N104_ := Fr.app N0 Nq104
  refine Fin.byS st104 ?_
  show Fin _ _ _ _ _ _ _ (T104.setTop (mkF m 12 #[.val v1, .val v2, .val v3] [(.ref a101)]))
  have kp105 : Keep h0 h101 [] := (Keep.refl h0 []).ext E101
  have kp106 : Keep h0 T104.heap [] := kp105.trans p104_0 (allS (Or.inr (Nat.le_trans (Nat.le_refl _) (Nat.le_of_eq g101.symm))) all0)
  exact Fin.ret (v := some (.ref a101)) X104 (fun h => by rw [Bd.returns] at h; cases h) Bd.notSynchronized (⟨a101, rfl, N104_, kp106, (Nat.le_trans (Nat.le_refl _) (Nat.le_of_eq g101.symm)), p104_1, p104_2, p104_3, p104_4, p104_5, p104_6⟩) (by decide) (by decide) (fun fs hr => retA X104 hx Bd.returns rfl rfl (hb hby d_prog_1_method_3_12) hr)
theorem d_prog_1_method_11_0 : decode prog_1_method_11_code 0 = .ok (.aload_n 0, 1) := by decide +kernel
theorem d_prog_1_method_11_1 : decode prog_1_method_11_code 1 = .ok (.getfield 7, 3) := by decide +kernel
theorem d_prog_1_method_11_4 : decode prog_1_method_11_code 4 = .ok (.areturn, 1) := by decide +kernel
def Q_get_name (Z : State) (a : Addr) (v : Value) (h0 : Heap) (n0 : Nat) (vv_ : Option Value) (hh_ : Heap) (LL_ : List Loc) : Prop := vv_ = some v ∧ Fr n0 LL_ ∧ hh_ = h0
set_option maxRecDepth 65536 in
set_option maxHeartbeats 40000000 in
theorem rm_get_name (l : Launch) (Z : State) (a0 : Array Value) (hw : ∀ d ∈ tables_1, d.before a0 Z = true) (ws : List Jvm.Cond) (a : Addr) (v : Value) (h0 : Heap) (n0 : Nat) (Z0 : n0 ≤ h0.size) (F0 : Fld Z h0 a "com/example/jiaoge/jiaoge/cli/CommandOption" "name" "Ljava/lang/String;" v) (r0 : v.isRef = true) :
    MetFree l (⟨"com/example/jiaoge/jiaoge/cli/CommandOption", "name", "()Ljava/lang/String;"⟩ : MethodName) (head1 (Jvm.Cond.code (⟨"com/example/jiaoge/jiaoge/cli/CommandOption", "name", "()Ljava/lang/String;"⟩ : MethodName) prog_1_method_11_code 1 (some (.object "java/lang/String")) :: ws) ({ frames := 0, cells := 0, slots := 0, locals := 0 } : Room)) (fun aa_ U => aa_ = #[(.ref a)] ∧ Z.Warmed39 U.vm ∧ U.heap = h0) (fun _ _ _ _ _ => True) (fun _ U o U' => ∃ vv_ LL_, o = .returned vv_ ∧ Q_get_name Z a v h0 n0 vv_ U'.heap LL_ ∧ FrameEnd U o U' LL_ 0 0) := by
  refine MetFree.of_bodySF (plainFor_of_name pn_com_example_jiaoge_jiaoge_cli_CommandOption) hisR ?_
  intro p e s m args below meth c s₁ Bd hml0 hP hK
  obtain ⟨rfl, hZ, hh⟩ := hP
  have hx := Bd.exec
  have hby := Bd.bytes
  have hml : c.maxLocals = 1 := hml0
  have hown : s.vm.findClass "com/example/jiaoge/jiaoge/cli/CommandOption" = some m.cls := findClass_of_methodNamed Bd.named
  have hnm := (name_of_methodNamed Bd.named Bd.method).1
  have X0 : Stand p l e ({ frames := 0, cells := 0, slots := 0, locals := 0 } : Room) s m #[(.ref a)] below meth c s₁ [] 0 0 := Stand.of_body Bd
  have e0 : s₁.heap = h0 := by rw [← hh, Bd.state]; rfl
  have N0 := Fr.nil n0
  have ef : entryFrame m #[(.ref a)] 1 = mkF m 0 #[.val (.ref a)] [] := by first | (simp [entryFrame, mkF, argsToLocals, Value.category]; done) | rfl
  refine Fin.start (Q := Q_get_name Z a v h0 n0) ef ?_
  show Fin _ _ _ _ _ _ _ (s₁.setTop (mkF m 0 #[.val (.ref a)] []))
  refine Fin.by (fun t k => XS.aloadN X0.here hx rfl (hb hby d_prog_1_method_11_0) rfl rfl k) ?_
  show Fin _ _ _ _ _ _ _ (s₁.setTop (mkF m 1 #[.val (.ref a)] [(.ref a)]))
  obtain ⟨T101, X101, e101, st101⟩ := getF X0 hx hZ hown (host := "") (Or.inl (hw _ (List.mem_of_getElem? (i := 45) rfl))) Via.refl e0 F0 (g := (mkF m 1 #[.val (.ref a)] [(.ref a)])) rfl rfl (hb hby d_prog_1_method_11_1)
  refine Fin.by (fun t k => st101 t k) ?_
  show Fin _ _ _ _ _ _ _ (T101.setTop (mkF m 4 #[.val (.ref a)] [v]))
  exact Fin.ret (v := some v) X101 (fun h => by rw [Bd.returns] at h; cases h) Bd.notSynchronized (by rw [e101]; exact ⟨rfl, N0, rfl⟩) (by decide) (by decide) (fun fs hr => retA X101 hx Bd.returns rfl r0 (hb hby d_prog_1_method_11_4) hr)
theorem d_prog_1_method_12_0 : decode prog_1_method_12_code 0 = .ok (.aload_n 0, 1) := by decide +kernel
theorem d_prog_1_method_12_1 : decode prog_1_method_12_code 1 = .ok (.getfield 13, 3) := by decide +kernel
theorem d_prog_1_method_12_4 : decode prog_1_method_12_code 4 = .ok (.areturn, 1) := by decide +kernel
def Q_get_label (Z : State) (a : Addr) (v : Value) (h0 : Heap) (n0 : Nat) (vv_ : Option Value) (hh_ : Heap) (LL_ : List Loc) : Prop := vv_ = some v ∧ Fr n0 LL_ ∧ hh_ = h0
set_option maxRecDepth 65536 in
set_option maxHeartbeats 40000000 in
theorem rm_get_label (l : Launch) (Z : State) (a0 : Array Value) (hw : ∀ d ∈ tables_1, d.before a0 Z = true) (ws : List Jvm.Cond) (a : Addr) (v : Value) (h0 : Heap) (n0 : Nat) (Z0 : n0 ≤ h0.size) (F0 : Fld Z h0 a "com/example/jiaoge/jiaoge/cli/CommandOption" "label" "Ljava/lang/String;" v) (r0 : v.isRef = true) :
    MetFree l (⟨"com/example/jiaoge/jiaoge/cli/CommandOption", "label", "()Ljava/lang/String;"⟩ : MethodName) (head1 (Jvm.Cond.code (⟨"com/example/jiaoge/jiaoge/cli/CommandOption", "label", "()Ljava/lang/String;"⟩ : MethodName) prog_1_method_12_code 1 (some (.object "java/lang/String")) :: ws) ({ frames := 0, cells := 0, slots := 0, locals := 0 } : Room)) (fun aa_ U => aa_ = #[(.ref a)] ∧ Z.Warmed39 U.vm ∧ U.heap = h0) (fun _ _ _ _ _ => True) (fun _ U o U' => ∃ vv_ LL_, o = .returned vv_ ∧ Q_get_label Z a v h0 n0 vv_ U'.heap LL_ ∧ FrameEnd U o U' LL_ 0 0) := by
  refine MetFree.of_bodySF (plainFor_of_name pn_com_example_jiaoge_jiaoge_cli_CommandOption) hisR ?_
  intro p e s m args below meth c s₁ Bd hml0 hP hK
  obtain ⟨rfl, hZ, hh⟩ := hP
  have hx := Bd.exec
  have hby := Bd.bytes
  have hml : c.maxLocals = 1 := hml0
  have hown : s.vm.findClass "com/example/jiaoge/jiaoge/cli/CommandOption" = some m.cls := findClass_of_methodNamed Bd.named
  have hnm := (name_of_methodNamed Bd.named Bd.method).1
  have X0 : Stand p l e ({ frames := 0, cells := 0, slots := 0, locals := 0 } : Room) s m #[(.ref a)] below meth c s₁ [] 0 0 := Stand.of_body Bd
  have e0 : s₁.heap = h0 := by rw [← hh, Bd.state]; rfl
  have N0 := Fr.nil n0
  have ef : entryFrame m #[(.ref a)] 1 = mkF m 0 #[.val (.ref a)] [] := by first | (simp [entryFrame, mkF, argsToLocals, Value.category]; done) | rfl
  refine Fin.start (Q := Q_get_label Z a v h0 n0) ef ?_
  show Fin _ _ _ _ _ _ _ (s₁.setTop (mkF m 0 #[.val (.ref a)] []))
  refine Fin.by (fun t k => XS.aloadN X0.here hx rfl (hb hby d_prog_1_method_12_0) rfl rfl k) ?_
  show Fin _ _ _ _ _ _ _ (s₁.setTop (mkF m 1 #[.val (.ref a)] [(.ref a)]))
  obtain ⟨T101, X101, e101, st101⟩ := getF X0 hx hZ hown (host := "") (Or.inl (hw _ (List.mem_of_getElem? (i := 47) rfl))) Via.refl e0 F0 (g := (mkF m 1 #[.val (.ref a)] [(.ref a)])) rfl rfl (hb hby d_prog_1_method_12_1)
  refine Fin.by (fun t k => st101 t k) ?_
  show Fin _ _ _ _ _ _ _ (T101.setTop (mkF m 4 #[.val (.ref a)] [v]))
  exact Fin.ret (v := some v) X101 (fun h => by rw [Bd.returns] at h; cases h) Bd.notSynchronized (by rw [e101]; exact ⟨rfl, N0, rfl⟩) (by decide) (by decide) (fun fs hr => retA X101 hx Bd.returns rfl r0 (hb hby d_prog_1_method_12_4) hr)
theorem d_prog_1_method_13_0 : decode prog_1_method_13_code 0 = .ok (.aload_n 0, 1) := by decide +kernel
theorem d_prog_1_method_13_1 : decode prog_1_method_13_code 1 = .ok (.getfield 16, 3) := by decide +kernel
theorem d_prog_1_method_13_4 : decode prog_1_method_13_code 4 = .ok (.areturn, 1) := by decide +kernel
def Q_get_help (Z : State) (a : Addr) (v : Value) (h0 : Heap) (n0 : Nat) (vv_ : Option Value) (hh_ : Heap) (LL_ : List Loc) : Prop := vv_ = some v ∧ Fr n0 LL_ ∧ hh_ = h0
set_option maxRecDepth 65536 in
set_option maxHeartbeats 40000000 in
theorem rm_get_help (l : Launch) (Z : State) (a0 : Array Value) (hw : ∀ d ∈ tables_1, d.before a0 Z = true) (ws : List Jvm.Cond) (a : Addr) (v : Value) (h0 : Heap) (n0 : Nat) (Z0 : n0 ≤ h0.size) (F0 : Fld Z h0 a "com/example/jiaoge/jiaoge/cli/CommandOption" "help" "Ljava/lang/String;" v) (r0 : v.isRef = true) :
    MetFree l (⟨"com/example/jiaoge/jiaoge/cli/CommandOption", "help", "()Ljava/lang/String;"⟩ : MethodName) (head1 (Jvm.Cond.code (⟨"com/example/jiaoge/jiaoge/cli/CommandOption", "help", "()Ljava/lang/String;"⟩ : MethodName) prog_1_method_13_code 1 (some (.object "java/lang/String")) :: ws) ({ frames := 0, cells := 0, slots := 0, locals := 0 } : Room)) (fun aa_ U => aa_ = #[(.ref a)] ∧ Z.Warmed39 U.vm ∧ U.heap = h0) (fun _ _ _ _ _ => True) (fun _ U o U' => ∃ vv_ LL_, o = .returned vv_ ∧ Q_get_help Z a v h0 n0 vv_ U'.heap LL_ ∧ FrameEnd U o U' LL_ 0 0) := by
  refine MetFree.of_bodySF (plainFor_of_name pn_com_example_jiaoge_jiaoge_cli_CommandOption) hisR ?_
  intro p e s m args below meth c s₁ Bd hml0 hP hK
  obtain ⟨rfl, hZ, hh⟩ := hP
  have hx := Bd.exec
  have hby := Bd.bytes
  have hml : c.maxLocals = 1 := hml0
  have hown : s.vm.findClass "com/example/jiaoge/jiaoge/cli/CommandOption" = some m.cls := findClass_of_methodNamed Bd.named
  have hnm := (name_of_methodNamed Bd.named Bd.method).1
  have X0 : Stand p l e ({ frames := 0, cells := 0, slots := 0, locals := 0 } : Room) s m #[(.ref a)] below meth c s₁ [] 0 0 := Stand.of_body Bd
  have e0 : s₁.heap = h0 := by rw [← hh, Bd.state]; rfl
  have N0 := Fr.nil n0
  have ef : entryFrame m #[(.ref a)] 1 = mkF m 0 #[.val (.ref a)] [] := by first | (simp [entryFrame, mkF, argsToLocals, Value.category]; done) | rfl
  refine Fin.start (Q := Q_get_help Z a v h0 n0) ef ?_
  show Fin _ _ _ _ _ _ _ (s₁.setTop (mkF m 0 #[.val (.ref a)] []))
  refine Fin.by (fun t k => XS.aloadN X0.here hx rfl (hb hby d_prog_1_method_13_0) rfl rfl k) ?_
  show Fin _ _ _ _ _ _ _ (s₁.setTop (mkF m 1 #[.val (.ref a)] [(.ref a)]))
  obtain ⟨T101, X101, e101, st101⟩ := getF X0 hx hZ hown (host := "") (Or.inl (hw _ (List.mem_of_getElem? (i := 49) rfl))) Via.refl e0 F0 (g := (mkF m 1 #[.val (.ref a)] [(.ref a)])) rfl rfl (hb hby d_prog_1_method_13_1)
  refine Fin.by (fun t k => st101 t k) ?_
  show Fin _ _ _ _ _ _ _ (T101.setTop (mkF m 4 #[.val (.ref a)] [v]))
  exact Fin.ret (v := some v) X101 (fun h => by rw [Bd.returns] at h; cases h) Bd.notSynchronized (by rw [e101]; exact ⟨rfl, N0, rfl⟩) (by decide) (by decide) (fun fs hr => retA X101 hx Bd.returns rfl r0 (hb hby d_prog_1_method_13_4) hr)
theorem d_prog_1_method_14_0 : decode prog_1_method_14_code 0 = .ok (.aload_n 0, 1) := by decide +kernel
theorem d_prog_1_method_14_1 : decode prog_1_method_14_code 1 = .ok (.getfield 19, 3) := by decide +kernel
theorem d_prog_1_method_14_4 : decode prog_1_method_14_code 4 = .ok (.ireturn, 1) := by decide +kernel
def Q_get_required (Z : State) (a : Addr) (x : Int32) (h0 : Heap) (n0 : Nat) (vv_ : Option Value) (hh_ : Heap) (LL_ : List Loc) : Prop := vv_ = some (.int (nar .boolean x)) ∧ Fr n0 LL_ ∧ hh_ = h0
set_option maxRecDepth 65536 in
set_option maxHeartbeats 40000000 in
theorem rm_get_required (l : Launch) (Z : State) (a0 : Array Value) (hw : ∀ d ∈ tables_1, d.before a0 Z = true) (ws : List Jvm.Cond) (a : Addr) (x : Int32) (h0 : Heap) (n0 : Nat) (Z0 : n0 ≤ h0.size) (F0 : Fld Z h0 a "com/example/jiaoge/jiaoge/cli/CommandOption" "required" "Z" (.int x)) :
    MetFree l (⟨"com/example/jiaoge/jiaoge/cli/CommandOption", "required", "()Z"⟩ : MethodName) (head1 (Jvm.Cond.code (⟨"com/example/jiaoge/jiaoge/cli/CommandOption", "required", "()Z"⟩ : MethodName) prog_1_method_14_code 1 (some .boolean) :: ws) ({ frames := 0, cells := 0, slots := 0, locals := 0 } : Room)) (fun aa_ U => aa_ = #[(.ref a)] ∧ Z.Warmed39 U.vm ∧ U.heap = h0) (fun _ _ _ _ _ => True) (fun _ U o U' => ∃ vv_ LL_, o = .returned vv_ ∧ Q_get_required Z a x h0 n0 vv_ U'.heap LL_ ∧ FrameEnd U o U' LL_ 0 0) := by
  refine MetFree.of_bodySF (plainFor_of_name pn_com_example_jiaoge_jiaoge_cli_CommandOption) hisR ?_
  intro p e s m args below meth c s₁ Bd hml0 hP hK
  obtain ⟨rfl, hZ, hh⟩ := hP
  have hx := Bd.exec
  have hby := Bd.bytes
  have hml : c.maxLocals = 1 := hml0
  have hown : s.vm.findClass "com/example/jiaoge/jiaoge/cli/CommandOption" = some m.cls := findClass_of_methodNamed Bd.named
  have hnm := (name_of_methodNamed Bd.named Bd.method).1
  have X0 : Stand p l e ({ frames := 0, cells := 0, slots := 0, locals := 0 } : Room) s m #[(.ref a)] below meth c s₁ [] 0 0 := Stand.of_body Bd
  have e0 : s₁.heap = h0 := by rw [← hh, Bd.state]; rfl
  have N0 := Fr.nil n0
  have ef : entryFrame m #[(.ref a)] 1 = mkF m 0 #[.val (.ref a)] [] := by first | (simp [entryFrame, mkF, argsToLocals, Value.category]; done) | rfl
  refine Fin.start (Q := Q_get_required Z a x h0 n0) ef ?_
  show Fin _ _ _ _ _ _ _ (s₁.setTop (mkF m 0 #[.val (.ref a)] []))
  refine Fin.by (fun t k => XS.aloadN X0.here hx rfl (hb hby d_prog_1_method_14_0) rfl rfl k) ?_
  show Fin _ _ _ _ _ _ _ (s₁.setTop (mkF m 1 #[.val (.ref a)] [(.ref a)]))
  obtain ⟨T101, X101, e101, st101⟩ := getF X0 hx hZ hown (host := "") (Or.inl (hw _ (List.mem_of_getElem? (i := 51) rfl))) Via.refl e0 F0 (g := (mkF m 1 #[.val (.ref a)] [(.ref a)])) rfl rfl (hb hby d_prog_1_method_14_1)
  refine Fin.by (fun t k => st101 t k) ?_
  show Fin _ _ _ _ _ _ _ (T101.setTop (mkF m 4 #[.val (.ref a)] [(.int x)]))
  exact Fin.ret (v := some (.int (nar .boolean x))) X101 (fun h => by rw [Bd.returns] at h; cases h) Bd.notSynchronized (by rw [e101]; exact ⟨rfl, N0, rfl⟩) (by decide) (by decide) (fun fs hr => retN X101 hx (t := .boolean) Bd.returns (by simp) (hb hby d_prog_1_method_14_4) hr)
theorem d_prog_1_method_15_0 : decode prog_1_method_15_code 0 = .ok (.aload_n 0, 1) := by decide +kernel
theorem d_prog_1_method_15_1 : decode prog_1_method_15_code 1 = .ok (.getfield 23, 3) := by decide +kernel
theorem d_prog_1_method_15_4 : decode prog_1_method_15_code 4 = .ok (.ireturn, 1) := by decide +kernel
def Q_get_repeatable (Z : State) (a : Addr) (x : Int32) (h0 : Heap) (n0 : Nat) (vv_ : Option Value) (hh_ : Heap) (LL_ : List Loc) : Prop := vv_ = some (.int (nar .boolean x)) ∧ Fr n0 LL_ ∧ hh_ = h0
set_option maxRecDepth 65536 in
set_option maxHeartbeats 40000000 in
theorem rm_get_repeatable (l : Launch) (Z : State) (a0 : Array Value) (hw : ∀ d ∈ tables_1, d.before a0 Z = true) (ws : List Jvm.Cond) (a : Addr) (x : Int32) (h0 : Heap) (n0 : Nat) (Z0 : n0 ≤ h0.size) (F0 : Fld Z h0 a "com/example/jiaoge/jiaoge/cli/CommandOption" "repeatable" "Z" (.int x)) :
    MetFree l (⟨"com/example/jiaoge/jiaoge/cli/CommandOption", "repeatable", "()Z"⟩ : MethodName) (head1 (Jvm.Cond.code (⟨"com/example/jiaoge/jiaoge/cli/CommandOption", "repeatable", "()Z"⟩ : MethodName) prog_1_method_15_code 1 (some .boolean) :: ws) ({ frames := 0, cells := 0, slots := 0, locals := 0 } : Room)) (fun aa_ U => aa_ = #[(.ref a)] ∧ Z.Warmed39 U.vm ∧ U.heap = h0) (fun _ _ _ _ _ => True) (fun _ U o U' => ∃ vv_ LL_, o = .returned vv_ ∧ Q_get_repeatable Z a x h0 n0 vv_ U'.heap LL_ ∧ FrameEnd U o U' LL_ 0 0) := by
  refine MetFree.of_bodySF (plainFor_of_name pn_com_example_jiaoge_jiaoge_cli_CommandOption) hisR ?_
  intro p e s m args below meth c s₁ Bd hml0 hP hK
  obtain ⟨rfl, hZ, hh⟩ := hP
  have hx := Bd.exec
  have hby := Bd.bytes
  have hml : c.maxLocals = 1 := hml0
  have hown : s.vm.findClass "com/example/jiaoge/jiaoge/cli/CommandOption" = some m.cls := findClass_of_methodNamed Bd.named
  have hnm := (name_of_methodNamed Bd.named Bd.method).1
  have X0 : Stand p l e ({ frames := 0, cells := 0, slots := 0, locals := 0 } : Room) s m #[(.ref a)] below meth c s₁ [] 0 0 := Stand.of_body Bd
  have e0 : s₁.heap = h0 := by rw [← hh, Bd.state]; rfl
  have N0 := Fr.nil n0
  have ef : entryFrame m #[(.ref a)] 1 = mkF m 0 #[.val (.ref a)] [] := by first | (simp [entryFrame, mkF, argsToLocals, Value.category]; done) | rfl
  refine Fin.start (Q := Q_get_repeatable Z a x h0 n0) ef ?_
  show Fin _ _ _ _ _ _ _ (s₁.setTop (mkF m 0 #[.val (.ref a)] []))
  refine Fin.by (fun t k => XS.aloadN X0.here hx rfl (hb hby d_prog_1_method_15_0) rfl rfl k) ?_
  show Fin _ _ _ _ _ _ _ (s₁.setTop (mkF m 1 #[.val (.ref a)] [(.ref a)]))
  obtain ⟨T101, X101, e101, st101⟩ := getF X0 hx hZ hown (host := "") (Or.inl (hw _ (List.mem_of_getElem? (i := 53) rfl))) Via.refl e0 F0 (g := (mkF m 1 #[.val (.ref a)] [(.ref a)])) rfl rfl (hb hby d_prog_1_method_15_1)
  refine Fin.by (fun t k => st101 t k) ?_
  show Fin _ _ _ _ _ _ _ (T101.setTop (mkF m 4 #[.val (.ref a)] [(.int x)]))
  exact Fin.ret (v := some (.int (nar .boolean x))) X101 (fun h => by rw [Bd.returns] at h; cases h) Bd.notSynchronized (by rw [e101]; exact ⟨rfl, N0, rfl⟩) (by decide) (by decide) (fun fs hr => retN X101 hx (t := .boolean) Bd.returns (by simp) (hb hby d_prog_1_method_15_4) hr)
theorem d_prog_1_method_6_0 : decode prog_1_method_6_code 0 = .ok (.aload_n 0, 1) := by decide +kernel
theorem d_prog_1_method_6_1 : decode prog_1_method_6_code 1 = .ok (.getfield 13, 3) := by decide +kernel
theorem d_prog_1_method_6_4 : decode prog_1_method_6_code 4 = .ok (.ifnull 7, 3) := by decide +kernel
theorem d_prog_1_method_6_11 : decode prog_1_method_6_code 11 = .ok (.iconst 0, 1) := by decide +kernel
theorem d_prog_1_method_6_12 : decode prog_1_method_6_code 12 = .ok (.ireturn, 1) := by decide +kernel
theorem d_prog_1_method_6_7 : decode prog_1_method_6_code 7 = .ok (.iconst 1, 1) := by decide +kernel
theorem d_prog_1_method_6_8 : decode prog_1_method_6_code 8 = .ok (.goto 4, 3) := by decide +kernel
def Q_tak (Z : State) (a : Addr) (v : Value) (h0 : Heap) (n0 : Nat) (vv_ : Option Value) (hh_ : Heap) (LL_ : List Loc) : Prop := vv_ = some (.int (nar .boolean (tv v))) ∧ Fr n0 LL_ ∧ hh_ = h0
set_option maxRecDepth 65536 in
set_option maxHeartbeats 40000000 in
theorem rm_tak (l : Launch) (Z : State) (a0 : Array Value) (hw : ∀ d ∈ tables_1, d.before a0 Z = true) (ws : List Jvm.Cond) (a : Addr) (v : Value) (h0 : Heap) (n0 : Nat) (Z0 : n0 ≤ h0.size) (F0 : Fld Z h0 a "com/example/jiaoge/jiaoge/cli/CommandOption" "label" "Ljava/lang/String;" v) (r0 : v.isRef = true) :
    MetFree l (⟨"com/example/jiaoge/jiaoge/cli/CommandOption", "takesValue", "()Z"⟩ : MethodName) (head1 (Jvm.Cond.code (⟨"com/example/jiaoge/jiaoge/cli/CommandOption", "takesValue", "()Z"⟩ : MethodName) prog_1_method_6_code 1 (some .boolean) :: ws) ({ frames := 0, cells := 0, slots := 0, locals := 0 } : Room)) (fun aa_ U => aa_ = #[(.ref a)] ∧ Z.Warmed39 U.vm ∧ U.heap = h0) (fun _ _ _ _ _ => True) (fun _ U o U' => ∃ vv_ LL_, o = .returned vv_ ∧ Q_tak Z a v h0 n0 vv_ U'.heap LL_ ∧ FrameEnd U o U' LL_ 0 0) := by
  refine MetFree.of_bodySF (plainFor_of_name pn_com_example_jiaoge_jiaoge_cli_CommandOption) hisR ?_
  intro p e s m args below meth c s₁ Bd hml0 hP hK
  obtain ⟨rfl, hZ, hh⟩ := hP
  have hx := Bd.exec
  have hby := Bd.bytes
  have hml : c.maxLocals = 1 := hml0
  have hown : s.vm.findClass "com/example/jiaoge/jiaoge/cli/CommandOption" = some m.cls := findClass_of_methodNamed Bd.named
  have hnm := (name_of_methodNamed Bd.named Bd.method).1
  have X0 : Stand p l e ({ frames := 0, cells := 0, slots := 0, locals := 0 } : Room) s m #[(.ref a)] below meth c s₁ [] 0 0 := Stand.of_body Bd
  have e0 : s₁.heap = h0 := by rw [← hh, Bd.state]; rfl
  have N0 := Fr.nil n0
  have ef : entryFrame m #[(.ref a)] 1 = mkF m 0 #[.val (.ref a)] [] := by first | (simp [entryFrame, mkF, argsToLocals, Value.category]; done) | rfl
  refine Fin.start (Q := Q_tak Z a v h0 n0) ef ?_
  show Fin _ _ _ _ _ _ _ (s₁.setTop (mkF m 0 #[.val (.ref a)] []))
  refine Fin.by (fun t k => XS.aloadN X0.here hx rfl (hb hby d_prog_1_method_6_0) rfl rfl k) ?_
  show Fin _ _ _ _ _ _ _ (s₁.setTop (mkF m 1 #[.val (.ref a)] [(.ref a)]))
  obtain ⟨T101, X101, e101, st101⟩ := getF X0 hx hZ hown (host := "") (Or.inl (hw _ (List.mem_of_getElem? (i := 47) rfl))) Via.refl e0 F0 (g := (mkF m 1 #[.val (.ref a)] [(.ref a)])) rfl rfl (hb hby d_prog_1_method_6_1)
  refine Fin.by (fun t k => st101 t k) ?_
  show Fin _ _ _ _ _ _ _ (T101.setTop (mkF m 4 #[.val (.ref a)] [v]))
  rcases ref_cases r0 with hn | ⟨a102, hn⟩
  · refine Fin.by (fun t k => XnullYes X101 hx rfl hn (pc0 := 4) (pc' := 11) rfl (hb hby d_prog_1_method_6_4) rfl (by decide) (by decide) k) ?_
    show Fin _ _ _ _ _ _ _ (T101.setTop (mkF m 11 #[.val (.ref a)] []))
    refine Fin.by (fun t k => XS.iconst X101.here hx rfl (hb hby d_prog_1_method_6_11) k) ?_
    show Fin _ _ _ _ _ _ _ (T101.setTop (mkF m 12 #[.val (.ref a)] [(.int (0 : Int32))]))
    exact Fin.ret (v := some (.int (nar .boolean (0 : Int32)))) X101 (fun h => by rw [Bd.returns] at h; cases h) Bd.notSynchronized (by rw [e101]; exact ⟨(by rw [hn]; rfl), N0, rfl⟩) (by decide) (by decide) (fun fs hr => retN X101 hx (t := .boolean) Bd.returns (by simp) (hb hby d_prog_1_method_6_12) hr)
  · refine Fin.by (fun t k => XnullNo X101 hx rfl hn (hb hby d_prog_1_method_6_4) rfl k) ?_
    show Fin _ _ _ _ _ _ _ (T101.setTop (mkF m 7 #[.val (.ref a)] []))
    refine Fin.by (fun t k => XS.iconst X101.here hx rfl (hb hby d_prog_1_method_6_7) k) ?_
    show Fin _ _ _ _ _ _ _ (T101.setTop (mkF m 8 #[.val (.ref a)] [(.int (1 : Int32))]))
    refine Fin.by (fun t k => XS.goto X101.here hx rfl (pc0 := 8) (pc' := 12) rfl (hb hby d_prog_1_method_6_8) (by decide) (by decide) k) ?_
    show Fin _ _ _ _ _ _ _ (T101.setTop (mkF m 12 #[.val (.ref a)] [(.int (1 : Int32))]))
    exact Fin.ret (v := some (.int (nar .boolean (1 : Int32)))) X101 (fun h => by rw [Bd.returns] at h; cases h) Bd.notSynchronized (by rw [e101]; exact ⟨(by rw [hn]; rfl), N0, rfl⟩) (by decide) (by decide) (fun fs hr => retN X101 hx (t := .boolean) Bd.returns (by simp) (hb hby d_prog_1_method_6_12) hr)
theorem pd_56 : parseMethodDescriptor "([C)V" = some ⟨[(.array .char)], none⟩ := by decide +kernel
theorem pd_57 : parseMethodDescriptor "(Ljava/lang/String;Ljava/lang/String;Ljava/lang/String;)Lcom/example/jiaoge/jiaoge/cli/CommandOption;" = some ⟨[(.object "java/lang/String"), (.object "java/lang/String"), (.object "java/lang/String")], some (.object "com/example/jiaoge/jiaoge/cli/CommandOption")⟩ := by decide +kernel
theorem pd_58 : parseMethodDescriptor "()Ljava/lang/String;" = some ⟨[], some (.object "java/lang/String")⟩ := by decide +kernel
theorem pd_59 : parseMethodDescriptor "()Z" = some ⟨[], some .boolean⟩ := by decide +kernel
theorem pn_com_example_jiaoge_jiaoge_cli_CommandOptionOptionalPinLaw : plainName "com/example/jiaoge/jiaoge/cli/CommandOptionOptionalPinLaw" = true := by first | (simp [plainName, overriddenIn]; done) | decide +kernel
def Q_law (Z : State) (p1 : Int32) (p2 : Int32) (p3 : Int32) (p4 : Int32) (G1 : Int32) (h0 : Heap) (n0 : Nat) (vv_ : Option Value) (hh_ : Heap) (LL_ : List Loc) : Prop := vv_ = some (.int (1 : Int32)) ∧ Fr n0 LL_
set_option maxRecDepth 65536 in
set_option maxHeartbeats 40000000 in
theorem rm_law (l : Launch) (Z : State) (a0 : Array Value) (hw : ∀ d ∈ tables_1, d.before a0 Z = true) (ws : List Jvm.Cond) (p1 : Int32) (p2 : Int32) (p3 : Int32) (p4 : Int32) (G1 : Int32) (h0 : Heap) (n0 : Nat) (Z0 : n0 ≤ h0.size) (S1 : Sta Z Z.heap "java/lang/String" "COMPACT_STRINGS" "Z" (.int G1)) (P1 : ¬ G1 = 0) (OL : Old Z n0 h0) :
    MetFree l x (head1 (Jvm.Cond.code x code maxLocals ret :: ws) room_1) (fun aa_ U => aa_ = #[(.int p1), (.int p2), (.int p3), (.int p4)] ∧ Z.Warmed39 U.vm ∧ U.heap = h0) (fun _ _ _ _ _ => True) (fun _ U o U' => ∃ vv_ LL_, o = .returned vv_ ∧ Q_law Z p1 p2 p3 p4 G1 h0 n0 vv_ U'.heap LL_ ∧ FrameEnd U o U' LL_ 32 192) := by
  refine MetFree.of_bodySF (plainFor_of_name pn_com_example_jiaoge_jiaoge_cli_CommandOptionOptionalPinLaw) hisR ?_
  intro p e s m args below meth c s₁ Bd hml0 hP hK
  obtain ⟨rfl, hZ, hh⟩ := hP
  have hx := Bd.exec
  have hby := Bd.bytes
  have hml : c.maxLocals = 8 := hml0
  have hown : s.vm.findClass "com/example/jiaoge/jiaoge/cli/CommandOptionOptionalPinLaw" = some m.cls := findClass_of_methodNamed Bd.named
  have hnm := (name_of_methodNamed Bd.named Bd.method).1
  have X0 : Stand p l e room_1 s m #[(.int p1), (.int p2), (.int p3), (.int p4)] below meth c s₁ [] 0 0 := Stand.of_body Bd
  have e0 : s₁.heap = h0 := by rw [← hh, Bd.state]; rfl
  have N0 := Fr.nil n0
  have ef : entryFrame m #[(.int p1), (.int p2), (.int p3), (.int p4)] maxLocals = mkF m 0 #[.val (.int p1), .val (.int p2), .val (.int p3), .val (.int p4), .unset, .unset, .unset, .unset] [] := by first | (simp [entryFrame, mkF, argsToLocals, Value.category, maxLocals]; done) | rfl
  refine Fin.start (Q := Q_law Z p1 p2 p3 p4 G1 h0 n0) ef ?_
  show Fin _ _ _ _ _ _ _ (s₁.setTop (mkF m 0 #[.val (.int p1), .val (.int p2), .val (.int p3), .val (.int p4), .unset, .unset, .unset, .unset] []))
  refine Fin.by (fun t k => XS.iloadN X0.here hx rfl (hb hby at_0) rfl k) ?_
  show Fin _ _ _ _ _ _ _ (s₁.setTop (mkF m 1 #[.val (.int p1), .val (.int p2), .val (.int p3), .val (.int p4), .unset, .unset, .unset, .unset] [(.int p4)]))
  refine Fin.by (fun t k => XS.iconst X0.here hx rfl (hb hby at_1) k) ?_
  show Fin _ _ _ _ _ _ _ (s₁.setTop (mkF m 2 #[.val (.int p1), .val (.int p2), .val (.int p3), .val (.int p4), .unset, .unset, .unset, .unset] [(.int (4 : Int32)), (.int p4)]))
  refine Fin.by (fun t k => XS.iand X0.here hx rfl (hb hby at_2) rfl k) ?_
  show Fin _ _ _ _ _ _ _ (s₁.setTop (mkF m 3 #[.val (.int p1), .val (.int p2), .val (.int p3), .val (.int p4), .unset, .unset, .unset, .unset] [(.int (p4 &&& (4 : Int32)))]))
  have J51 : ∀ (T101 : State) (h102 : Heap) (lc103 : List Loc) (v51 : Value), Stand p l e room_1 s m #[(.int p1), (.int p2), (.int p3), (.int p4)] below meth c T101 lc103 3 12 → T101.heap = h102 → Fr n0 lc103 → Keep h0 h102 [] → v51.isRef = true → Fin p e below s (Q_law Z p1 p2 p3 p4 G1 h0 n0) 32 192 (T101.setTop (mkF m 51 #[.val (.int p1), .val (.int p2), .val (.int p3), .val (.int p4), .unset, .unset, .unset, .unset] [v51])) := by
    intro T101 h102 lc103 v51 X104 e105 N106 K107 r51
    refine Fin.by (fun t k => XS.astore X104.here hx rfl (hb hby at_51) rfl r51 (l' := #[.val (.int p1), .val (.int p2), .val (.int p3), .val (.int p4), .val v51, .unset, .unset, .unset]) (XS.store1 (o := .unset) rfl (Or.inl rfl) (cat_ref r51)) k) ?_
    show Fin _ _ _ _ _ _ _ (T101.setTop (mkF m 53 #[.val (.int p1), .val (.int p2), .val (.int p3), .val (.int p4), .val v51, .unset, .unset, .unset] []))
    refine Fin.by (fun t k => XS.iloadN X104.here hx rfl (hb hby at_53) rfl k) ?_
    show Fin _ _ _ _ _ _ _ (T101.setTop (mkF m 54 #[.val (.int p1), .val (.int p2), .val (.int p3), .val (.int p4), .val v51, .unset, .unset, .unset] [(.int p4)]))
    refine Fin.by (fun t k => XS.iconst X104.here hx rfl (hb hby at_54) k) ?_
    show Fin _ _ _ _ _ _ _ (T101.setTop (mkF m 55 #[.val (.int p1), .val (.int p2), .val (.int p3), .val (.int p4), .val v51, .unset, .unset, .unset] [(.int (1 : Int32)), (.int p4)]))
    refine Fin.by (fun t k => XS.iand X104.here hx rfl (hb hby at_55) rfl k) ?_
    show Fin _ _ _ _ _ _ _ (T101.setTop (mkF m 56 #[.val (.int p1), .val (.int p2), .val (.int p3), .val (.int p4), .val v51, .unset, .unset, .unset] [(.int (p4 &&& (1 : Int32)))]))
    have J94 : ∀ (T131 : State) (h132 : Heap) (lc133 : List Loc) (v94 : Value), Stand p l e room_1 s m #[(.int p1), (.int p2), (.int p3), (.int p4)] below meth c T131 lc133 6 20 → T131.heap = h132 → Fr n0 lc133 → Keep h102 h132 [] → v94.isRef = true → Fin p e below s (Q_law Z p1 p2 p3 p4 G1 h0 n0) 32 192 (T131.setTop (mkF m 94 #[.val (.int p1), .val (.int p2), .val (.int p3), .val (.int p4), .val v51, .unset, .unset, .unset] [v94])) := by
      intro T131 h132 lc133 v94 X134 e135 N136 K137 r94
      refine Fin.by (fun t k => XS.astore X134.here hx rfl (hb hby at_94) rfl r94 (l' := #[.val (.int p1), .val (.int p2), .val (.int p3), .val (.int p4), .val v51, .val v94, .unset, .unset]) (XS.store1 (o := .unset) rfl (Or.inl rfl) (cat_ref r94)) k) ?_
      show Fin _ _ _ _ _ _ _ (T131.setTop (mkF m 96 #[.val (.int p1), .val (.int p2), .val (.int p3), .val (.int p4), .val v51, .val v94, .unset, .unset] []))
      refine Fin.by (fun t k => XS.iloadN X134.here hx rfl (hb hby at_96) rfl k) ?_
      show Fin _ _ _ _ _ _ _ (T131.setTop (mkF m 97 #[.val (.int p1), .val (.int p2), .val (.int p3), .val (.int p4), .val v51, .val v94, .unset, .unset] [(.int p4)]))
      refine Fin.by (fun t k => XS.iconst X134.here hx rfl (hb hby at_97) k) ?_
      show Fin _ _ _ _ _ _ _ (T131.setTop (mkF m 98 #[.val (.int p1), .val (.int p2), .val (.int p3), .val (.int p4), .val v51, .val v94, .unset, .unset] [(.int (2 : Int32)), (.int p4)]))
      refine Fin.by (fun t k => XS.iand X134.here hx rfl (hb hby at_98) rfl k) ?_
      show Fin _ _ _ _ _ _ _ (T131.setTop (mkF m 99 #[.val (.int p1), .val (.int p2), .val (.int p3), .val (.int p4), .val v51, .val v94, .unset, .unset] [(.int (p4 &&& (2 : Int32)))]))
      have J137 : ∀ (T158 : State) (h159 : Heap) (lc160 : List Loc) (v137 : Value), Stand p l e room_1 s m #[(.int p1), (.int p2), (.int p3), (.int p4)] below meth c T158 lc160 9 28 → T158.heap = h159 → Fr n0 lc160 → Keep h132 h159 [] → v137.isRef = true → Fin p e below s (Q_law Z p1 p2 p3 p4 G1 h0 n0) 32 192 (T158.setTop (mkF m 137 #[.val (.int p1), .val (.int p2), .val (.int p3), .val (.int p4), .val v51, .val v94, .unset, .unset] [v137])) := by
        intro T158 h159 lc160 v137 X161 e162 N163 K164 r137
        refine Fin.by (fun t k => XS.astore X161.here hx rfl (hb hby at_137) rfl r137 (l' := #[.val (.int p1), .val (.int p2), .val (.int p3), .val (.int p4), .val v51, .val v94, .val v137, .unset]) (XS.store1 (o := .unset) rfl (Or.inl rfl) (cat_ref r137)) k) ?_
        show Fin _ _ _ _ _ _ _ (T158.setTop (mkF m 139 #[.val (.int p1), .val (.int p2), .val (.int p3), .val (.int p4), .val v51, .val v94, .val v137, .unset] []))
        refine Fin.by (fun t k => XS.aload X161.here hx rfl (hb hby at_139) rfl r51 k) ?_
        show Fin _ _ _ _ _ _ _ (T158.setTop (mkF m 141 #[.val (.int p1), .val (.int p2), .val (.int p3), .val (.int p4), .val v51, .val v94, .val v137, .unset] [v51]))
        refine Fin.by (fun t k => XS.aload X161.here hx rfl (hb hby at_141) rfl r94 k) ?_
        show Fin _ _ _ _ _ _ _ (T158.setTop (mkF m 143 #[.val (.int p1), .val (.int p2), .val (.int p3), .val (.int p4), .val v51, .val v94, .val v137, .unset] [v94, v51]))
        refine Fin.by (fun t k => XS.aload X161.here hx rfl (hb hby at_143) rfl r137 k) ?_
        show Fin _ _ _ _ _ _ _ (T158.setTop (mkF m 145 #[.val (.int p1), .val (.int p2), .val (.int p3), .val (.int p4), .val v51, .val v94, .val v137, .unset] [v137, v94, v51]))
        have z185 : n0 ≤ h159.size := Nat.le_trans Z0 (Nat.le_trans (Nat.le_trans K107.1 K137.1) K164.1)
        obtain ⟨v186, _, ⟨T186, L186, k186, n186⟩, -, X186, ⟨Lc186, hQ186, l186, y186, z186⟩, st186⟩ := Jvm.LawKit.callS X161 hx (y := (⟨"com/example/jiaoge/jiaoge/cli/CommandOption", "optional", "(Ljava/lang/String;Ljava/lang/String;Ljava/lang/String;)Lcom/example/jiaoge/jiaoge/cli/CommandOption;"⟩ : MethodName)) hown (mvT hZ (hw _ (List.mem_of_getElem? (i := 30) rfl))) (mvT hZ (hw _ (List.mem_of_getElem? (i := 31) rfl))) (mvT hZ (hw _ (List.mem_of_getElem? (i := 32) rfl))) (mvT hZ (hw _ (List.mem_of_getElem? (i := 33) rfl))) (by decide) (backOf (W := 0) (rm_opt l Z a0 hw [] v51 v94 v137 h159 n0 z185 r51 r94 r137) hZ (hw _ (List.mem_of_getElem? (i := 33) rfl)) (hw _ (List.mem_of_getElem? (i := 32) rfl)) (by decide) (by decide)) (g := (mkF m 145 #[.val (.int p1), .val (.int p2), .val (.int p3), .val (.int p4), .val v51, .val v94, .val v137, .unset] [v137, v94, v51])) rfl (by rw [hml]; rfl) (argsL := [v51, v94, v137]) (rest := []) (lenOf pd_57 rfl) rfl (by show 2 * 0 + _ ≤ _; exact Nat.le_of_eq rfl) (hb hby at_145) (fun _ _ => ⟨rfl, e162, (by decide : 9 + 1 ≤ _), (by decide : 28 + 5 ≤ _)⟩)
        dsimp only [Pt.U, Pt.locs, Pt.cells, Pt.slots] at X186 l186 y186 z186 st186 hQ186
        subst l186 y186 z186
        obtain ⟨t187, rfl, Nq186, p186_0, p186_1, p186_2, p186_3, p186_4, p186_5, p186_6, p186_7⟩ := hQ186
        have N186_ := Fr.app N163 Nq186
        refine Fin.by (fun t k => st186 t k) ?_
        show Fin _ _ _ _ _ _ _ (T186.setTop (mkF m 148 #[.val (.int p1), .val (.int p2), .val (.int p3), .val (.int p4), .val v51, .val v94, .val v137, .unset] [(.ref t187)]))
        refine Fin.by (fun t k => XS.astore X186.here hx rfl (hb hby at_148) rfl rfl (l' := #[.val (.int p1), .val (.int p2), .val (.int p3), .val (.int p4), .val v51, .val v94, .val v137, .val (.ref t187)]) rfl k) ?_
        show Fin _ _ _ _ _ _ _ (T186.setTop (mkF m 150 #[.val (.int p1), .val (.int p2), .val (.int p3), .val (.int p4), .val v51, .val v94, .val v137, .val (.ref t187)] []))
        refine Fin.by (fun t k => XS.aload X186.here hx rfl (hb hby at_150) rfl rfl k) ?_
        show Fin _ _ _ _ _ _ _ (T186.setTop (mkF m 152 #[.val (.int p1), .val (.int p2), .val (.int p3), .val (.int p4), .val v51, .val v94, .val v137, .val (.ref t187)] [(.ref t187)]))
        refine Fin.by (fun t k => XS.ifnonnullYes X186.here hx rfl (pc0 := 152) (pc' := 157) rfl (hb hby at_152) rfl (by decide) (by decide) k) ?_
        show Fin _ _ _ _ _ _ _ (T186.setTop (mkF m 157 #[.val (.int p1), .val (.int p2), .val (.int p3), .val (.int p4), .val v51, .val v94, .val v137, .val (.ref t187)] []))
        refine Fin.by (fun t k => XS.aload X186.here hx rfl (hb hby at_157) rfl rfl k) ?_
        show Fin _ _ _ _ _ _ _ (T186.setTop (mkF m 159 #[.val (.int p1), .val (.int p2), .val (.int p3), .val (.int p4), .val v51, .val v94, .val v137, .val (.ref t187)] [(.ref t187)]))
        have z188 : n0 ≤ T186.heap.size := Nat.le_trans z185 p186_0.1
        obtain ⟨cq189, kq189, qa189, qb189, qc189⟩ := isOf hZ rfl p186_2
        obtain ⟨v189, _, ⟨T189, L189, k189, n189⟩, -, X189, ⟨Lc189, hQ189, l189, y189, z189⟩, st189⟩ := X186.virtualBack hx (y := (⟨"com/example/jiaoge/jiaoge/cli/CommandOption", "name", "()Ljava/lang/String;"⟩ : MethodName)) (z := (⟨"com/example/jiaoge/jiaoge/cli/CommandOption", "name", "()Ljava/lang/String;"⟩ : MethodName)) hown (mvT hZ (hw _ (List.mem_of_getElem? (i := 55) rfl))) (mvT hZ (hw _ (List.mem_of_getElem? (i := 56) rfl))) (notFace_of_selects (args := #[]) (mvT hZ (hw _ (List.mem_of_getElem? (i := 58) rfl)))) (mvT hZ (hw _ (List.mem_of_getElem? (i := 58) rfl))) (mvT hZ (hw _ (List.mem_of_getElem? (i := 57) rfl))) (by decide) (backOf (W := 0) (rm_get_name l Z a0 hw [] t187 v51 T186.heap n0 z188 p186_3 r51) hZ (hw _ (List.mem_of_getElem? (i := 59) rfl)) (hw _ (List.mem_of_getElem? (i := 32) rfl)) (by decide) (by decide)) qa189 qc189 (g := (mkF m 159 #[.val (.int p1), .val (.int p2), .val (.int p3), .val (.int p4), .val v51, .val v94, .val v137, .val (.ref t187)] [(.ref t187)])) rfl (by rw [hml]; rfl) (Steps.refl _) (argsL := []) (rest := []) (lenOf pd_58 rfl) rfl (by show 2 * 0 + _ ≤ _; exact Nat.le_of_eq rfl) (hb hby at_159) (fun _ _ => ⟨rfl, rfl, (by decide : 10 + 0 ≤ _), (by decide : 33 + 0 ≤ _)⟩)
        dsimp only [Pt.U, Pt.locs, Pt.cells, Pt.slots] at X189 l189 y189 z189 st189 hQ189
        subst l189 y189 z189
        obtain ⟨rfl, Nq189, e189_⟩ := hQ189
        have N189_ := Fr.app N186_ Nq189
        refine Fin.byS st189 ?_
        have e189 := e189_
        show Fin _ _ _ _ _ _ _ (T189.setTop (mkF m 162 #[.val (.int p1), .val (.int p2), .val (.int p3), .val (.int p4), .val v51, .val v94, .val v137, .val (.ref t187)] [v51]))
        refine Fin.by (fun t k => XS.aload X189.here hx rfl (hb hby at_162) rfl r51 k) ?_
        show Fin _ _ _ _ _ _ _ (T189.setTop (mkF m 164 #[.val (.int p1), .val (.int p2), .val (.int p3), .val (.int p4), .val v51, .val v94, .val v137, .val (.ref t187)] [v51, v51]))
        refine Fin.by (fun t k => Jvm.RoadKit.acmp (g := (mkF m 164 #[.val (.int p1), .val (.int p2), .val (.int p3), .val (.int p4), .val v51, .val v94, .val v137, .val (.ref t187)] [v51, v51])) X189 hx rfl r51 r51 (pc0 := 164) (pc' := 167) (same := true) rfl (hb hby at_164) rfl (decide_eq_true rfl) (by decide) (by decide) k) ?_
        show Fin _ _ _ _ _ _ _ (T189.setTop (mkF m 167 #[.val (.int p1), .val (.int p2), .val (.int p3), .val (.int p4), .val v51, .val v94, .val v137, .val (.ref t187)] []))
        refine Fin.by (fun t k => XS.aload X189.here hx rfl (hb hby at_167) rfl rfl k) ?_
        show Fin _ _ _ _ _ _ _ (T189.setTop (mkF m 169 #[.val (.int p1), .val (.int p2), .val (.int p3), .val (.int p4), .val v51, .val v94, .val v137, .val (.ref t187)] [(.ref t187)]))
        obtain ⟨cq190, kq190, qa190, qb190, qc190⟩ := isOf hZ e189 p186_2
        obtain ⟨v190, _, ⟨T190, L190, k190, n190⟩, -, X190, ⟨Lc190, hQ190, l190, y190, z190⟩, st190⟩ := X189.virtualBack hx (y := (⟨"com/example/jiaoge/jiaoge/cli/CommandOption", "label", "()Ljava/lang/String;"⟩ : MethodName)) (z := (⟨"com/example/jiaoge/jiaoge/cli/CommandOption", "label", "()Ljava/lang/String;"⟩ : MethodName)) hown (mvT hZ (hw _ (List.mem_of_getElem? (i := 60) rfl))) (mvT hZ (hw _ (List.mem_of_getElem? (i := 61) rfl))) (notFace_of_selects (args := #[]) (mvT hZ (hw _ (List.mem_of_getElem? (i := 63) rfl)))) (mvT hZ (hw _ (List.mem_of_getElem? (i := 63) rfl))) (mvT hZ (hw _ (List.mem_of_getElem? (i := 62) rfl))) (by decide) (backOf (W := 0) (rm_get_label l Z a0 hw [] t187 v94 T186.heap n0 z188 p186_4 r94) hZ (hw _ (List.mem_of_getElem? (i := 64) rfl)) (hw _ (List.mem_of_getElem? (i := 32) rfl)) (by decide) (by decide)) qa190 qc190 (g := (mkF m 169 #[.val (.int p1), .val (.int p2), .val (.int p3), .val (.int p4), .val v51, .val v94, .val v137, .val (.ref t187)] [(.ref t187)])) rfl (by rw [hml]; rfl) (Steps.refl _) (argsL := []) (rest := []) (lenOf pd_58 rfl) rfl (by show 2 * 0 + _ ≤ _; exact Nat.le_of_eq rfl) (hb hby at_169) (fun _ _ => ⟨rfl, e189, (by decide : 10 + 0 ≤ _), (by decide : 33 + 0 ≤ _)⟩)
        dsimp only [Pt.U, Pt.locs, Pt.cells, Pt.slots] at X190 l190 y190 z190 st190 hQ190
        subst l190 y190 z190
        obtain ⟨rfl, Nq190, e190_⟩ := hQ190
        have N190_ := Fr.app N189_ Nq190
        refine Fin.byS st190 ?_
        have e190 := e190_
        show Fin _ _ _ _ _ _ _ (T190.setTop (mkF m 172 #[.val (.int p1), .val (.int p2), .val (.int p3), .val (.int p4), .val v51, .val v94, .val v137, .val (.ref t187)] [v94]))
        refine Fin.by (fun t k => XS.aload X190.here hx rfl (hb hby at_172) rfl r94 k) ?_
        show Fin _ _ _ _ _ _ _ (T190.setTop (mkF m 174 #[.val (.int p1), .val (.int p2), .val (.int p3), .val (.int p4), .val v51, .val v94, .val v137, .val (.ref t187)] [v94, v94]))
        refine Fin.by (fun t k => Jvm.RoadKit.acmp (g := (mkF m 174 #[.val (.int p1), .val (.int p2), .val (.int p3), .val (.int p4), .val v51, .val v94, .val v137, .val (.ref t187)] [v94, v94])) X190 hx rfl r94 r94 (pc0 := 174) (pc' := 177) (same := true) rfl (hb hby at_174) rfl (decide_eq_true rfl) (by decide) (by decide) k) ?_
        show Fin _ _ _ _ _ _ _ (T190.setTop (mkF m 177 #[.val (.int p1), .val (.int p2), .val (.int p3), .val (.int p4), .val v51, .val v94, .val v137, .val (.ref t187)] []))
        refine Fin.by (fun t k => XS.aload X190.here hx rfl (hb hby at_177) rfl rfl k) ?_
        show Fin _ _ _ _ _ _ _ (T190.setTop (mkF m 179 #[.val (.int p1), .val (.int p2), .val (.int p3), .val (.int p4), .val v51, .val v94, .val v137, .val (.ref t187)] [(.ref t187)]))
        obtain ⟨cq191, kq191, qa191, qb191, qc191⟩ := isOf hZ e190 p186_2
        obtain ⟨v191, _, ⟨T191, L191, k191, n191⟩, -, X191, ⟨Lc191, hQ191, l191, y191, z191⟩, st191⟩ := X190.virtualBack hx (y := (⟨"com/example/jiaoge/jiaoge/cli/CommandOption", "help", "()Ljava/lang/String;"⟩ : MethodName)) (z := (⟨"com/example/jiaoge/jiaoge/cli/CommandOption", "help", "()Ljava/lang/String;"⟩ : MethodName)) hown (mvT hZ (hw _ (List.mem_of_getElem? (i := 65) rfl))) (mvT hZ (hw _ (List.mem_of_getElem? (i := 66) rfl))) (notFace_of_selects (args := #[]) (mvT hZ (hw _ (List.mem_of_getElem? (i := 68) rfl)))) (mvT hZ (hw _ (List.mem_of_getElem? (i := 68) rfl))) (mvT hZ (hw _ (List.mem_of_getElem? (i := 67) rfl))) (by decide) (backOf (W := 0) (rm_get_help l Z a0 hw [] t187 v137 T186.heap n0 z188 p186_5 r137) hZ (hw _ (List.mem_of_getElem? (i := 69) rfl)) (hw _ (List.mem_of_getElem? (i := 32) rfl)) (by decide) (by decide)) qa191 qc191 (g := (mkF m 179 #[.val (.int p1), .val (.int p2), .val (.int p3), .val (.int p4), .val v51, .val v94, .val v137, .val (.ref t187)] [(.ref t187)])) rfl (by rw [hml]; rfl) (Steps.refl _) (argsL := []) (rest := []) (lenOf pd_58 rfl) rfl (by show 2 * 0 + _ ≤ _; exact Nat.le_of_eq rfl) (hb hby at_179) (fun _ _ => ⟨rfl, e190, (by decide : 10 + 0 ≤ _), (by decide : 33 + 0 ≤ _)⟩)
        dsimp only [Pt.U, Pt.locs, Pt.cells, Pt.slots] at X191 l191 y191 z191 st191 hQ191
        subst l191 y191 z191
        obtain ⟨rfl, Nq191, e191_⟩ := hQ191
        have N191_ := Fr.app N190_ Nq191
        refine Fin.byS st191 ?_
        have e191 := e191_
        show Fin _ _ _ _ _ _ _ (T191.setTop (mkF m 182 #[.val (.int p1), .val (.int p2), .val (.int p3), .val (.int p4), .val v51, .val v94, .val v137, .val (.ref t187)] [v137]))
        refine Fin.by (fun t k => XS.aload X191.here hx rfl (hb hby at_182) rfl r137 k) ?_
        show Fin _ _ _ _ _ _ _ (T191.setTop (mkF m 184 #[.val (.int p1), .val (.int p2), .val (.int p3), .val (.int p4), .val v51, .val v94, .val v137, .val (.ref t187)] [v137, v137]))
        refine Fin.by (fun t k => Jvm.RoadKit.acmp (g := (mkF m 184 #[.val (.int p1), .val (.int p2), .val (.int p3), .val (.int p4), .val v51, .val v94, .val v137, .val (.ref t187)] [v137, v137])) X191 hx rfl r137 r137 (pc0 := 184) (pc' := 187) (same := true) rfl (hb hby at_184) rfl (decide_eq_true rfl) (by decide) (by decide) k) ?_
        show Fin _ _ _ _ _ _ _ (T191.setTop (mkF m 187 #[.val (.int p1), .val (.int p2), .val (.int p3), .val (.int p4), .val v51, .val v94, .val v137, .val (.ref t187)] []))
        refine Fin.by (fun t k => XS.aload X191.here hx rfl (hb hby at_187) rfl rfl k) ?_
        show Fin _ _ _ _ _ _ _ (T191.setTop (mkF m 189 #[.val (.int p1), .val (.int p2), .val (.int p3), .val (.int p4), .val v51, .val v94, .val v137, .val (.ref t187)] [(.ref t187)]))
        obtain ⟨cq192, kq192, qa192, qb192, qc192⟩ := isOf hZ e191 p186_2
        obtain ⟨v192, _, ⟨T192, L192, k192, n192⟩, -, X192, ⟨Lc192, hQ192, l192, y192, z192⟩, st192⟩ := X191.virtualBack hx (y := (⟨"com/example/jiaoge/jiaoge/cli/CommandOption", "required", "()Z"⟩ : MethodName)) (z := (⟨"com/example/jiaoge/jiaoge/cli/CommandOption", "required", "()Z"⟩ : MethodName)) hown (mvT hZ (hw _ (List.mem_of_getElem? (i := 70) rfl))) (mvT hZ (hw _ (List.mem_of_getElem? (i := 71) rfl))) (notFace_of_selects (args := #[]) (mvT hZ (hw _ (List.mem_of_getElem? (i := 73) rfl)))) (mvT hZ (hw _ (List.mem_of_getElem? (i := 73) rfl))) (mvT hZ (hw _ (List.mem_of_getElem? (i := 72) rfl))) (by decide) (backOf (W := 0) (rm_get_required l Z a0 hw [] t187 (nar .boolean (0 : Int32)) T186.heap n0 z188 p186_6) hZ (hw _ (List.mem_of_getElem? (i := 74) rfl)) (hw _ (List.mem_of_getElem? (i := 32) rfl)) (by decide) (by decide)) qa192 qc192 (g := (mkF m 189 #[.val (.int p1), .val (.int p2), .val (.int p3), .val (.int p4), .val v51, .val v94, .val v137, .val (.ref t187)] [(.ref t187)])) rfl (by rw [hml]; rfl) (Steps.refl _) (argsL := []) (rest := []) (lenOf pd_59 rfl) rfl (by show 2 * 0 + _ ≤ _; exact Nat.le_of_eq rfl) (hb hby at_189) (fun _ _ => ⟨rfl, e191, (by decide : 10 + 0 ≤ _), (by decide : 33 + 0 ≤ _)⟩)
        dsimp only [Pt.U, Pt.locs, Pt.cells, Pt.slots] at X192 l192 y192 z192 st192 hQ192
        subst l192 y192 z192
        obtain ⟨rfl, Nq192, e192_⟩ := hQ192
        have N192_ := Fr.app N191_ Nq192
        refine Fin.byS st192 ?_
        have e192 := e192_
        show Fin _ _ _ _ _ _ _ (T192.setTop (mkF m 192 #[.val (.int p1), .val (.int p2), .val (.int p3), .val (.int p4), .val v51, .val v94, .val v137, .val (.ref t187)] [(.int (nar .boolean (nar .boolean (0 : Int32))))]))
        refine Fin.by (fun t k => XS.ifNo X192.here hx rfl (hb hby at_192) rfl ((if0 _ _).trans (teq (by decide : (nar .boolean (nar .boolean (0 : Int32))) = (0 : Int32))).2) k) ?_
        show Fin _ _ _ _ _ _ _ (T192.setTop (mkF m 195 #[.val (.int p1), .val (.int p2), .val (.int p3), .val (.int p4), .val v51, .val v94, .val v137, .val (.ref t187)] []))
        refine Fin.by (fun t k => XS.aload X192.here hx rfl (hb hby at_195) rfl rfl k) ?_
        show Fin _ _ _ _ _ _ _ (T192.setTop (mkF m 197 #[.val (.int p1), .val (.int p2), .val (.int p3), .val (.int p4), .val v51, .val v94, .val v137, .val (.ref t187)] [(.ref t187)]))
        obtain ⟨cq193, kq193, qa193, qb193, qc193⟩ := isOf hZ e192 p186_2
        obtain ⟨v193, _, ⟨T193, L193, k193, n193⟩, -, X193, ⟨Lc193, hQ193, l193, y193, z193⟩, st193⟩ := X192.virtualBack hx (y := (⟨"com/example/jiaoge/jiaoge/cli/CommandOption", "repeatable", "()Z"⟩ : MethodName)) (z := (⟨"com/example/jiaoge/jiaoge/cli/CommandOption", "repeatable", "()Z"⟩ : MethodName)) hown (mvT hZ (hw _ (List.mem_of_getElem? (i := 75) rfl))) (mvT hZ (hw _ (List.mem_of_getElem? (i := 76) rfl))) (notFace_of_selects (args := #[]) (mvT hZ (hw _ (List.mem_of_getElem? (i := 78) rfl)))) (mvT hZ (hw _ (List.mem_of_getElem? (i := 78) rfl))) (mvT hZ (hw _ (List.mem_of_getElem? (i := 77) rfl))) (by decide) (backOf (W := 0) (rm_get_repeatable l Z a0 hw [] t187 (nar .boolean (0 : Int32)) T186.heap n0 z188 p186_7) hZ (hw _ (List.mem_of_getElem? (i := 79) rfl)) (hw _ (List.mem_of_getElem? (i := 32) rfl)) (by decide) (by decide)) qa193 qc193 (g := (mkF m 197 #[.val (.int p1), .val (.int p2), .val (.int p3), .val (.int p4), .val v51, .val v94, .val v137, .val (.ref t187)] [(.ref t187)])) rfl (by rw [hml]; rfl) (Steps.refl _) (argsL := []) (rest := []) (lenOf pd_59 rfl) rfl (by show 2 * 0 + _ ≤ _; exact Nat.le_of_eq rfl) (hb hby at_197) (fun _ _ => ⟨rfl, e192, (by decide : 10 + 0 ≤ _), (by decide : 33 + 0 ≤ _)⟩)
        dsimp only [Pt.U, Pt.locs, Pt.cells, Pt.slots] at X193 l193 y193 z193 st193 hQ193
        subst l193 y193 z193
        obtain ⟨rfl, Nq193, e193_⟩ := hQ193
        have N193_ := Fr.app N192_ Nq193
        refine Fin.byS st193 ?_
        have e193 := e193_
        show Fin _ _ _ _ _ _ _ (T193.setTop (mkF m 200 #[.val (.int p1), .val (.int p2), .val (.int p3), .val (.int p4), .val v51, .val v94, .val v137, .val (.ref t187)] [(.int (nar .boolean (nar .boolean (0 : Int32))))]))
        refine Fin.by (fun t k => XS.ifNo X193.here hx rfl (hb hby at_200) rfl ((if0 _ _).trans (teq (by decide : (nar .boolean (nar .boolean (0 : Int32))) = (0 : Int32))).2) k) ?_
        show Fin _ _ _ _ _ _ _ (T193.setTop (mkF m 203 #[.val (.int p1), .val (.int p2), .val (.int p3), .val (.int p4), .val v51, .val v94, .val v137, .val (.ref t187)] []))
        refine Fin.by (fun t k => XS.aload X193.here hx rfl (hb hby at_203) rfl rfl k) ?_
        show Fin _ _ _ _ _ _ _ (T193.setTop (mkF m 205 #[.val (.int p1), .val (.int p2), .val (.int p3), .val (.int p4), .val v51, .val v94, .val v137, .val (.ref t187)] [(.ref t187)]))
        obtain ⟨cq194, kq194, qa194, qb194, qc194⟩ := isOf hZ e193 p186_2
        obtain ⟨v194, _, ⟨T194, L194, k194, n194⟩, -, X194, ⟨Lc194, hQ194, l194, y194, z194⟩, st194⟩ := X193.virtualBack hx (y := (⟨"com/example/jiaoge/jiaoge/cli/CommandOption", "takesValue", "()Z"⟩ : MethodName)) (z := (⟨"com/example/jiaoge/jiaoge/cli/CommandOption", "takesValue", "()Z"⟩ : MethodName)) hown (mvT hZ (hw _ (List.mem_of_getElem? (i := 80) rfl))) (mvT hZ (hw _ (List.mem_of_getElem? (i := 81) rfl))) (notFace_of_selects (args := #[]) (mvT hZ (hw _ (List.mem_of_getElem? (i := 83) rfl)))) (mvT hZ (hw _ (List.mem_of_getElem? (i := 83) rfl))) (mvT hZ (hw _ (List.mem_of_getElem? (i := 82) rfl))) (by decide) (backOf (W := 0) (rm_tak l Z a0 hw [] t187 v94 T186.heap n0 z188 p186_4 r94) hZ (hw _ (List.mem_of_getElem? (i := 84) rfl)) (hw _ (List.mem_of_getElem? (i := 32) rfl)) (by decide) (by decide)) qa194 qc194 (g := (mkF m 205 #[.val (.int p1), .val (.int p2), .val (.int p3), .val (.int p4), .val v51, .val v94, .val v137, .val (.ref t187)] [(.ref t187)])) rfl (by rw [hml]; rfl) (Steps.refl _) (argsL := []) (rest := []) (lenOf pd_59 rfl) rfl (by show 2 * 0 + _ ≤ _; exact Nat.le_of_eq rfl) (hb hby at_205) (fun _ _ => ⟨rfl, e193, (by decide : 10 + 0 ≤ _), (by decide : 33 + 0 ≤ _)⟩)
        dsimp only [Pt.U, Pt.locs, Pt.cells, Pt.slots] at X194 l194 y194 z194 st194 hQ194
        subst l194 y194 z194
        obtain ⟨rfl, Nq194, e194_⟩ := hQ194
        have N194_ := Fr.app N193_ Nq194
        refine Fin.byS st194 ?_
        have e194 := e194_
        show Fin _ _ _ _ _ _ _ (T194.setTop (mkF m 208 #[.val (.int p1), .val (.int p2), .val (.int p3), .val (.int p4), .val v51, .val v94, .val v137, .val (.ref t187)] [(.int (nar .boolean (tv v94)))]))
        refine Fin.by (fun t k => XS.aload X194.here hx rfl (hb hby at_208) rfl r94 k) ?_
        show Fin _ _ _ _ _ _ _ (T194.setTop (mkF m 210 #[.val (.int p1), .val (.int p2), .val (.int p3), .val (.int p4), .val v51, .val v94, .val v137, .val (.ref t187)] [v94, (.int (nar .boolean (tv v94)))]))
        rcases ref_cases r94 with hn | ⟨a195, hn⟩
        · refine Fin.by (fun t k => XnullYes X194 hx rfl hn (pc0 := 210) (pc' := 217) rfl (hb hby at_210) rfl (by decide) (by decide) k) ?_
          show Fin _ _ _ _ _ _ _ (T194.setTop (mkF m 217 #[.val (.int p1), .val (.int p2), .val (.int p3), .val (.int p4), .val v51, .val v94, .val v137, .val (.ref t187)] [(.int (nar .boolean (tv v94)))]))
          refine Fin.by (fun t k => XS.iconst X194.here hx rfl (hb hby at_217) k) ?_
          show Fin _ _ _ _ _ _ _ (T194.setTop (mkF m 218 #[.val (.int p1), .val (.int p2), .val (.int p3), .val (.int p4), .val v51, .val v94, .val v137, .val (.ref t187)] [(.int (0 : Int32)), (.int (nar .boolean (tv v94)))]))
          refine Fin.by (fun t k => XS.icmpNo X194.here hx rfl (hb hby at_218) rfl (teq (by rw [hn, tv_null]; decide : (nar .boolean (tv v94)) = (0 : Int32))).2 k) ?_
          show Fin _ _ _ _ _ _ _ (T194.setTop (mkF m 221 #[.val (.int p1), .val (.int p2), .val (.int p3), .val (.int p4), .val v51, .val v94, .val v137, .val (.ref t187)] []))
          refine Fin.by (fun t k => XS.iconst X194.here hx rfl (hb hby at_221) k) ?_
          show Fin _ _ _ _ _ _ _ (T194.setTop (mkF m 222 #[.val (.int p1), .val (.int p2), .val (.int p3), .val (.int p4), .val v51, .val v94, .val v137, .val (.ref t187)] [(.int (1 : Int32))]))
          refine Fin.by (fun t k => XS.goto X194.here hx rfl (pc0 := 222) (pc' := 226) rfl (hb hby at_222) (by decide) (by decide) k) ?_
          show Fin _ _ _ _ _ _ _ (T194.setTop (mkF m 226 #[.val (.int p1), .val (.int p2), .val (.int p3), .val (.int p4), .val v51, .val v94, .val v137, .val (.ref t187)] [(.int (1 : Int32))]))
          exact Fin.ret (v := some (.int (nar .boolean (1 : Int32)))) X194 (fun h => by rw [Bd.returns] at h; cases h) Bd.notSynchronized (by rw [e194]; exact ⟨rfl, N194_⟩) (by decide) (by decide) (fun fs hr => retN X194 hx (t := .boolean) Bd.returns (by simp) (hb hby at_226) hr)
        · refine Fin.by (fun t k => XnullNo X194 hx rfl hn (hb hby at_210) rfl k) ?_
          show Fin _ _ _ _ _ _ _ (T194.setTop (mkF m 213 #[.val (.int p1), .val (.int p2), .val (.int p3), .val (.int p4), .val v51, .val v94, .val v137, .val (.ref t187)] [(.int (nar .boolean (tv v94)))]))
          refine Fin.by (fun t k => XS.iconst X194.here hx rfl (hb hby at_213) k) ?_
          show Fin _ _ _ _ _ _ _ (T194.setTop (mkF m 214 #[.val (.int p1), .val (.int p2), .val (.int p3), .val (.int p4), .val v51, .val v94, .val v137, .val (.ref t187)] [(.int (1 : Int32)), (.int (nar .boolean (tv v94)))]))
          refine Fin.by (fun t k => XS.goto X194.here hx rfl (pc0 := 214) (pc' := 218) rfl (hb hby at_214) (by decide) (by decide) k) ?_
          show Fin _ _ _ _ _ _ _ (T194.setTop (mkF m 218 #[.val (.int p1), .val (.int p2), .val (.int p3), .val (.int p4), .val v51, .val v94, .val v137, .val (.ref t187)] [(.int (1 : Int32)), (.int (nar .boolean (tv v94)))]))
          refine Fin.by (fun t k => XS.icmpNo X194.here hx rfl (hb hby at_218) rfl (teq (by rw [hn, tv_ref]; decide : (nar .boolean (tv v94)) = (1 : Int32))).2 k) ?_
          show Fin _ _ _ _ _ _ _ (T194.setTop (mkF m 221 #[.val (.int p1), .val (.int p2), .val (.int p3), .val (.int p4), .val v51, .val v94, .val v137, .val (.ref t187)] []))
          refine Fin.by (fun t k => XS.iconst X194.here hx rfl (hb hby at_221) k) ?_
          show Fin _ _ _ _ _ _ _ (T194.setTop (mkF m 222 #[.val (.int p1), .val (.int p2), .val (.int p3), .val (.int p4), .val v51, .val v94, .val v137, .val (.ref t187)] [(.int (1 : Int32))]))
          refine Fin.by (fun t k => XS.goto X194.here hx rfl (pc0 := 222) (pc' := 226) rfl (hb hby at_222) (by decide) (by decide) k) ?_
          show Fin _ _ _ _ _ _ _ (T194.setTop (mkF m 226 #[.val (.int p1), .val (.int p2), .val (.int p3), .val (.int p4), .val v51, .val v94, .val v137, .val (.ref t187)] [(.int (1 : Int32))]))
          exact Fin.ret (v := some (.int (nar .boolean (1 : Int32)))) X194 (fun h => by rw [Bd.returns] at h; cases h) Bd.notSynchronized (by rw [e194]; exact ⟨rfl, N194_⟩) (by decide) (by decide) (fun fs hr => retN X194 hx (t := .boolean) Bd.returns (by simp) (hb hby at_226) hr)
      by_cases hc137 : (p4 &&& (2 : Int32)) = (0 : Int32)
      · refine Fin.by (fun t k => XS.ifYes X134.here hx rfl (pc0 := 99) (pc' := 106) rfl (hb hby at_99) rfl ((if0 _ _).trans (teq hc137).1) (by decide) (by decide) k) ?_
        show Fin _ _ _ _ _ _ _ (T131.setTop (mkF m 106 #[.val (.int p1), .val (.int p2), .val (.int p3), .val (.int p4), .val v51, .val v94, .unset, .unset] []))
        obtain ⟨T165, h165, X165, e165, E165, A165, D165, -, st165⟩ := newO X134 hx hZ hown (hw _ (List.mem_of_getElem? (i := 0) rfl)) (hw _ (List.mem_of_getElem? (i := 1) rfl)) (hw _ (List.mem_of_getElem? (i := 2) rfl)) e135 (g := (mkF m 106 #[.val (.int p1), .val (.int p2), .val (.int p3), .val (.int p4), .val v51, .val v94, .unset, .unset] [])) rfl (hb hby at_106) (by decide) (by decide)
        obtain ⟨a165, g165⟩ : ∃ z, z = h132.size := ⟨_, rfl⟩
        rw [← g165] at A165 D165 st165
        refine Fin.by (fun t k => st165 t k) ?_
        show Fin _ _ _ _ _ _ _ (T165.setTop (mkF m 109 #[.val (.int p1), .val (.int p2), .val (.int p3), .val (.int p4), .val v51, .val v94, .unset, .unset] [(.ref a165)]))
        refine Fin.by (fun t k => XS.dup X165.here hx rfl (hb hby at_109) rfl rfl k) ?_
        show Fin _ _ _ _ _ _ _ (T165.setTop (mkF m 110 #[.val (.int p1), .val (.int p2), .val (.int p3), .val (.int p4), .val v51, .val v94, .unset, .unset] [(.ref a165), (.ref a165)]))
        refine Fin.by (fun t k => XS.iconst X165.here hx rfl (hb hby at_110) k) ?_
        show Fin _ _ _ _ _ _ _ (T165.setTop (mkF m 111 #[.val (.int p1), .val (.int p2), .val (.int p3), .val (.int p4), .val v51, .val v94, .unset, .unset] [(.int (2 : Int32)), (.ref a165), (.ref a165)]))
        obtain ⟨T166, h166, k166, X166, e166, E166, A166, st166⟩ := newP X165 hx hZ (hw _ (List.mem_of_getElem? (i := 3) rfl)) e165 (g := (mkF m 111 #[.val (.int p1), .val (.int p2), .val (.int p3), .val (.int p4), .val v51, .val v94, .unset, .unset] [(.int (2 : Int32)), (.ref a165), (.ref a165)])) rfl (hb hby at_111) rfl (by decide) (cap := 2) (by decide) (by decide) (by decide) (by decide)
        obtain ⟨a166, g166⟩ : ∃ z, z = h165.size := ⟨_, rfl⟩
        rw [← g166] at A166 st166
        refine Fin.by (fun t k => st166 t k) ?_
        have V166 : Arv Z h166 a166 k166 .char (2 : Int32) [(.int (0 : Int32)), (.int (0 : Int32))] (.int (0 : Int32)) := (Arv.new A166 (by decide)).pad (pad_rep [] (.int (0 : Int32)) 2)
        show Fin _ _ _ _ _ _ _ (T166.setTop (mkF m 113 #[.val (.int p1), .val (.int p2), .val (.int p3), .val (.int p4), .val v51, .val v94, .unset, .unset] [(.ref a166), (.ref a165), (.ref a165)]))
        refine Fin.by (fun t k => XS.dup X166.here hx rfl (hb hby at_113) rfl rfl k) ?_
        show Fin _ _ _ _ _ _ _ (T166.setTop (mkF m 114 #[.val (.int p1), .val (.int p2), .val (.int p3), .val (.int p4), .val v51, .val v94, .unset, .unset] [(.ref a166), (.ref a166), (.ref a165), (.ref a165)]))
        refine Fin.by (fun t k => XS.iconst X166.here hx rfl (hb hby at_114) k) ?_
        show Fin _ _ _ _ _ _ _ (T166.setTop (mkF m 115 #[.val (.int p1), .val (.int p2), .val (.int p3), .val (.int p4), .val v51, .val v94, .unset, .unset] [(.int (0 : Int32)), (.ref a166), (.ref a166), (.ref a165), (.ref a165)]))
        refine Fin.by (fun t k => XS.iloadN X166.here hx rfl (hb hby at_115) rfl k) ?_
        show Fin _ _ _ _ _ _ _ (T166.setTop (mkF m 116 #[.val (.int p1), .val (.int p2), .val (.int p3), .val (.int p4), .val v51, .val v94, .unset, .unset] [(.int p3), (.int (0 : Int32)), (.ref a166), (.ref a166), (.ref a165), (.ref a165)]))
        refine Fin.by (fun t k => XS.sipush X166.here hx rfl (hb hby at_116) k) ?_
        show Fin _ _ _ _ _ _ _ (T166.setTop (mkF m 119 #[.val (.int p1), .val (.int p2), .val (.int p3), .val (.int p4), .val v51, .val v94, .unset, .unset] [(.int (255 : Int32)), (.int p3), (.int (0 : Int32)), (.ref a166), (.ref a166), (.ref a165), (.ref a165)]))
        refine Fin.by (fun t k => XS.iand X166.here hx rfl (hb hby at_119) rfl k) ?_
        show Fin _ _ _ _ _ _ _ (T166.setTop (mkF m 120 #[.val (.int p1), .val (.int p2), .val (.int p3), .val (.int p4), .val v51, .val v94, .unset, .unset] [(.int (p3 &&& (255 : Int32))), (.int (0 : Int32)), (.ref a166), (.ref a166), (.ref a165), (.ref a165)]))
        refine Fin.by (fun t k => XS.i2c X166.here hx rfl (hb hby at_120) rfl k) ?_
        show Fin _ _ _ _ _ _ _ (T166.setTop (mkF m 121 #[.val (.int p1), .val (.int p2), .val (.int p3), .val (.int p4), .val v51, .val v94, .unset, .unset] [(.int ((p3 &&& (255 : Int32)).toUInt32.toUInt16.toUInt32.toInt32)), (.int (0 : Int32)), (.ref a166), (.ref a166), (.ref a165), (.ref a165)]))
        obtain ⟨cl167, Ar167, q167, S167, N167, H167, G167⟩ := id V166
        obtain ⟨T167, h167, X167, e167, W167, st167⟩ := stC X166 hx hZ e166 Ar167 (j := (0 : Int32)) (inb_of S167 ⟨by decide, by decide⟩) (g := (mkF m 121 #[.val (.int p1), .val (.int p2), .val (.int p3), .val (.int p4), .val v51, .val v94, .unset, .unset] [(.int ((p3 &&& (255 : Int32)).toUInt32.toUInt16.toUInt32.toInt32)), (.int (0 : Int32)), (.ref a166), (.ref a166), (.ref a165), (.ref a165)])) rfl rfl (hb hby at_121)
        have V167 : Arv Z h167 a166 k166 .char (2 : Int32) [(.int (nar .char ((p3 &&& (255 : Int32)).toUInt32.toUInt16.toUInt32.toInt32))), (.int (0 : Int32))] (.int (0 : Int32)) := Arv.set Ar167 q167 S167 N167 H167 G167 (fits_nar_char _) W167 0 rfl (Nat.le_of_ble_eq_true rfl)
        have z169 : n0 ≤ h165.size := Nat.le_trans Z0 (Nat.le_trans (Nat.le_trans K107.1 K137.1) E165.1)
        have g168 : n0 ≤ a166 := Nat.le_trans z169 (Nat.le_of_eq g166.symm)
        refine Fin.by (fun t k => st167 t k) ?_
        have N167_ := Fr.snoc X167 N136 g168
        show Fin _ _ _ _ _ _ _ (T167.setTop (mkF m 122 #[.val (.int p1), .val (.int p2), .val (.int p3), .val (.int p4), .val v51, .val v94, .unset, .unset] [(.ref a166), (.ref a165), (.ref a165)]))
        refine Fin.by (fun t k => XS.dup X167.here hx rfl (hb hby at_122) rfl rfl k) ?_
        show Fin _ _ _ _ _ _ _ (T167.setTop (mkF m 123 #[.val (.int p1), .val (.int p2), .val (.int p3), .val (.int p4), .val v51, .val v94, .unset, .unset] [(.ref a166), (.ref a166), (.ref a165), (.ref a165)]))
        refine Fin.by (fun t k => XS.iconst X167.here hx rfl (hb hby at_123) k) ?_
        show Fin _ _ _ _ _ _ _ (T167.setTop (mkF m 124 #[.val (.int p1), .val (.int p2), .val (.int p3), .val (.int p4), .val v51, .val v94, .unset, .unset] [(.int (1 : Int32)), (.ref a166), (.ref a166), (.ref a165), (.ref a165)]))
        refine Fin.by (fun t k => XS.iloadN X167.here hx rfl (hb hby at_124) rfl k) ?_
        show Fin _ _ _ _ _ _ _ (T167.setTop (mkF m 125 #[.val (.int p1), .val (.int p2), .val (.int p3), .val (.int p4), .val v51, .val v94, .unset, .unset] [(.int p3), (.int (1 : Int32)), (.ref a166), (.ref a166), (.ref a165), (.ref a165)]))
        refine Fin.by (fun t k => XS.bipush X167.here hx rfl (hb hby at_125) k) ?_
        show Fin _ _ _ _ _ _ _ (T167.setTop (mkF m 127 #[.val (.int p1), .val (.int p2), .val (.int p3), .val (.int p4), .val v51, .val v94, .unset, .unset] [(.int (8 : Int32)), (.int p3), (.int (1 : Int32)), (.ref a166), (.ref a166), (.ref a165), (.ref a165)]))
        refine Fin.by (fun t k => XS.iushr X167.here hx rfl (hb hby at_127) rfl k) ?_
        show Fin _ _ _ _ _ _ _ (T167.setTop (mkF m 128 #[.val (.int p1), .val (.int p2), .val (.int p3), .val (.int p4), .val v51, .val v94, .unset, .unset] [(.int ((p3.toUInt32 >>> ((8 : Int32) &&& 31).toUInt32).toInt32)), (.int (1 : Int32)), (.ref a166), (.ref a166), (.ref a165), (.ref a165)]))
        refine Fin.by (fun t k => XS.sipush X167.here hx rfl (hb hby at_128) k) ?_
        show Fin _ _ _ _ _ _ _ (T167.setTop (mkF m 131 #[.val (.int p1), .val (.int p2), .val (.int p3), .val (.int p4), .val v51, .val v94, .unset, .unset] [(.int (255 : Int32)), (.int ((p3.toUInt32 >>> ((8 : Int32) &&& 31).toUInt32).toInt32)), (.int (1 : Int32)), (.ref a166), (.ref a166), (.ref a165), (.ref a165)]))
        refine Fin.by (fun t k => XS.iand X167.here hx rfl (hb hby at_131) rfl k) ?_
        show Fin _ _ _ _ _ _ _ (T167.setTop (mkF m 132 #[.val (.int p1), .val (.int p2), .val (.int p3), .val (.int p4), .val v51, .val v94, .unset, .unset] [(.int (((p3.toUInt32 >>> ((8 : Int32) &&& 31).toUInt32).toInt32) &&& (255 : Int32))), (.int (1 : Int32)), (.ref a166), (.ref a166), (.ref a165), (.ref a165)]))
        refine Fin.by (fun t k => XS.i2c X167.here hx rfl (hb hby at_132) rfl k) ?_
        show Fin _ _ _ _ _ _ _ (T167.setTop (mkF m 133 #[.val (.int p1), .val (.int p2), .val (.int p3), .val (.int p4), .val v51, .val v94, .unset, .unset] [(.int ((((p3.toUInt32 >>> ((8 : Int32) &&& 31).toUInt32).toInt32) &&& (255 : Int32)).toUInt32.toUInt16.toUInt32.toInt32)), (.int (1 : Int32)), (.ref a166), (.ref a166), (.ref a165), (.ref a165)]))
        obtain ⟨cl170, Ar170, q170, S170, N170, H170, G170⟩ := id V167
        obtain ⟨T170, h170, X170, e170, W170, st170⟩ := stC X167 hx hZ e167 Ar170 (j := (1 : Int32)) (inb_of S170 ⟨by decide, by decide⟩) (g := (mkF m 133 #[.val (.int p1), .val (.int p2), .val (.int p3), .val (.int p4), .val v51, .val v94, .unset, .unset] [(.int ((((p3.toUInt32 >>> ((8 : Int32) &&& 31).toUInt32).toInt32) &&& (255 : Int32)).toUInt32.toUInt16.toUInt32.toInt32)), (.int (1 : Int32)), (.ref a166), (.ref a166), (.ref a165), (.ref a165)])) rfl rfl (hb hby at_133)
        have V170 : Arv Z h170 a166 k166 .char (2 : Int32) [(.int (nar .char ((p3 &&& (255 : Int32)).toUInt32.toUInt16.toUInt32.toInt32))), (.int (nar .char ((((p3.toUInt32 >>> ((8 : Int32) &&& 31).toUInt32).toInt32) &&& (255 : Int32)).toUInt32.toUInt16.toUInt32.toInt32)))] (.int (0 : Int32)) := Arv.set Ar170 q170 S170 N170 H170 G170 (fits_nar_char _) W170 1 rfl (Nat.le_of_ble_eq_true rfl)
        refine Fin.by (fun t k => st170 t k) ?_
        have N170_ := Fr.snoc X170 N167_ g168
        show Fin _ _ _ _ _ _ _ (T170.setTop (mkF m 134 #[.val (.int p1), .val (.int p2), .val (.int p3), .val (.int p4), .val v51, .val v94, .unset, .unset] [(.ref a166), (.ref a165), (.ref a165)]))
        have E171 : Exa Z h170 a165 "java/lang/String" := (((A165.ext E166).wr W167).wr W170)
        have ne172 : a165 ≠ a166 := Nat.ne_of_lt (Nat.lt_of_lt_of_le A165.lt (Nat.le_of_eq g166.symm))
        have F173 : Fld Z h170 a165 "java/lang/String" "value" "[B" .null := ((((D165 (Or.inr (hw _ (List.mem_of_getElem? (i := 29) rfl))) (ty := (.array .byte)) (by decide) : Fld Z h165 a165 "java/lang/String" "value" "[B" .null).ext E166).other W167 (Or.inl ne172)).other W170 (Or.inl ne172))
        have F174 : Fld Z h170 a165 "java/lang/String" "coder" "B" (.int (0 : Int32)) := ((((D165 (Or.inr (hw _ (List.mem_of_getElem? (i := 27) rfl))) (ty := .byte) (by decide) : Fld Z h165 a165 "java/lang/String" "coder" "B" (.int (0 : Int32))).ext E166).other W167 (Or.inl ne172)).other W170 (Or.inl ne172))
        have z176 : n0 ≤ h132.size := Nat.le_trans Z0 (Nat.le_trans K107.1 K137.1)
        have g175 : n0 ≤ a165 := Nat.le_trans z176 (Nat.le_of_eq g165.symm)
        have z177 : n0 ≤ h170.size := Nat.le_trans Z0 (Nat.le_trans (Nat.le_trans (Nat.le_trans (Nat.le_trans (Nat.le_trans K107.1 K137.1) E165.1) E166.1) (Keep.of_wr W167).1) (Keep.of_wr W170).1)
        have O178 : Old Z n0 h170 := ((((((OL.keep K107 all0).keep K137 all0).ext E165).ext E166).wr W167 g168).wr W170 g168)
        obtain ⟨v179, _, ⟨T179, L179, k179, n179⟩, -, X179, ⟨Lc179, hQ179, l179, y179, z179⟩, st179⟩ := X170.specialBack hx (y := (⟨"java/lang/String", "<init>", "([C)V"⟩ : MethodName)) rfl hown (mvT hZ (hw _ (List.mem_of_getElem? (i := 4) rfl))) (mvT hZ (hw _ (List.mem_of_getElem? (i := 5) rfl))) (mvT hZ (hw _ (List.mem_of_getElem? (i := 6) rfl))) (by decide) (StrChars.Road.backV (W := 1) hZ (fun d hd => hw d (own_words d hd)) (kI := 4) (hw _ (List.mem_of_getElem? (i := 1) rfl)) (cs := ([(nar .char ((p3 &&& (255 : Int32)).toUInt32.toUInt16.toUInt32.toInt32)), (nar .char ((((p3.toUInt32 >>> ((8 : Int32) &&& 31).toUInt32).toInt32) &&& (255 : Int32)).toUInt32.toUInt16.toUInt32.toInt32))] : List Int32)) (bs := ([(nar .char ((p3 &&& (255 : Int32)).toUInt32.toUInt16.toUInt32.toInt32)), (nar .char ((((p3.toUInt32 >>> ((8 : Int32) &&& 31).toUInt32).toInt32) &&& (255 : Int32)).toUInt32.toUInt16.toUInt32.toInt32))] : List Int32).map (fun c => c.toInt8.toInt32)) (n := 2) g175 z177 E171 F173 F174 V170 (S1.ext O178.2) P1 rfl rfl (by decide) (by decide) (own_cons (own_c255 _) (own_cons (own_c255 _) own_nil)) rfl (by decide) (by decide)) (g := (mkF m 134 #[.val (.int p1), .val (.int p2), .val (.int p3), .val (.int p4), .val v51, .val v94, .unset, .unset] [(.ref a166), (.ref a165), (.ref a165)])) rfl (by rw [hml]; rfl) (Steps.refl _) (a := a165) (argsL := [(.ref a166)]) (rest := [(.ref a165)]) (lenOf pd_56 rfl) rfl (by show 2 * 0 + _ ≤ _; exact Nat.le_of_eq rfl) (hb hby at_134) (fun _ _ => ⟨rfl, e170, (by decide : 8 + 1 ≤ _), (by decide : 26 + 2 ≤ _)⟩)
        dsimp only [Pt.U, Pt.locs, Pt.cells, Pt.slots] at X179 l179 y179 z179 st179 hQ179
        subst l179 y179 z179
        obtain ⟨rfl, Nq179, K179, E179, C179, t179, kb179, gt179, ht179, nt179, V179, A179⟩ := hQ179
        have N179_ := Fr.app N170_ Nq179
        refine Fin.byS st179 ?_
        show Fin _ _ _ _ _ _ _ (T179.setTop (mkF m 137 #[.val (.int p1), .val (.int p2), .val (.int p3), .val (.int p4), .val v51, .val v94, .unset, .unset] [(.ref a165)]))
        have kp180 : Keep h132 h165 [] := (Keep.refl h132 []).ext E165
        have kp181 : Keep h132 h166 [] := kp180.ext E166
        have kp182 : Keep h132 h167 [] := kp181.wr W167 (Or.inr (Nat.le_trans E165.1 (Nat.le_of_eq g166.symm)))
        have kp183 : Keep h132 h170 [] := kp182.wr W170 (Or.inr (Nat.le_trans E165.1 (Nat.le_of_eq g166.symm)))
        have kp184 : Keep h132 T179.heap [] := kp183.trans K179 (allS (Or.inr (Nat.le_trans (Nat.le_refl _) (Nat.le_of_eq g165.symm))) all0)
        exact J137 T179 T179.heap _ (Value.ref a165) X179 rfl N179_ kp184 rfl
      · refine Fin.by (fun t k => XS.ifNo X134.here hx rfl (hb hby at_99) rfl ((if0 _ _).trans (feq hc137).1) k) ?_
        show Fin _ _ _ _ _ _ _ (T131.setTop (mkF m 102 #[.val (.int p1), .val (.int p2), .val (.int p3), .val (.int p4), .val v51, .val v94, .unset, .unset] []))
        refine Fin.by (fun t k => XS.aconstNull X134.here hx rfl (hb hby at_102) k) ?_
        show Fin _ _ _ _ _ _ _ (T131.setTop (mkF m 103 #[.val (.int p1), .val (.int p2), .val (.int p3), .val (.int p4), .val v51, .val v94, .unset, .unset] [.null]))
        refine Fin.by (fun t k => XS.goto X134.here hx rfl (pc0 := 103) (pc' := 137) rfl (hb hby at_103) (by decide) (by decide) k) ?_
        show Fin _ _ _ _ _ _ _ (T131.setTop (mkF m 137 #[.val (.int p1), .val (.int p2), .val (.int p3), .val (.int p4), .val v51, .val v94, .unset, .unset] [.null]))
        exact J137 T131 h132 _ Value.null (X134.more (by decide) (by decide)) e135 N136 (Keep.refl h132 []) rfl
    by_cases hc94 : (p4 &&& (1 : Int32)) = (0 : Int32)
    · refine Fin.by (fun t k => XS.ifYes X104.here hx rfl (pc0 := 56) (pc' := 63) rfl (hb hby at_56) rfl ((if0 _ _).trans (teq hc94).1) (by decide) (by decide) k) ?_
      show Fin _ _ _ _ _ _ _ (T101.setTop (mkF m 63 #[.val (.int p1), .val (.int p2), .val (.int p3), .val (.int p4), .val v51, .unset, .unset, .unset] []))
      obtain ⟨T138, h138, X138, e138, E138, A138, D138, -, st138⟩ := newO X104 hx hZ hown (hw _ (List.mem_of_getElem? (i := 0) rfl)) (hw _ (List.mem_of_getElem? (i := 1) rfl)) (hw _ (List.mem_of_getElem? (i := 2) rfl)) e105 (g := (mkF m 63 #[.val (.int p1), .val (.int p2), .val (.int p3), .val (.int p4), .val v51, .unset, .unset, .unset] [])) rfl (hb hby at_63) (by decide) (by decide)
      obtain ⟨a138, g138⟩ : ∃ z, z = h102.size := ⟨_, rfl⟩
      rw [← g138] at A138 D138 st138
      refine Fin.by (fun t k => st138 t k) ?_
      show Fin _ _ _ _ _ _ _ (T138.setTop (mkF m 66 #[.val (.int p1), .val (.int p2), .val (.int p3), .val (.int p4), .val v51, .unset, .unset, .unset] [(.ref a138)]))
      refine Fin.by (fun t k => XS.dup X138.here hx rfl (hb hby at_66) rfl rfl k) ?_
      show Fin _ _ _ _ _ _ _ (T138.setTop (mkF m 67 #[.val (.int p1), .val (.int p2), .val (.int p3), .val (.int p4), .val v51, .unset, .unset, .unset] [(.ref a138), (.ref a138)]))
      refine Fin.by (fun t k => XS.iconst X138.here hx rfl (hb hby at_67) k) ?_
      show Fin _ _ _ _ _ _ _ (T138.setTop (mkF m 68 #[.val (.int p1), .val (.int p2), .val (.int p3), .val (.int p4), .val v51, .unset, .unset, .unset] [(.int (2 : Int32)), (.ref a138), (.ref a138)]))
      obtain ⟨T139, h139, k139, X139, e139, E139, A139, st139⟩ := newP X138 hx hZ (hw _ (List.mem_of_getElem? (i := 3) rfl)) e138 (g := (mkF m 68 #[.val (.int p1), .val (.int p2), .val (.int p3), .val (.int p4), .val v51, .unset, .unset, .unset] [(.int (2 : Int32)), (.ref a138), (.ref a138)])) rfl (hb hby at_68) rfl (by decide) (cap := 2) (by decide) (by decide) (by decide) (by decide)
      obtain ⟨a139, g139⟩ : ∃ z, z = h138.size := ⟨_, rfl⟩
      rw [← g139] at A139 st139
      refine Fin.by (fun t k => st139 t k) ?_
      have V139 : Arv Z h139 a139 k139 .char (2 : Int32) [(.int (0 : Int32)), (.int (0 : Int32))] (.int (0 : Int32)) := (Arv.new A139 (by decide)).pad (pad_rep [] (.int (0 : Int32)) 2)
      show Fin _ _ _ _ _ _ _ (T139.setTop (mkF m 70 #[.val (.int p1), .val (.int p2), .val (.int p3), .val (.int p4), .val v51, .unset, .unset, .unset] [(.ref a139), (.ref a138), (.ref a138)]))
      refine Fin.by (fun t k => XS.dup X139.here hx rfl (hb hby at_70) rfl rfl k) ?_
      show Fin _ _ _ _ _ _ _ (T139.setTop (mkF m 71 #[.val (.int p1), .val (.int p2), .val (.int p3), .val (.int p4), .val v51, .unset, .unset, .unset] [(.ref a139), (.ref a139), (.ref a138), (.ref a138)]))
      refine Fin.by (fun t k => XS.iconst X139.here hx rfl (hb hby at_71) k) ?_
      show Fin _ _ _ _ _ _ _ (T139.setTop (mkF m 72 #[.val (.int p1), .val (.int p2), .val (.int p3), .val (.int p4), .val v51, .unset, .unset, .unset] [(.int (0 : Int32)), (.ref a139), (.ref a139), (.ref a138), (.ref a138)]))
      refine Fin.by (fun t k => XS.iloadN X139.here hx rfl (hb hby at_72) rfl k) ?_
      show Fin _ _ _ _ _ _ _ (T139.setTop (mkF m 73 #[.val (.int p1), .val (.int p2), .val (.int p3), .val (.int p4), .val v51, .unset, .unset, .unset] [(.int p2), (.int (0 : Int32)), (.ref a139), (.ref a139), (.ref a138), (.ref a138)]))
      refine Fin.by (fun t k => XS.sipush X139.here hx rfl (hb hby at_73) k) ?_
      show Fin _ _ _ _ _ _ _ (T139.setTop (mkF m 76 #[.val (.int p1), .val (.int p2), .val (.int p3), .val (.int p4), .val v51, .unset, .unset, .unset] [(.int (255 : Int32)), (.int p2), (.int (0 : Int32)), (.ref a139), (.ref a139), (.ref a138), (.ref a138)]))
      refine Fin.by (fun t k => XS.iand X139.here hx rfl (hb hby at_76) rfl k) ?_
      show Fin _ _ _ _ _ _ _ (T139.setTop (mkF m 77 #[.val (.int p1), .val (.int p2), .val (.int p3), .val (.int p4), .val v51, .unset, .unset, .unset] [(.int (p2 &&& (255 : Int32))), (.int (0 : Int32)), (.ref a139), (.ref a139), (.ref a138), (.ref a138)]))
      refine Fin.by (fun t k => XS.i2c X139.here hx rfl (hb hby at_77) rfl k) ?_
      show Fin _ _ _ _ _ _ _ (T139.setTop (mkF m 78 #[.val (.int p1), .val (.int p2), .val (.int p3), .val (.int p4), .val v51, .unset, .unset, .unset] [(.int ((p2 &&& (255 : Int32)).toUInt32.toUInt16.toUInt32.toInt32)), (.int (0 : Int32)), (.ref a139), (.ref a139), (.ref a138), (.ref a138)]))
      obtain ⟨cl140, Ar140, q140, S140, N140, H140, G140⟩ := id V139
      obtain ⟨T140, h140, X140, e140, W140, st140⟩ := stC X139 hx hZ e139 Ar140 (j := (0 : Int32)) (inb_of S140 ⟨by decide, by decide⟩) (g := (mkF m 78 #[.val (.int p1), .val (.int p2), .val (.int p3), .val (.int p4), .val v51, .unset, .unset, .unset] [(.int ((p2 &&& (255 : Int32)).toUInt32.toUInt16.toUInt32.toInt32)), (.int (0 : Int32)), (.ref a139), (.ref a139), (.ref a138), (.ref a138)])) rfl rfl (hb hby at_78)
      have V140 : Arv Z h140 a139 k139 .char (2 : Int32) [(.int (nar .char ((p2 &&& (255 : Int32)).toUInt32.toUInt16.toUInt32.toInt32))), (.int (0 : Int32))] (.int (0 : Int32)) := Arv.set Ar140 q140 S140 N140 H140 G140 (fits_nar_char _) W140 0 rfl (Nat.le_of_ble_eq_true rfl)
      have z142 : n0 ≤ h138.size := Nat.le_trans Z0 (Nat.le_trans K107.1 E138.1)
      have g141 : n0 ≤ a139 := Nat.le_trans z142 (Nat.le_of_eq g139.symm)
      refine Fin.by (fun t k => st140 t k) ?_
      have N140_ := Fr.snoc X140 N106 g141
      show Fin _ _ _ _ _ _ _ (T140.setTop (mkF m 79 #[.val (.int p1), .val (.int p2), .val (.int p3), .val (.int p4), .val v51, .unset, .unset, .unset] [(.ref a139), (.ref a138), (.ref a138)]))
      refine Fin.by (fun t k => XS.dup X140.here hx rfl (hb hby at_79) rfl rfl k) ?_
      show Fin _ _ _ _ _ _ _ (T140.setTop (mkF m 80 #[.val (.int p1), .val (.int p2), .val (.int p3), .val (.int p4), .val v51, .unset, .unset, .unset] [(.ref a139), (.ref a139), (.ref a138), (.ref a138)]))
      refine Fin.by (fun t k => XS.iconst X140.here hx rfl (hb hby at_80) k) ?_
      show Fin _ _ _ _ _ _ _ (T140.setTop (mkF m 81 #[.val (.int p1), .val (.int p2), .val (.int p3), .val (.int p4), .val v51, .unset, .unset, .unset] [(.int (1 : Int32)), (.ref a139), (.ref a139), (.ref a138), (.ref a138)]))
      refine Fin.by (fun t k => XS.iloadN X140.here hx rfl (hb hby at_81) rfl k) ?_
      show Fin _ _ _ _ _ _ _ (T140.setTop (mkF m 82 #[.val (.int p1), .val (.int p2), .val (.int p3), .val (.int p4), .val v51, .unset, .unset, .unset] [(.int p2), (.int (1 : Int32)), (.ref a139), (.ref a139), (.ref a138), (.ref a138)]))
      refine Fin.by (fun t k => XS.bipush X140.here hx rfl (hb hby at_82) k) ?_
      show Fin _ _ _ _ _ _ _ (T140.setTop (mkF m 84 #[.val (.int p1), .val (.int p2), .val (.int p3), .val (.int p4), .val v51, .unset, .unset, .unset] [(.int (8 : Int32)), (.int p2), (.int (1 : Int32)), (.ref a139), (.ref a139), (.ref a138), (.ref a138)]))
      refine Fin.by (fun t k => XS.iushr X140.here hx rfl (hb hby at_84) rfl k) ?_
      show Fin _ _ _ _ _ _ _ (T140.setTop (mkF m 85 #[.val (.int p1), .val (.int p2), .val (.int p3), .val (.int p4), .val v51, .unset, .unset, .unset] [(.int ((p2.toUInt32 >>> ((8 : Int32) &&& 31).toUInt32).toInt32)), (.int (1 : Int32)), (.ref a139), (.ref a139), (.ref a138), (.ref a138)]))
      refine Fin.by (fun t k => XS.sipush X140.here hx rfl (hb hby at_85) k) ?_
      show Fin _ _ _ _ _ _ _ (T140.setTop (mkF m 88 #[.val (.int p1), .val (.int p2), .val (.int p3), .val (.int p4), .val v51, .unset, .unset, .unset] [(.int (255 : Int32)), (.int ((p2.toUInt32 >>> ((8 : Int32) &&& 31).toUInt32).toInt32)), (.int (1 : Int32)), (.ref a139), (.ref a139), (.ref a138), (.ref a138)]))
      refine Fin.by (fun t k => XS.iand X140.here hx rfl (hb hby at_88) rfl k) ?_
      show Fin _ _ _ _ _ _ _ (T140.setTop (mkF m 89 #[.val (.int p1), .val (.int p2), .val (.int p3), .val (.int p4), .val v51, .unset, .unset, .unset] [(.int (((p2.toUInt32 >>> ((8 : Int32) &&& 31).toUInt32).toInt32) &&& (255 : Int32))), (.int (1 : Int32)), (.ref a139), (.ref a139), (.ref a138), (.ref a138)]))
      refine Fin.by (fun t k => XS.i2c X140.here hx rfl (hb hby at_89) rfl k) ?_
      show Fin _ _ _ _ _ _ _ (T140.setTop (mkF m 90 #[.val (.int p1), .val (.int p2), .val (.int p3), .val (.int p4), .val v51, .unset, .unset, .unset] [(.int ((((p2.toUInt32 >>> ((8 : Int32) &&& 31).toUInt32).toInt32) &&& (255 : Int32)).toUInt32.toUInt16.toUInt32.toInt32)), (.int (1 : Int32)), (.ref a139), (.ref a139), (.ref a138), (.ref a138)]))
      obtain ⟨cl143, Ar143, q143, S143, N143, H143, G143⟩ := id V140
      obtain ⟨T143, h143, X143, e143, W143, st143⟩ := stC X140 hx hZ e140 Ar143 (j := (1 : Int32)) (inb_of S143 ⟨by decide, by decide⟩) (g := (mkF m 90 #[.val (.int p1), .val (.int p2), .val (.int p3), .val (.int p4), .val v51, .unset, .unset, .unset] [(.int ((((p2.toUInt32 >>> ((8 : Int32) &&& 31).toUInt32).toInt32) &&& (255 : Int32)).toUInt32.toUInt16.toUInt32.toInt32)), (.int (1 : Int32)), (.ref a139), (.ref a139), (.ref a138), (.ref a138)])) rfl rfl (hb hby at_90)
      have V143 : Arv Z h143 a139 k139 .char (2 : Int32) [(.int (nar .char ((p2 &&& (255 : Int32)).toUInt32.toUInt16.toUInt32.toInt32))), (.int (nar .char ((((p2.toUInt32 >>> ((8 : Int32) &&& 31).toUInt32).toInt32) &&& (255 : Int32)).toUInt32.toUInt16.toUInt32.toInt32)))] (.int (0 : Int32)) := Arv.set Ar143 q143 S143 N143 H143 G143 (fits_nar_char _) W143 1 rfl (Nat.le_of_ble_eq_true rfl)
      refine Fin.by (fun t k => st143 t k) ?_
      have N143_ := Fr.snoc X143 N140_ g141
      show Fin _ _ _ _ _ _ _ (T143.setTop (mkF m 91 #[.val (.int p1), .val (.int p2), .val (.int p3), .val (.int p4), .val v51, .unset, .unset, .unset] [(.ref a139), (.ref a138), (.ref a138)]))
      have E144 : Exa Z h143 a138 "java/lang/String" := (((A138.ext E139).wr W140).wr W143)
      have ne145 : a138 ≠ a139 := Nat.ne_of_lt (Nat.lt_of_lt_of_le A138.lt (Nat.le_of_eq g139.symm))
      have F146 : Fld Z h143 a138 "java/lang/String" "value" "[B" .null := ((((D138 (Or.inr (hw _ (List.mem_of_getElem? (i := 29) rfl))) (ty := (.array .byte)) (by decide) : Fld Z h138 a138 "java/lang/String" "value" "[B" .null).ext E139).other W140 (Or.inl ne145)).other W143 (Or.inl ne145))
      have F147 : Fld Z h143 a138 "java/lang/String" "coder" "B" (.int (0 : Int32)) := ((((D138 (Or.inr (hw _ (List.mem_of_getElem? (i := 27) rfl))) (ty := .byte) (by decide) : Fld Z h138 a138 "java/lang/String" "coder" "B" (.int (0 : Int32))).ext E139).other W140 (Or.inl ne145)).other W143 (Or.inl ne145))
      have z149 : n0 ≤ h102.size := Nat.le_trans Z0 K107.1
      have g148 : n0 ≤ a138 := Nat.le_trans z149 (Nat.le_of_eq g138.symm)
      have z150 : n0 ≤ h143.size := Nat.le_trans Z0 (Nat.le_trans (Nat.le_trans (Nat.le_trans (Nat.le_trans K107.1 E138.1) E139.1) (Keep.of_wr W140).1) (Keep.of_wr W143).1)
      have O151 : Old Z n0 h143 := (((((OL.keep K107 all0).ext E138).ext E139).wr W140 g141).wr W143 g141)
      obtain ⟨v152, _, ⟨T152, L152, k152, n152⟩, -, X152, ⟨Lc152, hQ152, l152, y152, z152⟩, st152⟩ := X143.specialBack hx (y := (⟨"java/lang/String", "<init>", "([C)V"⟩ : MethodName)) rfl hown (mvT hZ (hw _ (List.mem_of_getElem? (i := 4) rfl))) (mvT hZ (hw _ (List.mem_of_getElem? (i := 5) rfl))) (mvT hZ (hw _ (List.mem_of_getElem? (i := 6) rfl))) (by decide) (StrChars.Road.backV (W := 1) hZ (fun d hd => hw d (own_words d hd)) (kI := 4) (hw _ (List.mem_of_getElem? (i := 1) rfl)) (cs := ([(nar .char ((p2 &&& (255 : Int32)).toUInt32.toUInt16.toUInt32.toInt32)), (nar .char ((((p2.toUInt32 >>> ((8 : Int32) &&& 31).toUInt32).toInt32) &&& (255 : Int32)).toUInt32.toUInt16.toUInt32.toInt32))] : List Int32)) (bs := ([(nar .char ((p2 &&& (255 : Int32)).toUInt32.toUInt16.toUInt32.toInt32)), (nar .char ((((p2.toUInt32 >>> ((8 : Int32) &&& 31).toUInt32).toInt32) &&& (255 : Int32)).toUInt32.toUInt16.toUInt32.toInt32))] : List Int32).map (fun c => c.toInt8.toInt32)) (n := 2) g148 z150 E144 F146 F147 V143 (S1.ext O151.2) P1 rfl rfl (by decide) (by decide) (own_cons (own_c255 _) (own_cons (own_c255 _) own_nil)) rfl (by decide) (by decide)) (g := (mkF m 91 #[.val (.int p1), .val (.int p2), .val (.int p3), .val (.int p4), .val v51, .unset, .unset, .unset] [(.ref a139), (.ref a138), (.ref a138)])) rfl (by rw [hml]; rfl) (Steps.refl _) (a := a138) (argsL := [(.ref a139)]) (rest := [(.ref a138)]) (lenOf pd_56 rfl) rfl (by show 2 * 0 + _ ≤ _; exact Nat.le_of_eq rfl) (hb hby at_91) (fun _ _ => ⟨rfl, e143, (by decide : 5 + 1 ≤ _), (by decide : 18 + 2 ≤ _)⟩)
      dsimp only [Pt.U, Pt.locs, Pt.cells, Pt.slots] at X152 l152 y152 z152 st152 hQ152
      subst l152 y152 z152
      obtain ⟨rfl, Nq152, K152, E152, C152, t152, kb152, gt152, ht152, nt152, V152, A152⟩ := hQ152
      have N152_ := Fr.app N143_ Nq152
      refine Fin.byS st152 ?_
      show Fin _ _ _ _ _ _ _ (T152.setTop (mkF m 94 #[.val (.int p1), .val (.int p2), .val (.int p3), .val (.int p4), .val v51, .unset, .unset, .unset] [(.ref a138)]))
      have kp153 : Keep h102 h138 [] := (Keep.refl h102 []).ext E138
      have kp154 : Keep h102 h139 [] := kp153.ext E139
      have kp155 : Keep h102 h140 [] := kp154.wr W140 (Or.inr (Nat.le_trans E138.1 (Nat.le_of_eq g139.symm)))
      have kp156 : Keep h102 h143 [] := kp155.wr W143 (Or.inr (Nat.le_trans E138.1 (Nat.le_of_eq g139.symm)))
      have kp157 : Keep h102 T152.heap [] := kp156.trans K152 (allS (Or.inr (Nat.le_trans (Nat.le_refl _) (Nat.le_of_eq g138.symm))) all0)
      exact J94 T152 T152.heap _ (Value.ref a138) X152 rfl N152_ kp157 rfl
    · refine Fin.by (fun t k => XS.ifNo X104.here hx rfl (hb hby at_56) rfl ((if0 _ _).trans (feq hc94).1) k) ?_
      show Fin _ _ _ _ _ _ _ (T101.setTop (mkF m 59 #[.val (.int p1), .val (.int p2), .val (.int p3), .val (.int p4), .val v51, .unset, .unset, .unset] []))
      refine Fin.by (fun t k => XS.aconstNull X104.here hx rfl (hb hby at_59) k) ?_
      show Fin _ _ _ _ _ _ _ (T101.setTop (mkF m 60 #[.val (.int p1), .val (.int p2), .val (.int p3), .val (.int p4), .val v51, .unset, .unset, .unset] [.null]))
      refine Fin.by (fun t k => XS.goto X104.here hx rfl (pc0 := 60) (pc' := 94) rfl (hb hby at_60) (by decide) (by decide) k) ?_
      show Fin _ _ _ _ _ _ _ (T101.setTop (mkF m 94 #[.val (.int p1), .val (.int p2), .val (.int p3), .val (.int p4), .val v51, .unset, .unset, .unset] [.null]))
      exact J94 T101 h102 _ Value.null (X104.more (by decide) (by decide)) e105 N106 (Keep.refl h102 []) rfl
  by_cases hc51 : (p4 &&& (4 : Int32)) = (0 : Int32)
  · refine Fin.by (fun t k => XS.ifYes X0.here hx rfl (pc0 := 3) (pc' := 10) rfl (hb hby at_3) rfl ((if0 _ _).trans (teq hc51).1) (by decide) (by decide) k) ?_
    show Fin _ _ _ _ _ _ _ (s₁.setTop (mkF m 10 #[.val (.int p1), .val (.int p2), .val (.int p3), .val (.int p4), .unset, .unset, .unset, .unset] []))
    obtain ⟨T108, h108, X108, e108, E108, A108, D108, -, st108⟩ := newO X0 hx hZ hown (hw _ (List.mem_of_getElem? (i := 0) rfl)) (hw _ (List.mem_of_getElem? (i := 1) rfl)) (hw _ (List.mem_of_getElem? (i := 2) rfl)) e0 (g := (mkF m 10 #[.val (.int p1), .val (.int p2), .val (.int p3), .val (.int p4), .unset, .unset, .unset, .unset] [])) rfl (hb hby at_10) (by decide) (by decide)
    obtain ⟨a108, g108⟩ : ∃ z, z = h0.size := ⟨_, rfl⟩
    rw [← g108] at A108 D108 st108
    refine Fin.by (fun t k => st108 t k) ?_
    show Fin _ _ _ _ _ _ _ (T108.setTop (mkF m 13 #[.val (.int p1), .val (.int p2), .val (.int p3), .val (.int p4), .unset, .unset, .unset, .unset] [(.ref a108)]))
    refine Fin.by (fun t k => XS.dup X108.here hx rfl (hb hby at_13) rfl rfl k) ?_
    show Fin _ _ _ _ _ _ _ (T108.setTop (mkF m 14 #[.val (.int p1), .val (.int p2), .val (.int p3), .val (.int p4), .unset, .unset, .unset, .unset] [(.ref a108), (.ref a108)]))
    refine Fin.by (fun t k => XS.iconst X108.here hx rfl (hb hby at_14) k) ?_
    show Fin _ _ _ _ _ _ _ (T108.setTop (mkF m 15 #[.val (.int p1), .val (.int p2), .val (.int p3), .val (.int p4), .unset, .unset, .unset, .unset] [(.int (4 : Int32)), (.ref a108), (.ref a108)]))
    obtain ⟨T109, h109, k109, X109, e109, E109, A109, st109⟩ := newP X108 hx hZ (hw _ (List.mem_of_getElem? (i := 3) rfl)) e108 (g := (mkF m 15 #[.val (.int p1), .val (.int p2), .val (.int p3), .val (.int p4), .unset, .unset, .unset, .unset] [(.int (4 : Int32)), (.ref a108), (.ref a108)])) rfl (hb hby at_15) rfl (by decide) (cap := 4) (by decide) (by decide) (by decide) (by decide)
    obtain ⟨a109, g109⟩ : ∃ z, z = h108.size := ⟨_, rfl⟩
    rw [← g109] at A109 st109
    refine Fin.by (fun t k => st109 t k) ?_
    have V109 : Arv Z h109 a109 k109 .char (4 : Int32) [(.int (0 : Int32)), (.int (0 : Int32)), (.int (0 : Int32)), (.int (0 : Int32))] (.int (0 : Int32)) := (Arv.new A109 (by decide)).pad (pad_rep [] (.int (0 : Int32)) 4)
    show Fin _ _ _ _ _ _ _ (T109.setTop (mkF m 17 #[.val (.int p1), .val (.int p2), .val (.int p3), .val (.int p4), .unset, .unset, .unset, .unset] [(.ref a109), (.ref a108), (.ref a108)]))
    refine Fin.by (fun t k => XS.dup X109.here hx rfl (hb hby at_17) rfl rfl k) ?_
    show Fin _ _ _ _ _ _ _ (T109.setTop (mkF m 18 #[.val (.int p1), .val (.int p2), .val (.int p3), .val (.int p4), .unset, .unset, .unset, .unset] [(.ref a109), (.ref a109), (.ref a108), (.ref a108)]))
    refine Fin.by (fun t k => XS.iconst X109.here hx rfl (hb hby at_18) k) ?_
    show Fin _ _ _ _ _ _ _ (T109.setTop (mkF m 19 #[.val (.int p1), .val (.int p2), .val (.int p3), .val (.int p4), .unset, .unset, .unset, .unset] [(.int (0 : Int32)), (.ref a109), (.ref a109), (.ref a108), (.ref a108)]))
    refine Fin.by (fun t k => XS.bipush X109.here hx rfl (hb hby at_19) k) ?_
    show Fin _ _ _ _ _ _ _ (T109.setTop (mkF m 21 #[.val (.int p1), .val (.int p2), .val (.int p3), .val (.int p4), .unset, .unset, .unset, .unset] [(.int (45 : Int32)), (.int (0 : Int32)), (.ref a109), (.ref a109), (.ref a108), (.ref a108)]))
    obtain ⟨cl110, Ar110, q110, S110, N110, H110, G110⟩ := id V109
    obtain ⟨T110, h110, X110, e110, W110, st110⟩ := stC X109 hx hZ e109 Ar110 (j := (0 : Int32)) (inb_of S110 ⟨by decide, by decide⟩) (g := (mkF m 21 #[.val (.int p1), .val (.int p2), .val (.int p3), .val (.int p4), .unset, .unset, .unset, .unset] [(.int (45 : Int32)), (.int (0 : Int32)), (.ref a109), (.ref a109), (.ref a108), (.ref a108)])) rfl rfl (hb hby at_21)
    have V110 : Arv Z h110 a109 k109 .char (4 : Int32) [(.int (nar .char (45 : Int32))), (.int (0 : Int32)), (.int (0 : Int32)), (.int (0 : Int32))] (.int (0 : Int32)) := Arv.set Ar110 q110 S110 N110 H110 G110 (fits_nar_char _) W110 0 rfl (Nat.le_of_ble_eq_true rfl)
    have z112 : n0 ≤ h108.size := Nat.le_trans Z0 E108.1
    have g111 : n0 ≤ a109 := Nat.le_trans z112 (Nat.le_of_eq g109.symm)
    refine Fin.by (fun t k => st110 t k) ?_
    have N110_ := Fr.snoc X110 N0 g111
    show Fin _ _ _ _ _ _ _ (T110.setTop (mkF m 22 #[.val (.int p1), .val (.int p2), .val (.int p3), .val (.int p4), .unset, .unset, .unset, .unset] [(.ref a109), (.ref a108), (.ref a108)]))
    refine Fin.by (fun t k => XS.dup X110.here hx rfl (hb hby at_22) rfl rfl k) ?_
    show Fin _ _ _ _ _ _ _ (T110.setTop (mkF m 23 #[.val (.int p1), .val (.int p2), .val (.int p3), .val (.int p4), .unset, .unset, .unset, .unset] [(.ref a109), (.ref a109), (.ref a108), (.ref a108)]))
    refine Fin.by (fun t k => XS.iconst X110.here hx rfl (hb hby at_23) k) ?_
    show Fin _ _ _ _ _ _ _ (T110.setTop (mkF m 24 #[.val (.int p1), .val (.int p2), .val (.int p3), .val (.int p4), .unset, .unset, .unset, .unset] [(.int (1 : Int32)), (.ref a109), (.ref a109), (.ref a108), (.ref a108)]))
    refine Fin.by (fun t k => XS.bipush X110.here hx rfl (hb hby at_24) k) ?_
    show Fin _ _ _ _ _ _ _ (T110.setTop (mkF m 26 #[.val (.int p1), .val (.int p2), .val (.int p3), .val (.int p4), .unset, .unset, .unset, .unset] [(.int (45 : Int32)), (.int (1 : Int32)), (.ref a109), (.ref a109), (.ref a108), (.ref a108)]))
    obtain ⟨cl113, Ar113, q113, S113, N113, H113, G113⟩ := id V110
    obtain ⟨T113, h113, X113, e113, W113, st113⟩ := stC X110 hx hZ e110 Ar113 (j := (1 : Int32)) (inb_of S113 ⟨by decide, by decide⟩) (g := (mkF m 26 #[.val (.int p1), .val (.int p2), .val (.int p3), .val (.int p4), .unset, .unset, .unset, .unset] [(.int (45 : Int32)), (.int (1 : Int32)), (.ref a109), (.ref a109), (.ref a108), (.ref a108)])) rfl rfl (hb hby at_26)
    have V113 : Arv Z h113 a109 k109 .char (4 : Int32) [(.int (nar .char (45 : Int32))), (.int (nar .char (45 : Int32))), (.int (0 : Int32)), (.int (0 : Int32))] (.int (0 : Int32)) := Arv.set Ar113 q113 S113 N113 H113 G113 (fits_nar_char _) W113 1 rfl (Nat.le_of_ble_eq_true rfl)
    refine Fin.by (fun t k => st113 t k) ?_
    have N113_ := Fr.snoc X113 N110_ g111
    show Fin _ _ _ _ _ _ _ (T113.setTop (mkF m 27 #[.val (.int p1), .val (.int p2), .val (.int p3), .val (.int p4), .unset, .unset, .unset, .unset] [(.ref a109), (.ref a108), (.ref a108)]))
    refine Fin.by (fun t k => XS.dup X113.here hx rfl (hb hby at_27) rfl rfl k) ?_
    show Fin _ _ _ _ _ _ _ (T113.setTop (mkF m 28 #[.val (.int p1), .val (.int p2), .val (.int p3), .val (.int p4), .unset, .unset, .unset, .unset] [(.ref a109), (.ref a109), (.ref a108), (.ref a108)]))
    refine Fin.by (fun t k => XS.iconst X113.here hx rfl (hb hby at_28) k) ?_
    show Fin _ _ _ _ _ _ _ (T113.setTop (mkF m 29 #[.val (.int p1), .val (.int p2), .val (.int p3), .val (.int p4), .unset, .unset, .unset, .unset] [(.int (2 : Int32)), (.ref a109), (.ref a109), (.ref a108), (.ref a108)]))
    refine Fin.by (fun t k => XS.iloadN X113.here hx rfl (hb hby at_29) rfl k) ?_
    show Fin _ _ _ _ _ _ _ (T113.setTop (mkF m 30 #[.val (.int p1), .val (.int p2), .val (.int p3), .val (.int p4), .unset, .unset, .unset, .unset] [(.int p1), (.int (2 : Int32)), (.ref a109), (.ref a109), (.ref a108), (.ref a108)]))
    refine Fin.by (fun t k => XS.sipush X113.here hx rfl (hb hby at_30) k) ?_
    show Fin _ _ _ _ _ _ _ (T113.setTop (mkF m 33 #[.val (.int p1), .val (.int p2), .val (.int p3), .val (.int p4), .unset, .unset, .unset, .unset] [(.int (255 : Int32)), (.int p1), (.int (2 : Int32)), (.ref a109), (.ref a109), (.ref a108), (.ref a108)]))
    refine Fin.by (fun t k => XS.iand X113.here hx rfl (hb hby at_33) rfl k) ?_
    show Fin _ _ _ _ _ _ _ (T113.setTop (mkF m 34 #[.val (.int p1), .val (.int p2), .val (.int p3), .val (.int p4), .unset, .unset, .unset, .unset] [(.int (p1 &&& (255 : Int32))), (.int (2 : Int32)), (.ref a109), (.ref a109), (.ref a108), (.ref a108)]))
    refine Fin.by (fun t k => XS.i2c X113.here hx rfl (hb hby at_34) rfl k) ?_
    show Fin _ _ _ _ _ _ _ (T113.setTop (mkF m 35 #[.val (.int p1), .val (.int p2), .val (.int p3), .val (.int p4), .unset, .unset, .unset, .unset] [(.int ((p1 &&& (255 : Int32)).toUInt32.toUInt16.toUInt32.toInt32)), (.int (2 : Int32)), (.ref a109), (.ref a109), (.ref a108), (.ref a108)]))
    obtain ⟨cl114, Ar114, q114, S114, N114, H114, G114⟩ := id V113
    obtain ⟨T114, h114, X114, e114, W114, st114⟩ := stC X113 hx hZ e113 Ar114 (j := (2 : Int32)) (inb_of S114 ⟨by decide, by decide⟩) (g := (mkF m 35 #[.val (.int p1), .val (.int p2), .val (.int p3), .val (.int p4), .unset, .unset, .unset, .unset] [(.int ((p1 &&& (255 : Int32)).toUInt32.toUInt16.toUInt32.toInt32)), (.int (2 : Int32)), (.ref a109), (.ref a109), (.ref a108), (.ref a108)])) rfl rfl (hb hby at_35)
    have V114 : Arv Z h114 a109 k109 .char (4 : Int32) [(.int (nar .char (45 : Int32))), (.int (nar .char (45 : Int32))), (.int (nar .char ((p1 &&& (255 : Int32)).toUInt32.toUInt16.toUInt32.toInt32))), (.int (0 : Int32))] (.int (0 : Int32)) := Arv.set Ar114 q114 S114 N114 H114 G114 (fits_nar_char _) W114 2 rfl (Nat.le_of_ble_eq_true rfl)
    refine Fin.by (fun t k => st114 t k) ?_
    have N114_ := Fr.snoc X114 N113_ g111
    show Fin _ _ _ _ _ _ _ (T114.setTop (mkF m 36 #[.val (.int p1), .val (.int p2), .val (.int p3), .val (.int p4), .unset, .unset, .unset, .unset] [(.ref a109), (.ref a108), (.ref a108)]))
    refine Fin.by (fun t k => XS.dup X114.here hx rfl (hb hby at_36) rfl rfl k) ?_
    show Fin _ _ _ _ _ _ _ (T114.setTop (mkF m 37 #[.val (.int p1), .val (.int p2), .val (.int p3), .val (.int p4), .unset, .unset, .unset, .unset] [(.ref a109), (.ref a109), (.ref a108), (.ref a108)]))
    refine Fin.by (fun t k => XS.iconst X114.here hx rfl (hb hby at_37) k) ?_
    show Fin _ _ _ _ _ _ _ (T114.setTop (mkF m 38 #[.val (.int p1), .val (.int p2), .val (.int p3), .val (.int p4), .unset, .unset, .unset, .unset] [(.int (3 : Int32)), (.ref a109), (.ref a109), (.ref a108), (.ref a108)]))
    refine Fin.by (fun t k => XS.iloadN X114.here hx rfl (hb hby at_38) rfl k) ?_
    show Fin _ _ _ _ _ _ _ (T114.setTop (mkF m 39 #[.val (.int p1), .val (.int p2), .val (.int p3), .val (.int p4), .unset, .unset, .unset, .unset] [(.int p1), (.int (3 : Int32)), (.ref a109), (.ref a109), (.ref a108), (.ref a108)]))
    refine Fin.by (fun t k => XS.bipush X114.here hx rfl (hb hby at_39) k) ?_
    show Fin _ _ _ _ _ _ _ (T114.setTop (mkF m 41 #[.val (.int p1), .val (.int p2), .val (.int p3), .val (.int p4), .unset, .unset, .unset, .unset] [(.int (8 : Int32)), (.int p1), (.int (3 : Int32)), (.ref a109), (.ref a109), (.ref a108), (.ref a108)]))
    refine Fin.by (fun t k => XS.iushr X114.here hx rfl (hb hby at_41) rfl k) ?_
    show Fin _ _ _ _ _ _ _ (T114.setTop (mkF m 42 #[.val (.int p1), .val (.int p2), .val (.int p3), .val (.int p4), .unset, .unset, .unset, .unset] [(.int ((p1.toUInt32 >>> ((8 : Int32) &&& 31).toUInt32).toInt32)), (.int (3 : Int32)), (.ref a109), (.ref a109), (.ref a108), (.ref a108)]))
    refine Fin.by (fun t k => XS.sipush X114.here hx rfl (hb hby at_42) k) ?_
    show Fin _ _ _ _ _ _ _ (T114.setTop (mkF m 45 #[.val (.int p1), .val (.int p2), .val (.int p3), .val (.int p4), .unset, .unset, .unset, .unset] [(.int (255 : Int32)), (.int ((p1.toUInt32 >>> ((8 : Int32) &&& 31).toUInt32).toInt32)), (.int (3 : Int32)), (.ref a109), (.ref a109), (.ref a108), (.ref a108)]))
    refine Fin.by (fun t k => XS.iand X114.here hx rfl (hb hby at_45) rfl k) ?_
    show Fin _ _ _ _ _ _ _ (T114.setTop (mkF m 46 #[.val (.int p1), .val (.int p2), .val (.int p3), .val (.int p4), .unset, .unset, .unset, .unset] [(.int (((p1.toUInt32 >>> ((8 : Int32) &&& 31).toUInt32).toInt32) &&& (255 : Int32))), (.int (3 : Int32)), (.ref a109), (.ref a109), (.ref a108), (.ref a108)]))
    refine Fin.by (fun t k => XS.i2c X114.here hx rfl (hb hby at_46) rfl k) ?_
    show Fin _ _ _ _ _ _ _ (T114.setTop (mkF m 47 #[.val (.int p1), .val (.int p2), .val (.int p3), .val (.int p4), .unset, .unset, .unset, .unset] [(.int ((((p1.toUInt32 >>> ((8 : Int32) &&& 31).toUInt32).toInt32) &&& (255 : Int32)).toUInt32.toUInt16.toUInt32.toInt32)), (.int (3 : Int32)), (.ref a109), (.ref a109), (.ref a108), (.ref a108)]))
    obtain ⟨cl115, Ar115, q115, S115, N115, H115, G115⟩ := id V114
    obtain ⟨T115, h115, X115, e115, W115, st115⟩ := stC X114 hx hZ e114 Ar115 (j := (3 : Int32)) (inb_of S115 ⟨by decide, by decide⟩) (g := (mkF m 47 #[.val (.int p1), .val (.int p2), .val (.int p3), .val (.int p4), .unset, .unset, .unset, .unset] [(.int ((((p1.toUInt32 >>> ((8 : Int32) &&& 31).toUInt32).toInt32) &&& (255 : Int32)).toUInt32.toUInt16.toUInt32.toInt32)), (.int (3 : Int32)), (.ref a109), (.ref a109), (.ref a108), (.ref a108)])) rfl rfl (hb hby at_47)
    have V115 : Arv Z h115 a109 k109 .char (4 : Int32) [(.int (nar .char (45 : Int32))), (.int (nar .char (45 : Int32))), (.int (nar .char ((p1 &&& (255 : Int32)).toUInt32.toUInt16.toUInt32.toInt32))), (.int (nar .char ((((p1.toUInt32 >>> ((8 : Int32) &&& 31).toUInt32).toInt32) &&& (255 : Int32)).toUInt32.toUInt16.toUInt32.toInt32)))] (.int (0 : Int32)) := Arv.set Ar115 q115 S115 N115 H115 G115 (fits_nar_char _) W115 3 rfl (Nat.le_of_ble_eq_true rfl)
    refine Fin.by (fun t k => st115 t k) ?_
    have N115_ := Fr.snoc X115 N114_ g111
    show Fin _ _ _ _ _ _ _ (T115.setTop (mkF m 48 #[.val (.int p1), .val (.int p2), .val (.int p3), .val (.int p4), .unset, .unset, .unset, .unset] [(.ref a109), (.ref a108), (.ref a108)]))
    have E116 : Exa Z h115 a108 "java/lang/String" := (((((A108.ext E109).wr W110).wr W113).wr W114).wr W115)
    have ne117 : a108 ≠ a109 := Nat.ne_of_lt (Nat.lt_of_lt_of_le A108.lt (Nat.le_of_eq g109.symm))
    have F118 : Fld Z h115 a108 "java/lang/String" "value" "[B" .null := ((((((D108 (Or.inr (hw _ (List.mem_of_getElem? (i := 29) rfl))) (ty := (.array .byte)) (by decide) : Fld Z h108 a108 "java/lang/String" "value" "[B" .null).ext E109).other W110 (Or.inl ne117)).other W113 (Or.inl ne117)).other W114 (Or.inl ne117)).other W115 (Or.inl ne117))
    have F119 : Fld Z h115 a108 "java/lang/String" "coder" "B" (.int (0 : Int32)) := ((((((D108 (Or.inr (hw _ (List.mem_of_getElem? (i := 27) rfl))) (ty := .byte) (by decide) : Fld Z h108 a108 "java/lang/String" "coder" "B" (.int (0 : Int32))).ext E109).other W110 (Or.inl ne117)).other W113 (Or.inl ne117)).other W114 (Or.inl ne117)).other W115 (Or.inl ne117))
    have g120 : n0 ≤ a108 := Nat.le_trans Z0 (Nat.le_of_eq g108.symm)
    have z121 : n0 ≤ h115.size := Nat.le_trans Z0 (Nat.le_trans (Nat.le_trans (Nat.le_trans (Nat.le_trans (Nat.le_trans E108.1 E109.1) (Keep.of_wr W110).1) (Keep.of_wr W113).1) (Keep.of_wr W114).1) (Keep.of_wr W115).1)
    have O122 : Old Z n0 h115 := ((((((OL.ext E108).ext E109).wr W110 g111).wr W113 g111).wr W114 g111).wr W115 g111)
    obtain ⟨v123, _, ⟨T123, L123, k123, n123⟩, -, X123, ⟨Lc123, hQ123, l123, y123, z123⟩, st123⟩ := X115.specialBack hx (y := (⟨"java/lang/String", "<init>", "([C)V"⟩ : MethodName)) rfl hown (mvT hZ (hw _ (List.mem_of_getElem? (i := 4) rfl))) (mvT hZ (hw _ (List.mem_of_getElem? (i := 5) rfl))) (mvT hZ (hw _ (List.mem_of_getElem? (i := 6) rfl))) (by decide) (StrChars.Road.backV (W := 1) hZ (fun d hd => hw d (own_words d hd)) (kI := 4) (hw _ (List.mem_of_getElem? (i := 1) rfl)) (cs := ([(nar .char (45 : Int32)), (nar .char (45 : Int32)), (nar .char ((p1 &&& (255 : Int32)).toUInt32.toUInt16.toUInt32.toInt32)), (nar .char ((((p1.toUInt32 >>> ((8 : Int32) &&& 31).toUInt32).toInt32) &&& (255 : Int32)).toUInt32.toUInt16.toUInt32.toInt32))] : List Int32)) (bs := ([(nar .char (45 : Int32)), (nar .char (45 : Int32)), (nar .char ((p1 &&& (255 : Int32)).toUInt32.toUInt16.toUInt32.toInt32)), (nar .char ((((p1.toUInt32 >>> ((8 : Int32) &&& 31).toUInt32).toInt32) &&& (255 : Int32)).toUInt32.toUInt16.toUInt32.toInt32))] : List Int32).map (fun c => c.toInt8.toInt32)) (n := 4) g120 z121 E116 F118 F119 V115 (S1.ext O122.2) P1 rfl rfl (by decide) (by decide) (own_cons (by decide) (own_cons (by decide) (own_cons (own_c255 _) (own_cons (own_c255 _) own_nil)))) rfl (by decide) (by decide)) (g := (mkF m 48 #[.val (.int p1), .val (.int p2), .val (.int p3), .val (.int p4), .unset, .unset, .unset, .unset] [(.ref a109), (.ref a108), (.ref a108)])) rfl (by rw [hml]; rfl) (Steps.refl _) (a := a108) (argsL := [(.ref a109)]) (rest := [(.ref a108)]) (lenOf pd_56 rfl) rfl (by show 2 * 0 + _ ≤ _; exact Nat.le_of_eq rfl) (hb hby at_48) (fun _ _ => ⟨rfl, e115, (by decide : 2 + 1 ≤ _), (by decide : 8 + 4 ≤ _)⟩)
    dsimp only [Pt.U, Pt.locs, Pt.cells, Pt.slots] at X123 l123 y123 z123 st123 hQ123
    subst l123 y123 z123
    obtain ⟨rfl, Nq123, K123, E123, C123, t123, kb123, gt123, ht123, nt123, V123, A123⟩ := hQ123
    have N123_ := Fr.app N115_ Nq123
    refine Fin.byS st123 ?_
    show Fin _ _ _ _ _ _ _ (T123.setTop (mkF m 51 #[.val (.int p1), .val (.int p2), .val (.int p3), .val (.int p4), .unset, .unset, .unset, .unset] [(.ref a108)]))
    have kp124 : Keep h0 h108 [] := (Keep.refl h0 []).ext E108
    have kp125 : Keep h0 h109 [] := kp124.ext E109
    have kp126 : Keep h0 h110 [] := kp125.wr W110 (Or.inr (Nat.le_trans E108.1 (Nat.le_of_eq g109.symm)))
    have kp127 : Keep h0 h113 [] := kp126.wr W113 (Or.inr (Nat.le_trans E108.1 (Nat.le_of_eq g109.symm)))
    have kp128 : Keep h0 h114 [] := kp127.wr W114 (Or.inr (Nat.le_trans E108.1 (Nat.le_of_eq g109.symm)))
    have kp129 : Keep h0 h115 [] := kp128.wr W115 (Or.inr (Nat.le_trans E108.1 (Nat.le_of_eq g109.symm)))
    have kp130 : Keep h0 T123.heap [] := kp129.trans K123 (allS (Or.inr (Nat.le_trans (Nat.le_refl _) (Nat.le_of_eq g108.symm))) all0)
    exact J51 T123 T123.heap _ (Value.ref a108) X123 rfl N123_ kp130 rfl
  · refine Fin.by (fun t k => XS.ifNo X0.here hx rfl (hb hby at_3) rfl ((if0 _ _).trans (feq hc51).1) k) ?_
    show Fin _ _ _ _ _ _ _ (s₁.setTop (mkF m 6 #[.val (.int p1), .val (.int p2), .val (.int p3), .val (.int p4), .unset, .unset, .unset, .unset] []))
    refine Fin.by (fun t k => XS.aconstNull X0.here hx rfl (hb hby at_6) k) ?_
    show Fin _ _ _ _ _ _ _ (s₁.setTop (mkF m 7 #[.val (.int p1), .val (.int p2), .val (.int p3), .val (.int p4), .unset, .unset, .unset, .unset] [.null]))
    refine Fin.by (fun t k => XS.goto X0.here hx rfl (pc0 := 7) (pc' := 51) rfl (hb hby at_7) (by decide) (by decide) k) ?_
    show Fin _ _ _ _ _ _ _ (s₁.setTop (mkF m 51 #[.val (.int p1), .val (.int p2), .val (.int p3), .val (.int p4), .unset, .unset, .unset, .unset] [.null]))
    exact J51 s₁ h0 _ Value.null (X0.more (by decide) (by decide)) e0 N0 (Keep.refl h0 []) rfl
set_option maxRecDepth 65536 in
set_option maxHeartbeats 40000000 in
theorem comes_1 {Post : Tables → Env → Array Value → State → Outcome → State → Prop} (hpost : ∀ tb e args s v u, (limb_1_1.after args s (.returned v) u = true ∧ limb_1_2.after args s (.returned v) u = true ∧ True) → FrameEnd s (.returned v) u (Jvm.fieldLocs frame_1_writes args s ++ Jvm.arrayLocs frame_1_arrays args s ++ Jvm.staticLocs frame_1_statics s) 32 192 → Post tb e args s (.returned v) u) :
    ArmFor flags0 classFile x code maxLocals ret World_1 tables_1 room_1 Calls_1 rest_1 Pre_1 Post := by
  intro l hfl _ _ p e ha hc hk s m args below hf hA hF happ hP
  obtain ⟨hcalls, hrest, hpre⟩ := hP
  obtain ⟨-, -, -, hnamed, -, -, -, hat⟩ := (Spec.applies_iff hf).mp happ
  obtain ⟨hg, hn⟩ := and_e (Cond.before_iff.mp (show (Jvm.Cond.and given_1 narrow_1).before args s = true from hpre))
  obtain ⟨q0, r0⟩ := and_e hg
  obtain ⟨q1, r1⟩ := and_e r0
  obtain ⟨q2, r2⟩ := and_e r1
  obtain ⟨q3, r3⟩ := and_e r2
  obtain ⟨w0, w1, w2, w3, rfl⟩ : ∃ w0 w1 w2 w3 : Value, args = #[w0, w1, w2, w3] := by
    have hs : args.size = 4 := by simpa [Cond.value, given_1] using q0
    obtain ⟨L⟩ := args
    match L, hs with
    | [w0, w1, w2, w3], _ => exact ⟨w0, w1, w2, w3, rfl⟩
  have hw := fun d (hd : d ∈ tables_1) => atoms_spec (ws := Jvm.Cond.code x code maxLocals ret :: tables_1) hat d (List.mem_cons_of_mem _ hd)
  obtain ⟨hsets, hown0⟩ := atoms_of _ (rest_1_c_eq ▸ (show rest_1_c.before _ s = true from hrest))
  have hfit : Fit s := fun {y c} hc i hi => by
    obtain ⟨ha, rfl⟩ := Array.getElem?_eq_some_iff.mp hc
    have q := List.all_eq_true.mp ((Array.all_eq_true_iff_forall_mem.mp hF) _ (Array.getElem_mem ha)) i (List.mem_range.mpr hi)
    simpa [Array.getElem?_eq_getElem hi] using q
  obtain ⟨i0, e0⟩ := is_v q1
  obtain rfl : w0 = (.int i0) := Option.some.inj e0
  obtain ⟨i1, e1⟩ := is_v q2
  obtain rfl : w1 = (.int i1) := Option.some.inj e1
  obtain ⟨i2, e2⟩ := is_v q3
  obtain rfl : w2 = (.int i2) := Option.some.inj e2
  obtain ⟨i3, e3⟩ := is_v r3
  obtain rfl : w3 = (.int i3) := Option.some.inj e3
  have nz_cs := not_v (Cond.before_iff.mp (hsets _ (List.mem_of_getElem? (i := 2) rfl)))
  obtain ⟨G1, ee_cs⟩ := is_v (Cond.before_iff.mp (hsets _ (List.mem_of_getElem? (i := 1) rfl)))
  have S1 : Sta s s.heap "java/lang/String" "COMPACT_STRINGS" "Z" (.int G1) := Sta.start ee_cs (Or.inl (hsets _ (List.mem_of_getElem? (i := 0) rfl)))
  have P1 : ¬ (G1 = (0 : Int32)) := gotF (Cond.eq_ints ee_cs (Term.int_eval (0))) nz_cs
  obtain ⟨n, o, h1, h2, h3, _, L, rfl, ⟨rfl, N⟩, hq⟩ := rm_law l s _ hw tables_1 i0 i1 i2 i3 G1 s.heap s.heap.size (Nat.le_refl _) S1 P1 (Old.start s) p e ha hc hk s m _ below hf ((Spec.applies_iff_loose hf).mp happ).1 ⟨rfl, State.Warmed39.refl s, rfl⟩ trivial
  refine ⟨n, _, h1, h2, h3, hpost _ _ _ _ _ _ ⟨Cond.after_iff.mpr rfl, Cond.after_iff.mpr (eq_i res_at (Term.int_eval (1)) rfl), trivial⟩ ⟨hq.1, hq.2.1, (hq.2.2.sift fun y hy => Or.inr (N y hy)).mono (by decide) (by decide)⟩⟩
theorem main_1_1 : Claimed_1_1 := comes_1 fun _ _ _ _ _ _ h hF => ⟨h.1, hF⟩
theorem main_1_2 : Claimed_1_2 := comes_1 fun _ _ _ _ _ _ h hF => ⟨h.2.1, hF⟩
end Jvm.Pilot.@@N@@
namespace Jvm.Pilot.@@N@@
open Jvm Jvm.ClassFile Sem Op Lib Jvm.Free Jvm.Stand Jvm.Pilot.@@N@@.Jvm.D
/-! MADE BY PROGRAM (witnessworld.py) out of the Statement's table words and the real class files: 21 classes; the members and pool entries that the words name. The judged class is class 1, her method 1. -/
namespace start1
open Jvm.ClassFile
def u (s : String) : CpInfo := .utf8 (stringToUtf16 s)
/-- a pool by its gaps: so many unusable entries, then the entry; so many at the end -/
def gap : Nat → List CpInfo → List CpInfo
  | 0, r => r
  | n + 1, r => .unusable :: gap n r
def poolList (es : List (Nat × CpInfo)) (last : Nat) : List CpInfo := es.foldr (fun e r => gap e.1 (e.2 :: r)) (gap last [])
def pool (es : List (Nat × CpInfo)) (last : Nat) : Array CpInfo := ⟨poolList es last⟩
def fileOf (pool : Array CpInfo) (this : Nat) (attrs : Array Attribute := #[]) (ms : Array MethodInfo := #[]) (fl : Nat := 33) (sup : Nat := 0) (ifs : Array Nat := #[]) (fds : Array FieldInfo := #[]) : ClassFile where
  minorVersion := 0
  majorVersion := 65
  constantPool := pool
  accessFlags := fl
  thisClass := this
  superClass := sup
  interfaces := ifs
  fields := fds
  methods := ms
  attributes := attrs
def plain (name : String) (sup : Option ClassId) : Class where
  name := name
  kind := .ordinary
  loader := none
  accessFlags := 33
  super := sup
  interfaces := #[]
  cf := none
  fields := #[]
  methods := #[]
  instanceTypes := #[]
  staticTypes := #[]
  resolved := #[]
  callSites := []
  init := .initialized
  statics := none
  mirror := none

def pool0 : Array CpInfo := pool [(5, u "<init>"), (0, u "()V"), (1, .class_ 10), (1, u "java/lang/Object")] 113

def k0c0 : Code := { maxStack := 0, maxLocals := 1, code := object_method_1_code, exceptionTable := #[], attributes := #[] }
def k0m0 : Method := { name := "<init>", desc := "()V", sig := { parameters := [], returnType := none }, accessFlags := 1, code := some k0c0 }
/-- java/lang/Object -/
def k0 : Class := { plain "java/lang/Object" none with
  accessFlags := 33
  interfaces := #[]
  cf := some (fileOf pool0 8 #[] #[{ accessFlags := 1, nameIndex := 5, descriptorIndex := 6, attributes := #[] }] 33 0 #[] #[])
  fields := #[]
  methods := #[k0m0]
  instanceTypes := #[]
  staticTypes := #[]
  resolved := Array.replicate 124 none
  statics := none }

def pool1 : Array CpInfo := pool [(2, .class_ 4), (1, u "java/lang/Object"), (0, u "<init>"), (0, u "()V"), (0, .class_ 8), (0, u "java/lang/String"), (0, .methodref 7 10), (0, .nameAndType 5 11), (0, u "([C)V"), (0, .methodref 13 14), (0, .class_ 15), (0, .nameAndType 16 17), (0, u "com/example/jiaoge/jiaoge/cli/CommandOption"), (0, u "optional"), (0, u "(Ljava/lang/String;Ljava/lang/String;Ljava/lang/String;)Lcom/example/jiaoge/jiaoge/cli/CommandOption;"), (0, .methodref 13 19), (0, .nameAndType 20 21), (0, u "name"), (0, u "()Ljava/lang/String;"), (0, .methodref 13 23), (0, .nameAndType 24 21), (0, u "label"), (0, .methodref 13 26), (0, .nameAndType 27 21), (0, u "help"), (0, .methodref 13 29), (0, .nameAndType 30 31), (0, u "required"), (0, u "()Z"), (0, .methodref 13 33), (0, .nameAndType 34 31), (0, u "repeatable"), (0, .methodref 13 36), (0, .nameAndType 37 31), (0, u "takesValue"), (0, .class_ 39), (0, u "com/example/jiaoge/jiaoge/cli/CommandOptionOptionalPinLaw"), (2, u "law"), (0, u "(IIII)Z")] 3

def k1m0 : Method := { name := "<init>", desc := "()V", sig := { parameters := [], returnType := none }, accessFlags := 1, code := none }
def k1c1 : Code := { maxStack := 7, maxLocals := 8, code := code, exceptionTable := #[], attributes := #[] }
def k1m1 : Method := { name := "law", desc := "(IIII)Z", sig := { parameters := [.int, .int, .int, .int], returnType := some .boolean }, accessFlags := 9, code := some k1c1 }
/-- com/example/jiaoge/jiaoge/cli/CommandOptionOptionalPinLaw -/
def k1 : Class := { plain "com/example/jiaoge/jiaoge/cli/CommandOptionOptionalPinLaw" (some 0) with
  accessFlags := 49
  interfaces := #[]
  cf := some (fileOf pool1 38 #[] #[{ accessFlags := 1, nameIndex := 5, descriptorIndex := 6, attributes := #[] }, { accessFlags := 9, nameIndex := 42, descriptorIndex := 43, attributes := #[] }] 49 2 #[] #[])
  fields := #[]
  methods := #[k1m0, k1m1]
  instanceTypes := #[]
  staticTypes := #[]
  resolved := Array.replicate 47 none
  statics := none }

def pool2 : Array CpInfo := pool [(1, .class_ 2), (0, u "java/io/Serializable"), (0, .class_ 4), (0, u "java/lang/Object")] 2

/-- java/io/Serializable -/
def k2 : Class := { plain "java/io/Serializable" (some 0) with
  accessFlags := 1537
  interfaces := #[]
  cf := some (fileOf pool2 1 #[] #[] 1537 3 #[] #[])
  fields := #[]
  methods := #[]
  instanceTypes := #[]
  staticTypes := #[]
  resolved := Array.replicate 7 none
  statics := none }

def pool3 : Array CpInfo := pool [(1, .class_ 2), (0, u "java/lang/Comparable"), (0, .class_ 4), (0, u "java/lang/Object")] 7

/-- java/lang/Comparable -/
def k3 : Class := { plain "java/lang/Comparable" (some 0) with
  accessFlags := 1537
  interfaces := #[]
  cf := some (fileOf pool3 1 #[] #[] 1537 3 #[] #[])
  fields := #[]
  methods := #[]
  instanceTypes := #[]
  staticTypes := #[]
  resolved := Array.replicate 12 none
  statics := none }

def pool4 : Array CpInfo := pool [(2, .class_ 4), (1, u "java/lang/CharSequence"), (42, .class_ 48), (0, u "java/lang/CharSequence$1CodePointIterator"), (10, .class_ 60), (0, u "java/lang/CharSequence$1CharIterator"), (5, .class_ 67), (0, u "java/lang/Object")] 63

/-- java/lang/CharSequence -/
def k4 : Class := { plain "java/lang/CharSequence" (some 0) with
  accessFlags := 1537
  interfaces := #[]
  cf := some (fileOf pool4 2 #[.nestMembers #[47, 59]] #[] 1537 66 #[] #[])
  fields := #[]
  methods := #[]
  instanceTypes := #[]
  staticTypes := #[]
  resolved := Array.replicate 131 none
  statics := none }

def pool5 : Array CpInfo := pool [(1, .class_ 2), (0, u "java/lang/constant/Constable"), (0, .class_ 4), (0, u "java/lang/Object")] 6

/-- java/lang/constant/Constable -/
def k5 : Class := { plain "java/lang/constant/Constable" (some 0) with
  accessFlags := 1537
  interfaces := #[]
  cf := some (fileOf pool5 1 #[] #[] 1537 3 #[] #[])
  fields := #[]
  methods := #[]
  instanceTypes := #[]
  staticTypes := #[]
  resolved := Array.replicate 11 none
  statics := none }

def pool6 : Array CpInfo := pool [(1, .class_ 2), (0, u "java/lang/constant/ConstantDesc"), (0, .class_ 4), (0, u "java/lang/Object")] 32

/-- java/lang/constant/ConstantDesc -/
def k6 : Class := { plain "java/lang/constant/ConstantDesc" (some 0) with
  accessFlags := 1537
  interfaces := #[]
  cf := some (fileOf pool6 1 #[] #[] 1537 3 #[] #[])
  fields := #[]
  methods := #[]
  instanceTypes := #[]
  staticTypes := #[]
  resolved := Array.replicate 37 none
  statics := none }

def pool7 : Array CpInfo := pool [(1, .methodref 2 3), (0, .class_ 4), (0, .nameAndType 5 6), (0, u "java/lang/Object"), (0, u "<init>"), (0, u "()V"), (2, .fieldref 10 11), (0, .class_ 12), (0, .nameAndType 13 14), (0, u "java/lang/String"), (0, u "value"), (0, u "[B"), (0, .fieldref 10 16), (0, .nameAndType 17 18), (0, u "coder"), (0, u "B"), (2, u "hash"), (0, u "I"), (2, u "hashIsZero"), (0, u "Z"), (0, .methodref 10 28), (0, .nameAndType 5 29), (0, u "([CIILjava/lang/Void;)V"), (8, .fieldref 10 39), (0, .nameAndType 40 26), (0, u "COMPACT_STRINGS"), (1, .class_ 44), (1, u "java/lang/StringUTF16"), (0, u "compress"), (1, .methodref 42 48), (0, .nameAndType 49 50), (0, u "coderFromArrayLen"), (0, u "([BI)B"), (126, .methodref 42 178), (0, .nameAndType 45 179), (0, u "([CII)[B"), (395, .class_ 576), (0, u "java/lang/CharSequence"), (22, u "CASE_INSENSITIVE_ORDER"), (0, u "Ljava/util/Comparator;"), (409, u "([C)V"), (90, u "serialPersistentFields"), (0, u "[Ljava/io/ObjectStreamField;"), (0, .class_ 1104), (0, u "java/lang/String$CaseInsensitiveComparator"), (1, .class_ 1107), (0, u "java/io/Serializable"), (0, .class_ 1109), (0, u "java/lang/Comparable"), (0, .class_ 1111), (0, u "java/lang/constant/Constable"), (0, .class_ 1113), (0, u "java/lang/constant/ConstantDesc"), (2, u "serialVersionUID"), (0, u "J"), (3, u "REPL"), (0, u "C"), (2, u "LATIN1"), (1, u "UTF16")] 323

def k7m0 : Method := { name := "<init>", desc := "()V", sig := { parameters := [], returnType := none }, accessFlags := 1, code := none }
def k7c1 : Code := { maxStack := 5, maxLocals := 2, code := jdk_42_method_3_code, exceptionTable := #[], attributes := #[] }
def k7m1 : Method := { name := "<init>", desc := "([C)V", sig := { parameters := [(.array .char)], returnType := none }, accessFlags := 1, code := some k7c1 }
def k7c2 : Code := { maxStack := 4, maxLocals := 6, code := jdk_42_method_149_code, exceptionTable := #[], attributes := #[] }
def k7m2 : Method := { name := "<init>", desc := "([CIILjava/lang/Void;)V", sig := { parameters := [(.array .char), .int, .int, (.object "java/lang/Void")], returnType := none }, accessFlags := 2, code := some k7c2 }
/-- java/lang/String -/
def k7 : Class := { plain "java/lang/String" (some 0) with
  accessFlags := 49
  interfaces := #[2, 3, 4, 5, 6]
  cf := some (fileOf pool7 10 #[.nestMembers #[1103]] #[{ accessFlags := 1, nameIndex := 5, descriptorIndex := 6, attributes := #[] }, { accessFlags := 1, nameIndex := 5, descriptorIndex := 1010, attributes := #[] }, { accessFlags := 2, nameIndex := 5, descriptorIndex := 29, attributes := #[] }] 49 2 #[1106, 1108, 575, 1110, 1112] #[{ accessFlags := 18, nameIndex := 13, descriptorIndex := 14, attributes := #[] }, { accessFlags := 18, nameIndex := 17, descriptorIndex := 18, attributes := #[] }, { accessFlags := 2, nameIndex := 21, descriptorIndex := 22, attributes := #[] }, { accessFlags := 2, nameIndex := 25, descriptorIndex := 26, attributes := #[] }, { accessFlags := 26, nameIndex := 1116, descriptorIndex := 1117, attributes := #[] }, { accessFlags := 24, nameIndex := 40, descriptorIndex := 26, attributes := #[] }, { accessFlags := 26, nameIndex := 1101, descriptorIndex := 1102, attributes := #[] }, { accessFlags := 26, nameIndex := 1121, descriptorIndex := 1122, attributes := #[] }, { accessFlags := 25, nameIndex := 599, descriptorIndex := 600, attributes := #[] }, { accessFlags := 24, nameIndex := 1125, descriptorIndex := 18, attributes := #[] }, { accessFlags := 24, nameIndex := 1127, descriptorIndex := 18, attributes := #[] }])
  fields := #[{ name := "value", type := (.array .byte), accessFlags := 18, slot := 0, constantValue := 0 }, { name := "coder", type := .byte, accessFlags := 18, slot := 1, constantValue := 0 }, { name := "hash", type := .int, accessFlags := 2, slot := 2, constantValue := 0 }, { name := "hashIsZero", type := .boolean, accessFlags := 2, slot := 3, constantValue := 0 }, { name := "serialVersionUID", type := .long, accessFlags := 26, slot := 0, constantValue := 0 }, { name := "COMPACT_STRINGS", type := .boolean, accessFlags := 24, slot := 1, constantValue := 0 }, { name := "serialPersistentFields", type := (.array (.object "java/io/ObjectStreamField")), accessFlags := 26, slot := 2, constantValue := 0 }, { name := "REPL", type := .char, accessFlags := 26, slot := 3, constantValue := 0 }, { name := "CASE_INSENSITIVE_ORDER", type := (.object "java/util/Comparator"), accessFlags := 25, slot := 4, constantValue := 0 }, { name := "LATIN1", type := .byte, accessFlags := 24, slot := 5, constantValue := 0 }, { name := "UTF16", type := .byte, accessFlags := 24, slot := 6, constantValue := 0 }]
  methods := #[k7m0, k7m1, k7m2]
  instanceTypes := #[(.array .byte), .byte, .int, .boolean]
  staticTypes := #[.long, .boolean, (.array (.object "java/io/ObjectStreamField")), .char, (.object "java/util/Comparator"), .byte, .byte]
  resolved := Array.replicate 1451 none
  statics := some 0 }

def pool8 : Array CpInfo := pool [(6, .class_ 8), (1, u "java/lang/Object"), (0, u "<init>"), (0, u "()V"), (1, .class_ 14), (1, u "java/lang/StringUTF16"), (31, u "$assertionsDisabled"), (0, u "Z"), (13, u "HI_BYTE_SHIFT"), (0, u "I"), (2, u "LO_BYTE_SHIFT"), (49, .methodref 12 116), (0, .nameAndType 117 118), (0, u "compress"), (0, u "([CI[BII)I"), (3, u "([CII)[B"), (138, u "coderFromArrayLen"), (0, u "([BI)B"), (106, .class_ 371), (1, u "java/lang/StringUTF16$LinesSpliterator"), (58, u "MAX_LENGTH"), (196, .class_ 628), (0, u "java/lang/StringUTF16$CodePointsSpliterator"), (0, .class_ 630), (0, u "java/lang/StringUTF16$CharsSpliterator")] 4

def k8m0 : Method := { name := "<init>", desc := "()V", sig := { parameters := [], returnType := none }, accessFlags := 0, code := none }
def k8c1 : Code := { maxStack := 2, maxLocals := 2, code := jdk_52_method_15_code, exceptionTable := #[], attributes := #[] }
def k8m1 : Method := { name := "coderFromArrayLen", desc := "([BI)B", sig := { parameters := [(.array .byte), .int], returnType := some .byte }, accessFlags := 8, code := some k8c1 }
def k8c2 : Code := { maxStack := 5, maxLocals := 6, code := jdk_52_method_16_code, exceptionTable := #[], attributes := #[] }
def k8m2 : Method := { name := "compress", desc := "([CII)[B", sig := { parameters := [(.array .char), .int, .int], returnType := some (.array .byte) }, accessFlags := 9, code := some k8c2 }
def k8c3 : Code := { maxStack := 3, maxLocals := 7, code := jdk_52_method_21_code, exceptionTable := #[], attributes := #[] }
def k8m3 : Method := { name := "compress", desc := "([CI[BII)I", sig := { parameters := [(.array .char), .int, (.array .byte), .int, .int], returnType := some .int }, accessFlags := 9, code := some k8c3 }
/-- java/lang/StringUTF16 -/
def k8 : Class := { plain "java/lang/StringUTF16" (some 0) with
  accessFlags := 48
  interfaces := #[]
  cf := some (fileOf pool8 12 #[.nestMembers #[627, 629, 369]] #[{ accessFlags := 0, nameIndex := 9, descriptorIndex := 10, attributes := #[] }, { accessFlags := 8, nameIndex := 261, descriptorIndex := 262, attributes := #[] }, { accessFlags := 9, nameIndex := 117, descriptorIndex := 122, attributes := #[] }, { accessFlags := 9, nameIndex := 117, descriptorIndex := 118, attributes := #[] }] 48 6 #[] #[{ accessFlags := 26, nameIndex := 61, descriptorIndex := 62, attributes := #[] }, { accessFlags := 26, nameIndex := 65, descriptorIndex := 62, attributes := #[] }, { accessFlags := 24, nameIndex := 430, descriptorIndex := 62, attributes := #[] }, { accessFlags := 4120, nameIndex := 46, descriptorIndex := 47, attributes := #[] }])
  fields := #[{ name := "HI_BYTE_SHIFT", type := .int, accessFlags := 26, slot := 0, constantValue := 0 }, { name := "LO_BYTE_SHIFT", type := .int, accessFlags := 26, slot := 1, constantValue := 0 }, { name := "MAX_LENGTH", type := .int, accessFlags := 24, slot := 2, constantValue := 0 }, { name := "$assertionsDisabled", type := .boolean, accessFlags := 4120, slot := 3, constantValue := 0 }]
  methods := #[k8m0, k8m1, k8m2, k8m3]
  instanceTypes := #[]
  staticTypes := #[.int, .int, .int, .boolean]
  resolved := Array.replicate 635 none
  statics := none }

def pool9 : Array CpInfo := pool [(1, .methodref 2 3), (0, .class_ 4), (0, .nameAndType 5 6), (0, u "java/lang/Object"), (0, u "<init>"), (0, u "()V"), (0, .class_ 8), (0, u "java/lang/Record")] 13

def k9c0 : Code := { maxStack := 1, maxLocals := 1, code := jdk_30_method_1_code, exceptionTable := #[], attributes := #[] }
def k9m0 : Method := { name := "<init>", desc := "()V", sig := { parameters := [], returnType := none }, accessFlags := 4, code := some k9c0 }
/-- java/lang/Record -/
def k9 : Class := { plain "java/lang/Record" (some 0) with
  accessFlags := 1057
  interfaces := #[]
  cf := some (fileOf pool9 7 #[] #[{ accessFlags := 4, nameIndex := 5, descriptorIndex := 6, attributes := #[] }] 1057 2 #[] #[])
  fields := #[]
  methods := #[k9m0]
  instanceTypes := #[]
  staticTypes := #[]
  resolved := Array.replicate 22 none
  statics := none }

def pool10 : Array CpInfo := pool [(1, .methodref 2 3), (0, .class_ 4), (0, .nameAndType 5 6), (0, u "java/lang/Record"), (0, u "<init>"), (0, u "()V"), (0, .fieldref 8 9), (0, .class_ 10), (0, .nameAndType 11 12), (0, u "com/example/jiaoge/jiaoge/cli/CommandOption"), (0, u "name"), (0, u "Ljava/lang/String;"), (0, .fieldref 8 14), (0, .nameAndType 15 12), (0, u "label"), (0, .fieldref 8 17), (0, .nameAndType 18 12), (0, u "help"), (0, .fieldref 8 20), (0, .nameAndType 21 22), (0, u "required"), (0, u "Z"), (0, .fieldref 8 24), (0, .nameAndType 25 22), (0, u "repeatable"), (0, .methodref 8 27), (0, .nameAndType 5 28), (0, u "(Ljava/lang/String;Ljava/lang/String;Ljava/lang/String;ZZ)V"), (2, u "takesValue"), (0, u "()Z"), (19, u "(Ljava/lang/String;Ljava/lang/String;Ljava/lang/String;)Lcom/example/jiaoge/jiaoge/cli/CommandOption;"), (0, u "optional"), (4, u "()Ljava/lang/String;")] 36

def k10c0 : Code := { maxStack := 2, maxLocals := 6, code := prog_1_method_1_code, exceptionTable := #[], attributes := #[] }
def k10m0 : Method := { name := "<init>", desc := "(Ljava/lang/String;Ljava/lang/String;Ljava/lang/String;ZZ)V", sig := { parameters := [(.object "java/lang/String"), (.object "java/lang/String"), (.object "java/lang/String"), .boolean, .boolean], returnType := none }, accessFlags := 0, code := some k10c0 }
def k10c1 : Code := { maxStack := 7, maxLocals := 3, code := prog_1_method_3_code, exceptionTable := #[], attributes := #[] }
def k10m1 : Method := { name := "optional", desc := "(Ljava/lang/String;Ljava/lang/String;Ljava/lang/String;)Lcom/example/jiaoge/jiaoge/cli/CommandOption;", sig := { parameters := [(.object "java/lang/String"), (.object "java/lang/String"), (.object "java/lang/String")], returnType := some (.object "com/example/jiaoge/jiaoge/cli/CommandOption") }, accessFlags := 8, code := some k10c1 }
def k10c2 : Code := { maxStack := 1, maxLocals := 1, code := prog_1_method_6_code, exceptionTable := #[], attributes := #[] }
def k10m2 : Method := { name := "takesValue", desc := "()Z", sig := { parameters := [], returnType := some .boolean }, accessFlags := 0, code := some k10c2 }
def k10c3 : Code := { maxStack := 1, maxLocals := 1, code := prog_1_method_11_code, exceptionTable := #[], attributes := #[] }
def k10m3 : Method := { name := "name", desc := "()Ljava/lang/String;", sig := { parameters := [], returnType := some (.object "java/lang/String") }, accessFlags := 1, code := some k10c3 }
def k10c4 : Code := { maxStack := 1, maxLocals := 1, code := prog_1_method_12_code, exceptionTable := #[], attributes := #[] }
def k10m4 : Method := { name := "label", desc := "()Ljava/lang/String;", sig := { parameters := [], returnType := some (.object "java/lang/String") }, accessFlags := 1, code := some k10c4 }
def k10c5 : Code := { maxStack := 1, maxLocals := 1, code := prog_1_method_13_code, exceptionTable := #[], attributes := #[] }
def k10m5 : Method := { name := "help", desc := "()Ljava/lang/String;", sig := { parameters := [], returnType := some (.object "java/lang/String") }, accessFlags := 1, code := some k10c5 }
def k10c6 : Code := { maxStack := 1, maxLocals := 1, code := prog_1_method_14_code, exceptionTable := #[], attributes := #[] }
def k10m6 : Method := { name := "required", desc := "()Z", sig := { parameters := [], returnType := some .boolean }, accessFlags := 1, code := some k10c6 }
def k10c7 : Code := { maxStack := 1, maxLocals := 1, code := prog_1_method_15_code, exceptionTable := #[], attributes := #[] }
def k10m7 : Method := { name := "repeatable", desc := "()Z", sig := { parameters := [], returnType := some .boolean }, accessFlags := 1, code := some k10c7 }
/-- com/example/jiaoge/jiaoge/cli/CommandOption -/
def k10 : Class := { plain "com/example/jiaoge/jiaoge/cli/CommandOption" (some 9) with
  accessFlags := 48
  interfaces := #[]
  cf := some (fileOf pool10 8 #[] #[{ accessFlags := 0, nameIndex := 5, descriptorIndex := 28, attributes := #[] }, { accessFlags := 8, nameIndex := 53, descriptorIndex := 52, attributes := #[] }, { accessFlags := 0, nameIndex := 31, descriptorIndex := 32, attributes := #[] }, { accessFlags := 1, nameIndex := 11, descriptorIndex := 58, attributes := #[] }, { accessFlags := 1, nameIndex := 15, descriptorIndex := 58, attributes := #[] }, { accessFlags := 1, nameIndex := 18, descriptorIndex := 58, attributes := #[] }, { accessFlags := 1, nameIndex := 21, descriptorIndex := 32, attributes := #[] }, { accessFlags := 1, nameIndex := 25, descriptorIndex := 32, attributes := #[] }] 48 2 #[] #[{ accessFlags := 18, nameIndex := 11, descriptorIndex := 12, attributes := #[] }, { accessFlags := 18, nameIndex := 15, descriptorIndex := 12, attributes := #[] }, { accessFlags := 18, nameIndex := 18, descriptorIndex := 12, attributes := #[] }, { accessFlags := 18, nameIndex := 21, descriptorIndex := 22, attributes := #[] }, { accessFlags := 18, nameIndex := 25, descriptorIndex := 22, attributes := #[] }])
  fields := #[{ name := "name", type := (.object "java/lang/String"), accessFlags := 18, slot := 0, constantValue := 0 }, { name := "label", type := (.object "java/lang/String"), accessFlags := 18, slot := 1, constantValue := 0 }, { name := "help", type := (.object "java/lang/String"), accessFlags := 18, slot := 2, constantValue := 0 }, { name := "required", type := .boolean, accessFlags := 18, slot := 3, constantValue := 0 }, { name := "repeatable", type := .boolean, accessFlags := 18, slot := 4, constantValue := 0 }]
  methods := #[k10m0, k10m1, k10m2, k10m3, k10m4, k10m5, k10m6, k10m7]
  instanceTypes := #[(.object "java/lang/String"), (.object "java/lang/String"), (.object "java/lang/String"), .boolean, .boolean]
  staticTypes := #[]
  resolved := Array.replicate 95 none
  statics := none }

def pool11 : Array CpInfo := pool [(4, .class_ 6), (1, u "java/lang/Object"), (0, u "<init>"), (0, u "()V"), (5, .class_ 16), (1, u "java/lang/StringLatin1"), (104, u "$assertionsDisabled"), (0, u "Z"), (98, .class_ 223), (1, u "java/lang/StringLatin1$LinesSpliterator"), (166, .class_ 391), (0, u "java/lang/StringLatin1$CharsSpliterator")] 3

def k11m0 : Method := { name := "<init>", desc := "()V", sig := { parameters := [], returnType := none }, accessFlags := 0, code := none }
/-- java/lang/StringLatin1 -/
def k11 : Class := { plain "java/lang/StringLatin1" (some 0) with
  accessFlags := 48
  interfaces := #[]
  cf := some (fileOf pool11 14 #[.nestMembers #[390, 221]] #[{ accessFlags := 0, nameIndex := 7, descriptorIndex := 8, attributes := #[] }] 48 4 #[] #[{ accessFlags := 4120, nameIndex := 121, descriptorIndex := 122, attributes := #[] }])
  fields := #[{ name := "$assertionsDisabled", type := .boolean, accessFlags := 4120, slot := 0, constantValue := 0 }]
  methods := #[k11m0]
  instanceTypes := #[]
  staticTypes := #[.boolean]
  resolved := Array.replicate 395 none
  statics := none }

def pool12 : Array CpInfo := pool [(2, .class_ 4), (1, u "java/lang/Object"), (0, u "<init>"), (0, u "()V"), (17, .class_ 26), (1, u "jdk/internal/util/Preconditions"), (28, .class_ 56), (0, u "jdk/internal/util/Preconditions$4"), (57, .class_ 115), (0, u "jdk/internal/util/Preconditions$1"), (7, u "SIOOBE_FORMATTER"), (0, u "Ljava/util/function/BiFunction;"), (0, .class_ 126), (0, u "jdk/internal/util/Preconditions$2"), (3, u "AIOOBE_FORMATTER"), (0, .class_ 132), (0, u "jdk/internal/util/Preconditions$3"), (3, u "IOOBE_FORMATTER")] 57

def k12m0 : Method := { name := "<init>", desc := "()V", sig := { parameters := [], returnType := none }, accessFlags := 1, code := none }
/-- jdk/internal/util/Preconditions -/
def k12 : Class := { plain "jdk/internal/util/Preconditions" (some 0) with
  accessFlags := 33
  interfaces := #[]
  cf := some (fileOf pool12 24 #[.nestMembers #[55, 131, 125, 114]] #[{ accessFlags := 1, nameIndex := 5, descriptorIndex := 6, attributes := #[] }] 33 2 #[] #[{ accessFlags := 25, nameIndex := 123, descriptorIndex := 124, attributes := #[] }, { accessFlags := 25, nameIndex := 130, descriptorIndex := 124, attributes := #[] }, { accessFlags := 25, nameIndex := 136, descriptorIndex := 124, attributes := #[] }])
  fields := #[{ name := "SIOOBE_FORMATTER", type := (.object "java/util/function/BiFunction"), accessFlags := 25, slot := 0, constantValue := 0 }, { name := "AIOOBE_FORMATTER", type := (.object "java/util/function/BiFunction"), accessFlags := 25, slot := 1, constantValue := 0 }, { name := "IOOBE_FORMATTER", type := (.object "java/util/function/BiFunction"), accessFlags := 25, slot := 2, constantValue := 0 }]
  methods := #[k12m0]
  instanceTypes := #[]
  staticTypes := #[(.object "java/util/function/BiFunction"), (.object "java/util/function/BiFunction"), (.object "java/util/function/BiFunction")]
  resolved := Array.replicate 194 none
  statics := some 1 }

def pool13 : Array CpInfo := pool [(9, u "<init>"), (6, .class_ 18), (1, u "java/lang/Object"), (0, u "()V"), (1, .class_ 23), (1, u "jdk/internal/util/ArraysSupport"), (0, u "LOG2_ARRAY_LONG_INDEX_SCALE"), (0, u "I"), (2, u "U"), (0, u "Ljdk/internal/misc/Unsafe;"), (8, u "BIG_ENDIAN"), (0, u "Z"), (8, u "LOG2_BYTE_BIT_SIZE"), (4, u "LOG2_ARRAY_INT_INDEX_SCALE"), (54, u "JLA"), (0, u "Ljdk/internal/access/JavaLangAccess;"), (11, u "LOG2_ARRAY_BOOLEAN_INDEX_SCALE"), (9, u "LOG2_ARRAY_BYTE_INDEX_SCALE"), (5, u "LOG2_ARRAY_CHAR_INDEX_SCALE"), (5, u "LOG2_ARRAY_SHORT_INDEX_SCALE"), (18, u "LOG2_ARRAY_FLOAT_INDEX_SCALE"), (24, u "LOG2_ARRAY_DOUBLE_INDEX_SCALE"), (89, u "T_BOOLEAN"), (2, u "T_CHAR"), (1, u "T_FLOAT"), (1, u "T_DOUBLE"), (1, u "T_BYTE"), (1, u "T_SHORT"), (1, u "T_INT"), (1, u "T_LONG"), (1, u "SOFT_MAX_ARRAY_LENGTH")] 83

def k13m0 : Method := { name := "<init>", desc := "()V", sig := { parameters := [], returnType := none }, accessFlags := 2, code := none }
/-- jdk/internal/util/ArraysSupport -/
def k13 : Class := { plain "jdk/internal/util/ArraysSupport" (some 0) with
  accessFlags := 33
  interfaces := #[]
  cf := some (fileOf pool13 21 #[] #[{ accessFlags := 2, nameIndex := 9, descriptorIndex := 19, attributes := #[] }] 33 16 #[] #[{ accessFlags := 24, nameIndex := 28, descriptorIndex := 29, attributes := #[] }, { accessFlags := 26, nameIndex := 38, descriptorIndex := 39, attributes := #[] }, { accessFlags := 25, nameIndex := 121, descriptorIndex := 25, attributes := #[] }, { accessFlags := 25, nameIndex := 131, descriptorIndex := 25, attributes := #[] }, { accessFlags := 25, nameIndex := 137, descriptorIndex := 25, attributes := #[] }, { accessFlags := 25, nameIndex := 143, descriptorIndex := 25, attributes := #[] }, { accessFlags := 25, nameIndex := 53, descriptorIndex := 25, attributes := #[] }, { accessFlags := 25, nameIndex := 24, descriptorIndex := 25, attributes := #[] }, { accessFlags := 25, nameIndex := 162, descriptorIndex := 25, attributes := #[] }, { accessFlags := 25, nameIndex := 187, descriptorIndex := 25, attributes := #[] }, { accessFlags := 26, nameIndex := 48, descriptorIndex := 25, attributes := #[] }, { accessFlags := 25, nameIndex := 277, descriptorIndex := 25, attributes := #[] }, { accessFlags := 25, nameIndex := 280, descriptorIndex := 25, attributes := #[] }, { accessFlags := 25, nameIndex := 282, descriptorIndex := 25, attributes := #[] }, { accessFlags := 25, nameIndex := 284, descriptorIndex := 25, attributes := #[] }, { accessFlags := 25, nameIndex := 286, descriptorIndex := 25, attributes := #[] }, { accessFlags := 25, nameIndex := 288, descriptorIndex := 25, attributes := #[] }, { accessFlags := 25, nameIndex := 290, descriptorIndex := 25, attributes := #[] }, { accessFlags := 25, nameIndex := 292, descriptorIndex := 25, attributes := #[] }, { accessFlags := 26, nameIndex := 108, descriptorIndex := 109, attributes := #[] }, { accessFlags := 25, nameIndex := 294, descriptorIndex := 25, attributes := #[] }])
  fields := #[{ name := "U", type := (.object "jdk/internal/misc/Unsafe"), accessFlags := 24, slot := 0, constantValue := 0 }, { name := "BIG_ENDIAN", type := .boolean, accessFlags := 26, slot := 1, constantValue := 0 }, { name := "LOG2_ARRAY_BOOLEAN_INDEX_SCALE", type := .int, accessFlags := 25, slot := 2, constantValue := 0 }, { name := "LOG2_ARRAY_BYTE_INDEX_SCALE", type := .int, accessFlags := 25, slot := 3, constantValue := 0 }, { name := "LOG2_ARRAY_CHAR_INDEX_SCALE", type := .int, accessFlags := 25, slot := 4, constantValue := 0 }, { name := "LOG2_ARRAY_SHORT_INDEX_SCALE", type := .int, accessFlags := 25, slot := 5, constantValue := 0 }, { name := "LOG2_ARRAY_INT_INDEX_SCALE", type := .int, accessFlags := 25, slot := 6, constantValue := 0 }, { name := "LOG2_ARRAY_LONG_INDEX_SCALE", type := .int, accessFlags := 25, slot := 7, constantValue := 0 }, { name := "LOG2_ARRAY_FLOAT_INDEX_SCALE", type := .int, accessFlags := 25, slot := 8, constantValue := 0 }, { name := "LOG2_ARRAY_DOUBLE_INDEX_SCALE", type := .int, accessFlags := 25, slot := 9, constantValue := 0 }, { name := "LOG2_BYTE_BIT_SIZE", type := .int, accessFlags := 26, slot := 10, constantValue := 0 }, { name := "T_BOOLEAN", type := .int, accessFlags := 25, slot := 11, constantValue := 0 }, { name := "T_CHAR", type := .int, accessFlags := 25, slot := 12, constantValue := 0 }, { name := "T_FLOAT", type := .int, accessFlags := 25, slot := 13, constantValue := 0 }, { name := "T_DOUBLE", type := .int, accessFlags := 25, slot := 14, constantValue := 0 }, { name := "T_BYTE", type := .int, accessFlags := 25, slot := 15, constantValue := 0 }, { name := "T_SHORT", type := .int, accessFlags := 25, slot := 16, constantValue := 0 }, { name := "T_INT", type := .int, accessFlags := 25, slot := 17, constantValue := 0 }, { name := "T_LONG", type := .int, accessFlags := 25, slot := 18, constantValue := 0 }, { name := "JLA", type := (.object "jdk/internal/access/JavaLangAccess"), accessFlags := 26, slot := 19, constantValue := 0 }, { name := "SOFT_MAX_ARRAY_LENGTH", type := .int, accessFlags := 25, slot := 20, constantValue := 0 }]
  methods := #[k13m0]
  instanceTypes := #[]
  staticTypes := #[(.object "jdk/internal/misc/Unsafe"), .boolean, .int, .int, .int, .int, .int, .int, .int, .int, .int, .int, .int, .int, .int, .int, .int, .int, .int, (.object "jdk/internal/access/JavaLangAccess"), .int]
  resolved := Array.replicate 378 none
  statics := none }

def pool14 : Array CpInfo := pool [(1, u "java/lang/Cloneable"), (0, .class_ 1), (0, u "java/lang/Object"), (0, .class_ 3)] 3

/-- java/lang/Cloneable -/
def k14 : Class := { plain "java/lang/Cloneable" (some 0) with
  accessFlags := 1537
  interfaces := #[]
  cf := some (fileOf pool14 2 #[] #[] 1537 4 #[] #[])
  fields := #[]
  methods := #[]
  instanceTypes := #[]
  staticTypes := #[]
  resolved := Array.replicate 8 none
  statics := none }

/-- the primitive byte -/
def k15 : Class := { plain "byte" none with kind := .primitive 'B', accessFlags := 0x411 }
/-- [B -/
def k16 : Class := { plain "[B" (some 0) with kind := .array 15 .byte, interfaces := #[14, 2], accessFlags := 1041 }

/-- the primitive char -/
def k17 : Class := { plain "char" none with kind := .primitive 'C', accessFlags := 0x411 }
/-- [C -/
def k18 : Class := { plain "[C" (some 0) with kind := .array 17 .char, interfaces := #[14, 2], accessFlags := 1041 }

/-- the primitive int -/
def k19 : Class := { plain "int" none with kind := .primitive 'I', accessFlags := 0x411 }
/-- [I -/
def k20 : Class := { plain "[I" (some 0) with kind := .array 19 .int, interfaces := #[14, 2], accessFlags := 1041 }

def heap : Heap := #[{ cls := 7, slots := #[.long 0, .int 1, .null, .int 0, .null, .int 0, .int 0], vm := .statics 7 },
  { cls := 12, slots := #[.null, .null, .null], vm := .statics 12 }]
def classes : Array Class := #[k0, k1, k2, k3, k4, k5, k6, k7, k8, k9, k10, k11, k12, k13, k14, k15, k16, k17, k18, k19, k20]
def interned : List (Array UInt16 × Addr) := []
def slotsUsed : Nat := 10
def theMethod : MethodId := ⟨1, 1⟩
def args0 : Array Value := #[.int 5, .int 5, .int 5, .int 5]
def aboutOver (below : List Frame) : State where
  vm := { classes := classes, interned := interned.toArray }
  heap := heap
  slotsUsed := slotsUsed
  threads := #[{ frames := .invoking theMethod args0 :: below }]
def below0 : List Frame := [.native { method := ⟨0, 0⟩, args := #[] }]
def about1 : State := aboutOver below0
def p0 : Program := .bare "" "" ""
def e0 : Env := launch0.env 0 0 0
theorem w_frames : about1.frames = Frame.invoking theMethod args0 :: below0 := rfl
set_option maxRecDepth 65536 in
theorem w_args : argsFit about1.vm theMethod args0 = true := by decide +kernel
set_option maxRecDepth 65536 in
theorem w_heap : heapFits about1 = true := by decide +kernel
set_option maxRecDepth 65536 in
theorem w_runnable : about1.curStatus? = some .runnable := by decide +kernel
set_option maxRecDepth 65536 in
theorem w_alone : about1.alone = true := by decide +kernel
set_option maxRecDepth 65536 in
theorem w_named : about1.methodNamed? x = some theMethod := by decide +kernel
set_option maxRecDepth 65536 in
theorem w_hears : about1.hears theMethod below0 = true := by decide +kernel
set_option maxRecDepth 65536 in
theorem w_ripe : about1.ripe theMethod args0 below0 = true := by decide +kernel
theorem w_running : about1.status = .running := rfl
set_option maxRecDepth 65536 in
theorem w_room : about1.hasRoom e0.platform room_1 = true :=
  launch0.hasRoom_least _ room_1 (by decide +kernel) (by decide +kernel) (by decide +kernel) (by decide +kernel) (by decide +kernel) (by decide +kernel)
theorem allAtoms_all (ts : List Jvm.Cond) (a : Array Jvm.Value) (st : Jvm.State) : (allAtoms ts).before a st = ts.all (fun c => c.before a st) := by
  induction ts with
  | nil => rfl
  | cons c t ih =>
    show (Jvm.Cond.and c (allAtoms t)).before a st = _
    rw [Jvm.Cond.before_and, ih, List.all_cons]
def words1 : List Jvm.Cond := Jvm.Cond.code x code maxLocals ret :: tables_1
/-- a 'code' word, met by the world's own term for the bytes: nothing is compared byte by byte -/
theorem code_word {y : MethodName} {bytes : ByteArray} {mx : Nat} {rt : Option FieldType} {a : Array Value} {s : State} {m : MethodId} {meth : Method} {c : Code} (h1 : s.methodNamed? y = some m) (h2 : s.vm.method? m = some meth) (h3 : meth.code = some c) (h4 : c.code = bytes)
    (h5 : (c.maxLocals == mx && c.exceptionTable.isEmpty && decide (c.maxStack ≤ mostOperands) && decide (meth.sig.returnType = rt) && !meth.locks && decide (parseMethodDescriptor y.desc = some meth.sig)) = true) : (Jvm.Cond.code y bytes mx rt).before a s = true := by
  simp only [Bool.and_eq_true, beq_iff_eq, Bool.not_eq_true', decide_eq_true_eq] at h5
  obtain ⟨⟨⟨⟨⟨g1, g2⟩, g3⟩, g4⟩, g5⟩, g6⟩ := h5
  simp [Cond.before, Cond.holds, Cond.value, h1, h2, h3, h4, g1, g2, g3, g4, g5, g6]
def isCode : Jvm.Cond → Bool
  | .code _ _ _ _ => true
  | _ => false
theorem all_split {L : List Jvm.Cond} {P : Jvm.Cond → Bool} (h1 : L.all (fun c => isCode c || P c) = true) (h2 : ∀ c ∈ L.filter isCode, P c = true) : L.all P = true := by
  refine List.all_eq_true.mpr fun c hc => ?_
  have h := List.all_eq_true.mp h1 c hc
  rcases Bool.eq_false_or_eq_true (isCode c) with hi | hi
  · exact h2 c (List.mem_filter.mpr ⟨hc, hi⟩)
  · simpa [hi] using h
set_option maxRecDepth 65536 in
theorem w_c0 : (Jvm.Cond.code x code maxLocals ret).before args0 about1 = true := code_word (m := ⟨1, 1⟩) (meth := k1m1) (c := k1c1) (by decide +kernel) rfl rfl rfl (by decide +kernel)
set_option maxRecDepth 65536 in
theorem w_c1 : (Jvm.Cond.code ({ cls := "java/lang/String", name := "<init>", desc := "([C)V" } : Jvm.MethodName) jdk_42_method_3_code (2 : Nat) (Option.none : Option Jvm.ClassFile.FieldType)).before args0 about1 = true := code_word (m := ⟨7, 1⟩) (meth := k7m1) (c := k7c1) (by decide +kernel) rfl rfl rfl (by decide +kernel)
set_option maxRecDepth 65536 in
theorem w_c2 : (Jvm.Cond.code ({ cls := "java/lang/String", name := "<init>", desc := "([CIILjava/lang/Void;)V" } : Jvm.MethodName) jdk_42_method_149_code (6 : Nat) (Option.none : Option Jvm.ClassFile.FieldType)).before args0 about1 = true := code_word (m := ⟨7, 2⟩) (meth := k7m2) (c := k7c2) (by decide +kernel) rfl rfl rfl (by decide +kernel)
set_option maxRecDepth 65536 in
theorem w_c3 : (Jvm.Cond.code ({ cls := "java/lang/Object", name := "<init>", desc := "()V" } : Jvm.MethodName) object_method_1_code (1 : Nat) (Option.none : Option Jvm.ClassFile.FieldType)).before args0 about1 = true := code_word (m := ⟨0, 0⟩) (meth := k0m0) (c := k0c0) (by decide +kernel) rfl rfl rfl (by decide +kernel)
set_option maxRecDepth 65536 in
theorem w_c4 : (Jvm.Cond.code ({ cls := "java/lang/StringUTF16", name := "compress", desc := "([CII)[B" } : Jvm.MethodName) jdk_52_method_16_code (6 : Nat) (Option.some (Jvm.ClassFile.FieldType.array Jvm.ClassFile.FieldType.byte))).before args0 about1 = true := code_word (m := ⟨8, 2⟩) (meth := k8m2) (c := k8c2) (by decide +kernel) rfl rfl rfl (by decide +kernel)
set_option maxRecDepth 65536 in
theorem w_c5 : (Jvm.Cond.code ({ cls := "java/lang/StringUTF16", name := "compress", desc := "([CI[BII)I" } : Jvm.MethodName) jdk_52_method_21_code (7 : Nat) (Option.some Jvm.ClassFile.FieldType.int)).before args0 about1 = true := code_word (m := ⟨8, 3⟩) (meth := k8m3) (c := k8c3) (by decide +kernel) rfl rfl rfl (by decide +kernel)
set_option maxRecDepth 65536 in
theorem w_c6 : (Jvm.Cond.code ({ cls := "java/lang/StringUTF16", name := "coderFromArrayLen", desc := "([BI)B" } : Jvm.MethodName) jdk_52_method_15_code (2 : Nat) (Option.some Jvm.ClassFile.FieldType.byte)).before args0 about1 = true := code_word (m := ⟨8, 1⟩) (meth := k8m1) (c := k8c1) (by decide +kernel) rfl rfl rfl (by decide +kernel)
set_option maxRecDepth 65536 in
theorem w_c7 : (Jvm.Cond.code ({ cls := "com/example/jiaoge/jiaoge/cli/CommandOption", name := "optional", desc := "(Ljava/lang/String;Ljava/lang/String;Ljava/lang/String;)Lcom/example/jiaoge/jiaoge/cli/CommandOption;" } : Jvm.MethodName) prog_1_method_3_code (3 : Nat) (Option.some (Jvm.ClassFile.FieldType.object "com/example/jiaoge/jiaoge/cli/CommandOption"))).before args0 about1 = true := code_word (m := ⟨10, 1⟩) (meth := k10m1) (c := k10c1) (by decide +kernel) rfl rfl rfl (by decide +kernel)
set_option maxRecDepth 65536 in
theorem w_c8 : (Jvm.Cond.code ({ cls := "com/example/jiaoge/jiaoge/cli/CommandOption", name := "<init>", desc := "(Ljava/lang/String;Ljava/lang/String;Ljava/lang/String;ZZ)V" } : Jvm.MethodName) prog_1_method_1_code (6 : Nat) (Option.none : Option Jvm.ClassFile.FieldType)).before args0 about1 = true := code_word (m := ⟨10, 0⟩) (meth := k10m0) (c := k10c0) (by decide +kernel) rfl rfl rfl (by decide +kernel)
set_option maxRecDepth 65536 in
theorem w_c9 : (Jvm.Cond.code ({ cls := "java/lang/Record", name := "<init>", desc := "()V" } : Jvm.MethodName) jdk_30_method_1_code (1 : Nat) (Option.none : Option Jvm.ClassFile.FieldType)).before args0 about1 = true := code_word (m := ⟨9, 0⟩) (meth := k9m0) (c := k9c0) (by decide +kernel) rfl rfl rfl (by decide +kernel)
set_option maxRecDepth 65536 in
theorem w_c10 : (Jvm.Cond.code ({ cls := "com/example/jiaoge/jiaoge/cli/CommandOption", name := "name", desc := "()Ljava/lang/String;" } : Jvm.MethodName) prog_1_method_11_code (1 : Nat) (Option.some (Jvm.ClassFile.FieldType.object "java/lang/String"))).before args0 about1 = true := code_word (m := ⟨10, 3⟩) (meth := k10m3) (c := k10c3) (by decide +kernel) rfl rfl rfl (by decide +kernel)
set_option maxRecDepth 65536 in
theorem w_c11 : (Jvm.Cond.code ({ cls := "com/example/jiaoge/jiaoge/cli/CommandOption", name := "label", desc := "()Ljava/lang/String;" } : Jvm.MethodName) prog_1_method_12_code (1 : Nat) (Option.some (Jvm.ClassFile.FieldType.object "java/lang/String"))).before args0 about1 = true := code_word (m := ⟨10, 4⟩) (meth := k10m4) (c := k10c4) (by decide +kernel) rfl rfl rfl (by decide +kernel)
set_option maxRecDepth 65536 in
theorem w_c12 : (Jvm.Cond.code ({ cls := "com/example/jiaoge/jiaoge/cli/CommandOption", name := "help", desc := "()Ljava/lang/String;" } : Jvm.MethodName) prog_1_method_13_code (1 : Nat) (Option.some (Jvm.ClassFile.FieldType.object "java/lang/String"))).before args0 about1 = true := code_word (m := ⟨10, 5⟩) (meth := k10m5) (c := k10c5) (by decide +kernel) rfl rfl rfl (by decide +kernel)
set_option maxRecDepth 65536 in
theorem w_c13 : (Jvm.Cond.code ({ cls := "com/example/jiaoge/jiaoge/cli/CommandOption", name := "required", desc := "()Z" } : Jvm.MethodName) prog_1_method_14_code (1 : Nat) (Option.some Jvm.ClassFile.FieldType.boolean)).before args0 about1 = true := code_word (m := ⟨10, 6⟩) (meth := k10m6) (c := k10c6) (by decide +kernel) rfl rfl rfl (by decide +kernel)
set_option maxRecDepth 65536 in
theorem w_c14 : (Jvm.Cond.code ({ cls := "com/example/jiaoge/jiaoge/cli/CommandOption", name := "repeatable", desc := "()Z" } : Jvm.MethodName) prog_1_method_15_code (1 : Nat) (Option.some Jvm.ClassFile.FieldType.boolean)).before args0 about1 = true := code_word (m := ⟨10, 7⟩) (meth := k10m7) (c := k10c7) (by decide +kernel) rfl rfl rfl (by decide +kernel)
set_option maxRecDepth 65536 in
theorem w_c15 : (Jvm.Cond.code ({ cls := "com/example/jiaoge/jiaoge/cli/CommandOption", name := "takesValue", desc := "()Z" } : Jvm.MethodName) prog_1_method_6_code (1 : Nat) (Option.some Jvm.ClassFile.FieldType.boolean)).before args0 about1 = true := code_word (m := ⟨10, 2⟩) (meth := k10m2) (c := k10c2) (by decide +kernel) rfl rfl rfl (by decide +kernel)
def codes1 : List Jvm.Cond := [Jvm.Cond.code x code maxLocals ret, Jvm.Cond.code ({ cls := "java/lang/String", name := "<init>", desc := "([C)V" } : Jvm.MethodName) jdk_42_method_3_code (2 : Nat) (Option.none : Option Jvm.ClassFile.FieldType), Jvm.Cond.code ({ cls := "java/lang/String", name := "<init>", desc := "([CIILjava/lang/Void;)V" } : Jvm.MethodName) jdk_42_method_149_code (6 : Nat) (Option.none : Option Jvm.ClassFile.FieldType), Jvm.Cond.code ({ cls := "java/lang/Object", name := "<init>", desc := "()V" } : Jvm.MethodName) object_method_1_code (1 : Nat) (Option.none : Option Jvm.ClassFile.FieldType), Jvm.Cond.code ({ cls := "java/lang/StringUTF16", name := "compress", desc := "([CII)[B" } : Jvm.MethodName) jdk_52_method_16_code (6 : Nat) (Option.some (Jvm.ClassFile.FieldType.array Jvm.ClassFile.FieldType.byte)), Jvm.Cond.code ({ cls := "java/lang/StringUTF16", name := "compress", desc := "([CI[BII)I" } : Jvm.MethodName) jdk_52_method_21_code (7 : Nat) (Option.some Jvm.ClassFile.FieldType.int), Jvm.Cond.code ({ cls := "java/lang/StringUTF16", name := "coderFromArrayLen", desc := "([BI)B" } : Jvm.MethodName) jdk_52_method_15_code (2 : Nat) (Option.some Jvm.ClassFile.FieldType.byte), Jvm.Cond.code ({ cls := "com/example/jiaoge/jiaoge/cli/CommandOption", name := "optional", desc := "(Ljava/lang/String;Ljava/lang/String;Ljava/lang/String;)Lcom/example/jiaoge/jiaoge/cli/CommandOption;" } : Jvm.MethodName) prog_1_method_3_code (3 : Nat) (Option.some (Jvm.ClassFile.FieldType.object "com/example/jiaoge/jiaoge/cli/CommandOption")), Jvm.Cond.code ({ cls := "com/example/jiaoge/jiaoge/cli/CommandOption", name := "<init>", desc := "(Ljava/lang/String;Ljava/lang/String;Ljava/lang/String;ZZ)V" } : Jvm.MethodName) prog_1_method_1_code (6 : Nat) (Option.none : Option Jvm.ClassFile.FieldType), Jvm.Cond.code ({ cls := "java/lang/Record", name := "<init>", desc := "()V" } : Jvm.MethodName) jdk_30_method_1_code (1 : Nat) (Option.none : Option Jvm.ClassFile.FieldType), Jvm.Cond.code ({ cls := "com/example/jiaoge/jiaoge/cli/CommandOption", name := "name", desc := "()Ljava/lang/String;" } : Jvm.MethodName) prog_1_method_11_code (1 : Nat) (Option.some (Jvm.ClassFile.FieldType.object "java/lang/String")), Jvm.Cond.code ({ cls := "com/example/jiaoge/jiaoge/cli/CommandOption", name := "label", desc := "()Ljava/lang/String;" } : Jvm.MethodName) prog_1_method_12_code (1 : Nat) (Option.some (Jvm.ClassFile.FieldType.object "java/lang/String")), Jvm.Cond.code ({ cls := "com/example/jiaoge/jiaoge/cli/CommandOption", name := "help", desc := "()Ljava/lang/String;" } : Jvm.MethodName) prog_1_method_13_code (1 : Nat) (Option.some (Jvm.ClassFile.FieldType.object "java/lang/String")), Jvm.Cond.code ({ cls := "com/example/jiaoge/jiaoge/cli/CommandOption", name := "required", desc := "()Z" } : Jvm.MethodName) prog_1_method_14_code (1 : Nat) (Option.some Jvm.ClassFile.FieldType.boolean), Jvm.Cond.code ({ cls := "com/example/jiaoge/jiaoge/cli/CommandOption", name := "repeatable", desc := "()Z" } : Jvm.MethodName) prog_1_method_15_code (1 : Nat) (Option.some Jvm.ClassFile.FieldType.boolean), Jvm.Cond.code ({ cls := "com/example/jiaoge/jiaoge/cli/CommandOption", name := "takesValue", desc := "()Z" } : Jvm.MethodName) prog_1_method_6_code (1 : Nat) (Option.some Jvm.ClassFile.FieldType.boolean)]
set_option maxRecDepth 65536 in
theorem codes_eq : words1.filter isCode = codes1 := rfl
theorem w_codes : ∀ c ∈ words1.filter isCode, c.before args0 about1 = true := by
  rw [codes_eq]
  intro c hc
  simp only [codes1, List.mem_cons, List.not_mem_nil, or_false] at hc
  rcases hc with rfl | rfl | rfl | rfl | rfl | rfl | rfl | rfl | rfl | rfl | rfl | rfl | rfl | rfl | rfl | rfl
  · exact w_c0
  · exact w_c1
  · exact w_c2
  · exact w_c3
  · exact w_c4
  · exact w_c5
  · exact w_c6
  · exact w_c7
  · exact w_c8
  · exact w_c9
  · exact w_c10
  · exact w_c11
  · exact w_c12
  · exact w_c13
  · exact w_c14
  · exact w_c15
set_option maxRecDepth 65536 in
theorem w_t1 : (words1.take 24).all (fun c => isCode c || c.before args0 about1) = true := by decide +kernel
set_option maxRecDepth 65536 in
theorem w_t2 : ((words1.drop 24).take 24).all (fun c => isCode c || c.before args0 about1) = true := by decide +kernel
set_option maxRecDepth 65536 in
theorem w_t3 : (((words1.drop 24).drop 24).take 24).all (fun c => isCode c || c.before args0 about1) = true := by decide +kernel
set_option maxRecDepth 65536 in
theorem w_t4 : (((words1.drop 24).drop 24).drop 24).all (fun c => isCode c || c.before args0 about1) = true := by decide +kernel
theorem w_tables : (allAtoms (Jvm.Cond.code x code maxLocals ret :: tables_1)).before args0 about1 = true := by
  rw [allAtoms_all]
  show words1.all (fun c => c.before args0 about1) = true
  refine all_split ?_ w_codes
  rw [← List.take_append_drop 24 words1, List.all_append, w_t1, ← List.take_append_drop 24 (words1.drop 24), List.all_append, w_t2, ← List.take_append_drop 24 ((words1.drop 24).drop 24), List.all_append, w_t3, w_t4]
  rfl
set_option maxRecDepth 65536 in
theorem w_rest : rest_1_c.before args0 about1 = true := by decide +kernel
set_option maxRecDepth 65536 in
theorem w_case : (Jvm.Cond.and given_1 narrow_1).before args0 about1 = true := by decide +kernel
theorem w_applies : (headSpec (Jvm.Cond.code x code maxLocals ret :: tables_1) room_1).applies x e0.platform about1 = true :=
  (Spec.applies_iff w_frames).mpr ⟨w_running, w_runnable, w_alone, w_named, w_hears, w_ripe, w_room, w_tables⟩
theorem atStart : AtStart classFile x code maxLocals ret World_1 tables_1 room_1 Calls_1 rest_1 Pre_1 launch0 p0 e0 about1 theMethod args0 below0 :=
  ⟨lists_1, trivial, launch0.admits_env _ _ _, launch0.least_env, fairChoices_fair.cas, fairChoices_fair.clock, w_frames, w_args, w_heap, w_applies, trivial, w_rest, w_case⟩
end start1
theorem witness_1 : WitnessClaimed_1 := ⟨start1.p0, start1.e0, start1.about1, start1.theMethod, start1.args0, start1.below0, start1.atStart⟩
end Jvm.Pilot.@@N@@
