import JvmDerived
import JvmDerived.Pilot.@@N@@Statement
import JvmDerived.Pilot.@@N@@Code
set_option linter.unusedVariables false
set_option linter.unusedSimpArgs false
/- laws to paste: Road.backV, Road.eqW, Road.codOf (cut by pick.py; bodies as the Statement names them) -/
namespace Jvm.Pilot.@@N@@
namespace StrChars
open Jvm Sem ClassFile Op Lib Jvm.Stand Jvm.Free.XT Jvm.Free.ALB Jvm.Free.JM Jvm.Free
open Jvm.Lib.Cold (StaticIs)
/-- a char array whose places are chars -/
def Ch (a : Addr) (A : Cell) (U : State) : Prop := Arr .char a A U ∧ Typed .char A
theorem Ch.mv {a : Addr} {A : Cell} {U U' : State} (h : Ch a A U) (hal : U.vm.Alike U'.vm) (hh : U'.heap = U.heap) : Ch a A U' := ⟨h.1.mv hal hh, h.2⟩
theorem Ch.keep {a : Addr} {A : Cell} {U U' : State} (h : Ch a A U) (hal : U.vm.Alike U'.vm) (hk : U'.heap[a]? = some A) : Ch a A U' := ⟨h.1.keep hal hk, h.2⟩
/-- what place i of a char[]'s cell holds -/
def cv (A : Cell) (i : Nat) : Int32 := match A.slots[i]? with | some (.int x) => x | _ => 0
theorem Ch.get {a : Addr} {A : Cell} {U : State} (h : Ch a A U) {i : Nat} (hi : i < A.slots.size) : A.slots[i]? = some (.int (cv A i)) := by
  have e := Array.getElem?_eq_getElem hi
  have f := h.2 i _ e
  unfold cv; rw [e]
  generalize A.slots[i] = v at f
  cases v <;> simp [fits] at f ⊢
/-- the byte that i2b leaves of a char -/
def lo8 (x : Int32) : Int32 := x.toInt8.toInt32
theorem fits_lo8 (y : Int32) : fits .byte (.int (lo8 y)) = true := by
  have h1 := y.toInt8.le_toInt
  have h2 := y.toInt8.toInt_lt
  simp only [lo8, fits, Bool.and_eq_true, decide_eq_true_eq, Int32.le_iff_toInt_le, Int8.toInt_toInt32, show (-128 : Int32).toInt = -128 from by decide, show (127 : Int32).toInt = 127 from by decide]
  omega
/-- A' is A but that each place j of lo .. hi - 1 holds f j -/
def Laid (A A' : Cell) (lo hi : Nat) (f : Nat → Value) : Prop := A'.cls = A.cls ∧ A'.vm = A.vm ∧ A'.slots.size = A.slots.size ∧ ∀ i, A'.slots[i]? = if lo ≤ i ∧ i < hi then some (f i) else A.slots[i]?
theorem Laid.zero (A : Cell) (lo : Nat) (f : Nat → Value) : Laid A A lo (lo + 0) f := ⟨rfl, rfl, rfl, fun i => by rw [if_neg (by omega)]⟩
theorem Laid.step {A Ak : Cell} {lo k : Nat} {f : Nat → Value} {v : Value} (h : Laid A Ak lo k f) (hlo : lo ≤ k) (hk : k < Ak.slots.size) (hv : v = f k) : Laid A (Ak.setSlot k v) lo (k + 1) f := by
  refine ⟨h.1, h.2.1, by simpa [Cell.setSlot] using h.2.2.1, fun i => ?_⟩
  by_cases e : k = i
  · subst e; rw [Cell.slots_setSlot_self v hk, if_pos (by omega), hv]
  · rw [Cell.slots_setSlot_ne v e, h.2.2.2 i]
    by_cases q : lo ≤ i ∧ i < k
    · rw [if_pos q, if_pos (by omega)]
    · rw [if_neg q, if_neg (by omega)]
def U16 : String := "java/lang/StringUTF16"
namespace Cmp5
def yN : MethodName := ⟨"java/lang/StringUTF16", "compress", "([CI[BII)I"⟩
abbrev yB : ByteArray := jdk_52_method_21_code
theorem d0 : decode yB 0 = .ok (.iconst 0, 1) := by decide +kernel
theorem d1 : decode yB 1 = .ok (.istore 5, 2) := by decide +kernel
theorem d3 : decode yB 3 = .ok (.iload 5, 2) := by decide +kernel
theorem d5 : decode yB 5 = .ok (.iload 4, 2) := by decide +kernel
theorem d7 : decode yB 7 = .ok (.if_icmp (.ge) 37, 3) := by decide +kernel
theorem d10 : decode yB 10 = .ok (.aload_n 0, 1) := by decide +kernel
theorem d11 : decode yB 11 = .ok (.iload_n 1, 1) := by decide +kernel
theorem d12 : decode yB 12 = .ok (.caload, 1) := by decide +kernel
theorem d13 : decode yB 13 = .ok (.istore 6, 2) := by decide +kernel
theorem d15 : decode yB 15 = .ok (.iload 6, 2) := by decide +kernel
theorem d17 : decode yB 17 = .ok (.sipush 255, 3) := by decide +kernel
theorem d20 : decode yB 20 = .ok (.if_icmp (.le) 6, 3) := by decide +kernel
theorem d26 : decode yB 26 = .ok (.aload_n 2, 1) := by decide +kernel
theorem d27 : decode yB 27 = .ok (.iload_n 3, 1) := by decide +kernel
theorem d28 : decode yB 28 = .ok (.iload 6, 2) := by decide +kernel
theorem d30 : decode yB 30 = .ok (.i2b, 1) := by decide +kernel
theorem d31 : decode yB 31 = .ok (.bastore, 1) := by decide +kernel
theorem d32 : decode yB 32 = .ok (.iinc 1 1, 3) := by decide +kernel
theorem d35 : decode yB 35 = .ok (.iinc 3 1, 3) := by decide +kernel
theorem d38 : decode yB 38 = .ok (.iinc 5 1, 3) := by decide +kernel
theorem d41 : decode yB 41 = .ok (.goto (-38), 3) := by decide +kernel
theorem d44 : decode yB 44 = .ok (.iload 4, 2) := by decide +kernel
theorem d46 : decode yB 46 = .ok (.ireturn, 1) := by decide +kernel
def site : List Cond := []
def tab : Cond := tabOf yN yB 7 (some .int) site
def P (b : Addr) (A : Cell) (d : Addr) (B : Cell) (o q len : Nat) (args : Array Value) (s : State) : Prop := args = #[.ref b, .int (Int32.ofNat o), .ref d, .int (Int32.ofNat q), .int (Int32.ofNat len)] ∧ Ch b A s ∧ Arr .byte d B s ∧ b ≠ d ∧ o + len ≤ A.slots.size ∧ q + len ≤ B.slots.size ∧ ∀ i, i < len → ¬ 255 < cv A (o + i)
def E (b : Addr) (A : Cell) (d : Addr) (B : Cell) (o q len : Nat) (r : Option Value) (s u : State) : Prop := r = some (.int (Int32.ofNat len)) ∧ ∃ B', Put d B' s u ∧ Laid B B' q (q + len) (fun j => Value.int (lo8 (cv A (o + (j - q)))))
/-- no char of the range above 255: len; the places written hold each char's low byte -/
theorem law (l : Launch) (b : Addr) (A : Cell) (d : Addr) (B : Cell) (o q len : Nat) : Law l yN 5 5 0 0 yB 7 (some .int) site (P b A d B o q len) (E b A d B o q len) (copyLocs d q len) 0 0 := by
  refine Law.of_walk (plainFor_of_name (by decide +kernel)) (by decide +kernel) (by decide +kernel) (by decide) (fun _ _ h => by rw [h.1]; rfl) (fun _ U U' hal hh h => ⟨h.1, h.2.1.mv hal hh, h.2.2.1.mv hal hh, h.2.2.2⟩) (fun r U U' V V' h1 hal h2 h => ⟨h.1, h.2.elim fun B' q => ⟨B', q.1.mv h1 h2, q.2⟩⟩) ?_
  intro p e s m args below meth c s₁ X0 hexec hbytes hml hret hlk hnm hown hh0 W hP
  obtain ⟨rfl, hA, hB, hne, l1, l2, hp⟩ := hP
  have c1 : Steps p.tables e below (s₁.setTop (entryFrame m #[.ref b, .int (Int32.ofNat o), .ref d, .int (Int32.ofNat q), .int (Int32.ofNat len)] 7)) (s₁.setTop (mkF m 0 #[.val (.ref b), .val (.int (Int32.ofNat o)), .val (.ref d), .val (.int (Int32.ofNat q)), .val (.int (Int32.ofNat len)), .unset, .unset] [])) := entry rfl
  have hA0 := hA.1.mv X0.warmed.alike hh0
  have hB0 := hB.mv X0.warmed.alike hh0
  have a31 := hA.1.2.2.2
  have c2 : Steps p.tables e below (s₁.setTop (entryFrame m #[.ref b, .int (Int32.ofNat o), .ref d, .int (Int32.ofNat q), .int (Int32.ofNat len)] 7)) (s₁.setTop (mkF m 3 #[.val (.ref b), .val (.int (Int32.ofNat o)), .val (.ref d), .val (.int (Int32.ofNat q)), .val (.int (Int32.ofNat len)), .val (.int 0), .unset] [])) := c1.trans (by
    refine iconstV X0.here hexec rfl 0 (hb hbytes d0) (by decide) ?_
    refine XS.istore X0.here hexec rfl (hb hbytes d1) rfl rfl ?_
    exact Steps.refl _)
  have loop : ∀ (r i : Nat), i + r = len → ∀ (z : Slot), (z = .unset ∨ ∃ w, z = .val w ∧ w.category = 1) → ∀ (Tl : State) (Bk : Cell), Stand p l e { frames := 0, locals := 0, cells := 0, slots := 0 } s m #[.ref b, .int (Int32.ofNat o), .ref d, .int (Int32.ofNat q), .int (Int32.ofNat len)] below meth c Tl ([] ++ copyLocs d q i) 0 0 → Put d Bk s₁ Tl → Laid B Bk q (q + i) (fun j => Value.int (lo8 (cv A (o + (j - q))))) →
      Steps p.tables e below (s₁.setTop (entryFrame m #[.ref b, .int (Int32.ofNat o), .ref d, .int (Int32.ofNat q), .int (Int32.ofNat len)] 7)) (Tl.setTop (mkF m 3 #[.val (.ref b), .val (.int (Int32.ofNat (o + i))), .val (.ref d), .val (.int (Int32.ofNat (q + i))), .val (.int (Int32.ofNat len)), .val (.int (Int32.ofNat i)), z] [])) → ∃ (T' : State) (B' : Cell) (z' : Slot), Stand p l e { frames := 0, locals := 0, cells := 0, slots := 0 } s m #[.ref b, .int (Int32.ofNat o), .ref d, .int (Int32.ofNat q), .int (Int32.ofNat len)] below meth c T' ([] ++ copyLocs d q len) 0 0 ∧ Put d B' s₁ T' ∧ Laid B B' q (q + len) (fun j => Value.int (lo8 (cv A (o + (j - q))))) ∧
      Steps p.tables e below (s₁.setTop (entryFrame m #[.ref b, .int (Int32.ofNat o), .ref d, .int (Int32.ofNat q), .int (Int32.ofNat len)] 7)) (T'.setTop (mkF m 3 #[.val (.ref b), .val (.int (Int32.ofNat (o + len))), .val (.ref d), .val (.int (Int32.ofNat (q + len))), .val (.int (Int32.ofNat len)), .val (.int (Int32.ofNat len)), z'] [])) := by
    intro r
    induction r with
    | zero =>
      intro i hi z hz Tl Bk Xl pl fl cl
      have hil : i = len := by omega
      rw [hil] at Xl fl cl
      exact ⟨Tl, Bk, z, Xl, pl, fl, cl⟩
    | succ r ih =>
      intro i hi z hz Tl Bk Xl pl fl cl
      have all := X0.warmed.alike.symm.trans Xl.warmed.alike
      have hAl := hA0.keep all (pl.other hne hA0.1)
      have hBk := hB0.like all pl.1 fl.1 fl.2.1 fl.2.2.1
      have hlt : q + i < Bk.slots.size := by rw [fl.2.2.1]; omega
      have c3 : Steps p.tables e below (s₁.setTop (entryFrame m #[.ref b, .int (Int32.ofNat o), .ref d, .int (Int32.ofNat q), .int (Int32.ofNat len)] 7)) (Tl.setTop (mkF m 12 #[.val (.ref b), .val (.int (Int32.ofNat (o + i))), .val (.ref d), .val (.int (Int32.ofNat (q + i))), .val (.int (Int32.ofNat len)), .val (.int (Int32.ofNat i)), z] [.int (Int32.ofNat (o + i)), .ref b])) := cl.trans (by
        refine XS.iload Xl.here hexec rfl (hb hbytes d3) rfl ?_
        refine XS.iload Xl.here hexec rfl (hb hbytes d5) rfl ?_
        refine XS.icmpNo Xl.here hexec rfl (hb hbytes d7) rfl (ii_ge_f (lt32 (by omega) (by omega))) ?_
        refine XS.aloadN Xl.here hexec rfl (hb hbytes d10) rfl rfl ?_
        refine XS.iloadN Xl.here hexec rfl (hb hbytes d11) rfl ?_
        exact Steps.refl _)
      have c4 : Steps p.tables e below (s₁.setTop (entryFrame m #[.ref b, .int (Int32.ofNat o), .ref d, .int (Int32.ofNat q), .int (Int32.ofNat len)] 7)) (Tl.setTop (mkF m 13 #[.val (.ref b), .val (.int (Int32.ofNat (o + i))), .val (.ref d), .val (.int (Int32.ofNat (q + i))), .val (.int (Int32.ofNat len)), .val (.int (Int32.ofNat i)), z] [.int (cv A (o + i))])) := c3.trans (by
        refine Xl.aget hexec hAl rfl (hA.get (i := o + i) (by omega)) rfl rfl (hb hbytes d12) ?_
        exact Steps.refl _)
      have c5 : Steps p.tables e below (s₁.setTop (entryFrame m #[.ref b, .int (Int32.ofNat o), .ref d, .int (Int32.ofNat q), .int (Int32.ofNat len)] 7)) (Tl.setTop (mkF m 15 #[.val (.ref b), .val (.int (Int32.ofNat (o + i))), .val (.ref d), .val (.int (Int32.ofNat (q + i))), .val (.int (Int32.ofNat len)), .val (.int (Int32.ofNat i)), .val (.int (cv A (o + i)))] [])) := c4.trans (by
        refine XS.istoreS Xl.here hexec rfl (hb hbytes d13) rfl rfl hz ?_
        exact Steps.refl _)
      have c6 : Steps p.tables e below (s₁.setTop (entryFrame m #[.ref b, .int (Int32.ofNat o), .ref d, .int (Int32.ofNat q), .int (Int32.ofNat len)] 7)) (Tl.setTop (mkF m 31 #[.val (.ref b), .val (.int (Int32.ofNat (o + i))), .val (.ref d), .val (.int (Int32.ofNat (q + i))), .val (.int (Int32.ofNat len)), .val (.int (Int32.ofNat i)), .val (.int (cv A (o + i)))] [.int (lo8 (cv A (o + i))), .int (Int32.ofNat (q + i)), .ref d])) := c5.trans (by
        refine XS.iload Xl.here hexec rfl (hb hbytes d15) rfl ?_
        refine sipushV Xl.here hexec rfl 255 (hb hbytes d17) (by decide) ?_
        refine XS.icmpYes Xl.here hexec rfl (pc0 := 20) rfl (hb hbytes d20) rfl (ii_le_t (hp i (by omega))) (by decide) rfl ?_
        refine XS.aloadN Xl.here hexec rfl (hb hbytes d26) rfl rfl ?_
        refine XS.iloadN Xl.here hexec rfl (hb hbytes d27) rfl ?_
        refine XS.iload Xl.here hexec rfl (hb hbytes d28) rfl ?_
        refine i2b Xl.here hexec rfl (hb hbytes d30) rfl ?_
        exact Steps.refl _)
      obtain ⟨T7, X7, p7, st7⟩ := Xl.aput hexec hBk rfl hlt rfl (fits_lo8 (cv A (o + i))) (g := (mkF m 31 #[.val (.ref b), .val (.int (Int32.ofNat (o + i))), .val (.ref d), .val (.int (Int32.ofNat (q + i))), .val (.int (Int32.ofNat len)), .val (.int (Int32.ofNat i)), .val (.int (cv A (o + i)))] [.int (lo8 (cv A (o + i))), .int (Int32.ofNat (q + i)), .ref d])) rfl (rest := []) rfl (hb hbytes d31)
      have c8 : Steps p.tables e below (s₁.setTop (entryFrame m #[.ref b, .int (Int32.ofNat o), .ref d, .int (Int32.ofNat q), .int (Int32.ofNat len)] 7)) (T7.setTop (mkF m 32 #[.val (.ref b), .val (.int (Int32.ofNat (o + i))), .val (.ref d), .val (.int (Int32.ofNat (q + i))), .val (.int (Int32.ofNat len)), .val (.int (Int32.ofNat i)), .val (.int (cv A (o + i)))] [])) := c6.trans (st7 _ (Steps.refl _))
      have c9 : Steps p.tables e below (s₁.setTop (entryFrame m #[.ref b, .int (Int32.ofNat o), .ref d, .int (Int32.ofNat q), .int (Int32.ofNat len)] 7)) (T7.setTop (mkF m 3 #[.val (.ref b), .val (.int (Int32.ofNat (o + i) + 1)), .val (.ref d), .val (.int (Int32.ofNat (q + i) + 1)), .val (.int (Int32.ofNat len)), .val (.int (Int32.ofNat i + 1)), .val (.int (cv A (o + i)))] [])) := c8.trans (by
        refine iincV X7.here hexec rfl 1 (hb hbytes d32) (by decide) rfl rfl ?_
        refine iincV X7.here hexec rfl 1 (hb hbytes d35) (by decide) rfl rfl ?_
        refine iincV X7.here hexec rfl 1 (hb hbytes d38) (by decide) rfl rfl ?_
        refine XS.goto X7.here hexec rfl (pc0 := 41) rfl (hb hbytes d41) (by decide) rfl ?_
        exact Steps.refl _)
      have c10 : Steps p.tables e below (s₁.setTop (entryFrame m #[.ref b, .int (Int32.ofNat o), .ref d, .int (Int32.ofNat q), .int (Int32.ofNat len)] 7)) (T7.setTop (mkF m 3 #[.val (.ref b), .val (.int (Int32.ofNat (o + (i + 1)))), .val (.ref d), .val (.int (Int32.ofNat (q + (i + 1)))), .val (.int (Int32.ofNat len)), .val (.int (Int32.ofNat (i + 1))), .val (.int (cv A (o + i)))] [])) := by
        have := c9
        rw [succ32, succ32, succ32] at this
        exact this
      exact ih (i + 1) (by omega) _ (Or.inr ⟨_, rfl, rfl⟩) T7 _ (by rw [copyLocs_step, ← List.append_assoc]; exact X7) (pl.trans p7) (fl.step (by omega) hlt (by simp)) c10
  obtain ⟨T9, B9, z9, X9, p9, f9, g9⟩ := loop len 0 (by omega) .unset (Or.inl rfl) s₁ B (by simpa [copyLocs] using X0) ⟨hB0.1, fun _ _ => rfl, rfl⟩ (Laid.zero _ _ _) c2
  have c11 : Steps p.tables e below (s₁.setTop (entryFrame m #[.ref b, .int (Int32.ofNat o), .ref d, .int (Int32.ofNat q), .int (Int32.ofNat len)] 7)) (T9.setTop (mkF m 46 #[.val (.ref b), .val (.int (Int32.ofNat (o + len))), .val (.ref d), .val (.int (Int32.ofNat (q + len))), .val (.int (Int32.ofNat len)), .val (.int (Int32.ofNat len)), z9] [.int (Int32.ofNat len)])) := g9.trans (by
    refine XS.iload X9.here hexec rfl (hb hbytes d3) rfl ?_
    refine XS.iload X9.here hexec rfl (hb hbytes d5) rfl ?_
    refine XS.icmpYes X9.here hexec rfl (pc0 := 7) rfl (hb hbytes d7) rfl (ii_ge_t (nlt32 (by omega) (Nat.le_refl _))) (by decide) rfl ?_
    refine XS.iload X9.here hexec rfl (hb hbytes d44) rfl ?_
    exact Steps.refl _)
  exact ⟨T9, some (.int (Int32.ofNat len)), _, _, _, X9, by simp, rfl, rfl, (fun h => by cases h), ⟨rfl, B9, p9.from hh0, f9⟩, fun fs hl => c11.trans (X9.ireturnOut hexec hret rfl (Or.inl rfl) (hb hbytes d46) hl)⟩
end Cmp5
namespace Cmp3
def yN : MethodName := ⟨"java/lang/StringUTF16", "compress", "([CII)[B"⟩
abbrev yB : ByteArray := jdk_52_method_16_code
theorem d0 : decode yB 0 = .ok (.iload_n 2, 1) := by decide +kernel
theorem d1 : decode yB 1 = .ok (.newarray .byte, 2) := by decide +kernel
theorem d3 : decode yB 3 = .ok (.astore_n 3, 1) := by decide +kernel
theorem d4 : decode yB 4 = .ok (.aload_n 0, 1) := by decide +kernel
theorem d5 : decode yB 5 = .ok (.iload_n 1, 1) := by decide +kernel
theorem d6 : decode yB 6 = .ok (.aload_n 3, 1) := by decide +kernel
theorem d7 : decode yB 7 = .ok (.iconst 0, 1) := by decide +kernel
theorem d8 : decode yB 8 = .ok (.iload_n 2, 1) := by decide +kernel
theorem d9 : decode yB 9 = .ok (.invokestatic 115, 3) := by decide +kernel
theorem d12 : decode yB 12 = .ok (.istore 4, 2) := by decide +kernel
theorem d14 : decode yB 14 = .ok (.iload 4, 2) := by decide +kernel
theorem d16 : decode yB 16 = .ok (.iload_n 2, 1) := by decide +kernel
theorem d17 : decode yB 17 = .ok (.if_icmp (.eq) 40, 3) := by decide +kernel
theorem d57 : decode yB 57 = .ok (.aload_n 3, 1) := by decide +kernel
theorem d58 : decode yB 58 = .ok (.areturn, 1) := by decide +kernel
def site : List Cond := [.arrayClass .byte, Cmp5.tab] ++ staticW U16 115 Cmp5.yN
def tab : Cond := tabOf yN yB 6 (some (.array .byte)) site
def P (b : Addr) (A : Cell) (o len : Nat) (args : Array Value) (s : State) : Prop := args = #[.ref b, .int (Int32.ofNat o), .int (Int32.ofNat len)] ∧ Ch b A s ∧ o + len ≤ A.slots.size ∧ len ≤ 536870912 ∧ ∀ i, i < len → ¬ 255 < cv A (o + i)
def E (b : Addr) (A : Cell) (o len : Nat) (r : Option Value) (s u : State) : Prop := NewArr .byte "[B" len (fun j => .int (lo8 (cv A (o + j)))) r s u ∧ u.heap.size = s.heap.size + 1
/-- no char of the range above 255: a new byte[] of their low bytes -/
theorem law (l : Launch) (b : Addr) (A : Cell) (o len : Nat) : Law l yN 3 3 1 18 yB 6 (some (.array .byte)) site (P b A o len) (E b A o len) [] 1 len := by
  refine Law.of_walk (plainFor_of_name (by decide +kernel)) (by decide +kernel) (by decide +kernel) (by decide) (fun _ _ h => by rw [h.1]; rfl) (fun _ U U' hal hh h => ⟨h.1, h.2.1.mv hal hh, h.2.2⟩) (fun r U U' V V' h1 hal h2 h => ⟨NewArr.mv r U U' V V' h1 hal h2 h.1, by rw [h1, h2]; exact h.2⟩) ?_
  intro p e s m args below meth c s₁ X0 hexec hbytes hml hret hlk hnm hown hh0 W hP
  obtain ⟨rfl, hA, l1, l2, hp⟩ := hP
  have a31 := hA.1.2.2.2
  have c1 : Steps p.tables e below (s₁.setTop (entryFrame m #[.ref b, .int (Int32.ofNat o), .int (Int32.ofNat len)] 6)) (s₁.setTop (mkF m 0 #[.val (.ref b), .val (.int (Int32.ofNat o)), .val (.int (Int32.ofNat len)), .unset, .unset, .unset] [])) := entry rfl
  have c2 : Steps p.tables e below (s₁.setTop (entryFrame m #[.ref b, .int (Int32.ofNat o), .int (Int32.ofNat len)] 6)) (s₁.setTop (mkF m 1 #[.val (.ref b), .val (.int (Int32.ofNat o)), .val (.int (Int32.ofNat len)), .unset, .unset, .unset] [.int (Int32.ofNat len)])) := c1.trans (by
    refine XS.iloadN X0.here hexec rfl (hb hbytes d0) rfl ?_
    exact Steps.refl _)
  obtain ⟨T3, B3, X3, ba3, bs3, bv3, bh3, bf3, st3⟩ := X0.anew hexec (atype := .byte) (wk W (.arrayClass .byte)) rfl (by show len * 1 ≤ _; omega) (by omega) (g := (mkF m 1 #[.val (.ref b), .val (.int (Int32.ofNat o)), .val (.int (Int32.ofNat len)), .unset, .unset, .unset] [.int (Int32.ofNat len)])) rfl (hb hbytes d1) (rest := []) rfl (Nat.le_refl _) (by show 0 + len ≤ len; omega)
  rw [hh0] at ba3 st3
  have kp3 : XT.Kept s T3 := (XT.Kept.of_eq hh0).push bh3
  have hA3 := hA.keep X3.warmed.alike (kp3 _ _ hA.1.1)
  have hne : b ≠ s.heap.size := hA.1.ne
  have c4 : Steps p.tables e below (s₁.setTop (entryFrame m #[.ref b, .int (Int32.ofNat o), .int (Int32.ofNat len)] 6)) (T3.setTop (mkF m 3 #[.val (.ref b), .val (.int (Int32.ofNat o)), .val (.int (Int32.ofNat len)), .unset, .unset, .unset] [.ref s.heap.size])) := c2.trans (st3 _ (Steps.refl _))
  have c5 : Steps p.tables e below (s₁.setTop (entryFrame m #[.ref b, .int (Int32.ofNat o), .int (Int32.ofNat len)] 6)) (T3.setTop (mkF m 9 #[.val (.ref b), .val (.int (Int32.ofNat o)), .val (.int (Int32.ofNat len)), .val (.ref s.heap.size), .unset, .unset] [.int (Int32.ofNat len), .int 0, .ref s.heap.size, .int (Int32.ofNat o), .ref b])) := c4.trans (by
    refine XS.astoreN X3.here hexec rfl (hb hbytes d3) rfl rfl rfl ?_
    refine XS.aloadN X3.here hexec rfl (hb hbytes d4) rfl rfl ?_
    refine XS.iloadN X3.here hexec rfl (hb hbytes d5) rfl ?_
    refine XS.aloadN X3.here hexec rfl (hb hbytes d6) rfl rfl ?_
    refine iconstV X3.here hexec rfl 0 (hb hbytes d7) (by decide) ?_
    refine XS.iloadN X3.here hexec rfl (hb hbytes d8) rfl ?_
    exact Steps.refl _)
  obtain ⟨v6, T6, X6, E6, g6⟩ := X3.callS hexec (Cmp5.law l b A s.heap.size B3 o 0 len) hown (wks W (staticW U16 115 Cmp5.yN)) (wk W Cmp5.tab) (W := 0) (Nat.le_of_ble_eq_true rfl) (Nat.le_of_ble_eq_true rfl) (Nat.le_refl _) (by show 0 + len + 0 ≤ len; omega) (g := (mkF m 9 #[.val (.ref b), .val (.int (Int32.ofNat o)), .val (.int (Int32.ofNat len)), .val (.ref s.heap.size), .unset, .unset] [.int (Int32.ofNat len), .int (Int32.ofNat 0), .ref s.heap.size, .int (Int32.ofNat o), .ref b])) rfl (by rw [hml]; rfl) c5 (argsL := [.ref b, .int (Int32.ofNat o), .ref s.heap.size, .int (Int32.ofNat 0), .int (Int32.ofNat len)]) (rest := []) rfl rfl (by show 2 * 0 + 0 ≤ _; decide) (hb hbytes d9) (⟨rfl, hA3, ba3, hne, l1, by rw [bs3]; simp, hp⟩)
  obtain ⟨rfl, B6, p6, f6⟩ := E6
  have c7 : Steps p.tables e below (s₁.setTop (entryFrame m #[.ref b, .int (Int32.ofNat o), .int (Int32.ofNat len)] 6)) (T6.setTop (mkF m 12 #[.val (.ref b), .val (.int (Int32.ofNat o)), .val (.int (Int32.ofNat len)), .val (.ref s.heap.size), .unset, .unset] [.int (Int32.ofNat len)])) := g6
  have c8 : Steps p.tables e below (s₁.setTop (entryFrame m #[.ref b, .int (Int32.ofNat o), .int (Int32.ofNat len)] 6)) (T6.setTop (mkF m 58 #[.val (.ref b), .val (.int (Int32.ofNat o)), .val (.int (Int32.ofNat len)), .val (.ref s.heap.size), .val (.int (Int32.ofNat len)), .unset] [.ref s.heap.size])) := c7.trans (by
    refine XS.istore X6.here hexec rfl (hb hbytes d12) rfl rfl ?_
    refine XS.iload X6.here hexec rfl (hb hbytes d14) rfl ?_
    refine XS.iloadN X6.here hexec rfl (hb hbytes d16) rfl ?_
    refine XS.icmpYes X6.here hexec rfl (pc0 := 17) rfl (hb hbytes d17) rfl (ii_eq_t rfl) (by decide) rfl ?_
    refine XS.aloadN X6.here hexec rfl (hb hbytes d57) rfl rfl ?_
    exact Steps.refl _)
  have X8 := X6.wide (L' := []) (cells' := 1) (slots' := len) (fun x hx hlt => by
    simp only [List.nil_append, copyLocs, List.mem_map, List.mem_range] at hx
    obtain ⟨i, -, rfl⟩ := hx
    exact absurd hlt (Nat.lt_irrefl _)) (Nat.le_refl _) (by omega)
  exact ⟨T6, some (.ref s.heap.size), _, _, _, X8, rfl, rfl, rfl, (fun h => by cases h), ⟨⟨rfl, B6, ba3.like (X3.warmed.alike.symm.trans X6.warmed.alike) p6.1 f6.1 f6.2.1 f6.2.2.1, f6.2.1.trans bv3, by rw [X6.warmed.alike.findClass, f6.1]; exact bf3, by rw [f6.2.2.1, bs3]; simp, fun j hj => by rw [f6.2.2.2 j, if_pos (by omega)]; rfl, kp3.put p6 (Nat.le_refl _)⟩, by rw [p6.2.2, bh3, hh0]; simp⟩, fun fs hl => c8.trans (X8.areturnOut hexec rfl hret rfl (hb hbytes d58) hl)⟩
end Cmp3
namespace CodL
def yN : MethodName := ⟨"java/lang/StringUTF16", "coderFromArrayLen", "([BI)B"⟩
abbrev yB : ByteArray := jdk_52_method_15_code
theorem d0 : decode yB 0 = .ok (.iload_n 1, 1) := by decide +kernel
theorem d1 : decode yB 1 = .ok (.aload_n 0, 1) := by decide +kernel
theorem d2 : decode yB 2 = .ok (.arraylength, 1) := by decide +kernel
theorem d3 : decode yB 3 = .ok (.isub, 1) := by decide +kernel
theorem d4 : decode yB 4 = .ok (.bipush 31, 2) := by decide +kernel
theorem d6 : decode yB 6 = .ok (.iushr, 1) := by decide +kernel
theorem d7 : decode yB 7 = .ok (.i2b, 1) := by decide +kernel
theorem d8 : decode yB 8 = .ok (.ireturn, 1) := by decide +kernel
def site : List Cond := []
def tab : Cond := tabOf yN yB 2 (some .byte) site
def P (d : Addr) (B : Cell) (args : Array Value) (s : State) : Prop := args = #[.ref d, .int (Int32.ofNat B.slots.size)] ∧ Arr .byte d B s
def E (r : Option Value) (s u : State) : Prop := XT.PureE (some (.int 0)) r s u
/-- an array as long as the number of chars: LATIN1 -/
theorem law (l : Launch) (d : Addr) (B : Cell) : Law l yN 2 2 0 0 yB 2 (some .byte) site (P d B) E [] 0 0 := by
  refine Law.of_walk (plainFor_of_name (by decide +kernel)) (by decide +kernel) (by decide +kernel) (by decide) (fun _ _ h => by rw [h.1]; rfl) (fun _ U U' hal hh h => ⟨h.1, h.2.mv hal hh⟩) (fun r U U' V V' h1 hal h2 h => XT.PureE.mv r U U' V V' h1 hal h2 h) ?_
  intro p e s m args below meth c s₁ X0 hexec hbytes hml hret hlk hnm hown hh0 W hP
  obtain ⟨rfl, hB⟩ := hP
  have hB0 := hB.mv X0.warmed.alike hh0
  have c1 : Steps p.tables e below (s₁.setTop (entryFrame m #[.ref d, .int (Int32.ofNat B.slots.size)] 2)) (s₁.setTop (mkF m 0 #[.val (.ref d), .val (.int (Int32.ofNat B.slots.size))] [])) := entry rfl
  have c2 : Steps p.tables e below (s₁.setTop (entryFrame m #[.ref d, .int (Int32.ofNat B.slots.size)] 2)) (s₁.setTop (mkF m 2 #[.val (.ref d), .val (.int (Int32.ofNat B.slots.size))] [.ref d, .int (Int32.ofNat B.slots.size)])) := c1.trans (by
    refine XS.iloadN X0.here hexec rfl (hb hbytes d0) rfl ?_
    refine XS.aloadN X0.here hexec rfl (hb hbytes d1) rfl rfl ?_
    exact Steps.refl _)
  have c3 : Steps p.tables e below (s₁.setTop (entryFrame m #[.ref d, .int (Int32.ofNat B.slots.size)] 2)) (s₁.setTop (mkF m 8 #[.val (.ref d), .val (.int (Int32.ofNat B.slots.size))] [.int (lo8 (ushr (Int32.ofNat B.slots.size - Int32.ofNat B.slots.size) 31))])) := c2.trans (by
    refine X0.alen hexec hB0 rfl rfl (hb hbytes d2) ?_
    refine XS.isub X0.here hexec rfl (hb hbytes d3) rfl ?_
    refine bipushV X0.here hexec rfl 31 (hb hbytes d4) (by decide) ?_
    refine iushr X0.here hexec rfl (hb hbytes d6) rfl ?_
    refine i2b X0.here hexec rfl (hb hbytes d7) rfl ?_
    exact Steps.refl _)
  have e0 : lo8 (ushr (Int32.ofNat B.slots.size - Int32.ofNat B.slots.size) 31) = 0 := by rw [Int32.sub_self]; decide
  rw [e0] at c3
  exact ⟨s₁, some (.int 0), _, _, _, X0, rfl, rfl, rfl, (fun h => by cases h), ⟨rfl, hh0⟩, fun fs hl => c3.trans (X0.ireturnOut hexec hret rfl (Or.inr (Or.inr (Or.inl rfl))) (hb hbytes d8) hl)⟩
end CodL
/-- the String at a is Latin-1 over a new byte[] (the heap's one new cell): the low bytes of the len chars of A from o on; every cell but a is kept -/
def Got (a : Addr) (D : Cell) (fV fC : Field) (A : Cell) (o len : Nat) (r : Option Value) (s u : State) : Prop := r = none ∧ ∃ D' V : Cell, Blank "java/lang/String" a D' u ∧ Same D D' [fV.slot, fC.slot] ∧ D'.slots[fV.slot]? = some (.ref s.heap.size) ∧ D'.slots[fC.slot]? = some (.int 0) ∧ Arr .byte s.heap.size V u ∧ V.vm = .none ∧ u.vm.findClass "[B" = some V.cls ∧ V.slots.size = len ∧ (∀ j, j < len → V.slots[j]? = some (.int (lo8 (cv A (o + j))))) ∧ (∀ (y : Addr) (c : Cell), y ≠ a → s.heap[y]? = some c → u.heap[y]? = some c) ∧ u.heap.size = s.heap.size + 1
theorem Got.mv {a : Addr} {D A : Cell} {fV fC : Field} {o len : Nat} : ∀ r (U U' V V' : State), U'.heap = U.heap → V.vm.Alike V'.vm → V'.heap = V.heap → Got a D fV fC A o len r U V → Got a D fV fC A o len r U' V' :=
  fun r U U' V V' h1 hal h2 ⟨e0, D', X, a1, a2, a3, a4, a5, a6, a7, a8, a9, a10, a11⟩ => ⟨e0, D', X, a1.mv hal h2, a2, by rw [h1]; exact a3, a4, by rw [h1]; exact a5.mv hal h2, a6, by rw [hal.findClass]; exact a7, a8, a9, by rw [h1, h2]; exact a10, by rw [h1, h2]; exact a11⟩
namespace New4
def yN : MethodName := ⟨"java/lang/String", "<init>", "([CIILjava/lang/Void;)V"⟩
abbrev yB : ByteArray := jdk_42_method_149_code
theorem d0 : decode yB 0 = .ok (.aload_n 0, 1) := by decide +kernel
theorem d1 : decode yB 1 = .ok (.invokespecial 1, 3) := by decide +kernel
theorem d4 : decode yB 4 = .ok (.iload_n 3, 1) := by decide +kernel
theorem d5 : decode yB 5 = .ok (.ifCond (.ne) 22, 3) := by decide +kernel
theorem d27 : decode yB 27 = .ok (.getstatic 38, 3) := by decide +kernel
theorem d30 : decode yB 30 = .ok (.ifCond (.eq) 28, 3) := by decide +kernel
theorem d33 : decode yB 33 = .ok (.aload_n 1, 1) := by decide +kernel
theorem d34 : decode yB 34 = .ok (.iload_n 2, 1) := by decide +kernel
theorem d35 : decode yB 35 = .ok (.iload_n 3, 1) := by decide +kernel
theorem d36 : decode yB 36 = .ok (.invokestatic 177, 3) := by decide +kernel
theorem d39 : decode yB 39 = .ok (.astore 5, 2) := by decide +kernel
theorem d41 : decode yB 41 = .ok (.aload_n 0, 1) := by decide +kernel
theorem d42 : decode yB 42 = .ok (.aload 5, 2) := by decide +kernel
theorem d44 : decode yB 44 = .ok (.iload_n 3, 1) := by decide +kernel
theorem d45 : decode yB 45 = .ok (.invokestatic 47, 3) := by decide +kernel
theorem d48 : decode yB 48 = .ok (.putfield 15, 3) := by decide +kernel
theorem d51 : decode yB 51 = .ok (.aload_n 0, 1) := by decide +kernel
theorem d52 : decode yB 52 = .ok (.aload 5, 2) := by decide +kernel
theorem d54 : decode yB 54 = .ok (.putfield 9, 3) := by decide +kernel
theorem d57 : decode yB 57 = .ok (.return_, 1) := by decide +kernel
def site : List Cond := [.fieldLink "java/lang/String" 38 "java/lang/String" "COMPACT_STRINGS" "Z", Cmp3.tab, CodL.tab, .laysFinal "java/lang/String" "java/lang/String" "value" "[B", .fieldLink "java/lang/String" 9 "java/lang/String" "value" "[B", .laysFinal "java/lang/String" "java/lang/String" "coder" "B", .fieldLink "java/lang/String" 15 "java/lang/String" "coder" "B"] ++ objW "java/lang/String" 1 ++ staticW "java/lang/String" 177 Cmp3.yN ++ staticW "java/lang/String" 47 CodL.yN
def tab : Cond := tabOf yN yB 6 none site
def P (a : Addr) (D : Cell) (fV fC : Field) (b : Addr) (A : Cell) (z : Int32) (o len : Nat) (args : Array Value) (s : State) : Prop := args = #[.ref a, .ref b, .int (Int32.ofNat o), .int (Int32.ofNat len), .null] ∧ Blank "java/lang/String" a D s ∧ Found "java/lang/String" "value" "[B" fV s ∧ Found "java/lang/String" "coder" "B" fC s ∧ Ch b A s ∧ StaticIs s "java/lang/String" "COMPACT_STRINGS" "Z" (.int z) ∧ ¬ z = 0 ∧ 0 < len ∧ o + len ≤ A.slots.size ∧ len ≤ 536870912 ∧ ∀ i, i < len → ¬ 255 < cv A (o + i)
def E (a : Addr) (D : Cell) (fV fC : Field) (A : Cell) (o len : Nat) (r : Option Value) (s u : State) : Prop := Got a D fV fC A o len r s u
/-- len > 0, no char of the range above 255: a Latin-1 String of their low bytes -/
theorem law (l : Launch) (a : Addr) (D : Cell) (fV fC : Field) (b : Addr) (A : Cell) (z : Int32) (o len : Nat) : Law l yN 5 4 2 35 yB 6 none site (P a D fV fC b A z o len) (E a D fV fC A o len) [⟨a, fC.slot⟩, ⟨a, fV.slot⟩] 1 len := by
  refine Law.of_walk (plainFor_of_name (by decide +kernel)) (by decide +kernel) (by decide +kernel) (by decide) (fun _ _ h => by rw [h.1]; rfl) (fun _ U U' hal hh h => ⟨h.1, h.2.1.mv hal hh, h.2.2.1.al hal, h.2.2.2.1.al hal, h.2.2.2.2.1.mv hal hh, h.2.2.2.2.2.1.there hal hh, h.2.2.2.2.2.2⟩) (fun r U U' V V' h1 hal h2 h => Got.mv r U U' V V' h1 hal h2 h) ?_
  intro p e s m args below meth c s₁ X0 hexec hbytes hml hret hlk hnm hown hh0 W hP
  obtain ⟨rfl, hB, f1, f2, hA, s1, hz, l0, l1, l2, hp⟩ := hP
  have a31 := hA.1.2.2.2
  have c1 : Steps p.tables e below (s₁.setTop (entryFrame m #[.ref a, .ref b, .int (Int32.ofNat o), .int (Int32.ofNat len), .null] 6)) (s₁.setTop (mkF m 0 #[.val (.ref a), .val (.ref b), .val (.int (Int32.ofNat o)), .val (.int (Int32.ofNat len)), .val .null, .unset] [])) := entry rfl
  have c2 : Steps p.tables e below (s₁.setTop (entryFrame m #[.ref a, .ref b, .int (Int32.ofNat o), .int (Int32.ofNat len), .null] 6)) (s₁.setTop (mkF m 1 #[.val (.ref a), .val (.ref b), .val (.int (Int32.ofNat o)), .val (.int (Int32.ofNat len)), .val .null, .unset] [.ref a])) := c1.trans (by
    refine XS.aloadN X0.here hexec rfl (hb hbytes d0) rfl rfl ?_
    exact Steps.refl _)
  obtain ⟨T3, X3, q3, st3⟩ := X0.oinit hexec hown (wks W (objW "java/lang/String" 1)) (g := (mkF m 1 #[.val (.ref a), .val (.ref b), .val (.int (Int32.ofNat o)), .val (.int (Int32.ofNat len)), .val .null, .unset] [.ref a])) rfl (by rw [hml]; rfl) (rest := []) rfl (hb hbytes d1) (W := 0) (by show 2 * 0 + 0 ≤ _; decide) (Nat.le_of_ble_eq_true rfl) (Nat.le_of_ble_eq_true rfl)
  have hh3 := q3.trans hh0
  have c4 : Steps p.tables e below (s₁.setTop (entryFrame m #[.ref a, .ref b, .int (Int32.ofNat o), .int (Int32.ofNat len), .null] 6)) (T3.setTop (mkF m 27 #[.val (.ref a), .val (.ref b), .val (.int (Int32.ofNat o)), .val (.int (Int32.ofNat len)), .val .null, .unset] [])) := (c2.trans (st3 _ (Steps.refl _))).trans (by
    refine XS.iloadN X3.here hexec rfl (hb hbytes d4) rfl ?_
    refine XS.ifYes X3.here hexec rfl (pc0 := 5) rfl (hb hbytes d5) rfl (i0_ne_t (nz32 (by omega) l0)) (by decide) rfl ?_
    exact Steps.refl _)
  obtain ⟨T5, X5, q5, st5⟩ := X3.sget hexec hown (wk W (.fieldLink "java/lang/String" 38 "java/lang/String" "COMPACT_STRINGS" "Z")) s1 (fun _ _ h => by rw [hh3]; exact h) (g := (mkF m 27 #[.val (.ref a), .val (.ref b), .val (.int (Int32.ofNat o)), .val (.int (Int32.ofNat len)), .val .null, .unset] [])) rfl (hb hbytes d27)
  have hh5 := q5.trans hh3
  have c6 : Steps p.tables e below (s₁.setTop (entryFrame m #[.ref a, .ref b, .int (Int32.ofNat o), .int (Int32.ofNat len), .null] 6)) (T5.setTop (mkF m 30 #[.val (.ref a), .val (.ref b), .val (.int (Int32.ofNat o)), .val (.int (Int32.ofNat len)), .val .null, .unset] [.int z])) := c4.trans (st5 _ (Steps.refl _))
  have c7 : Steps p.tables e below (s₁.setTop (entryFrame m #[.ref a, .ref b, .int (Int32.ofNat o), .int (Int32.ofNat len), .null] 6)) (T5.setTop (mkF m 36 #[.val (.ref a), .val (.ref b), .val (.int (Int32.ofNat o)), .val (.int (Int32.ofNat len)), .val .null, .unset] [.int (Int32.ofNat len), .int (Int32.ofNat o), .ref b])) := c6.trans (by
    refine XS.ifNo X5.here hexec rfl (hb hbytes d30) rfl (i0_eq_f hz) ?_
    refine XS.aloadN X5.here hexec rfl (hb hbytes d33) rfl rfl ?_
    refine XS.iloadN X5.here hexec rfl (hb hbytes d34) rfl ?_
    refine XS.iloadN X5.here hexec rfl (hb hbytes d35) rfl ?_
    exact Steps.refl _)
  obtain ⟨v8, T8, X8, E8, g8⟩ := X5.callS hexec (Cmp3.law l b A o len) hown (wks W (staticW "java/lang/String" 177 Cmp3.yN)) (wk W Cmp3.tab) (W := 0) (Nat.le_of_ble_eq_true rfl) (Nat.le_of_ble_eq_true rfl) (Nat.le_refl _) (by show 0 + len ≤ len; omega) (g := (mkF m 36 #[.val (.ref a), .val (.ref b), .val (.int (Int32.ofNat o)), .val (.int (Int32.ofNat len)), .val .null, .unset] [.int (Int32.ofNat len), .int (Int32.ofNat o), .ref b])) rfl (by rw [hml]; rfl) c7 (argsL := [.ref b, .int (Int32.ofNat o), .int (Int32.ofNat len)]) (rest := []) rfl rfl (by show 2 * 0 + 0 ≤ _; decide) (hb hbytes d36) (⟨rfl, hA.mv X5.warmed.alike hh5, l1, l2, hp⟩)
  obtain ⟨e8, z8⟩ := E8
  obtain ⟨rfl, N, n1, n2, n3, n4, n5, n6⟩ := NewArr.mv _ T5 s _ _ hh5.symm (Vm.Alike.refl _) rfl e8
  rw [hh5] at z8
  have hB1 := hB.keep X8.warmed.alike (n6 _ _ hB.1)
  have hne : s.heap.size ≠ a := (Nat.ne_of_lt (Array.getElem?_eq_some_iff.mp hB.1).1).symm
  have c9 : Steps p.tables e below (s₁.setTop (entryFrame m #[.ref a, .ref b, .int (Int32.ofNat o), .int (Int32.ofNat len), .null] 6)) (T8.setTop (mkF m 39 #[.val (.ref a), .val (.ref b), .val (.int (Int32.ofNat o)), .val (.int (Int32.ofNat len)), .val .null, .unset] [.ref s.heap.size])) := g8
  have c10 : Steps p.tables e below (s₁.setTop (entryFrame m #[.ref a, .ref b, .int (Int32.ofNat o), .int (Int32.ofNat len), .null] 6)) (T8.setTop (mkF m 45 #[.val (.ref a), .val (.ref b), .val (.int (Int32.ofNat o)), .val (.int (Int32.ofNat len)), .val .null, .val (.ref s.heap.size)] [.int (Int32.ofNat N.slots.size), .ref s.heap.size, .ref a])) := by
    have hc : Steps p.tables e below (s₁.setTop (entryFrame m #[.ref a, .ref b, .int (Int32.ofNat o), .int (Int32.ofNat len), .null] 6)) (T8.setTop (mkF m 45 #[.val (.ref a), .val (.ref b), .val (.int (Int32.ofNat o)), .val (.int (Int32.ofNat len)), .val .null, .val (.ref s.heap.size)] [.int (Int32.ofNat len), .ref s.heap.size, .ref a])) := c9.trans (by
      refine XS.astore X8.here hexec rfl (hb hbytes d39) rfl rfl rfl ?_
      refine XS.aloadN X8.here hexec rfl (hb hbytes d41) rfl rfl ?_
      refine XS.aload X8.here hexec rfl (hb hbytes d42) rfl rfl ?_
      refine XS.iloadN X8.here hexec rfl (hb hbytes d44) rfl ?_
      exact Steps.refl _)
    rw [n4]; exact hc
  obtain ⟨v11, T11, X11, E11, g11⟩ := X8.callS hexec (CodL.law l s.heap.size N) hown (wks W (staticW "java/lang/String" 47 CodL.yN)) (wk W CodL.tab) (W := 1) (Nat.le_of_ble_eq_true rfl) (Nat.le_of_ble_eq_true rfl) (Nat.le_refl _) (by show 0 + len + 0 ≤ len; omega) (g := (mkF m 45 #[.val (.ref a), .val (.ref b), .val (.int (Int32.ofNat o)), .val (.int (Int32.ofNat len)), .val .null, .val (.ref s.heap.size)] [.int (Int32.ofNat N.slots.size), .ref s.heap.size, .ref a])) rfl (by rw [hml]; rfl) c10 (argsL := [.ref s.heap.size, .int (Int32.ofNat N.slots.size)]) (rest := [.ref a]) rfl rfl (by show 2 * 0 + (1 + 0) ≤ _; decide) (hb hbytes d45) (⟨rfl, n1⟩)
  obtain ⟨rfl, q11⟩ := E11
  have hB11 := hB1.mv (X8.warmed.alike.symm.trans X11.warmed.alike) q11
  have c12 : Steps p.tables e below (s₁.setTop (entryFrame m #[.ref a, .ref b, .int (Int32.ofNat o), .int (Int32.ofNat len), .null] 6)) (T11.setTop (mkF m 48 #[.val (.ref a), .val (.ref b), .val (.int (Int32.ofNat o)), .val (.int (Int32.ofNat len)), .val .null, .val (.ref s.heap.size)] [.int 0, .ref a])) := g11
  obtain ⟨T13, X13, p13, bl13, sl13, st13⟩ := X11.finit hexec hown (wk W (.fieldLink "java/lang/String" 15 "java/lang/String" "coder" "B")) (Or.inr ⟨_, (wk W (.laysFinal "java/lang/String" "java/lang/String" "coder" "B"))⟩) (Or.inl ⟨rfl, hnm⟩) f2 (Or.inl rfl) hB11 (t := .byte) (by decide +kernel) rfl (g := (mkF m 48 #[.val (.ref a), .val (.ref b), .val (.int (Int32.ofNat o)), .val (.int (Int32.ofNat len)), .val .null, .val (.ref s.heap.size)] [.int 0, .ref a])) rfl (rest := []) rfl (hb hbytes d48)
  have c14 : Steps p.tables e below (s₁.setTop (entryFrame m #[.ref a, .ref b, .int (Int32.ofNat o), .int (Int32.ofNat len), .null] 6)) (T13.setTop (mkF m 54 #[.val (.ref a), .val (.ref b), .val (.int (Int32.ofNat o)), .val (.int (Int32.ofNat len)), .val .null, .val (.ref s.heap.size)] [.ref s.heap.size, .ref a])) := (c12.trans (st13 _ (Steps.refl _))).trans (by
    refine XS.aloadN X13.here hexec rfl (hb hbytes d51) rfl rfl ?_
    refine XS.aload X13.here hexec rfl (hb hbytes d52) rfl rfl ?_
    exact Steps.refl _)
  obtain ⟨T15, X15, p15, bl15, sl15, st15⟩ := X13.finit hexec hown (wk W (.fieldLink "java/lang/String" 9 "java/lang/String" "value" "[B")) (Or.inr ⟨_, (wk W (.laysFinal "java/lang/String" "java/lang/String" "value" "[B"))⟩) (Or.inl ⟨rfl, hnm⟩) f1 (Or.inl rfl) bl13 (t := (.array .byte)) (by decide +kernel) rfl (g := (mkF m 54 #[.val (.ref a), .val (.ref b), .val (.int (Int32.ofNat o)), .val (.int (Int32.ofNat len)), .val .null, .val (.ref s.heap.size)] [.ref s.heap.size, .ref a])) rfl (rest := []) rfl (hb hbytes d54)
  have c16 : Steps p.tables e below (s₁.setTop (entryFrame m #[.ref a, .ref b, .int (Int32.ofNat o), .int (Int32.ofNat len), .null] 6)) (T15.setTop (mkF m 57 #[.val (.ref a), .val (.ref b), .val (.int (Int32.ofNat o)), .val (.int (Int32.ofNat len)), .val .null, .val (.ref s.heap.size)] [])) := c14.trans (st15 _ (Steps.refl _))
  have ap := apart (Or.inr ⟨_, (wk W (.laysFinal "java/lang/String" "java/lang/String" "value" "[B"))⟩) (Or.inr ⟨_, (wk W (.laysFinal "java/lang/String" "java/lang/String" "coder" "B"))⟩) f1 f2 (t₁ := .array .byte) (t₂ := .byte) (by decide +kernel) (by decide +kernel) (by decide)
  have al := X8.warmed.alike.symm.trans X15.warmed.alike
  have n7 : T11.heap[s.heap.size]? = some N := by rw [q11]; exact n1.1
  exact ⟨T15, none, _, _, _, X15, by simp, rfl, by omega, (fun _ => rfl), ⟨rfl, _, N, bl15, ((Same.refl D _).set _ (by simp)).set _ (by simp), sl15, (Cell.slots_setSlot_ne _ ap).trans sl13, n1.keep al (p15.other hne (p13.other hne n7)), n2, by rw [al.findClass]; exact n3, n4, n5, fun y c h1 h2 => p15.other h1 (p13.other h1 (by rw [q11]; exact n6 y c h2)), by rw [p15.2.2, p13.2.2, q11]; exact z8⟩, fun fs hl => c16.trans (X15.returnOut hexec hret (hb hbytes d57) hl)⟩
end New4
namespace New1
def yN : MethodName := ⟨"java/lang/String", "<init>", "([C)V"⟩
abbrev yB : ByteArray := jdk_42_method_3_code
theorem d0 : decode yB 0 = .ok (.aload_n 0, 1) := by decide +kernel
theorem d1 : decode yB 1 = .ok (.aload_n 1, 1) := by decide +kernel
theorem d2 : decode yB 2 = .ok (.iconst 0, 1) := by decide +kernel
theorem d3 : decode yB 3 = .ok (.aload_n 1, 1) := by decide +kernel
theorem d4 : decode yB 4 = .ok (.arraylength, 1) := by decide +kernel
theorem d5 : decode yB 5 = .ok (.aconst_null, 1) := by decide +kernel
theorem d6 : decode yB 6 = .ok (.invokespecial 27, 3) := by decide +kernel
theorem d9 : decode yB 9 = .ok (.return_, 1) := by decide +kernel
def site : List Cond := [New4.tab] ++ initW "java/lang/String" 27 New4.yN
def tab : Cond := tabOf yN yB 2 none site
def P (a : Addr) (D : Cell) (fV fC : Field) (b : Addr) (A : Cell) (z : Int32) (args : Array Value) (s : State) : Prop := args = #[.ref a, .ref b] ∧ Blank "java/lang/String" a D s ∧ Found "java/lang/String" "value" "[B" fV s ∧ Found "java/lang/String" "coder" "B" fC s ∧ Ch b A s ∧ StaticIs s "java/lang/String" "COMPACT_STRINGS" "Z" (.int z) ∧ ¬ z = 0 ∧ 0 < A.slots.size ∧ A.slots.size ≤ 536870912 ∧ ∀ i, i < A.slots.size → ¬ 255 < cv A i
def E (a : Addr) (D : Cell) (fV fC : Field) (A : Cell) (r : Option Value) (s u : State) : Prop := Got a D fV fC A 0 A.slots.size r s u
/-- new String(chars), not empty, no char above 255: a Latin-1 String of their low bytes -/
theorem law (l : Launch) (a : Addr) (D : Cell) (fV fC : Field) (b : Addr) (A : Cell) (z : Int32) : Law l yN 2 1 3 52 yB 2 none site (P a D fV fC b A z) (E a D fV fC A) [⟨a, fC.slot⟩, ⟨a, fV.slot⟩] 1 A.slots.size := by
  refine Law.of_walk (plainFor_of_name (by decide +kernel)) (by decide +kernel) (by decide +kernel) (by decide) (fun _ _ h => by rw [h.1]; rfl) (fun _ U U' hal hh h => ⟨h.1, h.2.1.mv hal hh, h.2.2.1.al hal, h.2.2.2.1.al hal, h.2.2.2.2.1.mv hal hh, h.2.2.2.2.2.1.there hal hh, h.2.2.2.2.2.2⟩) (fun r U U' V V' h1 hal h2 h => Got.mv r U U' V V' h1 hal h2 h) ?_
  intro p e s m args below meth c s₁ X0 hexec hbytes hml hret hlk hnm hown hh0 W hP
  obtain ⟨rfl, hB, f1, f2, hA, s1, hz, l0, l2, hp⟩ := hP
  have c1 : Steps p.tables e below (s₁.setTop (entryFrame m #[.ref a, .ref b] 2)) (s₁.setTop (mkF m 0 #[.val (.ref a), .val (.ref b)] [])) := entry rfl
  have c2 : Steps p.tables e below (s₁.setTop (entryFrame m #[.ref a, .ref b] 2)) (s₁.setTop (mkF m 6 #[.val (.ref a), .val (.ref b)] [.null, .int (Int32.ofNat A.slots.size), .int 0, .ref b, .ref a])) := c1.trans (by
    refine XS.aloadN X0.here hexec rfl (hb hbytes d0) rfl rfl ?_
    refine XS.aloadN X0.here hexec rfl (hb hbytes d1) rfl rfl ?_
    refine iconstV X0.here hexec rfl 0 (hb hbytes d2) (by decide) ?_
    refine XS.aloadN X0.here hexec rfl (hb hbytes d3) rfl rfl ?_
    refine X0.alen hexec (hA.1.mv X0.warmed.alike hh0) rfl rfl (hb hbytes d4) ?_
    refine XS.aconstNull X0.here hexec rfl (hb hbytes d5) ?_
    exact Steps.refl _)
  obtain ⟨v3, T3, X3, E3, g3⟩ := X0.callN hexec (New4.law l a D fV fC b A z 0 A.slots.size) rfl hown (wks W (initW "java/lang/String" 27 New4.yN)) (W New4.tab (by simp only [site, List.mem_cons, List.mem_append, true_or, or_true])) (W := 0) (Nat.le_of_ble_eq_true rfl) (Nat.le_of_ble_eq_true rfl) (Nat.le_refl _) (by show 0 + A.slots.size ≤ A.slots.size; omega) (g := (mkF m 6 #[.val (.ref a), .val (.ref b)] [.null, .int (Int32.ofNat A.slots.size), .int (Int32.ofNat 0), .ref b, .ref a])) rfl (by rw [hml]; rfl) c2 (argsL := [.ref b, .int (Int32.ofNat 0), .int (Int32.ofNat A.slots.size), .null]) (rest := []) rfl rfl (by show 2 * 0 + 0 ≤ _; decide) (hb hbytes d6) (⟨rfl, hB.mv X0.warmed.alike hh0, f1.al X0.warmed.alike, f2.al X0.warmed.alike, hA.mv X0.warmed.alike hh0, s1.there X0.warmed.alike hh0, hz, l0, by omega, l2, fun i hi => by rw [Nat.zero_add]; exact hp i hi⟩)
  have e0 := Got.mv _ s₁ s _ _ hh0.symm (Vm.Alike.refl _) rfl E3
  obtain rfl := e0.1
  have c4 : Steps p.tables e below (s₁.setTop (entryFrame m #[.ref a, .ref b] 2)) (T3.setTop (mkF m 9 #[.val (.ref a), .val (.ref b)] [])) := g3
  exact ⟨T3, none, _, _, _, X3, by simp, rfl, by omega, (fun _ => rfl), e0, fun fs hl => c4.trans (X3.returnOut hexec hret (hb hbytes d9) hl)⟩
theorem pays {l : Launch} {R : Room} {p : Program} {e : Env} {below : List Frame} {s : State} {sargs : Array Value} {len W : Nat} (a : Addr) (D : Cell) (fV fC : Field) (b : Addr) (A : Cell) (z : Int32) (htab : tab.before sargs s = true) (hfr : 4 ≤ R.frames) (hlo : W + 65 ≤ R.locals) :
    Back l R p e below s sargs yN len W (fun A₁ a₁ => A₁.cells + 1 ≤ R.cells ∧ A₁.slots + A.slots.size ≤ R.slots ∧ P a D fV fC b A z a₁ A₁.U) (fun A₁ _ v₁ B₁ => E a D fV fC A v₁ A₁.U B₁.U ∧ B₁.locs = A₁.locs ++ [⟨a, fC.slot⟩, ⟨a, fV.slot⟩] ∧ B₁.cells = A₁.cells + 1 ∧ B₁.slots = A₁.slots + A.slots.size) :=
  (law l a D fV fC b A z).pays htab hfr (by omega)
end New1
/-- the byte, read back as charAt reads it, is the char -/
theorem lo8_mask {x : Int32} (h0 : ¬ x < 0) (h1 : ¬ 255 < x) : lo8 x &&& 255 = x := by
  have t : ∀ k : Fin 256, lo8 (Int32.ofNat k.val) &&& 255 = Int32.ofNat k.val := by decide +kernel
  rw [Int32.lt_iff_toInt_lt] at h0 h1
  have e0 : (0 : Int32).toInt = 0 := rfl
  have e1 : (255 : Int32).toInt = 255 := rfl
  obtain ⟨k, hk⟩ : ∃ k : Nat, x.toInt = k := ⟨x.toInt.toNat, by omega⟩
  have hx : x = Int32.ofNat k := Int32.toInt_inj.mp (by rw [hk, Int32.toInt_ofNat_small (by omega)])
  rw [hx]
  exact t ⟨k, by omega⟩
end StrChars
namespace StrChars.Road
open Jvm Sem ClassFile Op Lib Jvm.Stand Jvm.Free Jvm.Free.XT
open Jvm.Lib.Cold (StaticIs)
abbrev ST : String := "java/lang/String"
/-- every table word that New1's law asks, flat -/
abbrev words : List Jvm.Cond := [.code New1.yN New1.yB 2 none, .initialized ST, .methodLink ST 27 New4.yN, .instanceMethod New4.yN,
  .code New4.yN New4.yB 6 none, .fieldLink ST 38 ST "COMPACT_STRINGS" "Z", .laysFinal ST ST "value" "[B", .fieldLink ST 9 ST "value" "[B", .laysFinal ST ST "coder" "B", .fieldLink ST 15 ST "coder" "B",
  .methodLink ST 1 Lib.objectInit, .instanceMethod Lib.objectInit, .code Lib.objectInit ⟨#[0xb1]⟩ 1 none, .methodLink ST 177 Cmp3.yN, .static Cmp3.yN, .methodLink ST 47 CodL.yN, .static CodL.yN,
  .code Cmp3.yN Cmp3.yB 6 (some (.array .byte)), .initialized U16, .arrayClass .byte, .methodLink U16 115 Cmp5.yN, .static Cmp5.yN, .code Cmp5.yN Cmp5.yB 7 (some .int), .code CodL.yN CodL.yB 2 (some .byte)]
theorem tab_of {a : Array Value} {s : State} (h : ∀ w ∈ words, w.before a s = true) : New1.tab.before a s = true := by
  have h5 : Cmp5.tab.before a s = true := unparts (wk h (.code Cmp5.yN Cmp5.yB 7 (some .int))) (wks h (.initialized Cmp5.yN.cls :: Cmp5.site))
  have hc : CodL.tab.before a s = true := unparts (wk h (.code CodL.yN CodL.yB 2 (some .byte))) (wks h (.initialized CodL.yN.cls :: CodL.site))
  have q5 : ∀ w ∈ Cmp5.tab :: words, w.before a s = true := fun w hw => (List.mem_cons.mp hw).elim (fun e => e ▸ h5) (h w)
  have h3 : Cmp3.tab.before a s = true := unparts (wk q5 (.code Cmp3.yN Cmp3.yB 6 (some (.array .byte)))) (wks q5 (.initialized Cmp3.yN.cls :: Cmp3.site))
  have q3 : ∀ w ∈ Cmp3.tab :: CodL.tab :: words, w.before a s = true := fun w hw => (List.mem_cons.mp hw).elim (fun e => e ▸ h3) fun hw => (List.mem_cons.mp hw).elim (fun e => e ▸ hc) (h w)
  have h4 : New4.tab.before a s = true := unparts (wk q3 (.code New4.yN New4.yB 6 none)) (wks q3 (.initialized New4.yN.cls :: New4.site))
  have q4 : ∀ w ∈ New4.tab :: words, w.before a s = true := fun w hw => (List.mem_cons.mp hw).elim (fun e => e ▸ h4) (h w)
  exact unparts (wk q4 (.code New1.yN New1.yB 2 none)) (wks q4 (.initialized New1.yN.cls :: New1.site))
/-- the words ride from the start Z to the walk's own state -/
theorem moved {Z s : State} {a0 args : Array Value} (hZ : Z.Warmed39 s.vm) (hw : ∀ d ∈ words, d.before a0 Z = true) : ∀ d ∈ words, d.before args s = true := fun d hd => by
  have q := hw d hd
  have t : ∀ d ∈ words, d = .arrayClass .byte ∨ (d.onTables && d.keepsFace) = true := by decide +kernel
  rcases t d hd with rfl | t
  · exact RoadKit.mvA hZ q
  · exact RoadKit.mv hZ q t
/-- WHAT COMES BACK, over the tables of the start Z: h the heap at the call, h' behind it -/
def Q (Z : State) (x : Addr) (A : Cell) (h : Heap) (v : Option Value) (h' : Heap) (L : List Loc) : Prop := v = none ∧ (∀ y ∈ L, y.base = x) ∧ RoadKit.Keep h h' [x] ∧ h'.size = h.size + 1 ∧ RoadKit.Exa Z h' x ST ∧ RoadKit.Fld Z h' x ST "value" "[B" (.ref h.size) ∧ RoadKit.Fld Z h' x ST "coder" "B" (.int 0) ∧
  (∃ V : Cell, RoadKit.Arr Z h' h.size V .byte ∧ V.vm = .none ∧ Z.vm.findClass "[B" = some V.cls ∧ V.slots.size = A.slots.size ∧ ∀ j, j < A.slots.size → V.slots[j]? = some (.int (lo8 (cv A j)))) ∧
  ∀ (O n d : String) (w : Value), RoadKit.Fld Z h x O n d w → RoadKit.slotOf Z O n d ≠ RoadKit.slotOf Z ST "value" "[B" → RoadKit.slotOf Z O n d ≠ RoadKit.slotOf Z ST "coder" "B" → RoadKit.Fld Z h' x O n d w
/-- **new String(chars) AT A CALL, IN THE ROAD'S FORM**: for specialBack behind newO: x the fresh String, b the char[] with the cell A -/
theorem back {p : Program} {l : Launch} {e : Env} {R : Room} {s : State} {args : Array Value} {below : List Frame} {len W : Nat} {Z : State} {a0 : Array Value} {h : Heap} (hZ : Z.Warmed39 s.vm) (hw : ∀ d ∈ words, d.before a0 Z = true) {kI : Nat} (wi : (Jvm.Cond.instantiable ST kI).before a0 Z = true)
    {x b : Addr} {A : Cell} {z : Int32} {v0 c0 : Value} (E : RoadKit.Exa Z h x ST) (V : RoadKit.Fld Z h x ST "value" "[B" v0) (C : RoadKit.Fld Z h x ST "coder" "B" c0) (K : RoadKit.Arr Z h b A .char) (hty : Typed .char A) (S : RoadKit.Sta Z h ST "COMPACT_STRINGS" "Z" (.int z)) (hz : ¬ z = 0)
    (l0 : 0 < A.slots.size) (l2 : A.slots.size ≤ 536870912) (hp : ∀ i, i < A.slots.size → ¬ 255 < cv A i) (hfr : 4 ≤ R.frames) (hlo : W + 65 ≤ R.locals) :
    Back l R p e below s args New1.yN len W (fun P a => a = #[.ref x, .ref b] ∧ P.U.heap = h ∧ P.cells + 1 ≤ R.cells ∧ P.slots + A.slots.size ≤ R.slots)
      (fun P _ v B => ∃ L, Q Z x A h v B.U.heap L ∧ B.locs = P.locs ++ L ∧ B.cells = P.cells + 1 ∧ B.slots = P.slots + A.slots.size) := by
  intro m meth c P g ig mk a X hg hsize hdg hW hn hp'
  obtain ⟨rfl, rfl, r1, r2⟩ := hp'
  have al : Z.vm.Alike P.U.vm := hZ.alike.trans X.warmed.alike
  obtain ⟨D, cfV, kV, iV, fV, hD, gV, stV, knV, obV, asV, slV⟩ := id V
  obtain ⟨D', cfC, kC, iC, fC, hD', gC, stC, -, -, asC, slC⟩ := id C
  cases hD.symm.trans hD'
  obtain ⟨D2, kD, e1, e2, e3, e4, e5⟩ := id E
  cases hD.symm.trans e1
  obtain ⟨c2, k2, i1, i2, i3, -⟩ := Cond.instantiable_spec wi
  cases e2.symm.trans i1
  cases e3.symm.trans i2
  obtain ⟨kU, u1, u2⟩ := al.2.2 _ _ e3
  have hB : Blank ST x D P.U := ⟨hD, ⟨knV, fun q hq => by rw [hq] at obV; cases obV⟩, by rw [al.findClass]; exact e2, kU, u1, by rw [u2]; exact i3, by rw [u2]; exact e5 i3⟩
  have F1 : Found ST "value" "[B" fV P.U := ⟨SBG.found_only al ⟨cfV, kV, iV, gV⟩, stV⟩
  have F2 : Found ST "coder" "B" fC P.U := ⟨SBG.found_only al ⟨cfC, kC, iC, gC⟩, stC⟩
  have hA : Ch b A P.U := ⟨⟨K.1, State.isArrayOf_alike al K.2.1, K.2.2, by omega⟩, hty⟩
  have hS : StaticIs P.U ST "COMPACT_STRINGS" "Z" (.int z) := by
    obtain ⟨cfS, iS, kS, fS, st, cS, t1, t2, t3, t4, t5, t6, t7⟩ := S
    exact StaticIs.there (s := { Z with heap := P.U.heap }) ⟨cfS, iS, kS, fS, st, cS, t1, t2, t3, t4, t5, (fun q => by rw [q] at t6; cases t6), t7⟩ al rfl
  obtain ⟨v, B, X', ⟨⟨hv, E', V', q1, q2, q3, q4, q5, q6, q7, q8, q9, q10, q11⟩, hl, hc, hs⟩, st⟩ := New1.pays x D fV fC b A z (tab_of (moved hZ hw)) hfr hlo m meth c P g ig mk _ X hg hsize hdg hW hn ⟨r1, r2, rfl, hB, F1, F2, hA, hS, hz, l0, l2, hp⟩
  have al' : Z.vm.Alike B.U.vm := hZ.alike.trans X'.warmed.alike
  have hsz : E'.slots.size = D.slots.size := by
    obtain ⟨-, -, -, kB, w1, w2, w3⟩ := q1
    obtain ⟨kB', y1, y2⟩ := al'.2.2 _ _ e3
    rw [q2.2.1] at w1
    cases w1.symm.trans y1
    rw [w3, e5 i3, y2]
  refine ⟨v, B, X', ⟨_, ⟨hv, ?_, ⟨by omega, fun y cy hy hn' => q10 y cy (by simpa using hn') hy, fun y cy hy => ?_⟩, q11, ⟨E', _, q1.1, by rw [q2.2.1]; exact e2, by rw [q2.2.1]; exact e3, by rw [q2.1]; exact obV, fun _ => by rw [hsz]; exact e5 i3⟩,
    ⟨E', cfV, kV, iV, fV, q1.1, gV, stV, by rw [q2.1]; exact knV, by rw [q2.1]; exact obV, by rw [q2.2.1]; exact asV, q3⟩, ⟨E', cfC, kC, iC, fC, q1.1, gC, stC, by rw [q2.1]; exact knV, by rw [q2.1]; exact obV, by rw [q2.2.1]; exact asC, q4⟩,
    ⟨V', ⟨q5.1, State.isArrayOf_alike al'.symm q5.2.1, q5.2.2.1⟩, q6, by rw [← al'.findClass]; exact q7, q8, fun j hj => by have := q9 j hj; rwa [Nat.zero_add] at this⟩, fun O n d w F n1 n2 => ?_⟩, hl, hc, hs⟩, st⟩
  · intro y hy
    simp only [List.mem_cons, List.not_mem_nil, or_false] at hy
    rcases hy with rfl | rfl <;> rfl
  · by_cases q : y = x
    · subst q
      cases hD.symm.trans hy
      exact ⟨E', q1.1, q2.2.1, q2.1, hsz⟩
    · exact ⟨cy, q10 y cy q hy, rfl, rfl, rfl⟩
  · obtain ⟨D3, cf, k, i, f, g1, g2, g3, g4, g5, g6, g7⟩ := F
    cases hD.symm.trans g1
    simp only [RoadKit.slotOf, g2, gV, gC, Option.map_some, Option.getD_some] at n1 n2
    exact ⟨E', cf, k, i, f, q1.1, g2, g3, by rw [q2.1]; exact g4, by rw [q2.1]; exact g5, by rw [q2.2.1]; exact g6, by rw [q2.2.2 f.slot (by simp [n1, n2])]; exact g7⟩
end StrChars.Road
namespace StrChars.Road
open Jvm Sem ClassFile Op Lib Jvm.Stand Jvm.Free Jvm.Free.XT
/-- WHAT COMES BACK, the byte[] as a list of values -/
def QA (Z : State) (x : Addr) (zn : Int32) (cs : List Int32) (h : Heap) (v : Option Value) (h' : Heap) (L : List Loc) : Prop := v = none ∧ (∀ y ∈ L, y.base = x) ∧ RoadKit.Keep h h' [x] ∧ h'.size = h.size + 1 ∧ RoadKit.Exa Z h' x ST ∧ RoadKit.Fld Z h' x ST "value" "[B" (.ref h.size) ∧ RoadKit.Fld Z h' x ST "coder" "B" (.int 0) ∧
  (∃ kb, Z.vm.findClass "[B" = some kb ∧ RoadKit.Arv Z h' h.size kb .byte zn (cs.map fun c => .int (lo8 c)) (.int 0)) ∧
  ∀ (O n d : String) (w : Value), RoadKit.Fld Z h x O n d w → RoadKit.slotOf Z O n d ≠ RoadKit.slotOf Z ST "value" "[B" → RoadKit.slotOf Z O n d ≠ RoadKit.slotOf Z ST "coder" "B" → RoadKit.Fld Z h' x O n d w
/-- **new String(chars) AT A CALL, THE ARRAYS AS LISTS**: the char[] at b holds cs, not empty, no char above 255 -/
theorem backArv {p : Program} {l : Launch} {e : Env} {R : Room} {s : State} {args : Array Value} {below : List Frame} {len W : Nat} {Z : State} {a0 : Array Value} {h : Heap} (hZ : Z.Warmed39 s.vm) (hw : ∀ d ∈ words, d.before a0 Z = true) {kI : Nat} (wi : (Jvm.Cond.instantiable ST kI).before a0 Z = true)
    {x b : Addr} {k : ClassId} {zn z : Int32} {cs : List Int32} {dv v0 c0 : Value} (E : RoadKit.Exa Z h x ST) (V : RoadKit.Fld Z h x ST "value" "[B" v0) (C : RoadKit.Fld Z h x ST "coder" "B" c0) (K : RoadKit.Arv Z h b k .char zn (cs.map Value.int) dv) (S : RoadKit.Sta Z h ST "COMPACT_STRINGS" "Z" (.int z)) (hz : ¬ z = 0)
    (hlen : zn.toNatClampNeg = cs.length) (h0 : 0 < cs.length) (hbig : cs.length ≤ 536870912) (hall : ∀ c ∈ cs, ¬ 255 < c) (hfr : 4 ≤ R.frames) (hlo : W + 65 ≤ R.locals) :
    Back l R p e below s args New1.yN len W (fun P a => a = #[.ref x, .ref b] ∧ P.U.heap = h ∧ P.cells + 1 ≤ R.cells ∧ P.slots + cs.length ≤ R.slots)
      (fun P _ v B => ∃ L, QA Z x zn cs h v B.U.heap L ∧ B.locs = P.locs ++ L ∧ B.cells = P.cells + 1 ∧ B.slots = P.slots + cs.length) := by
  obtain ⟨A, K1, K2, K3, K4, K5, K6⟩ := K
  have e : A.slots.size = cs.length := K3.trans hlen
  have hat : ∀ (i : Nat) (hi : i < cs.length), A.slots[i]? = some (.int cs[i]) := fun i hi => by rw [K5 i (by omega)]; simp [List.getD_eq_getElem?_getD, hi]
  have hcv : ∀ (i : Nat) (hi : i < cs.length), cv A i = cs[i] := fun i hi => by unfold cv; rw [hat i hi]
  have hty : Typed .char A := fun i v hv => by
    have hi : i < A.slots.size := (Array.getElem?_eq_some_iff.mp hv).1
    have q := K5 i hi
    rw [hv] at q
    rw [Option.some.inj q]
    exact K6 i hi
  refine Back.mono (back hZ hw wi E V C K1 hty S hz (by omega) (by omega) (fun i hi => by rw [hcv i (by omega)]; exact hall _ (List.getElem_mem _)) hfr hlo) (fun P a hp => ⟨hp.1, hp.2.1, hp.2.2.1, by rw [e]; exact hp.2.2.2⟩) (fun P a v B hp hq => ?_)
  obtain ⟨L, ⟨q1, q2, q3, q4, q5, q6, q7, ⟨V', v1, v2, v3, v4, v5⟩, q9⟩, hl, hc, hs⟩ := hq
  refine ⟨L, ⟨q1, q2, q3, q4, q5, q6, q7, ⟨V'.cls, v3, V', v1, rfl, by rw [v4, e, hlen], K4, fun i hi => ?_, fun i hi => ?_⟩, q9⟩, hl, hc, by rw [hs, e]⟩
  · have hi' : i < cs.length := by omega
    rw [v5 i (by omega), hcv i hi']; simp [List.getD_eq_getElem?_getD, hi']
  · have hi' : i < cs.length := by omega
    simp only [List.getD_eq_getElem?_getD, List.getElem?_map, List.getElem?_eq_getElem hi', Option.map_some, Option.getD_some]
    exact fits_lo8 _
end StrChars.Road
namespace StrChars.Road
open Jvm Sem ClassFile Op Lib Jvm.Stand Jvm.Free Jvm.Free.XT
/-- WHAT COMES BACK, in the writer's own shape -/
def QV (Z : State) (x : Addr) (N : Int32) (bs : List Int32) (h : Heap) (n0 : Nat) (v : Option Value) (h' : Heap) (L : List Loc) : Prop := v = none ∧ RoadKit.Fr n0 L ∧ RoadKit.Keep h h' [x] ∧ RoadKit.Exa Z h' x ST ∧ RoadKit.Fld Z h' x ST "coder" "B" (.int 0) ∧
  ∃ (t : Addr) (kb : ClassId), n0 ≤ t ∧ h.size ≤ t ∧ ¬ t = x ∧ RoadKit.Fld Z h' x ST "value" "[B" (.ref t) ∧ RoadKit.Arv Z h' t kb .byte N (bs.map Value.int) (.int 0)
/-- **new String(chars) AT A CALL, FOR THE WRITER**: a char[] of n known ints, each 0 to 255 -/
theorem backV {p : Program} {l : Launch} {e : Env} {R : Room} {s : State} {args : Array Value} {below : List Frame} {len W : Nat} {Z : State} {a0 : Array Value} {h : Heap} (hZ : Z.Warmed39 s.vm) (hw : ∀ d ∈ words, d.before a0 Z = true) {kI : Nat} (wi : (Jvm.Cond.instantiable ST kI).before a0 Z = true)
    {x b : Addr} {kC : ClassId} {cs bs : List Int32} {d v0 c0 : Value} {z N : Int32} {n n0 : Nat} (hx0 : n0 ≤ x) (hh0 : n0 ≤ h.size) (E : RoadKit.Exa Z h x ST) (V : RoadKit.Fld Z h x ST "value" "[B" v0) (C : RoadKit.Fld Z h x ST "coder" "B" c0) (K : RoadKit.Arv Z h b kC .char N (cs.map Value.int) d) (S : RoadKit.Sta Z h ST "COMPACT_STRINGS" "Z" (.int z)) (hz : ¬ z = 0)
    (hn : cs.length = n) (hN : N = Int32.ofNat n) (l0 : 0 < n) (l2 : n ≤ 4000) (hp : ∀ c ∈ cs, ¬ c < 0 ∧ ¬ (255 : Int32) < c) (hb : bs = cs.map (fun c => c.toInt8.toInt32)) (hfr : 4 ≤ R.frames) (hlo : W + 65 ≤ R.locals) :
    Back l R p e below s args (⟨"java/lang/String", "<init>", "([C)V"⟩ : MethodName) len W (fun P a => a = #[.ref x, .ref b] ∧ P.U.heap = h ∧ P.cells + 1 ≤ R.cells ∧ P.slots + n ≤ R.slots)
      (fun P _ v B => ∃ L, QV Z x N bs h n0 v B.U.heap L ∧ B.locs = P.locs ++ L ∧ B.cells = P.cells + 1 ∧ B.slots = P.slots + n) := by
  subst hn hN hb
  refine Back.mono (backArv hZ hw wi E V C K S hz (n32 (by omega)) l0 (by omega) (fun c hc => (hp c hc).2) hfr hlo) (fun P a hp => hp) (fun P a v B hp hq => ?_)
  obtain ⟨L, ⟨q1, q2, q3, q4, q5, q6, q7, ⟨kb, v1, v2⟩, q9⟩, hl, hc, hs⟩ := hq
  exact ⟨L, ⟨q1, fun y hy => by rw [q2 y hy]; exact hx0, q3, q5, q7, h.size, kb, hh0, Nat.le_refl _, Nat.ne_of_gt E.lt, q6, by rw [List.map_map]; exact v2⟩, hl, hc, hs⟩
end StrChars.Road
namespace StrChars
open Jvm Sem ClassFile Op Lib Jvm.Stand Jvm.Free.XT Jvm.Free.ALB Jvm.Free.JM Jvm.Free
open Jvm.Lib.Cold (StaticIs)
def hi8 (x : Int32) : Int32 := lo8 (x >>> ((8 : Int32) &&& 31))
/-- what StringUTF16.getChar makes of two bytes -/
def pairCh (u v : Int32) : Int32 := (((u &&& 255) <<< ((0 : Int32) &&& 31)) ||| ((v &&& 255) <<< ((8 : Int32) &&& 31))).toUInt32.toUInt16.toUInt32.toInt32
theorem lo8_and (x : Int32) : (lo8 x &&& 255).toBitVec.toNat = x.toBitVec.toNat % 256 := by
  have h : (lo8 x).toBitVec = (x.toBitVec.signExtend 8).signExtend 32 := by rw [lo8, Int8.toBitVec_toInt32, Int32.toBitVec_toInt8]
  rw [Int32.toBitVec_and, BitVec.toNat_and, h]
  have e : ((x.toBitVec.signExtend 8).signExtend 32).toNat % 256 = x.toBitVec.toNat % 256 := by
    rw [BitVec.toNat_signExtend]
    have hlt := x.toBitVec.isLt
    simp only [BitVec.toNat_setWidth, BitVec.toNat_signExtend]
    split <;> split <;> omega
  rw [← e]
  exact Nat.and_two_pow_sub_one_eq_mod _ 8
theorem pair_says {c : Int32} (h0 : ¬ c < 0) (h1 : ¬ 65535 < c) : pairCh (lo8 c) (hi8 c) = c := by
  rw [Int32.lt_iff_toInt_lt] at h0 h1
  have e0 : (0 : Int32).toInt = 0 := rfl
  have e1 : (65535 : Int32).toInt = 65535 := rfl
  have hc : c.toInt = c.toBitVec.toNat := by
    have := c.toBitVec.isLt
    have e : c.toInt = c.toBitVec.toInt := rfl
    rw [e] at h0 h1
    rw [e]
    rw [BitVec.toInt_eq_toNat_cond] at h0 h1 ⊢
    split at h0 <;> split <;> omega
  have hn : c.toBitVec.toNat < 65536 := by omega
  have a1 := lo8_and c
  have a2 : (hi8 c &&& 255).toBitVec.toNat = c.toBitVec.toNat / 256 := by
    rw [hi8, lo8_and]
    have e : ((8 : Int32) &&& 31) = 8 := by decide
    rw [e, Int32.toBitVec_shiftRight]
    have e2 : ((8 : Int32).toBitVec.smod 32) = 8#32 := by decide
    rw [e2, BitVec.sshiftRight_eq', BitVec.toNat_sshiftRight_of_msb_false (by rw [BitVec.msb_eq_false_iff_two_mul_lt]; omega)]
    show c.toBitVec.toNat >>> 8 % 256 = _
    rw [Nat.shiftRight_eq_div_pow]
    omega
  unfold pairCh
  apply Int32.toBitVec_inj.mp
  apply BitVec.eq_of_toNat_eq
  have f0 : ((0 : Int32) &&& 31) = 0 := by decide
  have f8 : ((8 : Int32) &&& 31) = 8 := by decide
  rw [f0, f8]
  have g : (((lo8 c &&& 255) <<< (0 : Int32)) ||| ((hi8 c &&& 255) <<< (8 : Int32))).toBitVec.toNat = c.toBitVec.toNat := by
    rw [Int32.toBitVec_or, Int32.toBitVec_shiftLeft, Int32.toBitVec_shiftLeft]
    have s0 : ((0 : Int32).toBitVec.smod 32) = 0#32 := by decide
    have s8 : ((8 : Int32).toBitVec.smod 32) = 8#32 := by decide
    rw [s0, s8, BitVec.toNat_or]
    simp only [BitVec.shiftLeft_eq', BitVec.toNat_shiftLeft, a1, a2]
    show (c.toBitVec.toNat % 256) <<< 0 % 2 ^ 32 ||| (c.toBitVec.toNat / 256) <<< 8 % 2 ^ 32 = _
    rw [Nat.shiftLeft_zero, Nat.mod_eq_of_lt (show c.toBitVec.toNat % 256 < 2 ^ 32 by omega), Nat.mod_eq_of_lt (show (c.toBitVec.toNat / 256) <<< 8 < 2 ^ 32 by rw [Nat.shiftLeft_eq]; omega), Nat.or_comm, ← Nat.shiftLeft_add_eq_or_of_lt (by omega), Nat.shiftLeft_eq]
    omega
  show BitVec.toNat (((((lo8 c &&& 255) <<< (0 : Int32)) ||| ((hi8 c &&& 255) <<< (8 : Int32))).toBitVec.setWidth 16).setWidth 32) = _
  rw [BitVec.toNat_setWidth, BitVec.toNat_setWidth, g]
  omega
end StrChars
namespace StrChars
open Jvm Sem ClassFile Op Lib Jvm.Stand Jvm.Free.XT Jvm.Free.ALB Jvm.Free.JM Jvm.Free
open Jvm.Lib.Cold (StaticIs)
/-- the array's cell V codes the n chars f 0 .. f (n - 1) by the coder cd, as the JDK does: coder 1 just where some char is above 255 -/
def Cod (cd : Int32) (n : Nat) (f : Nat → Int32) (V : Cell) : Prop := (cd = 0 ∧ V.slots.size = n ∧ ∀ j, j < n → V.slots[j]? = some (.int (lo8 (f j))) ∧ ¬ 255 < f j) ∨ (cd = 1 ∧ V.slots.size = 2 * n ∧ (∀ j, j < n → V.slots[2 * j]? = some (.int (lo8 (f j))) ∧ V.slots[2 * j + 1]? = some (.int (hi8 (f j)))) ∧ ∃ j, j < n ∧ 255 < f j)
/-- **x is a String of the n chars f 0 .. f (n - 1)**, Latin-1 or UTF-16; its array at t has the cell V -/
def Txt (x t : Addr) (V : Cell) (cd : Int32) (n : Nat) (f : Nat → Int32) (U : State) : Prop := Exact "java/lang/String" x U ∧ Has x "java/lang/String" "value" "[B" (.ref t) U ∧ Has x "java/lang/String" "coder" "B" (.int cd) U ∧ XT.Arr .byte t V U ∧ Cod cd n f V ∧ ∀ j, j < n → ¬ f j < 0 ∧ ¬ 65535 < f j
theorem Txt.mv {x t : Addr} {V : Cell} {cd : Int32} {n : Nat} {f : Nat → Int32} {U U' : State} (h : Txt x t V cd n f U) (hal : U.vm.Alike U'.vm) (hh : U'.heap = U.heap) : Txt x t V cd n f U' := ⟨h.1.mv hal hh, h.2.1.mv hal hh, h.2.2.1.mv hal hh, h.2.2.2.1.mv hal hh, h.2.2.2.2⟩
end StrChars
namespace StrChars.Road
open Jvm Sem ClassFile Op Lib Jvm.Stand Jvm.Free Jvm.Free.XT
open Jvm.Lib.Cold (StaticIs)
theorem consq {a : Array Value} {s : State} {c : Jvm.Cond} {L : List Jvm.Cond} (h0 : c.before a s = true) (h : ∀ w ∈ L, w.before a s = true) : ∀ w ∈ c :: L, w.before a s = true := fun w hw => (List.mem_cons.mp hw).elim (fun e => e ▸ h0) (h w)
/-- the bytes of the chars cs, low before high -/
def wideBytes : List Int32 → List Value
  | [] => []
  | c :: cs => .int (lo8 c) :: .int (hi8 c) :: wideBytes cs
theorem wide_lo (d : Value) : ∀ (cs : List Int32) (j : Nat), j < cs.length → (wideBytes cs).getD (2 * j) d = .int (lo8 (cs.getD j 0))
  | [], j, h => absurd h (Nat.not_lt_zero j)
  | c :: cs, 0, _ => rfl
  | c :: cs, j + 1, h => by
    have q := wide_lo d cs j (by simpa using h)
    rw [show 2 * (j + 1) = 2 * j + 1 + 1 from by omega]
    simpa [wideBytes] using q
theorem wide_hi (d : Value) : ∀ (cs : List Int32) (j : Nat), j < cs.length → (wideBytes cs).getD (2 * j + 1) d = .int (hi8 (cs.getD j 0))
  | [], j, h => absurd h (Nat.not_lt_zero j)
  | c :: cs, 0, _ => rfl
  | c :: cs, j + 1, h => by
    have q := wide_hi d cs j (by simpa using h)
    rw [show 2 * (j + 1) + 1 = 2 * j + 1 + 1 + 1 from by omega]
    simpa [wideBytes] using q
theorem low_at (d : Value) (cs : List Int32) (j : Nat) (h : j < cs.length) : (cs.map fun c => Value.int (lo8 c)).getD j d = .int (lo8 (cs.getD j 0)) := by
  simp [List.getD_eq_getElem?_getD, h]
/-- an array of N2 bytes vs codes the chars cs by the coder cd -/
def CodA (cs : List Int32) (cd N2 : Int32) (vs : List Value) : Prop := (cd = 0 ∧ N2 = Int32.ofNat cs.length ∧ vs = (cs.map fun c => Value.int (lo8 c)) ∧ ∀ c ∈ cs, ¬ 255 < c) ∨ (cd = 1 ∧ N2 = Int32.ofNat (2 * cs.length) ∧ vs = wideBytes cs ∧ ∃ c ∈ cs, 255 < c)
theorem CodA.cod {cs : List Int32} {cd N2 : Int32} {vs : List Value} {V : Cell} (h : CodA cs cd N2 vs) (hn : 2 * cs.length < 2 ^ 31) (hs : V.slots.size = N2.toNatClampNeg) (hv : RoadKit.Has V vs (.int 0)) : Cod cd cs.length (fun j => cs.getD j 0) V := by
  rcases h with ⟨rfl, rfl, rfl, h⟩ | ⟨rfl, rfl, rfl, c, hc, hw⟩
  · rw [n32 (by omega)] at hs
    exact Or.inl ⟨rfl, hs, fun j hj => ⟨by rw [hv j (by omega), low_at _ _ _ hj], by
      have e : cs.getD j 0 = cs[j] := by simp [List.getD_eq_getElem?_getD, hj]
      show ¬ 255 < cs.getD j 0
      rw [e]; exact h _ (List.getElem_mem _)⟩⟩
  · rw [n32 (by omega)] at hs
    obtain ⟨j, hj, rfl⟩ := List.getElem_of_mem hc
    exact Or.inr ⟨rfl, hs, fun j hj => ⟨by rw [hv _ (by omega), wide_lo _ _ _ hj], by rw [hv _ (by omega), wide_hi _ _ _ hj]⟩, j, hj, by
      have e : cs.getD j 0 = cs[j] := by simp [List.getD_eq_getElem?_getD, hj]
      show 255 < cs.getD j 0
      rw [e]; exact hw⟩
/-- an object of exactly java/lang/String, its two fields found: as the laws ask it -/
theorem strObj {Z U : State} {a0 : Array Value} {kI : Nat} (wi : (Jvm.Cond.instantiable ST kI).before a0 Z = true) (al : Z.vm.Alike U.vm) {x : Addr} {v0 c0 : Value} (E : RoadKit.Exa Z U.heap x ST) (V : RoadKit.Fld Z U.heap x ST "value" "[B" v0) (C : RoadKit.Fld Z U.heap x ST "coder" "B" c0) :
    ∃ (D : Cell) (fV fC : Field), Blank ST x D U ∧ Found ST "value" "[B" fV U ∧ Found ST "coder" "B" fC U ∧ D.slots[fV.slot]? = some v0 ∧ D.slots[fC.slot]? = some c0 ∧ RoadKit.slotOf Z ST "value" "[B" = fV.slot ∧ RoadKit.slotOf Z ST "coder" "B" = fC.slot := by
  obtain ⟨D, cfV, kV, iV, fV, hD, gV, stV, knV, obV, asV, slV⟩ := V
  obtain ⟨D', cfC, kC, iC, fC, hD', gC, stC, -, -, asC, slC⟩ := C
  cases hD.symm.trans hD'
  obtain ⟨D2, kD, e1, e2, e3, e4, e5⟩ := E
  cases hD.symm.trans e1
  obtain ⟨c2, k2, i1, i2, i3, -⟩ := Cond.instantiable_spec wi
  cases e2.symm.trans i1
  cases e3.symm.trans i2
  obtain ⟨kU, u1, u2⟩ := al.2.2 _ _ e3
  exact ⟨D, fV, fC, ⟨hD, ⟨knV, fun q hq => by rw [hq] at obV; cases obV⟩, by rw [al.findClass]; exact e2, kU, u1, by rw [u2]; exact i3, by rw [u2]; exact e5 i3⟩, ⟨SBG.found_only al ⟨cfV, kV, iV, gV⟩, stV⟩, ⟨SBG.found_only al ⟨cfC, kC, iC, gC⟩, stC⟩, slV, slC, by simp [RoadKit.slotOf, gV], by simp [RoadKit.slotOf, gC]⟩
theorem sta_is {Z U : State} (al : Z.vm.Alike U.vm) {C n d : String} {v : Value} (S : RoadKit.Sta Z U.heap C n d v) : StaticIs U C n d v := by
  obtain ⟨cfS, iS, kS, fS, st, cS, t1, t2, t3, t4, t5, t6, t7⟩ := S
  exact StaticIs.there (s := { Z with heap := U.heap }) ⟨cfS, iS, kS, fS, st, cS, t1, t2, t3, t4, t5, (fun q => by rw [q] at t6; cases t6), t7⟩ al rfl
end StrChars.Road
namespace StrChars
open Jvm Sem ClassFile Op Lib Jvm.Stand Jvm.Free.XT Jvm.Free.ALB Jvm.Free.JM Jvm.Free
open Jvm.Lib.Cold (StaticIs)
/-- what place i of a byte[]'s cell holds -/
def yv (A : Cell) (i : Nat) : Int32 := match A.slots[i]? with | some (.int x) => x | _ => 0
theorem yv_get {a : Addr} {A : Cell} {U : State} (h : XT.Arr .byte a A U) (ht : Typed .byte A) {i : Nat} (hi : i < A.slots.size) : A.slots[i]? = some (.int (yv A i)) := by
  have e := Array.getElem?_eq_getElem hi
  have f := ht i _ e
  unfold yv; rw [e]
  generalize A.slots[i] = v at f
  cases v <;> simp [fits] at f ⊢
/-- the two arrays are equal, place for place -/
def EqC (A B : Cell) : Prop := A.slots.size = B.slots.size ∧ ∀ i, i < A.slots.size → yv A i = yv B i
/-- a boolean that says whether p -/
def Says01 (q : Prop) (r : Option Value) (s u : State) : Prop := ∃ v : Int32, r = some (.int v) ∧ u.heap = s.heap ∧ ((v = 1 ∧ q) ∨ (v = 0 ∧ ¬ q))
theorem Says01.mv {q : Prop} : ∀ r (U U' V V' : State), U'.heap = U.heap → V.vm.Alike V'.vm → V'.heap = V.heap → Says01 q r U V → Says01 q r U' V' :=
  fun r U U' V V' h1 _ h2 ⟨v, a, b, c⟩ => ⟨v, a, by rw [h1, h2]; exact b, c⟩
namespace LEq
def yN : MethodName := ⟨"java/lang/StringLatin1", "equals", "([B[B)Z"⟩
abbrev yB : ByteArray := jdk_43_method_13_code
theorem d0 : decode yB 0 = .ok (.aload_n 0, 1) := by decide +kernel
theorem d1 : decode yB 1 = .ok (.arraylength, 1) := by decide +kernel
theorem d2 : decode yB 2 = .ok (.aload_n 1, 1) := by decide +kernel
theorem d3 : decode yB 3 = .ok (.arraylength, 1) := by decide +kernel
theorem d4 : decode yB 4 = .ok (.if_icmp (.ne) 30, 3) := by decide +kernel
theorem d7 : decode yB 7 = .ok (.iconst 0, 1) := by decide +kernel
theorem d8 : decode yB 8 = .ok (.istore_n 2, 1) := by decide +kernel
theorem d9 : decode yB 9 = .ok (.iload_n 2, 1) := by decide +kernel
theorem d10 : decode yB 10 = .ok (.aload_n 0, 1) := by decide +kernel
theorem d11 : decode yB 11 = .ok (.arraylength, 1) := by decide +kernel
theorem d12 : decode yB 12 = .ok (.if_icmp (.ge) 20, 3) := by decide +kernel
theorem d15 : decode yB 15 = .ok (.aload_n 0, 1) := by decide +kernel
theorem d16 : decode yB 16 = .ok (.iload_n 2, 1) := by decide +kernel
theorem d17 : decode yB 17 = .ok (.baload, 1) := by decide +kernel
theorem d18 : decode yB 18 = .ok (.aload_n 1, 1) := by decide +kernel
theorem d19 : decode yB 19 = .ok (.iload_n 2, 1) := by decide +kernel
theorem d20 : decode yB 20 = .ok (.baload, 1) := by decide +kernel
theorem d21 : decode yB 21 = .ok (.if_icmp (.eq) 5, 3) := by decide +kernel
theorem d24 : decode yB 24 = .ok (.iconst 0, 1) := by decide +kernel
theorem d25 : decode yB 25 = .ok (.ireturn, 1) := by decide +kernel
theorem d26 : decode yB 26 = .ok (.iinc 2 1, 3) := by decide +kernel
theorem d29 : decode yB 29 = .ok (.goto (-20), 3) := by decide +kernel
theorem d32 : decode yB 32 = .ok (.iconst 1, 1) := by decide +kernel
theorem d33 : decode yB 33 = .ok (.ireturn, 1) := by decide +kernel
theorem d34 : decode yB 34 = .ok (.iconst 0, 1) := by decide +kernel
theorem d35 : decode yB 35 = .ok (.ireturn, 1) := by decide +kernel
def site : List Cond := []
def tab : Cond := tabOf yN yB 3 (some .boolean) site
def P (a : Addr) (A : Cell) (b : Addr) (B : Cell) (args : Array Value) (s : State) : Prop := args = #[.ref a, .ref b] ∧ XT.Arr .byte a A s ∧ Typed .byte A ∧ XT.Arr .byte b B s ∧ Typed .byte B
/-- whether two byte[] are equal, place for place -/
theorem law (l : Launch) (a : Addr) (A : Cell) (b : Addr) (B : Cell) : Law l yN 2 2 0 0 yB 3 (some .boolean) site (P a A b B) (Says01 (EqC A B)) [] 0 0 := by
  refine Law.of_walk (plainFor_of_name (by decide +kernel)) (by decide +kernel) (by decide +kernel) (by decide) (fun _ _ h => by rw [h.1]; rfl) (fun _ U U' hal hh h => ⟨h.1, h.2.1.mv hal hh, h.2.2.1, h.2.2.2.1.mv hal hh, h.2.2.2.2⟩) (fun r U U' V V' h1 hal h2 h => Says01.mv r U U' V V' h1 hal h2 h) ?_
  intro p e s m args below meth c s₁ X0 hexec hbytes hml hret hlk hnm hown hh0 W hP
  obtain ⟨rfl, hA, tA, hB, tB⟩ := hP
  have a31 := hA.2.2.2
  have b31 := hB.2.2.2
  have hA0 := hA.mv X0.warmed.alike hh0
  have hB0 := hB.mv X0.warmed.alike hh0
  have c1 : Steps p.tables e below (s₁.setTop (entryFrame m #[.ref a, .ref b] 3)) (s₁.setTop (mkF m 0 #[.val (.ref a), .val (.ref b), .unset] [])) := entry rfl
  have c2 : Steps p.tables e below (s₁.setTop (entryFrame m #[.ref a, .ref b] 3)) (s₁.setTop (mkF m 4 #[.val (.ref a), .val (.ref b), .unset] [.int (Int32.ofNat B.slots.size), .int (Int32.ofNat A.slots.size)])) := c1.trans (by
    refine XS.aloadN X0.here hexec rfl (hb hbytes d0) rfl rfl ?_
    refine X0.alen hexec hA0 rfl rfl (hb hbytes d1) ?_
    refine XS.aloadN X0.here hexec rfl (hb hbytes d2) rfl rfl ?_
    refine X0.alen hexec hB0 rfl rfl (hb hbytes d3) ?_
    exact Steps.refl _)
  by_cases hs : A.slots.size = B.slots.size
  · have c3 : Steps p.tables e below (s₁.setTop (entryFrame m #[.ref a, .ref b] 3)) (s₁.setTop (mkF m 9 #[.val (.ref a), .val (.ref b), .val (.int 0)] [])) := c2.trans (by
      refine XS.icmpNo X0.here hexec rfl (hb hbytes d4) rfl (ii_ne_f (by rw [hs])) ?_
      refine iconstV X0.here hexec rfl 0 (hb hbytes d7) (by decide) ?_
      refine XS.istoreN X0.here hexec rfl (hb hbytes d8) rfl rfl ?_
      exact Steps.refl _)
    have loop : ∀ (r i : Nat), i + r = A.slots.size → (∀ j, j < i → yv A j = yv B j) → Steps p.tables e below (s₁.setTop (entryFrame m #[.ref a, .ref b] 3)) (s₁.setTop (mkF m 9 #[.val (.ref a), .val (.ref b), .val (.int (Int32.ofNat i))] [])) → ∃ (pc : Nat) (Ls : Array Slot) (v : Int32), (pc = 25 ∨ pc = 33) ∧ ((v = 1 ∧ EqC A B) ∨ (v = 0 ∧ ¬ EqC A B)) ∧ Steps p.tables e below (s₁.setTop (entryFrame m #[.ref a, .ref b] 3)) (s₁.setTop (mkF m pc Ls [.int v])) := by
      intro r
      induction r with
      | zero =>
        intro i hi he cl
        exact ⟨33, _, 1, Or.inr rfl, Or.inl ⟨rfl, hs, fun j hj => he j (by omega)⟩, cl.trans (by
          refine XS.iloadN X0.here hexec rfl (hb hbytes d9) rfl ?_
          refine XS.aloadN X0.here hexec rfl (hb hbytes d10) rfl rfl ?_
          refine X0.alen hexec hA0 rfl rfl (hb hbytes d11) ?_
          refine XS.icmpYes X0.here hexec rfl (pc0 := 12) rfl (hb hbytes d12) rfl (ii_ge_t (nlt32 (by omega) (by omega))) (by decide) rfl ?_
          refine iconstV X0.here hexec rfl 1 (hb hbytes d32) (by decide) ?_
          exact Steps.refl _)⟩
      | succ r ih =>
        intro i hi he cl
        have c4 : Steps p.tables e below (s₁.setTop (entryFrame m #[.ref a, .ref b] 3)) (s₁.setTop (mkF m 21 #[.val (.ref a), .val (.ref b), .val (.int (Int32.ofNat i))] [.int (yv B i), .int (yv A i)])) := cl.trans (by
          refine XS.iloadN X0.here hexec rfl (hb hbytes d9) rfl ?_
          refine XS.aloadN X0.here hexec rfl (hb hbytes d10) rfl rfl ?_
          refine X0.alen hexec hA0 rfl rfl (hb hbytes d11) ?_
          refine XS.icmpNo X0.here hexec rfl (hb hbytes d12) rfl (ii_ge_f (lt32 (by omega) (by omega))) ?_
          refine XS.aloadN X0.here hexec rfl (hb hbytes d15) rfl rfl ?_
          refine XS.iloadN X0.here hexec rfl (hb hbytes d16) rfl ?_
          refine X0.aget hexec hA0 rfl (yv_get hA tA (i := i) (by omega)) rfl rfl (hb hbytes d17) ?_
          refine XS.aloadN X0.here hexec rfl (hb hbytes d18) rfl rfl ?_
          refine XS.iloadN X0.here hexec rfl (hb hbytes d19) rfl ?_
          refine X0.aget hexec hB0 rfl (yv_get hB tB (i := i) (by omega)) rfl rfl (hb hbytes d20) ?_
          exact Steps.refl _)
        by_cases hv : yv A i = yv B i
        · have c5 : Steps p.tables e below (s₁.setTop (entryFrame m #[.ref a, .ref b] 3)) (s₁.setTop (mkF m 9 #[.val (.ref a), .val (.ref b), .val (.int (Int32.ofNat i + 1))] [])) := c4.trans (by
            refine XS.icmpYes X0.here hexec rfl (pc0 := 21) rfl (hb hbytes d21) rfl (ii_eq_t hv) (by decide) rfl ?_
            refine iincV X0.here hexec rfl 1 (hb hbytes d26) (by decide) rfl rfl ?_
            refine XS.goto X0.here hexec rfl (pc0 := 29) rfl (hb hbytes d29) (by decide) rfl ?_
            exact Steps.refl _)
          rw [succ32] at c5
          exact ih (i + 1) (by omega) (fun j hj => by
            by_cases e : j = i
            · rw [e]; exact hv
            · exact he j (by omega)) c5
        · exact ⟨25, _, 0, Or.inl rfl, Or.inr ⟨rfl, fun q => hv (q.2 i (by omega))⟩, c4.trans (by
            refine XS.icmpNo X0.here hexec rfl (hb hbytes d21) rfl (ii_eq_f hv) ?_
            refine iconstV X0.here hexec rfl 0 (hb hbytes d24) (by decide) ?_
            exact Steps.refl _)⟩
    obtain ⟨pc, Ls, v, hpc, hv, cz⟩ := loop A.slots.size 0 (by omega) (fun j hj => absurd hj (Nat.not_lt_zero j)) c3
    have nv : narrow .boolean (.int v) = .int v := by rcases hv with ⟨rfl, -⟩ | ⟨rfl, -⟩ <;> rfl
    rcases hpc with rfl | rfl
    · exact ⟨s₁, some (.int v), _, _, _, X0, rfl, rfl, rfl, (fun h => by cases h), ⟨v, rfl, hh0, hv⟩, fun fs hl => cz.trans (X0.ireturnOut hexec hret nv (Or.inr (Or.inl rfl)) (hb hbytes d25) hl)⟩
    · exact ⟨s₁, some (.int v), _, _, _, X0, rfl, rfl, rfl, (fun h => by cases h), ⟨v, rfl, hh0, hv⟩, fun fs hl => cz.trans (X0.ireturnOut hexec hret nv (Or.inr (Or.inl rfl)) (hb hbytes d33) hl)⟩
  · have c3 : Steps p.tables e below (s₁.setTop (entryFrame m #[.ref a, .ref b] 3)) (s₁.setTop (mkF m 35 #[.val (.ref a), .val (.ref b), .unset] [.int 0])) := c2.trans (by
      refine XS.icmpYes X0.here hexec rfl (pc0 := 4) rfl (hb hbytes d4) rfl (ii_ne_t (ne32 a31 b31 hs)) (by decide) rfl ?_
      refine iconstV X0.here hexec rfl 0 (hb hbytes d34) (by decide) ?_
      exact Steps.refl _)
    exact ⟨s₁, some (.int 0), _, _, _, X0, rfl, rfl, rfl, (fun h => by cases h), ⟨0, rfl, hh0, Or.inr ⟨rfl, fun q => hs q.1⟩⟩, fun fs hl => c3.trans (X0.ireturnOut hexec hret rfl (Or.inr (Or.inl rfl)) (hb hbytes d35) hl)⟩
end LEq
theorem Cod.ty {cd : Int32} {n : Nat} {f : Nat → Int32} {V : Cell} (h : Cod cd n f V) : Typed .byte V := fun i v hv => by
  have hi : i < V.slots.size := (Array.getElem?_eq_some_iff.mp hv).1
  rcases h with ⟨-, k1, k2⟩ | ⟨-, k1, k2, -⟩
  · rw [(k2 i (by omega)).1] at hv; cases hv; exact fits_lo8 _
  · rcases Nat.mod_two_eq_zero_or_one i with e | e
    · obtain ⟨j, rfl⟩ : ∃ j, i = 2 * j := ⟨i / 2, by omega⟩
      rw [(k2 j (by omega)).1] at hv; cases hv; exact fits_lo8 _
    · obtain ⟨j, rfl⟩ : ∃ j, i = 2 * j + 1 := ⟨i / 2, by omega⟩
      rw [(k2 j (by omega)).2] at hv; cases hv; exact fits_lo8 _
/-- the same text -/
def SameT (n : Nat) (f : Nat → Int32) (k : Nat) (g : Nat → Int32) : Prop := n = k ∧ ∀ j, j < n → f j = g j
theorem lo8_inj {x y : Int32} (h0 : ¬ x < 0) (h1 : ¬ 255 < x) (k0 : ¬ y < 0) (k1 : ¬ 255 < y) (h : lo8 x = lo8 y) : x = y := by
  rw [← lo8_mask h0 h1, ← lo8_mask k0 k1, h]
/-- arrays coded by one coder are equal just where the texts are -/
theorem Cod.eqv {cd : Int32} {n k : Nat} {f g : Nat → Int32} {V V' : Cell} (h : Cod cd n f V) (h' : Cod cd k g V') (hf : ∀ j, j < n → ¬ f j < 0 ∧ ¬ 65535 < f j) (hg : ∀ j, j < k → ¬ g j < 0 ∧ ¬ 65535 < g j) : EqC V V' ↔ SameT n f k g := by
  have yvv : ∀ {W : Cell} {i : Nat} {x : Int32}, W.slots[i]? = some (.int x) → yv W i = x := fun q => by unfold yv; rw [q]
  rcases h with ⟨rfl, k1, k2⟩ | ⟨rfl, k1, k2, -⟩
  · rcases h' with ⟨-, m1, m2⟩ | ⟨e, -⟩
    · constructor
      · rintro ⟨e1, e2⟩
        refine ⟨by omega, fun j hj => ?_⟩
        have q := e2 j (by omega)
        rw [yvv (k2 j hj).1, yvv (m2 j (by omega)).1] at q
        exact lo8_inj (hf j hj).1 (k2 j hj).2 (hg j (by omega)).1 (m2 j (by omega)).2 q
      · rintro ⟨rfl, e2⟩
        refine ⟨by omega, fun j hj => ?_⟩
        rw [yvv (k2 j (by omega)).1, yvv (m2 j (by omega)).1, e2 j (by omega)]
    · exact absurd e (by decide)
  · rcases h' with ⟨e, -⟩ | ⟨-, m1, m2, -⟩
    · exact absurd e (by decide)
    · constructor
      · rintro ⟨e1, e2⟩
        refine ⟨by omega, fun j hj => ?_⟩
        have q1 := e2 (2 * j) (by omega)
        have q2 := e2 (2 * j + 1) (by omega)
        rw [yvv (k2 j hj).1, yvv (m2 j (by omega)).1] at q1
        rw [yvv (k2 j hj).2, yvv (m2 j (by omega)).2] at q2
        rw [← pair_says (hf j hj).1 (hf j hj).2, ← pair_says (hg j (by omega)).1 (hg j (by omega)).2, q1, q2]
      · rintro ⟨rfl, e2⟩
        refine ⟨by omega, fun i hi => ?_⟩
        rcases Nat.mod_two_eq_zero_or_one i with e | e
        · obtain ⟨j, rfl⟩ : ∃ j, i = 2 * j := ⟨i / 2, by omega⟩
          rw [yvv (k2 j (by omega)).1, yvv (m2 j (by omega)).1, e2 j (by omega)]
        · obtain ⟨j, rfl⟩ : ∃ j, i = 2 * j + 1 := ⟨i / 2, by omega⟩
          rw [yvv (k2 j (by omega)).2, yvv (m2 j (by omega)).2, e2 j (by omega)]
/-- two codings differ: so do the texts -/
theorem Cod.dif {cd cd' : Int32} {n k : Nat} {f g : Nat → Int32} {V V' : Cell} (h : Cod cd n f V) (h' : Cod cd' k g V') (hne : ¬ cd = cd') : ¬ SameT n f k g := by
  rintro ⟨rfl, e⟩
  rcases h with ⟨rfl, -, k2⟩ | ⟨rfl, -, -, j, hj, hw⟩
  · rcases h' with ⟨rfl, -⟩ | ⟨-, -, -, j, hj, hw⟩
    · exact hne rfl
    · exact (k2 j hj).2 (by rw [e j hj]; exact hw)
  · rcases h' with ⟨-, -, m2⟩ | ⟨rfl, -⟩
    · exact (m2 j hj).2 (by rw [← e j hj]; exact hw)
    · exact hne rfl
/-- an object of exactly C is an instance of C -/
theorem cinst {p : Program} {l : Launch} {e : Env} {R : Room} {s : State} {m : MethodId} {args : Array Value} {below : List Frame} {meth : Method} {c : Code} {T : State} {locs : List Loc} {cells slots : Nat} (X : Stand p l e R s m args below meth c T locs cells slots) (hexec : p.tables.exec = Jvm.exec) {own C : String} {index : Nat} (hown : s.vm.findClass own = some m.cls) (hlink : (Cond.classLink own index C).before args s = true) {a : Addr} (hE : Exact C a T)
    {g : JFrame} (hg : g.method = m) {rest : List Value} (hstack : g.stack = .ref a :: rest) (hdg : decode c.code g.pc = .ok (.instanceof index, 3)) :
    ∃ T', Stand p l e R s m args below meth c T' locs cells slots ∧ T'.heap = T.heap ∧ ∀ target, Steps p.tables e below (T'.setTop { g with pc := g.pc + 3, stack := .int 1 :: rest }) target → Steps p.tables e below (T.setTop g) target := by
  obtain ⟨cB, h1, D, h2, h3, h4⟩ := hE
  have h1' : s.vm.findClass C = some cB := by rw [← X.warmed.alike.findClass]; exact h1
  obtain ⟨vm', X', st⟩ := X.instanceofYes hexec hown hlink h2 h4 h1' (by rw [h3]; exact Jvm.Free.SB.assignable_self _ _) hg hstack hdg
  exact ⟨_, X', rfl, st⟩
theorem cself {p : Program} {l : Launch} {e : Env} {R : Room} {s : State} {m : MethodId} {args : Array Value} {below : List Frame} {meth : Method} {c : Code} {T : State} {locs : List Loc} {cells slots : Nat} (X : Stand p l e R s m args below meth c T locs cells slots) (hexec : p.tables.exec = Jvm.exec) {own C : String} {index : Nat} (hown : s.vm.findClass own = some m.cls) (hlink : (Cond.classLink own index C).before args s = true) {a : Addr} (hE : Exact C a T)
    {g : JFrame} (hg : g.method = m) {rest : List Value} (hstack : g.stack = .ref a :: rest) (hdg : decode c.code g.pc = .ok (.checkcast index, 3)) :
    ∃ T', Stand p l e R s m args below meth c T' locs cells slots ∧ T'.heap = T.heap ∧ ∀ target, Steps p.tables e below (T'.setTop { g with pc := g.pc + 3, stack := .ref a :: rest }) target → Steps p.tables e below (T.setTop g) target := by
  obtain ⟨cB, h1, D, h2, h3, h4⟩ := hE
  have h1' : s.vm.findClass C = some cB := by rw [← X.warmed.alike.findClass]; exact h1
  obtain ⟨vm', X', st⟩ := X.checkcastYes hexec hown hlink h2 h4 h1' (by rw [h3]; exact Jvm.Free.SB.assignable_self _ _) hg hstack hdg
  exact ⟨_, X', rfl, fun t h => st t (by rw [← hstack] at h; exact h)⟩
namespace SEq
def yN : MethodName := ⟨"java/lang/String", "equals", "(Ljava/lang/Object;)Z"⟩
abbrev yB : ByteArray := jdk_42_method_66_code
theorem d0 : decode yB 0 = .ok (.aload_n 0, 1) := by decide +kernel
theorem d1 : decode yB 1 = .ok (.aload_n 1, 1) := by decide +kernel
theorem d2 : decode yB 2 = .ok (.if_acmp (.ne) 5, 3) := by decide +kernel
theorem d5 : decode yB 5 = .ok (.iconst 1, 1) := by decide +kernel
theorem d6 : decode yB 6 = .ok (.ireturn, 1) := by decide +kernel
theorem d7 : decode yB 7 = .ok (.aload_n 1, 1) := by decide +kernel
theorem d8 : decode yB 8 = .ok (.instanceof 10, 3) := by decide +kernel
theorem d11 : decode yB 11 = .ok (.ifCond (.eq) 43, 3) := by decide +kernel
theorem d14 : decode yB 14 = .ok (.aload_n 1, 1) := by decide +kernel
theorem d15 : decode yB 15 = .ok (.checkcast 10, 3) := by decide +kernel
theorem d18 : decode yB 18 = .ok (.astore_n 2, 1) := by decide +kernel
theorem d19 : decode yB 19 = .ok (.getstatic 38, 3) := by decide +kernel
theorem d22 : decode yB 22 = .ok (.ifCond (.eq) 14, 3) := by decide +kernel
theorem d25 : decode yB 25 = .ok (.aload_n 0, 1) := by decide +kernel
theorem d26 : decode yB 26 = .ok (.getfield 15, 3) := by decide +kernel
theorem d29 : decode yB 29 = .ok (.aload_n 2, 1) := by decide +kernel
theorem d30 : decode yB 30 = .ok (.getfield 15, 3) := by decide +kernel
theorem d33 : decode yB 33 = .ok (.if_icmp (.ne) 21, 3) := by decide +kernel
theorem d36 : decode yB 36 = .ok (.aload_n 0, 1) := by decide +kernel
theorem d37 : decode yB 37 = .ok (.getfield 9, 3) := by decide +kernel
theorem d40 : decode yB 40 = .ok (.aload_n 2, 1) := by decide +kernel
theorem d41 : decode yB 41 = .ok (.getfield 9, 3) := by decide +kernel
theorem d44 : decode yB 44 = .ok (.invokestatic 541, 3) := by decide +kernel
theorem d47 : decode yB 47 = .ok (.ifCond (.eq) 7, 3) := by decide +kernel
theorem d50 : decode yB 50 = .ok (.iconst 1, 1) := by decide +kernel
theorem d51 : decode yB 51 = .ok (.goto 4, 3) := by decide +kernel
theorem d54 : decode yB 54 = .ok (.iconst 0, 1) := by decide +kernel
theorem d55 : decode yB 55 = .ok (.ireturn, 1) := by decide +kernel
def site : List Cond := [.classLink "java/lang/String" 10 "java/lang/String", .fieldLink "java/lang/String" 38 "java/lang/String" "COMPACT_STRINGS" "Z", .fieldLink "java/lang/String" 15 "java/lang/String" "coder" "B", .fieldLink "java/lang/String" 9 "java/lang/String" "value" "[B", LEq.tab] ++ staticW "java/lang/String" 541 LEq.yN
def tab : Cond := tabOf yN yB 3 (some .boolean) site
def P (x t : Addr) (V : Cell) (cd : Int32) (n : Nat) (f : Nat → Int32) (y t' : Addr) (V' : Cell) (cd' : Int32) (k : Nat) (g : Nat → Int32) (z : Int32) (args : Array Value) (s : State) : Prop := args = #[.ref x, .ref y] ∧ Txt x t V cd n f s ∧ Txt y t' V' cd' k g s ∧ StaticIs s "java/lang/String" "COMPACT_STRINGS" "Z" (.int z) ∧ ¬ z = 0
/-- equals(Object) of two Strings: whether the texts are the same -/
theorem law (l : Launch) (x t : Addr) (V : Cell) (cd : Int32) (n : Nat) (f : Nat → Int32) (y t' : Addr) (V' : Cell) (cd' : Int32) (k : Nat) (g : Nat → Int32) (z : Int32) : Law l yN 2 1 1 14 yB 3 (some .boolean) site (P x t V cd n f y t' V' cd' k g z) (Says01 (SameT n f k g)) [] 0 0 := by
  refine Law.of_walk (plainFor_of_name (by decide +kernel)) (by decide +kernel) (by decide +kernel) (by decide) (fun _ _ h => by rw [h.1]; rfl) (fun _ U U' hal hh h => ⟨h.1, h.2.1.mv hal hh, h.2.2.1.mv hal hh, h.2.2.2.1.there hal hh, h.2.2.2.2⟩) (fun r U U' V V' h1 hal h2 h => Says01.mv r U U' V V' h1 hal h2 h) ?_
  intro p e s m args below meth c s₁ X0 hexec hbytes hml hret hlk hnm hown hh0 W hP
  obtain ⟨rfl, hx, hy, s1, hz⟩ := hP
  have c1 : Steps p.tables e below (s₁.setTop (entryFrame m #[.ref x, .ref y] 3)) (s₁.setTop (mkF m 2 #[.val (.ref x), .val (.ref y), .unset] [.ref y, .ref x])) := Steps.trans (entry rfl) (by
    show Steps p.tables e below (s₁.setTop (mkF m 0 #[.val (.ref x), .val (.ref y), .unset] [])) _
    refine XS.aloadN X0.here hexec rfl (hb hbytes d0) rfl rfl ?_
    refine XS.aloadN X0.here hexec rfl (hb hbytes d1) rfl rfl ?_
    exact Steps.refl _)
  by_cases hxy : x = y
  · have c2 : Steps p.tables e below (s₁.setTop (entryFrame m #[.ref x, .ref y] 3)) (s₁.setTop (mkF m 6 #[.val (.ref x), .val (.ref y), .unset] [.int 1])) := c1.trans (by
      refine acmpNo X0.here hexec rfl (hb hbytes d2) rfl rfl rfl (by simp [acmp, hxy]) ?_
      refine iconstV X0.here hexec rfl 1 (hb hbytes d5) (by decide) ?_
      exact Steps.refl _)
    subst hxy
    have ec : cd = cd' := by
      obtain ⟨D, fd, a1, a2, a3⟩ := hx.2.2.1
      obtain ⟨D', fd', b1, b2, b3⟩ := hy.2.2.1
      cases a1.symm.trans b1
      obtain ⟨q1, q2, q3, q4⟩ := a2.1
      obtain ⟨r1, r2, r3, r4⟩ := b2.1
      cases q4.symm.trans r4
      cases a3.symm.trans b3; rfl
    have et : t = t' := by
      obtain ⟨D, fd, a1, a2, a3⟩ := hx.2.1
      obtain ⟨D', fd', b1, b2, b3⟩ := hy.2.1
      cases a1.symm.trans b1
      obtain ⟨q1, q2, q3, q4⟩ := a2.1
      obtain ⟨r1, r2, r3, r4⟩ := b2.1
      cases q4.symm.trans r4
      cases a3.symm.trans b3; rfl
    subst ec et
    have ev : V = V' := by cases hx.2.2.2.1.1.symm.trans hy.2.2.2.1.1; rfl
    subst ev
    have hs : SameT n f k g := (Cod.eqv hx.2.2.2.2.1 hy.2.2.2.2.1 hx.2.2.2.2.2 hy.2.2.2.2.2).mp ⟨rfl, fun _ _ => rfl⟩
    exact ⟨s₁, some (.int 1), _, _, _, X0, rfl, rfl, rfl, (fun h => by cases h), ⟨1, rfl, hh0, Or.inl ⟨rfl, hs⟩⟩, fun fs hl => c2.trans (X0.ireturnOut hexec hret rfl (Or.inr (Or.inl rfl)) (hb hbytes d6) hl)⟩
  · have c2 : Steps p.tables e below (s₁.setTop (entryFrame m #[.ref x, .ref y] 3)) (s₁.setTop (mkF m 8 #[.val (.ref x), .val (.ref y), .unset] [.ref y])) := c1.trans (by
      refine acmpYes X0.here hexec rfl (pc0 := 2) rfl (hb hbytes d2) rfl rfl rfl (by simp [acmp, hxy]) (by decide) rfl ?_
      refine XS.aloadN X0.here hexec rfl (hb hbytes d7) rfl rfl ?_
      exact Steps.refl _)
    obtain ⟨T3, X3, q3, st3⟩ := cinst X0 hexec hown (wk W (.classLink "java/lang/String" 10 "java/lang/String")) (hy.mv X0.warmed.alike hh0).1 (g := (mkF m 8 #[.val (.ref x), .val (.ref y), .unset] [.ref y])) rfl (rest := []) rfl (hb hbytes d8)
    have hh3 := q3.trans hh0
    have c4 : Steps p.tables e below (s₁.setTop (entryFrame m #[.ref x, .ref y] 3)) (T3.setTop (mkF m 15 #[.val (.ref x), .val (.ref y), .unset] [.ref y])) := (c2.trans (st3 _ (Steps.refl _))).trans (by
      refine XS.ifNo X3.here hexec rfl (hb hbytes d11) rfl (i0_eq_f (by decide)) ?_
      refine XS.aloadN X3.here hexec rfl (hb hbytes d14) rfl rfl ?_
      exact Steps.refl _)
    obtain ⟨T5, X5, q5, st5⟩ := cself X3 hexec hown (wk W (.classLink "java/lang/String" 10 "java/lang/String")) (hy.mv X3.warmed.alike hh3).1 (g := (mkF m 15 #[.val (.ref x), .val (.ref y), .unset] [.ref y])) rfl (rest := []) rfl (hb hbytes d15)
    have hh5 := q5.trans hh3
    have c6 : Steps p.tables e below (s₁.setTop (entryFrame m #[.ref x, .ref y] 3)) (T5.setTop (mkF m 19 #[.val (.ref x), .val (.ref y), .val (.ref y)] [])) := (c4.trans (st5 _ (Steps.refl _))).trans (by
      refine XS.astoreN X5.here hexec rfl (hb hbytes d18) rfl rfl rfl ?_
      exact Steps.refl _)
    obtain ⟨T7, X7, q7, st7⟩ := X5.sget hexec hown (wk W (.fieldLink "java/lang/String" 38 "java/lang/String" "COMPACT_STRINGS" "Z")) s1 (fun _ _ h => by rw [hh5]; exact h) (g := (mkF m 19 #[.val (.ref x), .val (.ref y), .val (.ref y)] [])) rfl (hb hbytes d19)
    have hh7 := q7.trans hh5
    have c8 : Steps p.tables e below (s₁.setTop (entryFrame m #[.ref x, .ref y] 3)) (T7.setTop (mkF m 26 #[.val (.ref x), .val (.ref y), .val (.ref y)] [.ref x])) := (c6.trans (st7 _ (Steps.refl _))).trans (by
      refine XS.ifNo X7.here hexec rfl (hb hbytes d22) rfl (i0_eq_f hz) ?_
      refine XS.aloadN X7.here hexec rfl (hb hbytes d25) rfl rfl ?_
      exact Steps.refl _)
    obtain ⟨T9, X9, q9, st9⟩ := X7.hget hexec hown (wk W (.fieldLink "java/lang/String" 15 "java/lang/String" "coder" "B")) (hx.mv X7.warmed.alike hh7).2.2.1 (g := (mkF m 26 #[.val (.ref x), .val (.ref y), .val (.ref y)] [.ref x])) rfl (rest := []) rfl (hb hbytes d26)
    have hh9 := q9.trans hh7
    have c10 : Steps p.tables e below (s₁.setTop (entryFrame m #[.ref x, .ref y] 3)) (T9.setTop (mkF m 30 #[.val (.ref x), .val (.ref y), .val (.ref y)] [.ref y, .int cd])) := (c8.trans (st9 _ (Steps.refl _))).trans (by
      refine XS.aloadN X9.here hexec rfl (hb hbytes d29) rfl rfl ?_
      exact Steps.refl _)
    obtain ⟨T11, X11, q11, st11⟩ := X9.hget hexec hown (wk W (.fieldLink "java/lang/String" 15 "java/lang/String" "coder" "B")) (hy.mv X9.warmed.alike hh9).2.2.1 (g := (mkF m 30 #[.val (.ref x), .val (.ref y), .val (.ref y)] [.ref y, .int cd])) rfl (rest := [.int cd]) rfl (hb hbytes d30)
    have hh11 := q11.trans hh9
    have c12 : Steps p.tables e below (s₁.setTop (entryFrame m #[.ref x, .ref y] 3)) (T11.setTop (mkF m 33 #[.val (.ref x), .val (.ref y), .val (.ref y)] [.int cd', .int cd])) := c10.trans (st11 _ (Steps.refl _))
    by_cases hcd : cd = cd'
    · subst hcd
      have c13 : Steps p.tables e below (s₁.setTop (entryFrame m #[.ref x, .ref y] 3)) (T11.setTop (mkF m 37 #[.val (.ref x), .val (.ref y), .val (.ref y)] [.ref x])) := c12.trans (by
        refine XS.icmpNo X11.here hexec rfl (hb hbytes d33) rfl (ii_ne_f rfl) ?_
        refine XS.aloadN X11.here hexec rfl (hb hbytes d36) rfl rfl ?_
        exact Steps.refl _)
      obtain ⟨T14, X14, q14, st14⟩ := X11.hget hexec hown (wk W (.fieldLink "java/lang/String" 9 "java/lang/String" "value" "[B")) (hx.mv X11.warmed.alike hh11).2.1 (g := (mkF m 37 #[.val (.ref x), .val (.ref y), .val (.ref y)] [.ref x])) rfl (rest := []) rfl (hb hbytes d37)
      have hh14 := q14.trans hh11
      have c15 : Steps p.tables e below (s₁.setTop (entryFrame m #[.ref x, .ref y] 3)) (T14.setTop (mkF m 41 #[.val (.ref x), .val (.ref y), .val (.ref y)] [.ref y, .ref t])) := (c13.trans (st14 _ (Steps.refl _))).trans (by
        refine XS.aloadN X14.here hexec rfl (hb hbytes d40) rfl rfl ?_
        exact Steps.refl _)
      obtain ⟨T16, X16, q16, st16⟩ := X14.hget hexec hown (wk W (.fieldLink "java/lang/String" 9 "java/lang/String" "value" "[B")) (hy.mv X14.warmed.alike hh14).2.1 (g := (mkF m 41 #[.val (.ref x), .val (.ref y), .val (.ref y)] [.ref y, .ref t])) rfl (rest := [.ref t]) rfl (hb hbytes d41)
      have hh16 := q16.trans hh14
      have c17 : Steps p.tables e below (s₁.setTop (entryFrame m #[.ref x, .ref y] 3)) (T16.setTop (mkF m 44 #[.val (.ref x), .val (.ref y), .val (.ref y)] [.ref t', .ref t])) := c15.trans (st16 _ (Steps.refl _))
      obtain ⟨v18, T18, X18, E18, g18⟩ := X16.callS hexec (LEq.law l t V t' V') hown (wks W (staticW "java/lang/String" 541 LEq.yN)) (wk W LEq.tab) (W := 0) (Nat.le_of_ble_eq_true rfl) (Nat.le_of_ble_eq_true rfl) (Nat.le_refl _) (Nat.le_refl _) (g := (mkF m 44 #[.val (.ref x), .val (.ref y), .val (.ref y)] [.ref t', .ref t])) rfl (by rw [hml]; rfl) c17 (argsL := [.ref t, .ref t']) (rest := []) rfl rfl (by show 2 * 0 + 0 ≤ _; decide) (hb hbytes d44) (⟨rfl, hx.2.2.2.1.mv X16.warmed.alike hh16, hx.2.2.2.2.1.ty, hy.2.2.2.1.mv X16.warmed.alike hh16, hy.2.2.2.2.1.ty⟩)
      obtain ⟨v, rfl, q18, hv⟩ := E18
      have iff := Cod.eqv hx.2.2.2.2.1 hy.2.2.2.2.1 hx.2.2.2.2.2 hy.2.2.2.2.2
      rcases hv with ⟨rfl, he⟩ | ⟨rfl, he⟩
      · have c19 : Steps p.tables e below (s₁.setTop (entryFrame m #[.ref x, .ref y] 3)) (T18.setTop (mkF m 55 #[.val (.ref x), .val (.ref y), .val (.ref y)] [.int 1])) := Steps.trans g18 (by
          refine XS.ifNo X18.here hexec rfl (hb hbytes d47) rfl (i0_eq_f (by decide)) ?_
          refine iconstV X18.here hexec rfl 1 (hb hbytes d50) (by decide) ?_
          refine XS.goto X18.here hexec rfl (pc0 := 51) rfl (hb hbytes d51) (by decide) rfl ?_
          exact Steps.refl _)
        exact ⟨T18, some (.int 1), _, _, _, X18, rfl, rfl, rfl, (fun h => by cases h), ⟨1, rfl, q18.trans hh16, Or.inl ⟨rfl, iff.mp he⟩⟩, fun fs hl => c19.trans (X18.ireturnOut hexec hret rfl (Or.inr (Or.inl rfl)) (hb hbytes d55) hl)⟩
      · have c19 : Steps p.tables e below (s₁.setTop (entryFrame m #[.ref x, .ref y] 3)) (T18.setTop (mkF m 55 #[.val (.ref x), .val (.ref y), .val (.ref y)] [.int 0])) := Steps.trans g18 (by
          refine XS.ifYes X18.here hexec rfl (pc0 := 47) rfl (hb hbytes d47) rfl (i0_eq_t rfl) (by decide) rfl ?_
          refine iconstV X18.here hexec rfl 0 (hb hbytes d54) (by decide) ?_
          exact Steps.refl _)
        exact ⟨T18, some (.int 0), _, _, _, X18, rfl, rfl, rfl, (fun h => by cases h), ⟨0, rfl, q18.trans hh16, Or.inr ⟨rfl, fun q => he (iff.mpr q)⟩⟩, fun fs hl => c19.trans (X18.ireturnOut hexec hret rfl (Or.inr (Or.inl rfl)) (hb hbytes d55) hl)⟩
    · have c13 : Steps p.tables e below (s₁.setTop (entryFrame m #[.ref x, .ref y] 3)) (T11.setTop (mkF m 55 #[.val (.ref x), .val (.ref y), .val (.ref y)] [.int 0])) := c12.trans (by
        refine XS.icmpYes X11.here hexec rfl (pc0 := 33) rfl (hb hbytes d33) rfl (ii_ne_t hcd) (by decide) rfl ?_
        refine iconstV X11.here hexec rfl 0 (hb hbytes d54) (by decide) ?_
        exact Steps.refl _)
      exact ⟨T11, some (.int 0), _, _, _, X11, rfl, rfl, rfl, (fun h => by cases h), ⟨0, rfl, hh11, Or.inr ⟨rfl, Cod.dif hx.2.2.2.2.1 hy.2.2.2.2.1 hcd⟩⟩, fun fs hl => c13.trans (X11.ireturnOut hexec hret rfl (Or.inr (Or.inl rfl)) (hb hbytes d55) hl)⟩
theorem pays {l : Launch} {R : Room} {p : Program} {e : Env} {below : List Frame} {s : State} {sargs : Array Value} {len W : Nat} (x t : Addr) (V : Cell) (cd : Int32) (n : Nat) (f : Nat → Int32) (y t' : Addr) (V' : Cell) (cd' : Int32) (k : Nat) (g : Nat → Int32) (z : Int32) (htab : tab.before sargs s = true) (hfr : 2 ≤ R.frames) (hlo : W + 28 ≤ R.locals) :
    Back l R p e below s sargs yN len W (fun A₁ a₁ => A₁.cells + 0 ≤ R.cells ∧ A₁.slots + 0 ≤ R.slots ∧ P x t V cd n f y t' V' cd' k g z a₁ A₁.U) (fun A₁ _ v₁ B₁ => Says01 (SameT n f k g) v₁ A₁.U B₁.U ∧ B₁.locs = A₁.locs ++ [] ∧ B₁.cells = A₁.cells + 0 ∧ B₁.slots = A₁.slots + 0) :=
  (law l x t V cd n f y t' V' cd' k g z).pays htab hfr (by omega)
end SEq
end StrChars
namespace StrChars.Road
open Jvm Sem ClassFile Op Lib Jvm.Stand Jvm.Free Jvm.Free.XT
open Jvm.Lib.Cold (StaticIs)
/-- the words of String.equals(Object) -/
abbrev wordsEq : List Jvm.Cond := [.code SEq.yN SEq.yB 3 (some .boolean), .initialized ST, .classLink ST 10 ST, .fieldLink ST 38 ST "COMPACT_STRINGS" "Z", .fieldLink ST 15 ST "coder" "B", .fieldLink ST 9 ST "value" "[B", .methodLink ST 541 LEq.yN, .static LEq.yN, .code LEq.yN LEq.yB 3 (some .boolean), .initialized "java/lang/StringLatin1"]
theorem tabEq_of {a : Array Value} {s : State} (h : ∀ w ∈ wordsEq, w.before a s = true) : SEq.tab.before a s = true := by
  have hl : LEq.tab.before a s = true := unparts (wk h (.code LEq.yN LEq.yB 3 (some .boolean))) (wks h (.initialized LEq.yN.cls :: LEq.site))
  have q := consq hl h
  exact unparts (wk q (.code SEq.yN SEq.yB 3 (some .boolean))) (wks q (.initialized SEq.yN.cls :: SEq.site))
theorem movedEq {Z s : State} {a0 args : Array Value} (hZ : Z.Warmed39 s.vm) (hw : ∀ d ∈ wordsEq, d.before a0 Z = true) : ∀ d ∈ wordsEq, d.before args s = true := fun d hd => by
  have t : ∀ d ∈ wordsEq, (d.onTables && d.keepsFace) = true := by decide +kernel
  exact RoadKit.mv hZ (hw d hd) (t d hd)
/-- the road's facts of a String, as the laws ask it -/
theorem txt_of {Z U : State} {a0 : Array Value} {kI : Nat} (wi : (Jvm.Cond.instantiable ST kI).before a0 Z = true) (al : Z.vm.Alike U.vm) {x t : Addr} {kb : ClassId} {cs : List Int32} {cd N2 : Int32} {vs : List Value} (E : RoadKit.Exa Z U.heap x ST) (V : RoadKit.Fld Z U.heap x ST "value" "[B" (.ref t)) (C : RoadKit.Fld Z U.heap x ST "coder" "B" (.int cd)) (K : RoadKit.Arv Z U.heap t kb .byte N2 vs (.int 0)) (hc : CodA cs cd N2 vs) (hb : ∀ c ∈ cs, ¬ c < 0 ∧ ¬ (65535 : Int32) < c) (l2 : cs.length ≤ 4000) :
    ∃ A, Txt x t A cd cs.length (fun j => cs.getD j 0) U := by
  obtain ⟨A, K1, K2, K3, K4, K5, K6⟩ := K
  have hcod := hc.cod (by omega) K3 K5
  obtain ⟨D, fV, fC, hB, F1, F2, g1, g2, -, -⟩ := strObj wi al E V C
  exact ⟨A, ⟨_, hB.2.2.1, D, hB.1, rfl, by cases q : D.vm <;> first | rfl | exact absurd q (hB.2.1.2 _)⟩, Has.of hB F1 g1, Has.of hB F2 g2, ⟨K1.1, State.isArrayOf_alike al K1.2.1, K1.2.2, by rcases hcod with ⟨-, q, -⟩ | ⟨-, q, -⟩ <;> omega⟩, hcod, fun j hj => by
    have e : cs.getD j 0 = cs[j] := by simp [List.getD_eq_getElem?_getD, hj]
    show ¬ cs.getD j 0 < 0 ∧ ¬ 65535 < cs.getD j 0
    rw [e]; exact hb _ (List.getElem_mem _)⟩
theorem same_list (cs ds : List Int32) : SameT cs.length (fun j => cs.getD j 0) ds.length (fun j => ds.getD j 0) ↔ cs = ds := by
  constructor
  · rintro ⟨e, q⟩
    refine List.ext_getElem e fun j h1 h2 => ?_
    have := q j h1
    simpa [List.getD_eq_getElem?_getD, h1, h2] using this
  · rintro rfl
    exact ⟨rfl, fun _ _ => rfl⟩
/-- **equals(Object) OF TWO SUCH STRINGS**: 1 just where the chars are the same -/
theorem eqW {p : Program} {l : Launch} {e : Env} {R : Room} {s : State} {args : Array Value} {below : List Frame} {len W : Nat} {Z : State} {a0 : Array Value} {h : Heap} (hZ : Z.Warmed39 s.vm) (hw : ∀ d ∈ wordsEq, d.before a0 Z = true) {kI : Nat} (wi : (Jvm.Cond.instantiable ST kI).before a0 Z = true)
    {x t : Addr} {kb : ClassId} {cs : List Int32} {cd N2 : Int32} {vs : List Value} (E : RoadKit.Exa Z h x ST) (V : RoadKit.Fld Z h x ST "value" "[B" (.ref t)) (C : RoadKit.Fld Z h x ST "coder" "B" (.int cd)) (K : RoadKit.Arv Z h t kb .byte N2 vs (.int 0)) (hc : CodA cs cd N2 vs) (hb : ∀ c ∈ cs, ¬ c < 0 ∧ ¬ (65535 : Int32) < c) (l2 : cs.length ≤ 4000)
    {y t' : Addr} {kb' : ClassId} {ds : List Int32} {cd' N2' : Int32} {vs' : List Value} (E' : RoadKit.Exa Z h y ST) (V' : RoadKit.Fld Z h y ST "value" "[B" (.ref t')) (C' : RoadKit.Fld Z h y ST "coder" "B" (.int cd')) (K' : RoadKit.Arv Z h t' kb' .byte N2' vs' (.int 0)) (hc' : CodA ds cd' N2' vs') (hb' : ∀ c ∈ ds, ¬ c < 0 ∧ ¬ (65535 : Int32) < c) (l2' : ds.length ≤ 4000)
    {z : Int32} (S : RoadKit.Sta Z h ST "COMPACT_STRINGS" "Z" (.int z)) (hz : ¬ z = 0) (hfr : 2 ≤ R.frames) (hlo : W + 28 ≤ R.locals) :
    Back l R p e below s args (⟨"java/lang/String", "equals", "(Ljava/lang/Object;)Z"⟩ : MethodName) len W (fun P a => a = #[.ref x, .ref y] ∧ P.U.heap = h ∧ P.cells + 0 ≤ R.cells ∧ P.slots + 0 ≤ R.slots)
      (fun P _ v B => ∃ L, (((v = some (.int 1) ∧ cs = ds) ∨ (v = some (.int 0) ∧ ¬ cs = ds)) ∧ L = [] ∧ B.U.heap = h) ∧ B.locs = P.locs ++ L ∧ B.cells = P.cells + 0 ∧ B.slots = P.slots + 0) := by
  intro m meth c P g ig mk a X hg hsize hdg hW hn hp'
  obtain ⟨rfl, rfl, r1, r2⟩ := hp'
  have al : Z.vm.Alike P.U.vm := hZ.alike.trans X.warmed.alike
  obtain ⟨A, hx⟩ := txt_of wi al E V C K hc hb l2
  obtain ⟨A', hy⟩ := txt_of wi al E' V' C' K' hc' hb' l2'
  obtain ⟨v, B, X', ⟨⟨w, hv, hh, hq⟩, hl, hk, hs⟩, st⟩ := SEq.pays x t A cd cs.length (fun j => cs.getD j 0) y t' A' cd' ds.length (fun j => ds.getD j 0) z (tabEq_of (movedEq hZ hw)) hfr hlo m meth c P g ig mk _ X hg hsize hdg hW hn ⟨r1, r2, rfl, hx, hy, sta_is al S, hz⟩
  refine ⟨v, B, X', ⟨[], ⟨?_, rfl, hh⟩, hl, hk, hs⟩, st⟩
  rcases hq with ⟨rfl, q⟩ | ⟨rfl, q⟩
  · exact Or.inl ⟨hv, (same_list cs ds).mp q⟩
  · exact Or.inr ⟨hv, fun e => q ((same_list cs ds).mpr e)⟩
end StrChars.Road
namespace StrChars.Road
open Jvm Sem ClassFile Op Lib Jvm.Stand Jvm.Free Jvm.Free.XT
open Jvm.Lib.Cold (StaticIs)
/-- what backV says of its String, as the contracts of this text ask it: cs's low bytes, coder 0 -/
theorem codOf {cs : List Int32} {n : Nat} (hn : cs.length = n) (hb : ∀ c ∈ cs, ¬ 255 < c) : CodA cs 0 (Int32.ofNat n) ((cs.map lo8).map Value.int) := Or.inl ⟨rfl, by rw [hn], by simp [List.map_map, Function.comp_def], hb⟩
end StrChars.Road
end Jvm.Pilot.@@N@@
namespace Jvm.Pilot.@@N@@
open Jvm Jvm.ClassFile Sem Op Lib Jvm.Free Jvm.Stand Jvm.LawKit Jvm.RoadKit Bundle Jvm.Pilot.@@N@@.Jvm.D
theorem w_ {Z : State} {a0 : Array Value} (hw : ∀ d ∈ tables_1, d.before a0 Z = true) {d : Jvm.Cond} (i : Nat) (h : tables_1[i]? = some d) : d.before a0 Z = true := hw d (List.mem_of_getElem? h)
section OwnKit
variable {p : Program} {l : Launch} {e : Env} {R : Room} {s : State} {m : MethodId} {args : Array Value} {below : List Frame} {meth : Method} {c : Code} {T : State} {locs : List Loc} {cells slots : Nat}
/-- the walk from t comes back with what Q says -/
def Fin (p : Program) (e : Env) (below : List Frame) (s : State) (Q : Option Value → Heap → List Loc → Prop) (C S : Nat) (t : State) : Prop :=
  ∃ s₂ o, Steps p.tables e below t s₂ ∧ s₂.status = .running ∧ Ended s₂ below o ∧ ∃ v L, o = .returned v ∧ Q v s₂.heap L ∧ FrameEnd s o s₂ L C S
theorem Fin.by {Q : Option Value → Heap → List Loc → Prop} {C S : Nat} {a b : State} (h : ∀ t, Steps p.tables e below b t → Steps p.tables e below a t) (k : Fin p e below s Q C S b) : Fin p e below s Q C S a := by
  obtain ⟨s₂, o, h1, h2⟩ := k; exact ⟨s₂, o, h _ h1, h2⟩
theorem Fin.byS {Q : Option Value → Heap → List Loc → Prop} {C S : Nat} {a b : State} (h : Steps p.tables e below a b) (k : Fin p e below s Q C S b) : Fin p e below s Q C S a := Fin.by (fun _ k => h.trans k) k
theorem Fin.start {Q : Option Value → Heap → List Loc → Prop} {C S : Nat} {g g' : JFrame} (q : g = g') (k : Fin p e below s Q C S (T.setTop g')) :
    ∃ s₂ o, Steps p.tables e below (T.setTop g) s₂ ∧ s₂.status = .running ∧ Ended s₂ below o ∧ ∃ v L, o = .returned v ∧ Q v s₂.heap L ∧ FrameEnd s o s₂ L C S := by
  subst q; exact k
theorem Fin.ret {Q : Option Value → Heap → List Loc → Prop} {C S : Nat} {v : Option Value} {g : JFrame} (X : Stand p l e R s m args below meth c T locs cells slots) (hv : meth.sig.returnType = none → v = none) (hl : meth.locks = false)
    (hq : Q v T.heap locs) (hc : cells ≤ C) (hs : slots ≤ S) (st : ∀ fs, (∀ (f : JFrame) (acts : List Action), f.method = m → f.locked = none → f.entered = [] → (doReturn e (T.setTop f) acts v).1 = T.setFrames fs) → Steps p.tables e below (T.setTop g) (T.setFrames fs)) :
    Fin p e below s Q C S (T.setTop g) := by
  obtain ⟨fs, hr, hrun, hended, hW, hsame⟩ := X.leave hv hl
  exact ⟨_, _, st fs hr, hrun, hended, _, _, rfl, hq, ⟨_, rfl⟩, hW, hsame.mono hc hs⟩
theorem retI (X : Stand p l e R s m args below meth c T locs cells slots) (hx : p.tables.exec = Jvm.exec) {pc : Nat} {Ls : Array Slot} {z : Int32} {rest : List Value} (hret : meth.sig.returnType = some .int) (hd : decode c.code pc = .ok (.ireturn, 1)) {fs : List Frame}
    (hl : ∀ (f : JFrame) (acts : List Action), f.method = m → f.locked = none → f.entered = [] → (doReturn e (T.setTop f) acts (some (.int z))).1 = T.setFrames fs) : Steps p.tables e below (T.setTop (mkF m pc Ls (.int z :: rest))) (T.setFrames fs) :=
  retOut X hx hret rfl (Or.inl ⟨rfl, Or.inl rfl, _, rfl⟩) hd hl
theorem retA (X : Stand p l e R s m args below meth c T locs cells slots) (hx : p.tables.exec = Jvm.exec) {pc : Nat} {Ls : Array Slot} {w : Value} {t : FieldType} {rest : List Value} (hret : meth.sig.returnType = some t) (ht : t.isReference = true) (hw : w.isRef = true) (hd : decode c.code pc = .ok (.areturn, 1)) {fs : List Frame}
    (hl : ∀ (f : JFrame) (acts : List Action), f.method = m → f.locked = none → f.entered = [] → (doReturn e (T.setTop f) acts (some w)).1 = T.setFrames fs) : Steps p.tables e below (T.setTop (mkF m pc Ls (w :: rest))) (T.setFrames fs) :=
  retOut X hx hret (by cases t <;> first | (cases ht; done) | rfl) (Or.inr (Or.inr (Or.inr (Or.inr ⟨rfl, ht, hw⟩)))) hd hl
theorem retJ (X : Stand p l e R s m args below meth c T locs cells slots) (hx : p.tables.exec = Jvm.exec) {pc : Nat} {Ls : Array Slot} {z : Int64} {rest : List Value} (hret : meth.sig.returnType = some .long) (hd : decode c.code pc = .ok (.lreturn, 1)) {fs : List Frame}
    (hl : ∀ (f : JFrame) (acts : List Action), f.method = m → f.locked = none → f.entered = [] → (doReturn e (T.setTop f) acts (some (.long z))).1 = T.setFrames fs) : Steps p.tables e below (T.setTop (mkF m pc Ls (.long z :: rest))) (T.setFrames fs) :=
  retOut X hx hret rfl (Or.inr (Or.inl ⟨rfl, rfl, _, rfl⟩)) hd hl
theorem retD (X : Stand p l e R s m args below meth c T locs cells slots) (hx : p.tables.exec = Jvm.exec) {pc : Nat} {Ls : Array Slot} {z : UInt64} {rest : List Value} (hret : meth.sig.returnType = some .double) (hd : decode c.code pc = .ok (.dreturn, 1)) {fs : List Frame}
    (hl : ∀ (f : JFrame) (acts : List Action), f.method = m → f.locked = none → f.entered = [] → (doReturn e (T.setTop f) acts (some (.double z))).1 = T.setFrames fs) : Steps p.tables e below (T.setTop (mkF m pc Ls (.double z :: rest))) (T.setFrames fs) :=
  retOut X hx hret rfl (Or.inr (Or.inr (Or.inl ⟨rfl, rfl, _, rfl⟩))) hd hl
theorem XnullYes {target : State} (X : Stand p l e R s m args below meth c T locs cells slots) (hx : p.tables.exec = Jvm.exec) {g : JFrame} (hg : g.method = m) {v : Value} {rest : List Value} {o : Int} {pc0 pc' : Nat} (hv : v = .null) (hpc : g.pc = pc0) (hd : decode c.code g.pc = .ok (.ifnull o, 3)) (hs : g.stack = v :: rest) (ho : 0 ≤ (pc0 : Int) + o) (hp : ((pc0 : Int) + o).toNat = pc')
    (k : Steps p.tables e below (T.setTop { g with pc := pc', stack := rest }) target) : Steps p.tables e below (T.setTop g) target := by subst hv; exact XS.ifnullYes X.here hx hg hpc hd hs ho hp k
theorem XnullNo {target : State} (X : Stand p l e R s m args below meth c T locs cells slots) (hx : p.tables.exec = Jvm.exec) {g : JFrame} (hg : g.method = m) {v : Value} {a : Addr} {rest : List Value} {o : Int} (hv : v = .ref a) (hd : decode c.code g.pc = .ok (.ifnull o, 3)) (hs : g.stack = v :: rest)
    (k : Steps p.tables e below (T.setTop { g with pc := g.pc + 3, stack := rest }) target) : Steps p.tables e below (T.setTop g) target := by subst hv; exact XS.ifnullNo X.here hx hg hd hs k
theorem XnonnullYes {target : State} (X : Stand p l e R s m args below meth c T locs cells slots) (hx : p.tables.exec = Jvm.exec) {g : JFrame} (hg : g.method = m) {v : Value} {a : Addr} {rest : List Value} {o : Int} {pc0 pc' : Nat} (hv : v = .ref a) (hpc : g.pc = pc0) (hd : decode c.code g.pc = .ok (.ifnonnull o, 3)) (hs : g.stack = v :: rest) (ho : 0 ≤ (pc0 : Int) + o) (hp : ((pc0 : Int) + o).toNat = pc')
    (k : Steps p.tables e below (T.setTop { g with pc := pc', stack := rest }) target) : Steps p.tables e below (T.setTop g) target := by subst hv; exact XS.ifnonnullYes X.here hx hg hpc hd hs ho hp k
theorem XnonnullNo {target : State} (X : Stand p l e R s m args below meth c T locs cells slots) (hx : p.tables.exec = Jvm.exec) {g : JFrame} (hg : g.method = m) {v : Value} {rest : List Value} {o : Int} (hv : v = .null) (hd : decode c.code g.pc = .ok (.ifnonnull o, 3)) (hs : g.stack = v :: rest)
    (k : Steps p.tables e below (T.setTop { g with pc := g.pc + 3, stack := rest }) target) : Steps p.tables e below (T.setTop g) target := by subst hv; exact XS.ifnonnullNo X.here hx hg hd hs k
theorem cat_ref {v : Value} (h : v.isRef = true) : v.category = 1 := by rcases ref_cases h with rfl | ⟨a, rfl⟩ <;> rfl
theorem nar_ref (C : String) {v : Value} (h : v.isRef = true) : narrow (.object C) v = v := rfl
theorem fits_obj {C : String} {v : Value} (h : v.isRef = true) : fits (.object C) v = true := by rcases ref_cases h with rfl | ⟨a, rfl⟩ <;> rfl
def FinW (p : Program) (e : Env) (below : List Frame) (s : State) (Q : Option Value → Heap → List Loc → Prop) (C S : Nat) (t : State) : Prop :=
  ∃ s₂ o, Steps p.tables e below t s₂ ∧ s₂.status = .running ∧ Ended s₂ below o ∧ ∃ v L, o = .returned v ∧ Q v s₂.heap L ∧ ReturnedEndW s o s₂ L C S
theorem FinW.by {Q : Option Value → Heap → List Loc → Prop} {C S : Nat} {a b : State} (h : ∀ t, Steps p.tables e below b t → Steps p.tables e below a t) (k : FinW p e below s Q C S b) : FinW p e below s Q C S a := by
  obtain ⟨s₂, o, h1, h2⟩ := k; exact ⟨s₂, o, h _ h1, h2⟩
theorem FinW.byS {Q : Option Value → Heap → List Loc → Prop} {C S : Nat} {a b : State} (h : Steps p.tables e below a b) (k : FinW p e below s Q C S b) : FinW p e below s Q C S a := FinW.by (fun _ k => h.trans k) k
theorem FinW.start {Q : Option Value → Heap → List Loc → Prop} {C S : Nat} {g g' : JFrame} (q : g = g') (k : FinW p e below s Q C S (T.setTop g')) :
    ∃ s₂ o, Steps p.tables e below (T.setTop g) s₂ ∧ s₂.status = .running ∧ Ended s₂ below o ∧ ∃ v L, o = .returned v ∧ Q v s₂.heap L ∧ ReturnedEndW s o s₂ L C S := by
  subst q; exact k
theorem FinW.ret {Q : Option Value → Heap → List Loc → Prop} {C S : Nat} {v : Option Value} {g : JFrame} {V : Vm} {n : Nat} (X : Stand p l e R (s.setVm V) m args below meth c T locs cells slots) (hS : s.Since V n) (hn : n ≤ T.heap.size) (hv : meth.sig.returnType = none → v = none) (hl : meth.locks = false)
    (hq : Q v T.heap locs) (hc : cells ≤ C) (hs : slots ≤ S) (st : ∀ fs, (∀ (f : JFrame) (acts : List Action), f.method = m → f.locked = none → f.entered = [] → (doReturn e (T.setTop f) acts v).1 = T.setFrames fs) → Steps p.tables e below (T.setTop g) (T.setFrames fs)) :
    FinW p e below s Q C S (T.setTop g) := by
  obtain ⟨fs, hr, hrun, hended, hE⟩ := X.leaveW hS hn hv hl
  exact ⟨_, _, st fs hr, hrun, hended, _, _, rfl, hq, hE.1, hE.2.1, hE.2.2.1, hE.2.2.2.mono hc hs⟩
def FinH (p : Program) (e : Env) (below : List Frame) (Z : State) (EL : List (String × Nat)) (s : State) (Q : Option Value → Heap → List Loc → Prop) (C S : Nat) (t : State) : Prop :=
  ∃ s₂ o, Steps p.tables e below t s₂ ∧ s₂.status = .running ∧ Ended s₂ below o ∧ ∃ v L, o = .returned v ∧ Q v s₂.heap L ∧ CHr Z EL s.vm s.heap s₂.vm s₂.heap ∧ ReturnedEndW s o s₂ L C S
theorem FinH.by {Z : State} {EL : List (String × Nat)} {Q : Option Value → Heap → List Loc → Prop} {C S : Nat} {a b : State} (h : ∀ t, Steps p.tables e below b t → Steps p.tables e below a t) (k : FinH p e below Z EL s Q C S b) : FinH p e below Z EL s Q C S a := by
  obtain ⟨s₂, o, h1, h2⟩ := k; exact ⟨s₂, o, h _ h1, h2⟩
theorem FinH.byS {Z : State} {EL : List (String × Nat)} {Q : Option Value → Heap → List Loc → Prop} {C S : Nat} {a b : State} (h : Steps p.tables e below a b) (k : FinH p e below Z EL s Q C S b) : FinH p e below Z EL s Q C S a := FinH.by (fun _ k => h.trans k) k
theorem FinH.start {Z : State} {EL : List (String × Nat)} {Q : Option Value → Heap → List Loc → Prop} {C S : Nat} {g g' : JFrame} (q : g = g') (k : FinH p e below Z EL s Q C S (T.setTop g')) :
    ∃ s₂ o, Steps p.tables e below (T.setTop g) s₂ ∧ s₂.status = .running ∧ Ended s₂ below o ∧ ∃ v L, o = .returned v ∧ Q v s₂.heap L ∧ CHr Z EL s.vm s.heap s₂.vm s₂.heap ∧ ReturnedEndW s o s₂ L C S := by
  subst q; exact k
theorem FinH.ret {Z : State} {EL : List (String × Nat)} {Q : Option Value → Heap → List Loc → Prop} {C S : Nat} {v : Option Value} {g : JFrame} {V : Vm} {n : Nat} (X : Stand p l e R (s.setVm V) m args below meth c T locs cells slots) (hS : s.Since V n) (hn : n ≤ T.heap.size) (hv : meth.sig.returnType = none → v = none) (hl : meth.locks = false)
    (hq : Q v T.heap locs) (hC : CHr Z EL s.vm s.heap T.vm T.heap) (hc : cells ≤ C) (hs : slots ≤ S) (st : ∀ fs, (∀ (f : JFrame) (acts : List Action), f.method = m → f.locked = none → f.entered = [] → (doReturn e (T.setTop f) acts v).1 = T.setFrames fs) → Steps p.tables e below (T.setTop g) (T.setFrames fs)) :
    FinH p e below Z EL s Q C S (T.setTop g) := by
  obtain ⟨fs, hr, hrun, hended, hE⟩ := X.leaveW hS hn hv hl
  exact ⟨_, _, st fs hr, hrun, hended, _, _, rfl, hq, hC, hE.1, hE.2.1, hE.2.2.1, hE.2.2.2.mono hc hs⟩
end OwnKit
theorem own_and255 (x : Int32) : ¬ (x &&& 255) < 0 ∧ ¬ (255 : Int32) < (x &&& 255) := by
  have h := c_and x 255 (by decide)
  have h255 : (255 : Int32).toInt = 255 := by decide
  have h0 : (0 : Int32).toInt = 0 := by decide
  constructor
  · rw [Int32.lt_iff_toInt_lt]; omega
  · rw [Int32.lt_iff_toInt_lt]; omega
theorem own_c255 (x : Int32) : ¬ (nar .char ((x &&& (255 : Int32)).toUInt32.toUInt16.toUInt32.toInt32)) < 0 ∧ ¬ (255 : Int32) < (nar .char ((x &&& (255 : Int32)).toUInt32.toUInt16.toUInt32.toInt32)) := by
  rw [show nar .char ((x &&& (255 : Int32)).toUInt32.toUInt16.toUInt32.toInt32) = x &&& 255 from by simp only [nar, i2c_mask]]; exact own_and255 x
theorem own_cons {P : Int32 → Prop} {a : Int32} {L : List Int32} (h : P a) (k : ∀ c ∈ L, P c) : ∀ c ∈ a :: L, P c := fun c hc => (List.mem_cons.mp hc).elim (fun q => q ▸ h) (k c)
theorem own_nil {P : Int32 → Prop} : ∀ c ∈ ([] : List Int32), P c := fun _ h => nomatch h
theorem own_up {cs : List Int32} (h : ∀ c ∈ cs, ¬ c < 0 ∧ ¬ (255 : Int32) < c) : ∀ c ∈ cs, ¬ c < 0 ∧ ¬ (65535 : Int32) < c := fun c hc => ⟨(h c hc).1, fun q => (h c hc).2 (Int32.lt_trans (by decide) q)⟩
theorem own_shr0 (x : Int32) : x >>> ((0 : Int32) &&& 31) = x := by
  rw [show ((0 : Int32) &&& 31) = 0 from by decide]; simp
def own_vs (cs : List Int32) : List Value := (cs.map (fun c => c.toInt8.toInt32)).map Value.int
theorem own_vl (cs : List Int32) : (own_vs cs).length = cs.length := by simp [own_vs]
theorem own_va (a b : List Int32) : own_vs (a ++ b) = own_vs a ++ own_vs b := by simp [own_vs]
theorem own_push {Z : State} {h h' : Heap} {a : Addr} {k : ClassId} {ty : FieldType} {z j : Int32} {vs : List Value} {dv v : Value} {c : Cell} (A : Arr Z h a c ty) (q1 : c.cls = k) (S : c.slots.size = z.toNatClampNeg) (q3 : ¬ z < 0) (H : Has c vs dv) (G : ∀ i, i < c.slots.size → fits ty (vs.getD i dv) = true) (hv : fits ty v = true) (W : Wr h h' a j.toNatClampNeg v) (hj : j.toNatClampNeg = vs.length) : Arv Z h' a k ty z (vs ++ [v]) dv := by
  have pr : ∀ i, (vs ++ [dv]).getD i dv = vs.getD i dv := pad_rep vs dv 1
  have q := Arv.set A q1 S q3 (vs := vs ++ [dv]) (dv := dv) (fun i hi => by rw [pr i]; exact H i hi) (fun i hi => by rw [pr i]; exact G i hi) hv W vs.length hj (by simp)
  have e : (vs ++ [dv]).set vs.length v = vs ++ [v] := by simp
  rw [e] at q; exact q
def own_D : List Int32 := [68, 97, 116, 97, 98, 97, 115, 101, 83, 101, 116, 116, 105, 110, 103, 115, 91, 117, 114, 108, 61]
set_option maxRecDepth 65536 in
theorem own_hD : (∀ c ∈ ("DatabaseSettings[url=" : String).toList, c.toNat < 256) ∧ ("DatabaseSettings[url=" : String).toList.map (fun c => Value.int (Jvm.Lit.byteI c.toNat.toUInt16)) = own_vs own_D := by decide +kernel
set_option maxRecDepth 65536 in
theorem own_zD : (21 : Int32).toNatClampNeg = (own_vs own_D).length := by decide +kernel
def own_U : List Int32 := [44, 32, 117, 115, 101, 114, 61]
set_option maxRecDepth 65536 in
theorem own_hU : (∀ c ∈ (", user=" : String).toList, c.toNat < 256) ∧ (", user=" : String).toList.map (fun c => Value.int (Jvm.Lit.byteI c.toNat.toUInt16)) = own_vs own_U := by decide +kernel
set_option maxRecDepth 65536 in
theorem own_zU : (7 : Int32).toNatClampNeg = (own_vs own_U).length := by decide +kernel
def own_E : List Int32 := [93]
set_option maxRecDepth 65536 in
theorem own_hE : (∀ c ∈ ("]" : String).toList, c.toNat < 256) ∧ ("]" : String).toList.map (fun c => Value.int (Jvm.Lit.byteI c.toNat.toUInt16)) = own_vs own_E := by decide +kernel
set_option maxRecDepth 65536 in
theorem own_zE : (1 : Int32).toNatClampNeg = (own_vs own_E).length := by decide +kernel
def own_N : List Int32 := [110, 117, 108, 108]
def own_4 (x : Int32) : List Int32 := [nar .char ((x &&& (255 : Int32)).toUInt32.toUInt16.toUInt32.toInt32), nar .char ((((x.toUInt32 >>> ((8 : Int32) &&& 31).toUInt32).toInt32) &&& (255 : Int32)).toUInt32.toUInt16.toUInt32.toInt32), nar .char ((((x.toUInt32 >>> ((16 : Int32) &&& 31).toUInt32).toInt32) &&& (255 : Int32)).toUInt32.toUInt16.toUInt32.toInt32), nar .char ((((x.toUInt32 >>> ((24 : Int32) &&& 31).toUInt32).toInt32) &&& (255 : Int32)).toUInt32.toUInt16.toUInt32.toInt32)]
theorem own_h4 (x : Int32) : ∀ c ∈ own_4 x, ¬ c < 0 ∧ ¬ (255 : Int32) < c := own_cons (own_c255 _) (own_cons (own_c255 _) (own_cons (own_c255 _) (own_cons (own_c255 _) own_nil)))
theorem own_hN : ∀ c ∈ own_N, ¬ c < 0 ∧ ¬ (255 : Int32) < c := by decide
theorem own_kD : ∀ c ∈ own_D, ¬ c < 0 ∧ ¬ (255 : Int32) < c := by decide +kernel
theorem own_kU : ∀ c ∈ own_U, ¬ c < 0 ∧ ¬ (255 : Int32) < c := by decide +kernel
theorem own_kE : ∀ c ∈ own_E, ¬ c < 0 ∧ ¬ (255 : Int32) < c := by decide
theorem own_app {P : Int32 → Prop} {a b : List Int32} (h : ∀ c ∈ a, P c) (k : ∀ c ∈ b, P c) : ∀ c ∈ a ++ b, P c := fun c hc => (List.mem_append.mp hc).elim (h c) (k c)
theorem own_words : ∀ d ∈ StrChars.Road.words, d ∈ tables_1 := by decide +kernel
theorem own_wordsEq : ∀ d ∈ StrChars.Road.wordsEq, d ∈ tables_1 := by decide +kernel
def own_e0 (nu x : Int32) : Int32 := if nu = 0 then nar .char ((x &&& (255 : Int32)).toUInt32.toUInt16.toUInt32.toInt32) else nar .char 110
theorem own_he0 (nu x : Int32) : ¬ own_e0 nu x < 0 ∧ ¬ (255 : Int32) < own_e0 nu x := by
  unfold own_e0
  by_cases h : nu = 0
  · rw [if_pos h]; exact own_c255 _
  · rw [if_neg h]; decide
def own_e1 (nu x : Int32) : Int32 := if nu = 0 then nar .char ((((x.toUInt32 >>> ((8 : Int32) &&& 31).toUInt32).toInt32) &&& (255 : Int32)).toUInt32.toUInt16.toUInt32.toInt32) else nar .char 117
theorem own_he1 (nu x : Int32) : ¬ own_e1 nu x < 0 ∧ ¬ (255 : Int32) < own_e1 nu x := by
  unfold own_e1
  by_cases h : nu = 0
  · rw [if_pos h]; exact own_c255 _
  · rw [if_neg h]; decide
def own_e2 (nu x : Int32) : Int32 := if nu = 0 then nar .char ((((x.toUInt32 >>> ((16 : Int32) &&& 31).toUInt32).toInt32) &&& (255 : Int32)).toUInt32.toUInt16.toUInt32.toInt32) else nar .char 108
theorem own_he2 (nu x : Int32) : ¬ own_e2 nu x < 0 ∧ ¬ (255 : Int32) < own_e2 nu x := by
  unfold own_e2
  by_cases h : nu = 0
  · rw [if_pos h]; exact own_c255 _
  · rw [if_neg h]; decide
def own_e3 (nu x : Int32) : Int32 := if nu = 0 then nar .char ((((x.toUInt32 >>> ((24 : Int32) &&& 31).toUInt32).toInt32) &&& (255 : Int32)).toUInt32.toUInt16.toUInt32.toInt32) else nar .char 108
theorem own_he3 (nu x : Int32) : ¬ own_e3 nu x < 0 ∧ ¬ (255 : Int32) < own_e3 nu x := by
  unfold own_e3
  by_cases h : nu = 0
  · rw [if_pos h]; exact own_c255 _
  · rw [if_neg h]; decide
def own_p (nu x : Int32) : List Int32 := [own_e0 nu x, own_e1 nu x, own_e2 nu x, own_e3 nu x]
theorem own_hp (nu x : Int32) : ∀ c ∈ own_p nu x, ¬ c < 0 ∧ ¬ (255 : Int32) < c := own_cons (own_he0 _ _) (own_cons (own_he1 _ _) (own_cons (own_he2 _ _) (own_cons (own_he3 _ _) own_nil)))
theorem own_p0 (x : Int32) : own_p 0 x = own_4 x := by unfold own_p own_e0 own_e1 own_e2 own_e3; rw [if_pos rfl, if_pos rfl, if_pos rfl, if_pos rfl]; rfl
theorem own_p1 (x : Int32) : own_p 1 x = own_N := by unfold own_p own_e0 own_e1 own_e2 own_e3; rw [if_neg (by decide), if_neg (by decide), if_neg (by decide), if_neg (by decide)]; decide
theorem own_selpriv {s : State} {args : Array Value} {C : String} {x z y : MethodName} (hz : (Cond.selects C x z).before args s = true) (hc : z.cls = y.cls) (hpriv : s.PrivateAt y) (hinst : (Cond.instanceMethod y).before args s = true) (hy : y.cls ≠ "java/lang/invoke/MethodHandle" ∧ y.cls ≠ "java/lang/invoke/VarHandle") : (Cond.selects y.cls y y).before args s = true := by
  obtain ⟨c, r, m, h1, h2, h3, h4, k, hk, hki⟩ := Cond.selects_spec hz
  exact Stand.selects_self_of_private (hc ▸ findClass_of_methodNamed h3) hk hki hpriv hinst hy
theorem own_face {s : State} {args : Array Value} {C : String} {x z y : MethodName} (hz : (Cond.selects C x z).before args s = true) (hc : z.cls = y.cls) : NotFace s y := fun r0 h0 => by
  obtain ⟨c, r, m, h1, h2, h3, h4, k, hk, hki⟩ := Cond.selects_spec hz
  have e1 := findClass_of_methodNamed h0
  have e2 := findClass_of_methodNamed h3
  rw [hc] at e2
  have q : r0.cls = m.cls := Option.some.inj (e1.symm.trans e2)
  exact ⟨k, by rw [q]; exact hk, hki⟩
theorem own_same {s : State} {args : Array Value} {C : String} {x z y : MethodName} (hz : (Cond.selects C x z).before args s = true) (hc : z.cls = y.cls) (hinst : (Cond.instanceMethod y).before args s = true) (hy : y.cls ≠ "java/lang/invoke/MethodHandle" ∧ y.cls ≠ "java/lang/invoke/VarHandle") : (Cond.sameMethod y.cls y.cls y.name y.desc).before args s = true := by
  obtain ⟨c, r, m, h1, h2, h3, h4, k, hk, hki⟩ := Cond.selects_spec hz
  obtain ⟨mk, methM, hnamed, hmethM, -, -⟩ := Cond.instanceMethod_spec hinst
  have hfound : s.methodFound? y.cls y.name y.desc = some mk := State.methodFound?_of_named hnamed hy
  have e2 := findClass_of_methodNamed h3
  rw [hc] at e2
  have hn' : s.methodNamed? ⟨y.cls, y.name, y.desc⟩ = some mk := hnamed
  simp only [Cond.before, Cond.holds, Cond.value, e2, hfound, hn', hk]
  simp [hki]
theorem own_rng (ws : List Value) (d : Value) (n : Nat) (h : ws.length ≤ n) : ((List.range n).map fun i => ws.getD (0 + i) d) = ws ++ List.replicate (n - ws.length) d := by
  apply List.ext_getElem
  · simp; omega
  · intro i h1 h2
    simp only [List.getElem_map, List.getElem_range, Nat.zero_add, List.getD_eq_getElem?_getD]
    by_cases q : i < ws.length
    · rw [List.getElem_append_left q, List.getElem?_eq_getElem q]; rfl
    · rw [List.getElem_append_right (by omega), List.getElem?_eq_none (by omega)]; simp
section OwnCp
variable {p : Program} {l : Launch} {e : Env} {R : Room} {s : State} {m : MethodId} {args : Array Value} {below : List Frame} {meth : Method} {c : Code} {T : State} {locs : List Loc} {cells slots : Nat} {Z : State} {h : Heap} {a b : Addr}
theorem own_cp (X : Stand p l e R s m args below meth c T locs cells slots) (hx : p.tables.exec = Jvm.exec) (hZ : Z.Warmed39 s.vm) {a0 : Array Value} {own : String} {index : Nat} (hown : s.vm.findClass own = some m.cls)
    (w1 : (Cond.methodLink own index Jvm.Stand.acN).before a0 Z = true) (w2 : (Cond.native Jvm.Stand.acN).before a0 Z = true) (w3 : (Cond.static Jvm.Stand.acN).before a0 Z = true) (w4 : (Cond.initialized "java/lang/System").before a0 Z = true) (eT : T.heap = h)
    {k k' : ClassId} {z z' dp nn : Int32} {ws vd : List Value} (A : Arv Z h a k .byte z ws (.int 0)) (B : Arv Z h b k' .byte z' vd (.int 0)) (h2 : ¬ dp < 0) (h3 : ¬ nn < 0) (h4 : nn.toNatClampNeg ≤ z.toNatClampNeg) (h5 : dp.toNatClampNeg + nn.toNatClampNeg ≤ z'.toNatClampNeg)
    (hd : dp.toNatClampNeg = vd.length) (hw : ws.length ≤ nn.toNatClampNeg) {n0 : Nat} (N : Fr n0 locs) (ge : n0 ≤ b)
    {g : JFrame} (hg : g.method = m) (hsize : g.locals.size = c.maxLocals) {rest : List Value} (hs : g.stack = .int nn :: .int dp :: .ref b :: .int 0 :: .ref a :: rest) (hdd : decode c.code g.pc = .ok (.invokestatic index, 3))
    (hf : 1 ≤ R.frames) {W : Nat} (hW : 2 * g.monitorRoom + (rest.map fun v => v.category).sum ≤ W) (hlo : W + (nativeFrameWords "java/lang/System" "arraycopy" 5 + 11) ≤ R.locals) :
    ∃ T' h' L, Stand p l e R s m args below meth c T' L cells slots ∧ T'.heap = h' ∧ Fr n0 L ∧ Keep h h' [b] ∧ Arv Z h' b k' .byte z' (vd ++ ws) (.int 0) ∧
      ∀ target, Steps p.tables e below (T'.setTop { g with pc := g.pc + 3, stack := rest }) target → Steps p.tables e below (T.setTop g) target := by
  have B' := B.pad (vs' := vd ++ List.replicate nn.toNatClampNeg (.int 0)) (pad_rep vd _ _)
  have z0 : (0 : Int32).toNatClampNeg = 0 := rfl
  obtain ⟨T', h', L, X', e', N', K, V, st⟩ := cpA (sp := 0) X hx hZ hown w1 w2 w3 w4 eT A B' (Or.inl ⟨rfl, rfl⟩) (by decide) h2 h3 (by rw [z0]; omega) h5 rfl (by rw [List.length_append, List.length_replicate]; omega) N ge hg hsize hs hdd hf hW hlo
  refine ⟨T', h', L, X', e', N', K, V.pad (fun i => ?_), st⟩
  have e1 : (vd ++ List.replicate nn.toNatClampNeg (Value.int 0)).take dp.toNatClampNeg = vd := by rw [hd]; simp
  have e2 : (vd ++ List.replicate nn.toNatClampNeg (Value.int 0)).drop (dp.toNatClampNeg + nn.toNatClampNeg) = [] := by rw [List.drop_eq_nil_iff, List.length_append, List.length_replicate]; omega
  rw [e1, e2, List.append_nil, z0, own_rng ws _ _ hw, ← List.append_assoc]
  exact (pad_rep (vd ++ ws) _ _ i).symm
end OwnCp
set_option maxRecDepth 65536 in
theorem own_EW0 {Z : State} {a0 : Array Value} (hw : ∀ d ∈ tables_1, d.before a0 Z = true) : EW Z a0 consts_1 := (EW.cons (w_ hw 81 rfl) (by decide +kernel) (EW.cons (w_ hw 164 rfl) (by decide +kernel) (EW.cons (w_ hw 165 rfl) (by decide +kernel) EW.nil)))
theorem own_strAtoms : ∀ d ∈ Bundle.stringAtoms, d ∈ tables_1 := by decide +kernel
abbrev y_0 : MethodName := (⟨"java/lang/String", "<init>", "([C)V"⟩ : MethodName)
abbrev y_1 : MethodName := (⟨"com/example/ermine/ermine/server/DatabaseSettingsToStringPinLaw", "four", "(I)Ljava/lang/String;"⟩ : MethodName)
theorem d0_0 : decode method_3_code 0 = .ok (.iconst 4, 1) := by decide +kernel
theorem d0_1 : decode method_3_code 1 = .ok (.newarray .char, 2) := by decide +kernel
theorem d0_3 : decode method_3_code 3 = .ok (.astore_n 1, 1) := by decide +kernel
theorem d0_4 : decode method_3_code 4 = .ok (.aload_n 1, 1) := by decide +kernel
theorem d0_5 : decode method_3_code 5 = .ok (.iconst 0, 1) := by decide +kernel
theorem d0_6 : decode method_3_code 6 = .ok (.iload_n 0, 1) := by decide +kernel
theorem d0_7 : decode method_3_code 7 = .ok (.sipush 255, 3) := by decide +kernel
theorem d0_10 : decode method_3_code 10 = .ok (.iand, 1) := by decide +kernel
theorem d0_11 : decode method_3_code 11 = .ok (.i2c, 1) := by decide +kernel
theorem d0_12 : decode method_3_code 12 = .ok (.castore, 1) := by decide +kernel
theorem d0_13 : decode method_3_code 13 = .ok (.aload_n 1, 1) := by decide +kernel
theorem d0_14 : decode method_3_code 14 = .ok (.iconst 1, 1) := by decide +kernel
theorem d0_15 : decode method_3_code 15 = .ok (.iload_n 0, 1) := by decide +kernel
theorem d0_16 : decode method_3_code 16 = .ok (.bipush 8, 2) := by decide +kernel
theorem d0_18 : decode method_3_code 18 = .ok (.iushr, 1) := by decide +kernel
theorem d0_19 : decode method_3_code 19 = .ok (.sipush 255, 3) := by decide +kernel
theorem d0_22 : decode method_3_code 22 = .ok (.iand, 1) := by decide +kernel
theorem d0_23 : decode method_3_code 23 = .ok (.i2c, 1) := by decide +kernel
theorem d0_24 : decode method_3_code 24 = .ok (.castore, 1) := by decide +kernel
theorem d0_25 : decode method_3_code 25 = .ok (.aload_n 1, 1) := by decide +kernel
theorem d0_26 : decode method_3_code 26 = .ok (.iconst 2, 1) := by decide +kernel
theorem d0_27 : decode method_3_code 27 = .ok (.iload_n 0, 1) := by decide +kernel
theorem d0_28 : decode method_3_code 28 = .ok (.bipush 16, 2) := by decide +kernel
theorem d0_30 : decode method_3_code 30 = .ok (.iushr, 1) := by decide +kernel
theorem d0_31 : decode method_3_code 31 = .ok (.sipush 255, 3) := by decide +kernel
theorem d0_34 : decode method_3_code 34 = .ok (.iand, 1) := by decide +kernel
theorem d0_35 : decode method_3_code 35 = .ok (.i2c, 1) := by decide +kernel
theorem d0_36 : decode method_3_code 36 = .ok (.castore, 1) := by decide +kernel
theorem d0_37 : decode method_3_code 37 = .ok (.aload_n 1, 1) := by decide +kernel
theorem d0_38 : decode method_3_code 38 = .ok (.iconst 3, 1) := by decide +kernel
theorem d0_39 : decode method_3_code 39 = .ok (.iload_n 0, 1) := by decide +kernel
theorem d0_40 : decode method_3_code 40 = .ok (.bipush 24, 2) := by decide +kernel
theorem d0_42 : decode method_3_code 42 = .ok (.iushr, 1) := by decide +kernel
theorem d0_43 : decode method_3_code 43 = .ok (.sipush 255, 3) := by decide +kernel
theorem d0_46 : decode method_3_code 46 = .ok (.iand, 1) := by decide +kernel
theorem d0_47 : decode method_3_code 47 = .ok (.i2c, 1) := by decide +kernel
theorem d0_48 : decode method_3_code 48 = .ok (.castore, 1) := by decide +kernel
theorem d0_49 : decode method_3_code 49 = .ok (.new 27, 3) := by decide +kernel
theorem d0_52 : decode method_3_code 52 = .ok (.dup, 1) := by decide +kernel
theorem d0_53 : decode method_3_code 53 = .ok (.aload_n 1, 1) := by decide +kernel
theorem pd_40 : parseMethodDescriptor "([C)V" = some ⟨[(.array .char)], none⟩ := by decide +kernel
theorem d0_54 : decode method_3_code 54 = .ok (.invokespecial 32, 3) := by decide +kernel
theorem d0_57 : decode method_3_code 57 = .ok (.areturn, 1) := by decide +kernel
theorem pn_com_example_ermine_ermine_server_DatabaseSettingsToStringPinLaw : plainName "com/example/ermine/ermine/server/DatabaseSettingsToStringPinLaw" = true := by first | (simp [plainName, overriddenIn]; done) | decide +kernel
def Q_four (Z : State) (x : Int32) (G1 : Int32) (h0 : Heap) (n0 : Nat) (vv_ : Option Value) (hh_ : Heap) (LL_ : List Loc) : Prop := ∃ (y : Addr), ∃ (t : Addr), ∃ (k : ClassId), vv_ = some (.ref y) ∧ Fr n0 LL_ ∧ Keep h0 hh_ [] ∧ h0.size ≤ y ∧ h0.size ≤ t ∧ t ≠ y ∧ Exa Z hh_ y "java/lang/String" ∧ Fld Z hh_ y "java/lang/String" "value" "[B" (.ref t) ∧ Fld Z hh_ y "java/lang/String" "coder" "B" (.int (0 : Int32)) ∧ Arv Z hh_ t k .byte (4 : Int32) (own_vs (own_4 x)) (.int 0)
set_option maxRecDepth 65536 in
set_option maxHeartbeats 40000000 in
theorem rm_four (l : Launch) (Z : State) (a0 : Array Value) (hw : ∀ d ∈ tables_1, d.before a0 Z = true) (ws : List Jvm.Cond) (x : Int32) (G1 : Int32) (h0 : Heap) (n0 : Nat) (Z0 : n0 ≤ h0.size) (S1 : Sta Z Z.heap "java/lang/String" "COMPACT_STRINGS" "Z" (.int G1)) (P1 : ¬ G1 = 0) (OL : Old Z n0 h0) :
    MetFree l y_1 (head1 (Jvm.Cond.code y_1 method_3_code 2 (some (.object "java/lang/String")) :: ws) ({ frames := 4, cells := 3, slots := 12, locals := 66 } : Room)) (fun aa_ U => aa_ = #[(.int x)] ∧ Z.Warmed39 U.vm ∧ U.heap = h0) (fun _ _ _ _ _ => True) (fun _ U o U' => ∃ vv_ LL_, o = .returned vv_ ∧ Q_four Z x G1 h0 n0 vv_ U'.heap LL_ ∧ FrameEnd U o U' LL_ 3 12) := by
  refine MetFree.of_bodySF (plainFor_of_name pn_com_example_ermine_ermine_server_DatabaseSettingsToStringPinLaw) hisR ?_
  intro p e s m args below meth c s₁ Bd hml0 hP hK
  obtain ⟨rfl, hZ, hh⟩ := hP
  have hx := Bd.exec
  have hby := Bd.bytes
  have hml : c.maxLocals = 2 := hml0
  have hown : s.vm.findClass "com/example/ermine/ermine/server/DatabaseSettingsToStringPinLaw" = some m.cls := findClass_of_methodNamed Bd.named
  have hnm := (name_of_methodNamed Bd.named Bd.method).1
  have X0 : Stand p l e ({ frames := 4, cells := 3, slots := 12, locals := 66 } : Room) s m #[(.int x)] below meth c s₁ [] 0 0 := Stand.of_body Bd
  have e0 : s₁.heap = h0 := by rw [← hh, Bd.state]; rfl
  have N0 := Fr.nil n0
  have ef : entryFrame m #[(.int x)] 2 = mkF m 0 #[.val (.int x), .unset] [] := by first | (simp [entryFrame, mkF, argsToLocals, Value.category]; done) | rfl
  refine Fin.start (Q := Q_four Z x G1 h0 n0) ef ?_
  refine Fin.by (fun tt_ kk_ => XS.iconst X0.here hx rfl (hb hby d0_0) kk_) ?_
  obtain ⟨T101, h101, k101, X101, e101, E101, A101, st101⟩ := newP X0 hx hZ (w_ hw 4 rfl) e0 (g := (mkF m 1 #[.val (.int x), .unset] [(.int 4)])) rfl (hb hby d0_1) rfl (by decide) (cap := 4) (by decide) (by decide) (by decide) (by decide)
  obtain ⟨a101, g101⟩ : ∃ z, z = h0.size := ⟨_, rfl⟩
  rw [← g101] at A101 st101
  refine Fin.by (fun tt_ kk_ => st101 tt_ kk_) ?_
  have V101 : Arv Z h101 a101 k101 .char (4 : Int32) [(.int (0 : Int32)), (.int (0 : Int32)), (.int (0 : Int32)), (.int (0 : Int32))] (.int (0 : Int32)) := (Arv.new A101 (by decide)).pad (pad_rep [] (.int (0 : Int32)) 4)
  refine Fin.by (fun tt_ kk_ => XS.astoreN X101.here hx rfl (hb hby d0_3) rfl rfl (l' := #[.val (.int x), .val (.ref a101)]) rfl (XS.aloadN X101.here hx rfl (hb hby d0_4) rfl rfl (XS.iconst X101.here hx rfl (hb hby d0_5) (XS.iloadN X101.here hx rfl (hb hby d0_6) rfl (XS.sipush X101.here hx rfl (hb hby d0_7) (XS.iand X101.here hx rfl (hb hby d0_10) rfl (XS.i2c X101.here hx rfl (hb hby d0_11) rfl kk_))))))) ?_
  obtain ⟨cl102, Ar102, q102, S102, N102, H102, G102⟩ := id V101
  obtain ⟨T102, h102, X102, e102, W102, st102⟩ := stC X101 hx hZ e101 Ar102 (j := (0 : Int32)) (inb_of S102 ⟨by decide, by decide⟩) (g := (mkF m 12 #[.val (.int x), .val (.ref a101)] [(.int ((x &&& 255).toUInt32.toUInt16.toUInt32.toInt32)), (.int 0), (.ref a101)])) rfl rfl (hb hby d0_12)
  have V102 : Arv Z h102 a101 k101 .char (4 : Int32) [(.int (nar .char ((x &&& (255 : Int32)).toUInt32.toUInt16.toUInt32.toInt32))), (.int (0 : Int32)), (.int (0 : Int32)), (.int (0 : Int32))] (.int (0 : Int32)) := Arv.set Ar102 q102 S102 N102 H102 G102 (fits_nar_char _) W102 0 rfl (Nat.le_of_ble_eq_true rfl)
  have g103 : n0 ≤ a101 := Nat.le_trans Z0 (Nat.le_of_eq g101.symm)
  refine Fin.by (fun tt_ kk_ => st102 tt_ kk_) ?_
  have N102_ := Fr.snoc X102 N0 g103
  refine Fin.by (fun tt_ kk_ => XS.aloadN X102.here hx rfl (hb hby d0_13) rfl rfl (XS.iconst X102.here hx rfl (hb hby d0_14) (XS.iloadN X102.here hx rfl (hb hby d0_15) rfl (XS.bipush X102.here hx rfl (hb hby d0_16) (XS.iushr X102.here hx rfl (hb hby d0_18) rfl (XS.sipush X102.here hx rfl (hb hby d0_19) (XS.iand X102.here hx rfl (hb hby d0_22) rfl (XS.i2c X102.here hx rfl (hb hby d0_23) rfl kk_)))))))) ?_
  show Fin _ _ _ _ _ _ _ (T102.setTop (mkF m 24 #[.val (.int x), .val (.ref a101)] [(.int ((((x.toUInt32 >>> ((8 : Int32) &&& 31).toUInt32).toInt32) &&& 255).toUInt32.toUInt16.toUInt32.toInt32)), (.int 1), (.ref a101)]))
  obtain ⟨cl104, Ar104, q104, S104, N104, H104, G104⟩ := id V102
  obtain ⟨T104, h104, X104, e104, W104, st104⟩ := stC X102 hx hZ e102 Ar104 (j := (1 : Int32)) (inb_of S104 ⟨by decide, by decide⟩) (g := (mkF m 24 #[.val (.int x), .val (.ref a101)] [(.int ((((x.toUInt32 >>> ((8 : Int32) &&& 31).toUInt32).toInt32) &&& 255).toUInt32.toUInt16.toUInt32.toInt32)), (.int 1), (.ref a101)])) rfl rfl (hb hby d0_24)
  have V104 : Arv Z h104 a101 k101 .char (4 : Int32) [(.int (nar .char ((x &&& (255 : Int32)).toUInt32.toUInt16.toUInt32.toInt32))), (.int (nar .char ((((x.toUInt32 >>> ((8 : Int32) &&& 31).toUInt32).toInt32) &&& (255 : Int32)).toUInt32.toUInt16.toUInt32.toInt32))), (.int (0 : Int32)), (.int (0 : Int32))] (.int (0 : Int32)) := Arv.set Ar104 q104 S104 N104 H104 G104 (fits_nar_char _) W104 1 rfl (Nat.le_of_ble_eq_true rfl)
  refine Fin.by (fun tt_ kk_ => st104 tt_ kk_) ?_
  have N104_ := Fr.snoc X104 N102_ g103
  refine Fin.by (fun tt_ kk_ => XS.aloadN X104.here hx rfl (hb hby d0_25) rfl rfl (XS.iconst X104.here hx rfl (hb hby d0_26) (XS.iloadN X104.here hx rfl (hb hby d0_27) rfl (XS.bipush X104.here hx rfl (hb hby d0_28) (XS.iushr X104.here hx rfl (hb hby d0_30) rfl (XS.sipush X104.here hx rfl (hb hby d0_31) (XS.iand X104.here hx rfl (hb hby d0_34) rfl (XS.i2c X104.here hx rfl (hb hby d0_35) rfl kk_)))))))) ?_
  show Fin _ _ _ _ _ _ _ (T104.setTop (mkF m 36 #[.val (.int x), .val (.ref a101)] [(.int ((((x.toUInt32 >>> ((16 : Int32) &&& 31).toUInt32).toInt32) &&& 255).toUInt32.toUInt16.toUInt32.toInt32)), (.int 2), (.ref a101)]))
  obtain ⟨cl105, Ar105, q105, S105, N105, H105, G105⟩ := id V104
  obtain ⟨T105, h105, X105, e105, W105, st105⟩ := stC X104 hx hZ e104 Ar105 (j := (2 : Int32)) (inb_of S105 ⟨by decide, by decide⟩) (g := (mkF m 36 #[.val (.int x), .val (.ref a101)] [(.int ((((x.toUInt32 >>> ((16 : Int32) &&& 31).toUInt32).toInt32) &&& 255).toUInt32.toUInt16.toUInt32.toInt32)), (.int 2), (.ref a101)])) rfl rfl (hb hby d0_36)
  have V105 : Arv Z h105 a101 k101 .char (4 : Int32) [(.int (nar .char ((x &&& (255 : Int32)).toUInt32.toUInt16.toUInt32.toInt32))), (.int (nar .char ((((x.toUInt32 >>> ((8 : Int32) &&& 31).toUInt32).toInt32) &&& (255 : Int32)).toUInt32.toUInt16.toUInt32.toInt32))), (.int (nar .char ((((x.toUInt32 >>> ((16 : Int32) &&& 31).toUInt32).toInt32) &&& (255 : Int32)).toUInt32.toUInt16.toUInt32.toInt32))), (.int (0 : Int32))] (.int (0 : Int32)) := Arv.set Ar105 q105 S105 N105 H105 G105 (fits_nar_char _) W105 2 rfl (Nat.le_of_ble_eq_true rfl)
  refine Fin.by (fun tt_ kk_ => st105 tt_ kk_) ?_
  have N105_ := Fr.snoc X105 N104_ g103
  refine Fin.by (fun tt_ kk_ => XS.aloadN X105.here hx rfl (hb hby d0_37) rfl rfl (XS.iconst X105.here hx rfl (hb hby d0_38) (XS.iloadN X105.here hx rfl (hb hby d0_39) rfl (XS.bipush X105.here hx rfl (hb hby d0_40) (XS.iushr X105.here hx rfl (hb hby d0_42) rfl (XS.sipush X105.here hx rfl (hb hby d0_43) (XS.iand X105.here hx rfl (hb hby d0_46) rfl (XS.i2c X105.here hx rfl (hb hby d0_47) rfl kk_)))))))) ?_
  show Fin _ _ _ _ _ _ _ (T105.setTop (mkF m 48 #[.val (.int x), .val (.ref a101)] [(.int ((((x.toUInt32 >>> ((24 : Int32) &&& 31).toUInt32).toInt32) &&& 255).toUInt32.toUInt16.toUInt32.toInt32)), (.int 3), (.ref a101)]))
  obtain ⟨cl106, Ar106, q106, S106, N106, H106, G106⟩ := id V105
  obtain ⟨T106, h106, X106, e106, W106, st106⟩ := stC X105 hx hZ e105 Ar106 (j := (3 : Int32)) (inb_of S106 ⟨by decide, by decide⟩) (g := (mkF m 48 #[.val (.int x), .val (.ref a101)] [(.int ((((x.toUInt32 >>> ((24 : Int32) &&& 31).toUInt32).toInt32) &&& 255).toUInt32.toUInt16.toUInt32.toInt32)), (.int 3), (.ref a101)])) rfl rfl (hb hby d0_48)
  have V106 : Arv Z h106 a101 k101 .char (4 : Int32) [(.int (nar .char ((x &&& (255 : Int32)).toUInt32.toUInt16.toUInt32.toInt32))), (.int (nar .char ((((x.toUInt32 >>> ((8 : Int32) &&& 31).toUInt32).toInt32) &&& (255 : Int32)).toUInt32.toUInt16.toUInt32.toInt32))), (.int (nar .char ((((x.toUInt32 >>> ((16 : Int32) &&& 31).toUInt32).toInt32) &&& (255 : Int32)).toUInt32.toUInt16.toUInt32.toInt32))), (.int (nar .char ((((x.toUInt32 >>> ((24 : Int32) &&& 31).toUInt32).toInt32) &&& (255 : Int32)).toUInt32.toUInt16.toUInt32.toInt32)))] (.int (0 : Int32)) := Arv.set Ar106 q106 S106 N106 H106 G106 (fits_nar_char _) W106 3 rfl (Nat.le_of_ble_eq_true rfl)
  refine Fin.by (fun tt_ kk_ => st106 tt_ kk_) ?_
  have N106_ := Fr.snoc X106 N105_ g103
  obtain ⟨T107, h107, X107, e107, E107, A107, D107, -, st107⟩ := newO X106 hx hZ hown (w_ hw 5 rfl) (w_ hw 6 rfl) (w_ hw 7 rfl) e106 (g := (mkF m 49 #[.val (.int x), .val (.ref a101)] [])) rfl (hb hby d0_49) (by decide) (by decide)
  obtain ⟨a107, g107⟩ : ∃ z, z = h106.size := ⟨_, rfl⟩
  rw [← g107] at A107 D107 st107
  refine Fin.by (fun tt_ kk_ => st107 tt_ kk_) ?_
  refine Fin.by (fun tt_ kk_ => XS.dup X107.here hx rfl (hb hby d0_52) rfl rfl (XS.aloadN X107.here hx rfl (hb hby d0_53) rfl rfl kk_)) ?_
  have A108 : Arv Z h107 a101 k101 .char (4 : Int32) [(.int (nar .char ((x &&& (255 : Int32)).toUInt32.toUInt16.toUInt32.toInt32))), (.int (nar .char ((((x.toUInt32 >>> ((8 : Int32) &&& 31).toUInt32).toInt32) &&& (255 : Int32)).toUInt32.toUInt16.toUInt32.toInt32))), (.int (nar .char ((((x.toUInt32 >>> ((16 : Int32) &&& 31).toUInt32).toInt32) &&& (255 : Int32)).toUInt32.toUInt16.toUInt32.toInt32))), (.int (nar .char ((((x.toUInt32 >>> ((24 : Int32) &&& 31).toUInt32).toInt32) &&& (255 : Int32)).toUInt32.toUInt16.toUInt32.toInt32)))] (.int (0 : Int32)) := (V106.ext E107)
  have z110 : n0 ≤ h106.size := Nat.le_trans Z0 (Nat.le_trans (Nat.le_trans (Nat.le_trans (Nat.le_trans E101.1 (Keep.of_wr W102).1) (Keep.of_wr W104).1) (Keep.of_wr W105).1) (Keep.of_wr W106).1)
  have g109 : n0 ≤ a107 := Nat.le_trans z110 (Nat.le_of_eq g107.symm)
  have z111 : n0 ≤ h107.size := Nat.le_trans Z0 (Nat.le_trans (Nat.le_trans (Nat.le_trans (Nat.le_trans (Nat.le_trans E101.1 (Keep.of_wr W102).1) (Keep.of_wr W104).1) (Keep.of_wr W105).1) (Keep.of_wr W106).1) E107.1)
  have O112 : Old Z n0 h107 := ((((((OL.ext E101).wr W102 g103).wr W104 g103).wr W105 g103).wr W106 g103).ext E107)
  obtain ⟨v113, _, ⟨T113, L113, k113, n113⟩, -, X113, ⟨Lc113, hQ113, l113, y113, z113⟩, st113⟩ := X107.specialBack hx (y := y_0) rfl hown (mvT hZ (w_ hw 8 rfl)) (mvT hZ (w_ hw 9 rfl)) (mvT hZ (w_ hw 10 rfl)) (by decide) (StrChars.Road.backV (W := 1) hZ (fun d hd => hw d (own_words d hd)) (kI := 4) (w_ hw 6 rfl) (cs := ([(nar .char ((x &&& (255 : Int32)).toUInt32.toUInt16.toUInt32.toInt32)), (nar .char ((((x.toUInt32 >>> ((8 : Int32) &&& 31).toUInt32).toInt32) &&& (255 : Int32)).toUInt32.toUInt16.toUInt32.toInt32)), (nar .char ((((x.toUInt32 >>> ((16 : Int32) &&& 31).toUInt32).toInt32) &&& (255 : Int32)).toUInt32.toUInt16.toUInt32.toInt32)), (nar .char ((((x.toUInt32 >>> ((24 : Int32) &&& 31).toUInt32).toInt32) &&& (255 : Int32)).toUInt32.toUInt16.toUInt32.toInt32))] : List Int32)) (bs := ([(nar .char ((x &&& (255 : Int32)).toUInt32.toUInt16.toUInt32.toInt32)), (nar .char ((((x.toUInt32 >>> ((8 : Int32) &&& 31).toUInt32).toInt32) &&& (255 : Int32)).toUInt32.toUInt16.toUInt32.toInt32)), (nar .char ((((x.toUInt32 >>> ((16 : Int32) &&& 31).toUInt32).toInt32) &&& (255 : Int32)).toUInt32.toUInt16.toUInt32.toInt32)), (nar .char ((((x.toUInt32 >>> ((24 : Int32) &&& 31).toUInt32).toInt32) &&& (255 : Int32)).toUInt32.toUInt16.toUInt32.toInt32))] : List Int32).map (fun c => c.toInt8.toInt32)) (n := 4) g109 z111 A107 (D107 (Or.inr (w_ hw 33 rfl)) (ty := (.array .byte)) (by decide) : Fld Z h107 a107 "java/lang/String" "value" "[B" .null) (D107 (Or.inr (w_ hw 31 rfl)) (ty := .byte) (by decide) : Fld Z h107 a107 "java/lang/String" "coder" "B" (.int (0 : Int32))) A108 (S1.ext O112.2) P1 rfl rfl (by decide) (by decide) (own_h4 x) rfl (by decide) (by decide)) (g := (mkF m 54 #[.val (.int x), .val (.ref a101)] [(.ref a101), (.ref a107), (.ref a107)])) rfl (by rw [hml]; rfl) (Steps.refl _) (a := a107) (argsL := [(.ref a101)]) (rest := [(.ref a107)]) (lenOf pd_40 rfl) rfl (by show 2 * 0 + _ ≤ _; exact Nat.le_of_eq rfl) (hb hby d0_54) (fun _ _ => ⟨rfl, e107, (by decide : 2 + 1 ≤ _), (by decide : 8 + 4 ≤ _)⟩)
  dsimp only [Pt.U, Pt.locs, Pt.cells, Pt.slots] at X113 l113 y113 z113 st113 hQ113
  subst l113 y113 z113
  obtain ⟨rfl, Nq113, K113, E113, C113, t113, kb113, gt113, ht113, nt113, V113, A113⟩ := hQ113
  have N113_ := Fr.app N106_ Nq113
  refine Fin.byS st113 ?_
  have V114 : Arv Z T113.heap t113 kb113 .byte (4 : Int32) (own_vs (own_4 x)) (.int 0) := by have q := A113; exact q
  have kp115 : Keep h0 h101 [] := (Keep.refl h0 []).ext E101
  have kp116 : Keep h0 h102 [] := kp115.wr W102 (Or.inr (Nat.le_trans (Nat.le_refl _) (Nat.le_of_eq g101.symm)))
  have kp117 : Keep h0 h104 [] := kp116.wr W104 (Or.inr (Nat.le_trans (Nat.le_refl _) (Nat.le_of_eq g101.symm)))
  have kp118 : Keep h0 h105 [] := kp117.wr W105 (Or.inr (Nat.le_trans (Nat.le_refl _) (Nat.le_of_eq g101.symm)))
  have kp119 : Keep h0 h106 [] := kp118.wr W106 (Or.inr (Nat.le_trans (Nat.le_refl _) (Nat.le_of_eq g101.symm)))
  have kp120 : Keep h0 h107 [] := kp119.ext E107
  have kp121 : Keep h0 T113.heap [] := kp120.trans K113 (allS (Or.inr (Nat.le_trans (Nat.le_trans (Nat.le_trans (Nat.le_trans (Nat.le_trans E101.1 (Keep.of_wr W102).1) (Keep.of_wr W104).1) (Keep.of_wr W105).1) (Keep.of_wr W106).1) (Nat.le_of_eq g107.symm))) all0)
  show Fin _ _ _ _ _ _ _ (T113.setTop (mkF m 57 #[.val (.int x), .val (.ref a101)] [(.ref a107)]))
  exact Fin.ret (v := some (.ref a107)) X113 (fun h => by rw [Bd.returns] at h; cases h) Bd.notSynchronized (⟨a107, t113, kb113, rfl, N113_, kp121, (Nat.le_trans (Nat.le_trans (Nat.le_trans (Nat.le_trans (Nat.le_trans E101.1 (Keep.of_wr W102).1) (Keep.of_wr W104).1) (Keep.of_wr W105).1) (Keep.of_wr W106).1) (Nat.le_of_eq g107.symm)), (Nat.le_trans (Nat.le_trans (Nat.le_trans (Nat.le_trans (Nat.le_trans (Nat.le_trans E101.1 (Keep.of_wr W102).1) (Keep.of_wr W104).1) (Keep.of_wr W105).1) (Keep.of_wr W106).1) E107.1) ht113), nt113, E113, V113, C113, V114⟩) (by decide) (by decide) (fun fs hr => retA X113 hx Bd.returns rfl rfl (hb hby d0_57) hr)
abbrev y_2 : MethodName := (⟨"com/example/ermine/ermine/server/DatabaseSettingsToStringPinLaw", "put4", "([CIZI)V"⟩ : MethodName)
theorem d1_0 : decode method_4_code 0 = .ok (.iload_n 2, 1) := by decide +kernel
theorem d1_1 : decode method_4_code 1 = .ok (.ifCond .eq 32, 3) := by decide +kernel
theorem d1_33 : decode method_4_code 33 = .ok (.aload_n 0, 1) := by decide +kernel
theorem d1_34 : decode method_4_code 34 = .ok (.iload_n 1, 1) := by decide +kernel
theorem d1_35 : decode method_4_code 35 = .ok (.iload_n 3, 1) := by decide +kernel
theorem d1_36 : decode method_4_code 36 = .ok (.sipush 255, 3) := by decide +kernel
theorem d1_39 : decode method_4_code 39 = .ok (.iand, 1) := by decide +kernel
theorem d1_40 : decode method_4_code 40 = .ok (.i2c, 1) := by decide +kernel
theorem d1_41 : decode method_4_code 41 = .ok (.castore, 1) := by decide +kernel
theorem d1_42 : decode method_4_code 42 = .ok (.aload_n 0, 1) := by decide +kernel
theorem d1_43 : decode method_4_code 43 = .ok (.iload_n 1, 1) := by decide +kernel
theorem d1_44 : decode method_4_code 44 = .ok (.iconst 1, 1) := by decide +kernel
theorem d1_45 : decode method_4_code 45 = .ok (.iadd, 1) := by decide +kernel
theorem d1_46 : decode method_4_code 46 = .ok (.iload_n 3, 1) := by decide +kernel
theorem d1_47 : decode method_4_code 47 = .ok (.bipush 8, 2) := by decide +kernel
theorem d1_49 : decode method_4_code 49 = .ok (.iushr, 1) := by decide +kernel
theorem d1_50 : decode method_4_code 50 = .ok (.sipush 255, 3) := by decide +kernel
theorem d1_53 : decode method_4_code 53 = .ok (.iand, 1) := by decide +kernel
theorem d1_54 : decode method_4_code 54 = .ok (.i2c, 1) := by decide +kernel
theorem d1_55 : decode method_4_code 55 = .ok (.castore, 1) := by decide +kernel
theorem d1_56 : decode method_4_code 56 = .ok (.aload_n 0, 1) := by decide +kernel
theorem d1_57 : decode method_4_code 57 = .ok (.iload_n 1, 1) := by decide +kernel
theorem d1_58 : decode method_4_code 58 = .ok (.iconst 2, 1) := by decide +kernel
theorem d1_59 : decode method_4_code 59 = .ok (.iadd, 1) := by decide +kernel
theorem d1_60 : decode method_4_code 60 = .ok (.iload_n 3, 1) := by decide +kernel
theorem d1_61 : decode method_4_code 61 = .ok (.bipush 16, 2) := by decide +kernel
theorem d1_63 : decode method_4_code 63 = .ok (.iushr, 1) := by decide +kernel
theorem d1_64 : decode method_4_code 64 = .ok (.sipush 255, 3) := by decide +kernel
theorem d1_67 : decode method_4_code 67 = .ok (.iand, 1) := by decide +kernel
theorem d1_68 : decode method_4_code 68 = .ok (.i2c, 1) := by decide +kernel
theorem d1_69 : decode method_4_code 69 = .ok (.castore, 1) := by decide +kernel
theorem d1_70 : decode method_4_code 70 = .ok (.aload_n 0, 1) := by decide +kernel
theorem d1_71 : decode method_4_code 71 = .ok (.iload_n 1, 1) := by decide +kernel
theorem d1_72 : decode method_4_code 72 = .ok (.iconst 3, 1) := by decide +kernel
theorem d1_73 : decode method_4_code 73 = .ok (.iadd, 1) := by decide +kernel
theorem d1_74 : decode method_4_code 74 = .ok (.iload_n 3, 1) := by decide +kernel
theorem d1_75 : decode method_4_code 75 = .ok (.bipush 24, 2) := by decide +kernel
theorem d1_77 : decode method_4_code 77 = .ok (.iushr, 1) := by decide +kernel
theorem d1_78 : decode method_4_code 78 = .ok (.sipush 255, 3) := by decide +kernel
theorem d1_81 : decode method_4_code 81 = .ok (.iand, 1) := by decide +kernel
theorem d1_82 : decode method_4_code 82 = .ok (.i2c, 1) := by decide +kernel
theorem d1_83 : decode method_4_code 83 = .ok (.castore, 1) := by decide +kernel
theorem d1_84 : decode method_4_code 84 = .ok (.return_, 1) := by decide +kernel
theorem d1_4 : decode method_4_code 4 = .ok (.aload_n 0, 1) := by decide +kernel
theorem d1_5 : decode method_4_code 5 = .ok (.iload_n 1, 1) := by decide +kernel
theorem d1_6 : decode method_4_code 6 = .ok (.bipush 110, 2) := by decide +kernel
theorem d1_8 : decode method_4_code 8 = .ok (.castore, 1) := by decide +kernel
theorem d1_9 : decode method_4_code 9 = .ok (.aload_n 0, 1) := by decide +kernel
theorem d1_10 : decode method_4_code 10 = .ok (.iload_n 1, 1) := by decide +kernel
theorem d1_11 : decode method_4_code 11 = .ok (.iconst 1, 1) := by decide +kernel
theorem d1_12 : decode method_4_code 12 = .ok (.iadd, 1) := by decide +kernel
theorem d1_13 : decode method_4_code 13 = .ok (.bipush 117, 2) := by decide +kernel
theorem d1_15 : decode method_4_code 15 = .ok (.castore, 1) := by decide +kernel
theorem d1_16 : decode method_4_code 16 = .ok (.aload_n 0, 1) := by decide +kernel
theorem d1_17 : decode method_4_code 17 = .ok (.iload_n 1, 1) := by decide +kernel
theorem d1_18 : decode method_4_code 18 = .ok (.iconst 2, 1) := by decide +kernel
theorem d1_19 : decode method_4_code 19 = .ok (.iadd, 1) := by decide +kernel
theorem d1_20 : decode method_4_code 20 = .ok (.bipush 108, 2) := by decide +kernel
theorem d1_22 : decode method_4_code 22 = .ok (.castore, 1) := by decide +kernel
theorem d1_23 : decode method_4_code 23 = .ok (.aload_n 0, 1) := by decide +kernel
theorem d1_24 : decode method_4_code 24 = .ok (.iload_n 1, 1) := by decide +kernel
theorem d1_25 : decode method_4_code 25 = .ok (.iconst 3, 1) := by decide +kernel
theorem d1_26 : decode method_4_code 26 = .ok (.iadd, 1) := by decide +kernel
theorem d1_27 : decode method_4_code 27 = .ok (.bipush 108, 2) := by decide +kernel
theorem d1_29 : decode method_4_code 29 = .ok (.castore, 1) := by decide +kernel
theorem d1_30 : decode method_4_code 30 = .ok (.goto 54, 3) := by decide +kernel
def Q_put21 (Z : State) (b : Addr) (kc : ClassId) (vs : List Value) (nu : Int32) (x : Int32) (h0 : Heap) (n0 : Nat) (vv_ : Option Value) (hh_ : Heap) (LL_ : List Loc) : Prop := vv_ = none ∧ Fr n0 LL_ ∧ Keep h0 hh_ [b] ∧ Arv Z hh_ b kc .char (37 : Int32) ((((vs.set 21 (.int (own_e0 nu x))).set 22 (.int (own_e1 nu x))).set 23 (.int (own_e2 nu x))).set 24 (.int (own_e3 nu x))) (.int (0 : Int32))
set_option maxRecDepth 65536 in
set_option maxHeartbeats 40000000 in
theorem rm_put21 (l : Launch) (Z : State) (a0 : Array Value) (hw : ∀ d ∈ tables_1, d.before a0 Z = true) (ws : List Jvm.Cond) (b : Addr) (kc : ClassId) (vs : List Value) (nu : Int32) (x : Int32) (h0 : Heap) (n0 : Nat) (Z0 : n0 ≤ h0.size) (hvl : vs.length = 37) (Ab : Arv Z h0 b kc .char (37 : Int32) vs (.int (0 : Int32))) (gb : n0 ≤ b) :
    MetFree l y_2 (head1 (Jvm.Cond.code y_2 method_4_code 4 none :: ws) ({ frames := 0, cells := 0, slots := 0, locals := 0 } : Room)) (fun aa_ U => aa_ = #[(.ref b), (.int (21 : Int32)), (.int nu), (.int x)] ∧ Z.Warmed39 U.vm ∧ U.heap = h0) (fun _ _ _ _ _ => True) (fun _ U o U' => ∃ vv_ LL_, o = .returned vv_ ∧ Q_put21 Z b kc vs nu x h0 n0 vv_ U'.heap LL_ ∧ FrameEnd U o U' LL_ 0 0) := by
  refine MetFree.of_bodySF (plainFor_of_name pn_com_example_ermine_ermine_server_DatabaseSettingsToStringPinLaw) hisR ?_
  intro p e s m args below meth c s₁ Bd hml0 hP hK
  obtain ⟨rfl, hZ, hh⟩ := hP
  have hx := Bd.exec
  have hby := Bd.bytes
  have hml : c.maxLocals = 4 := hml0
  have hown : s.vm.findClass "com/example/ermine/ermine/server/DatabaseSettingsToStringPinLaw" = some m.cls := findClass_of_methodNamed Bd.named
  have hnm := (name_of_methodNamed Bd.named Bd.method).1
  have X0 : Stand p l e ({ frames := 0, cells := 0, slots := 0, locals := 0 } : Room) s m #[(.ref b), (.int (21 : Int32)), (.int nu), (.int x)] below meth c s₁ [] 0 0 := Stand.of_body Bd
  have e0 : s₁.heap = h0 := by rw [← hh, Bd.state]; rfl
  have N0 := Fr.nil n0
  have ef : entryFrame m #[(.ref b), (.int (21 : Int32)), (.int nu), (.int x)] 4 = mkF m 0 #[.val (.ref b), .val (.int (21 : Int32)), .val (.int nu), .val (.int x)] [] := by first | (simp [entryFrame, mkF, argsToLocals, Value.category]; done) | rfl
  refine Fin.start (Q := Q_put21 Z b kc vs nu x h0 n0) ef ?_
  refine Fin.by (fun tt_ kk_ => XS.iloadN X0.here hx rfl (hb hby d1_0) rfl kk_) ?_
  show Fin _ _ _ _ _ _ _ (s₁.setTop (mkF m 1 #[.val (.ref b), .val (.int 21), .val (.int nu), .val (.int x)] [(.int nu)]))
  by_cases hz : nu = (0 : Int32)
  · refine Fin.by (fun tt_ kk_ => XS.ifYes X0.here hx rfl (pc0 := 1) (pc' := 33) rfl (hb hby d1_1) rfl ((if0 _ _).trans (teq hz).1) (by decide) (by decide) kk_) ?_
    refine Fin.by (fun tt_ kk_ => XS.aloadN X0.here hx rfl (hb hby d1_33) rfl rfl (XS.iloadN X0.here hx rfl (hb hby d1_34) rfl (XS.iloadN X0.here hx rfl (hb hby d1_35) rfl (XS.sipush X0.here hx rfl (hb hby d1_36) (XS.iand X0.here hx rfl (hb hby d1_39) rfl (XS.i2c X0.here hx rfl (hb hby d1_40) rfl kk_)))))) ?_
    obtain ⟨cl101, Ar101, q101, S101, N101, H101, G101⟩ := id Ab
    have hin101 : ¬ ((21 : Int32) < 0 ∨ cl101.slots.size ≤ (21 : Int32).toNatClampNeg) := inb_of S101 ⟨by decide, by decide⟩
    obtain ⟨T101, h101, X101, e101, W101, st101⟩ := stC X0 hx hZ e0 Ar101 (j := (21 : Int32)) hin101 (g := (mkF m 41 #[.val (.ref b), .val (.int 21), .val (.int nu), .val (.int x)] [(.int ((x &&& 255).toUInt32.toUInt16.toUInt32.toInt32)), (.int 21), (.ref b)])) rfl rfl (hb hby d1_41)
    have V101 : Arv Z h101 b kc .char (37 : Int32) (vs.set 21 (.int (nar .char ((x &&& (255 : Int32)).toUInt32.toUInt16.toUInt32.toInt32)))) (.int (0 : Int32)) := Arv.set Ar101 q101 S101 N101 H101 G101 (fits_nar_char _) W101 (21) rfl (by simp only [List.length_set, hvl]; decide)
    refine Fin.by (fun tt_ kk_ => st101 tt_ kk_) ?_
    have N101_ := Fr.snoc X101 N0 gb
    refine Fin.by (fun tt_ kk_ => XS.aloadN X101.here hx rfl (hb hby d1_42) rfl rfl (XS.iloadN X101.here hx rfl (hb hby d1_43) rfl (XS.iconst X101.here hx rfl (hb hby d1_44) (XS.iadd X101.here hx rfl (hb hby d1_45) rfl (XS.iloadN X101.here hx rfl (hb hby d1_46) rfl (XS.bipush X101.here hx rfl (hb hby d1_47) (XS.iushr X101.here hx rfl (hb hby d1_49) rfl (XS.sipush X101.here hx rfl (hb hby d1_50) (XS.iand X101.here hx rfl (hb hby d1_53) rfl (XS.i2c X101.here hx rfl (hb hby d1_54) rfl kk_)))))))))) ?_
    show Fin _ _ _ _ _ _ _ (T101.setTop (mkF m 55 #[.val (.ref b), .val (.int 21), .val (.int nu), .val (.int x)] [(.int ((((x.toUInt32 >>> ((8 : Int32) &&& 31).toUInt32).toInt32) &&& 255).toUInt32.toUInt16.toUInt32.toInt32)), (.int 22), (.ref b)]))
    obtain ⟨cl102, Ar102, q102, S102, N102, H102, G102⟩ := id V101
    have hin102 : ¬ ((22 : Int32) < 0 ∨ cl102.slots.size ≤ (22 : Int32).toNatClampNeg) := inb_of S102 ⟨by decide, by decide⟩
    obtain ⟨T102, h102, X102, e102, W102, st102⟩ := stC X101 hx hZ e101 Ar102 (j := (22 : Int32)) hin102 (g := (mkF m 55 #[.val (.ref b), .val (.int 21), .val (.int nu), .val (.int x)] [(.int ((((x.toUInt32 >>> ((8 : Int32) &&& 31).toUInt32).toInt32) &&& 255).toUInt32.toUInt16.toUInt32.toInt32)), (.int 22), (.ref b)])) rfl rfl (hb hby d1_55)
    have V102 : Arv Z h102 b kc .char (37 : Int32) ((vs.set 21 (.int (nar .char ((x &&& (255 : Int32)).toUInt32.toUInt16.toUInt32.toInt32)))).set 22 (.int (nar .char ((((x.toUInt32 >>> ((8 : Int32) &&& 31).toUInt32).toInt32) &&& (255 : Int32)).toUInt32.toUInt16.toUInt32.toInt32)))) (.int (0 : Int32)) := Arv.set Ar102 q102 S102 N102 H102 G102 (fits_nar_char _) W102 (22) rfl (by simp only [List.length_set, hvl]; decide)
    refine Fin.by (fun tt_ kk_ => st102 tt_ kk_) ?_
    have N102_ := Fr.snoc X102 N101_ gb
    refine Fin.by (fun tt_ kk_ => XS.aloadN X102.here hx rfl (hb hby d1_56) rfl rfl (XS.iloadN X102.here hx rfl (hb hby d1_57) rfl (XS.iconst X102.here hx rfl (hb hby d1_58) (XS.iadd X102.here hx rfl (hb hby d1_59) rfl (XS.iloadN X102.here hx rfl (hb hby d1_60) rfl (XS.bipush X102.here hx rfl (hb hby d1_61) (XS.iushr X102.here hx rfl (hb hby d1_63) rfl (XS.sipush X102.here hx rfl (hb hby d1_64) (XS.iand X102.here hx rfl (hb hby d1_67) rfl (XS.i2c X102.here hx rfl (hb hby d1_68) rfl kk_)))))))))) ?_
    show Fin _ _ _ _ _ _ _ (T102.setTop (mkF m 69 #[.val (.ref b), .val (.int 21), .val (.int nu), .val (.int x)] [(.int ((((x.toUInt32 >>> ((16 : Int32) &&& 31).toUInt32).toInt32) &&& 255).toUInt32.toUInt16.toUInt32.toInt32)), (.int 23), (.ref b)]))
    obtain ⟨cl103, Ar103, q103, S103, N103, H103, G103⟩ := id V102
    have hin103 : ¬ ((23 : Int32) < 0 ∨ cl103.slots.size ≤ (23 : Int32).toNatClampNeg) := inb_of S103 ⟨by decide, by decide⟩
    obtain ⟨T103, h103, X103, e103, W103, st103⟩ := stC X102 hx hZ e102 Ar103 (j := (23 : Int32)) hin103 (g := (mkF m 69 #[.val (.ref b), .val (.int 21), .val (.int nu), .val (.int x)] [(.int ((((x.toUInt32 >>> ((16 : Int32) &&& 31).toUInt32).toInt32) &&& 255).toUInt32.toUInt16.toUInt32.toInt32)), (.int 23), (.ref b)])) rfl rfl (hb hby d1_69)
    have V103 : Arv Z h103 b kc .char (37 : Int32) (((vs.set 21 (.int (nar .char ((x &&& (255 : Int32)).toUInt32.toUInt16.toUInt32.toInt32)))).set 22 (.int (nar .char ((((x.toUInt32 >>> ((8 : Int32) &&& 31).toUInt32).toInt32) &&& (255 : Int32)).toUInt32.toUInt16.toUInt32.toInt32)))).set 23 (.int (nar .char ((((x.toUInt32 >>> ((16 : Int32) &&& 31).toUInt32).toInt32) &&& (255 : Int32)).toUInt32.toUInt16.toUInt32.toInt32)))) (.int (0 : Int32)) := Arv.set Ar103 q103 S103 N103 H103 G103 (fits_nar_char _) W103 (23) rfl (by simp only [List.length_set, hvl]; decide)
    refine Fin.by (fun tt_ kk_ => st103 tt_ kk_) ?_
    have N103_ := Fr.snoc X103 N102_ gb
    refine Fin.by (fun tt_ kk_ => XS.aloadN X103.here hx rfl (hb hby d1_70) rfl rfl (XS.iloadN X103.here hx rfl (hb hby d1_71) rfl (XS.iconst X103.here hx rfl (hb hby d1_72) (XS.iadd X103.here hx rfl (hb hby d1_73) rfl (XS.iloadN X103.here hx rfl (hb hby d1_74) rfl (XS.bipush X103.here hx rfl (hb hby d1_75) (XS.iushr X103.here hx rfl (hb hby d1_77) rfl (XS.sipush X103.here hx rfl (hb hby d1_78) (XS.iand X103.here hx rfl (hb hby d1_81) rfl (XS.i2c X103.here hx rfl (hb hby d1_82) rfl kk_)))))))))) ?_
    show Fin _ _ _ _ _ _ _ (T103.setTop (mkF m 83 #[.val (.ref b), .val (.int 21), .val (.int nu), .val (.int x)] [(.int ((((x.toUInt32 >>> ((24 : Int32) &&& 31).toUInt32).toInt32) &&& 255).toUInt32.toUInt16.toUInt32.toInt32)), (.int 24), (.ref b)]))
    obtain ⟨cl104, Ar104, q104, S104, N104, H104, G104⟩ := id V103
    have hin104 : ¬ ((24 : Int32) < 0 ∨ cl104.slots.size ≤ (24 : Int32).toNatClampNeg) := inb_of S104 ⟨by decide, by decide⟩
    obtain ⟨T104, h104, X104, e104, W104, st104⟩ := stC X103 hx hZ e103 Ar104 (j := (24 : Int32)) hin104 (g := (mkF m 83 #[.val (.ref b), .val (.int 21), .val (.int nu), .val (.int x)] [(.int ((((x.toUInt32 >>> ((24 : Int32) &&& 31).toUInt32).toInt32) &&& 255).toUInt32.toUInt16.toUInt32.toInt32)), (.int 24), (.ref b)])) rfl rfl (hb hby d1_83)
    have V104 : Arv Z h104 b kc .char (37 : Int32) ((((vs.set 21 (.int (nar .char ((x &&& (255 : Int32)).toUInt32.toUInt16.toUInt32.toInt32)))).set 22 (.int (nar .char ((((x.toUInt32 >>> ((8 : Int32) &&& 31).toUInt32).toInt32) &&& (255 : Int32)).toUInt32.toUInt16.toUInt32.toInt32)))).set 23 (.int (nar .char ((((x.toUInt32 >>> ((16 : Int32) &&& 31).toUInt32).toInt32) &&& (255 : Int32)).toUInt32.toUInt16.toUInt32.toInt32)))).set 24 (.int (nar .char ((((x.toUInt32 >>> ((24 : Int32) &&& 31).toUInt32).toInt32) &&& (255 : Int32)).toUInt32.toUInt16.toUInt32.toInt32)))) (.int (0 : Int32)) := Arv.set Ar104 q104 S104 N104 H104 G104 (fits_nar_char _) W104 (24) rfl (by simp only [List.length_set, hvl]; decide)
    refine Fin.by (fun tt_ kk_ => st104 tt_ kk_) ?_
    have N104_ := Fr.snoc X104 N103_ gb
    have V105 : Arv Z h104 b kc .char (37 : Int32) ((((vs.set 21 (.int (own_e0 nu x))).set 22 (.int (own_e1 nu x))).set 23 (.int (own_e2 nu x))).set 24 (.int (own_e3 nu x))) (.int (0 : Int32)) := by have q := V104; unfold own_e0 own_e1 own_e2 own_e3; simp only [if_pos hz]; exact q
    have kp106 : Keep h0 h101 [b] := (Keep.refl h0 [b]).wr W101 (Or.inl (List.mem_of_getElem? (i := 0) rfl))
    have kp107 : Keep h0 h102 [b] := kp106.wr W102 (Or.inl (List.mem_of_getElem? (i := 0) rfl))
    have kp108 : Keep h0 h103 [b] := kp107.wr W103 (Or.inl (List.mem_of_getElem? (i := 0) rfl))
    have kp109 : Keep h0 h104 [b] := kp108.wr W104 (Or.inl (List.mem_of_getElem? (i := 0) rfl))
    show Fin _ _ _ _ _ _ _ (T104.setTop (mkF m 84 #[.val (.ref b), .val (.int 21), .val (.int nu), .val (.int x)] []))
    exact Fin.ret (v := none) X104 (fun _ => rfl) Bd.notSynchronized (by rw [e104]; exact ⟨rfl, N104_, kp109, V105⟩) (by decide) (by decide) (fun fs hr => X104.returnOut hx Bd.returns (hb hby d1_84) hr)
  · refine Fin.by (fun tt_ kk_ => XS.ifNo X0.here hx rfl (hb hby d1_1) rfl ((if0 _ _).trans (feq hz).1) kk_) ?_
    refine Fin.by (fun tt_ kk_ => XS.aloadN X0.here hx rfl (hb hby d1_4) rfl rfl (XS.iloadN X0.here hx rfl (hb hby d1_5) rfl (XS.bipush X0.here hx rfl (hb hby d1_6) kk_))) ?_
    obtain ⟨cl110, Ar110, q110, S110, N110, H110, G110⟩ := id Ab
    have hin110 : ¬ ((21 : Int32) < 0 ∨ cl110.slots.size ≤ (21 : Int32).toNatClampNeg) := inb_of S110 ⟨by decide, by decide⟩
    obtain ⟨T110, h110, X110, e110, W110, st110⟩ := stC X0 hx hZ e0 Ar110 (j := (21 : Int32)) hin110 (g := (mkF m 8 #[.val (.ref b), .val (.int 21), .val (.int nu), .val (.int x)] [(.int 110), (.int 21), (.ref b)])) rfl rfl (hb hby d1_8)
    have V110 : Arv Z h110 b kc .char (37 : Int32) (vs.set 21 (.int (nar .char (110 : Int32)))) (.int (0 : Int32)) := Arv.set Ar110 q110 S110 N110 H110 G110 (fits_nar_char _) W110 (21) rfl (by simp only [List.length_set, hvl]; decide)
    refine Fin.by (fun tt_ kk_ => st110 tt_ kk_) ?_
    have N110_ := Fr.snoc X110 N0 gb
    refine Fin.by (fun tt_ kk_ => XS.aloadN X110.here hx rfl (hb hby d1_9) rfl rfl (XS.iloadN X110.here hx rfl (hb hby d1_10) rfl (XS.iconst X110.here hx rfl (hb hby d1_11) (XS.iadd X110.here hx rfl (hb hby d1_12) rfl (XS.bipush X110.here hx rfl (hb hby d1_13) kk_))))) ?_
    obtain ⟨cl111, Ar111, q111, S111, N111, H111, G111⟩ := id V110
    have hin111 : ¬ ((22 : Int32) < 0 ∨ cl111.slots.size ≤ (22 : Int32).toNatClampNeg) := inb_of S111 ⟨by decide, by decide⟩
    obtain ⟨T111, h111, X111, e111, W111, st111⟩ := stC X110 hx hZ e110 Ar111 (j := (22 : Int32)) hin111 (g := (mkF m 15 #[.val (.ref b), .val (.int 21), .val (.int nu), .val (.int x)] [(.int 117), (.int 22), (.ref b)])) rfl rfl (hb hby d1_15)
    have V111 : Arv Z h111 b kc .char (37 : Int32) ((vs.set 21 (.int (nar .char (110 : Int32)))).set 22 (.int (nar .char (117 : Int32)))) (.int (0 : Int32)) := Arv.set Ar111 q111 S111 N111 H111 G111 (fits_nar_char _) W111 (22) rfl (by simp only [List.length_set, hvl]; decide)
    refine Fin.by (fun tt_ kk_ => st111 tt_ kk_) ?_
    have N111_ := Fr.snoc X111 N110_ gb
    refine Fin.by (fun tt_ kk_ => XS.aloadN X111.here hx rfl (hb hby d1_16) rfl rfl (XS.iloadN X111.here hx rfl (hb hby d1_17) rfl (XS.iconst X111.here hx rfl (hb hby d1_18) (XS.iadd X111.here hx rfl (hb hby d1_19) rfl (XS.bipush X111.here hx rfl (hb hby d1_20) kk_))))) ?_
    obtain ⟨cl112, Ar112, q112, S112, N112, H112, G112⟩ := id V111
    have hin112 : ¬ ((23 : Int32) < 0 ∨ cl112.slots.size ≤ (23 : Int32).toNatClampNeg) := inb_of S112 ⟨by decide, by decide⟩
    obtain ⟨T112, h112, X112, e112, W112, st112⟩ := stC X111 hx hZ e111 Ar112 (j := (23 : Int32)) hin112 (g := (mkF m 22 #[.val (.ref b), .val (.int 21), .val (.int nu), .val (.int x)] [(.int 108), (.int 23), (.ref b)])) rfl rfl (hb hby d1_22)
    have V112 : Arv Z h112 b kc .char (37 : Int32) (((vs.set 21 (.int (nar .char (110 : Int32)))).set 22 (.int (nar .char (117 : Int32)))).set 23 (.int (nar .char (108 : Int32)))) (.int (0 : Int32)) := Arv.set Ar112 q112 S112 N112 H112 G112 (fits_nar_char _) W112 (23) rfl (by simp only [List.length_set, hvl]; decide)
    refine Fin.by (fun tt_ kk_ => st112 tt_ kk_) ?_
    have N112_ := Fr.snoc X112 N111_ gb
    refine Fin.by (fun tt_ kk_ => XS.aloadN X112.here hx rfl (hb hby d1_23) rfl rfl (XS.iloadN X112.here hx rfl (hb hby d1_24) rfl (XS.iconst X112.here hx rfl (hb hby d1_25) (XS.iadd X112.here hx rfl (hb hby d1_26) rfl (XS.bipush X112.here hx rfl (hb hby d1_27) kk_))))) ?_
    obtain ⟨cl113, Ar113, q113, S113, N113, H113, G113⟩ := id V112
    have hin113 : ¬ ((24 : Int32) < 0 ∨ cl113.slots.size ≤ (24 : Int32).toNatClampNeg) := inb_of S113 ⟨by decide, by decide⟩
    obtain ⟨T113, h113, X113, e113, W113, st113⟩ := stC X112 hx hZ e112 Ar113 (j := (24 : Int32)) hin113 (g := (mkF m 29 #[.val (.ref b), .val (.int 21), .val (.int nu), .val (.int x)] [(.int 108), (.int 24), (.ref b)])) rfl rfl (hb hby d1_29)
    have V113 : Arv Z h113 b kc .char (37 : Int32) ((((vs.set 21 (.int (nar .char (110 : Int32)))).set 22 (.int (nar .char (117 : Int32)))).set 23 (.int (nar .char (108 : Int32)))).set 24 (.int (nar .char (108 : Int32)))) (.int (0 : Int32)) := Arv.set Ar113 q113 S113 N113 H113 G113 (fits_nar_char _) W113 (24) rfl (by simp only [List.length_set, hvl]; decide)
    refine Fin.by (fun tt_ kk_ => st113 tt_ kk_) ?_
    have N113_ := Fr.snoc X113 N112_ gb
    have V114 : Arv Z h113 b kc .char (37 : Int32) ((((vs.set 21 (.int (own_e0 nu x))).set 22 (.int (own_e1 nu x))).set 23 (.int (own_e2 nu x))).set 24 (.int (own_e3 nu x))) (.int (0 : Int32)) := by have q := V113; unfold own_e0 own_e1 own_e2 own_e3; simp only [if_neg hz]; exact q
    refine Fin.by (fun tt_ kk_ => XS.goto X113.here hx rfl (pc0 := 30) (pc' := 84) rfl (hb hby d1_30) (by decide) (by decide) kk_) ?_
    have kp115 : Keep h0 h110 [b] := (Keep.refl h0 [b]).wr W110 (Or.inl (List.mem_of_getElem? (i := 0) rfl))
    have kp116 : Keep h0 h111 [b] := kp115.wr W111 (Or.inl (List.mem_of_getElem? (i := 0) rfl))
    have kp117 : Keep h0 h112 [b] := kp116.wr W112 (Or.inl (List.mem_of_getElem? (i := 0) rfl))
    have kp118 : Keep h0 h113 [b] := kp117.wr W113 (Or.inl (List.mem_of_getElem? (i := 0) rfl))
    show Fin _ _ _ _ _ _ _ (T113.setTop (mkF m 84 #[.val (.ref b), .val (.int 21), .val (.int nu), .val (.int x)] []))
    exact Fin.ret (v := none) X113 (fun _ => rfl) Bd.notSynchronized (by rw [e113]; exact ⟨rfl, N113_, kp118, V114⟩) (by decide) (by decide) (fun fs hr => X113.returnOut hx Bd.returns (hb hby d1_84) hr)
def Q_put32 (Z : State) (b : Addr) (kc : ClassId) (vs : List Value) (nu : Int32) (x : Int32) (h0 : Heap) (n0 : Nat) (vv_ : Option Value) (hh_ : Heap) (LL_ : List Loc) : Prop := vv_ = none ∧ Fr n0 LL_ ∧ Keep h0 hh_ [b] ∧ Arv Z hh_ b kc .char (37 : Int32) ((((vs.set 32 (.int (own_e0 nu x))).set 33 (.int (own_e1 nu x))).set 34 (.int (own_e2 nu x))).set 35 (.int (own_e3 nu x))) (.int (0 : Int32))
set_option maxRecDepth 65536 in
set_option maxHeartbeats 40000000 in
theorem rm_put32 (l : Launch) (Z : State) (a0 : Array Value) (hw : ∀ d ∈ tables_1, d.before a0 Z = true) (ws : List Jvm.Cond) (b : Addr) (kc : ClassId) (vs : List Value) (nu : Int32) (x : Int32) (h0 : Heap) (n0 : Nat) (Z0 : n0 ≤ h0.size) (hvl : vs.length = 37) (Ab : Arv Z h0 b kc .char (37 : Int32) vs (.int (0 : Int32))) (gb : n0 ≤ b) :
    MetFree l y_2 (head1 (Jvm.Cond.code y_2 method_4_code 4 none :: ws) ({ frames := 0, cells := 0, slots := 0, locals := 0 } : Room)) (fun aa_ U => aa_ = #[(.ref b), (.int (32 : Int32)), (.int nu), (.int x)] ∧ Z.Warmed39 U.vm ∧ U.heap = h0) (fun _ _ _ _ _ => True) (fun _ U o U' => ∃ vv_ LL_, o = .returned vv_ ∧ Q_put32 Z b kc vs nu x h0 n0 vv_ U'.heap LL_ ∧ FrameEnd U o U' LL_ 0 0) := by
  refine MetFree.of_bodySF (plainFor_of_name pn_com_example_ermine_ermine_server_DatabaseSettingsToStringPinLaw) hisR ?_
  intro p e s m args below meth c s₁ Bd hml0 hP hK
  obtain ⟨rfl, hZ, hh⟩ := hP
  have hx := Bd.exec
  have hby := Bd.bytes
  have hml : c.maxLocals = 4 := hml0
  have hown : s.vm.findClass "com/example/ermine/ermine/server/DatabaseSettingsToStringPinLaw" = some m.cls := findClass_of_methodNamed Bd.named
  have hnm := (name_of_methodNamed Bd.named Bd.method).1
  have X0 : Stand p l e ({ frames := 0, cells := 0, slots := 0, locals := 0 } : Room) s m #[(.ref b), (.int (32 : Int32)), (.int nu), (.int x)] below meth c s₁ [] 0 0 := Stand.of_body Bd
  have e0 : s₁.heap = h0 := by rw [← hh, Bd.state]; rfl
  have N0 := Fr.nil n0
  have ef : entryFrame m #[(.ref b), (.int (32 : Int32)), (.int nu), (.int x)] 4 = mkF m 0 #[.val (.ref b), .val (.int (32 : Int32)), .val (.int nu), .val (.int x)] [] := by first | (simp [entryFrame, mkF, argsToLocals, Value.category]; done) | rfl
  refine Fin.start (Q := Q_put32 Z b kc vs nu x h0 n0) ef ?_
  refine Fin.by (fun tt_ kk_ => XS.iloadN X0.here hx rfl (hb hby d1_0) rfl kk_) ?_
  show Fin _ _ _ _ _ _ _ (s₁.setTop (mkF m 1 #[.val (.ref b), .val (.int 32), .val (.int nu), .val (.int x)] [(.int nu)]))
  by_cases hz : nu = (0 : Int32)
  · refine Fin.by (fun tt_ kk_ => XS.ifYes X0.here hx rfl (pc0 := 1) (pc' := 33) rfl (hb hby d1_1) rfl ((if0 _ _).trans (teq hz).1) (by decide) (by decide) kk_) ?_
    refine Fin.by (fun tt_ kk_ => XS.aloadN X0.here hx rfl (hb hby d1_33) rfl rfl (XS.iloadN X0.here hx rfl (hb hby d1_34) rfl (XS.iloadN X0.here hx rfl (hb hby d1_35) rfl (XS.sipush X0.here hx rfl (hb hby d1_36) (XS.iand X0.here hx rfl (hb hby d1_39) rfl (XS.i2c X0.here hx rfl (hb hby d1_40) rfl kk_)))))) ?_
    obtain ⟨cl101, Ar101, q101, S101, N101, H101, G101⟩ := id Ab
    have hin101 : ¬ ((32 : Int32) < 0 ∨ cl101.slots.size ≤ (32 : Int32).toNatClampNeg) := inb_of S101 ⟨by decide, by decide⟩
    obtain ⟨T101, h101, X101, e101, W101, st101⟩ := stC X0 hx hZ e0 Ar101 (j := (32 : Int32)) hin101 (g := (mkF m 41 #[.val (.ref b), .val (.int 32), .val (.int nu), .val (.int x)] [(.int ((x &&& 255).toUInt32.toUInt16.toUInt32.toInt32)), (.int 32), (.ref b)])) rfl rfl (hb hby d1_41)
    have V101 : Arv Z h101 b kc .char (37 : Int32) (vs.set 32 (.int (nar .char ((x &&& (255 : Int32)).toUInt32.toUInt16.toUInt32.toInt32)))) (.int (0 : Int32)) := Arv.set Ar101 q101 S101 N101 H101 G101 (fits_nar_char _) W101 (32) rfl (by simp only [List.length_set, hvl]; decide)
    refine Fin.by (fun tt_ kk_ => st101 tt_ kk_) ?_
    have N101_ := Fr.snoc X101 N0 gb
    refine Fin.by (fun tt_ kk_ => XS.aloadN X101.here hx rfl (hb hby d1_42) rfl rfl (XS.iloadN X101.here hx rfl (hb hby d1_43) rfl (XS.iconst X101.here hx rfl (hb hby d1_44) (XS.iadd X101.here hx rfl (hb hby d1_45) rfl (XS.iloadN X101.here hx rfl (hb hby d1_46) rfl (XS.bipush X101.here hx rfl (hb hby d1_47) (XS.iushr X101.here hx rfl (hb hby d1_49) rfl (XS.sipush X101.here hx rfl (hb hby d1_50) (XS.iand X101.here hx rfl (hb hby d1_53) rfl (XS.i2c X101.here hx rfl (hb hby d1_54) rfl kk_)))))))))) ?_
    show Fin _ _ _ _ _ _ _ (T101.setTop (mkF m 55 #[.val (.ref b), .val (.int 32), .val (.int nu), .val (.int x)] [(.int ((((x.toUInt32 >>> ((8 : Int32) &&& 31).toUInt32).toInt32) &&& 255).toUInt32.toUInt16.toUInt32.toInt32)), (.int 33), (.ref b)]))
    obtain ⟨cl102, Ar102, q102, S102, N102, H102, G102⟩ := id V101
    have hin102 : ¬ ((33 : Int32) < 0 ∨ cl102.slots.size ≤ (33 : Int32).toNatClampNeg) := inb_of S102 ⟨by decide, by decide⟩
    obtain ⟨T102, h102, X102, e102, W102, st102⟩ := stC X101 hx hZ e101 Ar102 (j := (33 : Int32)) hin102 (g := (mkF m 55 #[.val (.ref b), .val (.int 32), .val (.int nu), .val (.int x)] [(.int ((((x.toUInt32 >>> ((8 : Int32) &&& 31).toUInt32).toInt32) &&& 255).toUInt32.toUInt16.toUInt32.toInt32)), (.int 33), (.ref b)])) rfl rfl (hb hby d1_55)
    have V102 : Arv Z h102 b kc .char (37 : Int32) ((vs.set 32 (.int (nar .char ((x &&& (255 : Int32)).toUInt32.toUInt16.toUInt32.toInt32)))).set 33 (.int (nar .char ((((x.toUInt32 >>> ((8 : Int32) &&& 31).toUInt32).toInt32) &&& (255 : Int32)).toUInt32.toUInt16.toUInt32.toInt32)))) (.int (0 : Int32)) := Arv.set Ar102 q102 S102 N102 H102 G102 (fits_nar_char _) W102 (33) rfl (by simp only [List.length_set, hvl]; decide)
    refine Fin.by (fun tt_ kk_ => st102 tt_ kk_) ?_
    have N102_ := Fr.snoc X102 N101_ gb
    refine Fin.by (fun tt_ kk_ => XS.aloadN X102.here hx rfl (hb hby d1_56) rfl rfl (XS.iloadN X102.here hx rfl (hb hby d1_57) rfl (XS.iconst X102.here hx rfl (hb hby d1_58) (XS.iadd X102.here hx rfl (hb hby d1_59) rfl (XS.iloadN X102.here hx rfl (hb hby d1_60) rfl (XS.bipush X102.here hx rfl (hb hby d1_61) (XS.iushr X102.here hx rfl (hb hby d1_63) rfl (XS.sipush X102.here hx rfl (hb hby d1_64) (XS.iand X102.here hx rfl (hb hby d1_67) rfl (XS.i2c X102.here hx rfl (hb hby d1_68) rfl kk_)))))))))) ?_
    show Fin _ _ _ _ _ _ _ (T102.setTop (mkF m 69 #[.val (.ref b), .val (.int 32), .val (.int nu), .val (.int x)] [(.int ((((x.toUInt32 >>> ((16 : Int32) &&& 31).toUInt32).toInt32) &&& 255).toUInt32.toUInt16.toUInt32.toInt32)), (.int 34), (.ref b)]))
    obtain ⟨cl103, Ar103, q103, S103, N103, H103, G103⟩ := id V102
    have hin103 : ¬ ((34 : Int32) < 0 ∨ cl103.slots.size ≤ (34 : Int32).toNatClampNeg) := inb_of S103 ⟨by decide, by decide⟩
    obtain ⟨T103, h103, X103, e103, W103, st103⟩ := stC X102 hx hZ e102 Ar103 (j := (34 : Int32)) hin103 (g := (mkF m 69 #[.val (.ref b), .val (.int 32), .val (.int nu), .val (.int x)] [(.int ((((x.toUInt32 >>> ((16 : Int32) &&& 31).toUInt32).toInt32) &&& 255).toUInt32.toUInt16.toUInt32.toInt32)), (.int 34), (.ref b)])) rfl rfl (hb hby d1_69)
    have V103 : Arv Z h103 b kc .char (37 : Int32) (((vs.set 32 (.int (nar .char ((x &&& (255 : Int32)).toUInt32.toUInt16.toUInt32.toInt32)))).set 33 (.int (nar .char ((((x.toUInt32 >>> ((8 : Int32) &&& 31).toUInt32).toInt32) &&& (255 : Int32)).toUInt32.toUInt16.toUInt32.toInt32)))).set 34 (.int (nar .char ((((x.toUInt32 >>> ((16 : Int32) &&& 31).toUInt32).toInt32) &&& (255 : Int32)).toUInt32.toUInt16.toUInt32.toInt32)))) (.int (0 : Int32)) := Arv.set Ar103 q103 S103 N103 H103 G103 (fits_nar_char _) W103 (34) rfl (by simp only [List.length_set, hvl]; decide)
    refine Fin.by (fun tt_ kk_ => st103 tt_ kk_) ?_
    have N103_ := Fr.snoc X103 N102_ gb
    refine Fin.by (fun tt_ kk_ => XS.aloadN X103.here hx rfl (hb hby d1_70) rfl rfl (XS.iloadN X103.here hx rfl (hb hby d1_71) rfl (XS.iconst X103.here hx rfl (hb hby d1_72) (XS.iadd X103.here hx rfl (hb hby d1_73) rfl (XS.iloadN X103.here hx rfl (hb hby d1_74) rfl (XS.bipush X103.here hx rfl (hb hby d1_75) (XS.iushr X103.here hx rfl (hb hby d1_77) rfl (XS.sipush X103.here hx rfl (hb hby d1_78) (XS.iand X103.here hx rfl (hb hby d1_81) rfl (XS.i2c X103.here hx rfl (hb hby d1_82) rfl kk_)))))))))) ?_
    show Fin _ _ _ _ _ _ _ (T103.setTop (mkF m 83 #[.val (.ref b), .val (.int 32), .val (.int nu), .val (.int x)] [(.int ((((x.toUInt32 >>> ((24 : Int32) &&& 31).toUInt32).toInt32) &&& 255).toUInt32.toUInt16.toUInt32.toInt32)), (.int 35), (.ref b)]))
    obtain ⟨cl104, Ar104, q104, S104, N104, H104, G104⟩ := id V103
    have hin104 : ¬ ((35 : Int32) < 0 ∨ cl104.slots.size ≤ (35 : Int32).toNatClampNeg) := inb_of S104 ⟨by decide, by decide⟩
    obtain ⟨T104, h104, X104, e104, W104, st104⟩ := stC X103 hx hZ e103 Ar104 (j := (35 : Int32)) hin104 (g := (mkF m 83 #[.val (.ref b), .val (.int 32), .val (.int nu), .val (.int x)] [(.int ((((x.toUInt32 >>> ((24 : Int32) &&& 31).toUInt32).toInt32) &&& 255).toUInt32.toUInt16.toUInt32.toInt32)), (.int 35), (.ref b)])) rfl rfl (hb hby d1_83)
    have V104 : Arv Z h104 b kc .char (37 : Int32) ((((vs.set 32 (.int (nar .char ((x &&& (255 : Int32)).toUInt32.toUInt16.toUInt32.toInt32)))).set 33 (.int (nar .char ((((x.toUInt32 >>> ((8 : Int32) &&& 31).toUInt32).toInt32) &&& (255 : Int32)).toUInt32.toUInt16.toUInt32.toInt32)))).set 34 (.int (nar .char ((((x.toUInt32 >>> ((16 : Int32) &&& 31).toUInt32).toInt32) &&& (255 : Int32)).toUInt32.toUInt16.toUInt32.toInt32)))).set 35 (.int (nar .char ((((x.toUInt32 >>> ((24 : Int32) &&& 31).toUInt32).toInt32) &&& (255 : Int32)).toUInt32.toUInt16.toUInt32.toInt32)))) (.int (0 : Int32)) := Arv.set Ar104 q104 S104 N104 H104 G104 (fits_nar_char _) W104 (35) rfl (by simp only [List.length_set, hvl]; decide)
    refine Fin.by (fun tt_ kk_ => st104 tt_ kk_) ?_
    have N104_ := Fr.snoc X104 N103_ gb
    have V105 : Arv Z h104 b kc .char (37 : Int32) ((((vs.set 32 (.int (own_e0 nu x))).set 33 (.int (own_e1 nu x))).set 34 (.int (own_e2 nu x))).set 35 (.int (own_e3 nu x))) (.int (0 : Int32)) := by have q := V104; unfold own_e0 own_e1 own_e2 own_e3; simp only [if_pos hz]; exact q
    have kp106 : Keep h0 h101 [b] := (Keep.refl h0 [b]).wr W101 (Or.inl (List.mem_of_getElem? (i := 0) rfl))
    have kp107 : Keep h0 h102 [b] := kp106.wr W102 (Or.inl (List.mem_of_getElem? (i := 0) rfl))
    have kp108 : Keep h0 h103 [b] := kp107.wr W103 (Or.inl (List.mem_of_getElem? (i := 0) rfl))
    have kp109 : Keep h0 h104 [b] := kp108.wr W104 (Or.inl (List.mem_of_getElem? (i := 0) rfl))
    show Fin _ _ _ _ _ _ _ (T104.setTop (mkF m 84 #[.val (.ref b), .val (.int 32), .val (.int nu), .val (.int x)] []))
    exact Fin.ret (v := none) X104 (fun _ => rfl) Bd.notSynchronized (by rw [e104]; exact ⟨rfl, N104_, kp109, V105⟩) (by decide) (by decide) (fun fs hr => X104.returnOut hx Bd.returns (hb hby d1_84) hr)
  · refine Fin.by (fun tt_ kk_ => XS.ifNo X0.here hx rfl (hb hby d1_1) rfl ((if0 _ _).trans (feq hz).1) kk_) ?_
    refine Fin.by (fun tt_ kk_ => XS.aloadN X0.here hx rfl (hb hby d1_4) rfl rfl (XS.iloadN X0.here hx rfl (hb hby d1_5) rfl (XS.bipush X0.here hx rfl (hb hby d1_6) kk_))) ?_
    obtain ⟨cl110, Ar110, q110, S110, N110, H110, G110⟩ := id Ab
    have hin110 : ¬ ((32 : Int32) < 0 ∨ cl110.slots.size ≤ (32 : Int32).toNatClampNeg) := inb_of S110 ⟨by decide, by decide⟩
    obtain ⟨T110, h110, X110, e110, W110, st110⟩ := stC X0 hx hZ e0 Ar110 (j := (32 : Int32)) hin110 (g := (mkF m 8 #[.val (.ref b), .val (.int 32), .val (.int nu), .val (.int x)] [(.int 110), (.int 32), (.ref b)])) rfl rfl (hb hby d1_8)
    have V110 : Arv Z h110 b kc .char (37 : Int32) (vs.set 32 (.int (nar .char (110 : Int32)))) (.int (0 : Int32)) := Arv.set Ar110 q110 S110 N110 H110 G110 (fits_nar_char _) W110 (32) rfl (by simp only [List.length_set, hvl]; decide)
    refine Fin.by (fun tt_ kk_ => st110 tt_ kk_) ?_
    have N110_ := Fr.snoc X110 N0 gb
    refine Fin.by (fun tt_ kk_ => XS.aloadN X110.here hx rfl (hb hby d1_9) rfl rfl (XS.iloadN X110.here hx rfl (hb hby d1_10) rfl (XS.iconst X110.here hx rfl (hb hby d1_11) (XS.iadd X110.here hx rfl (hb hby d1_12) rfl (XS.bipush X110.here hx rfl (hb hby d1_13) kk_))))) ?_
    obtain ⟨cl111, Ar111, q111, S111, N111, H111, G111⟩ := id V110
    have hin111 : ¬ ((33 : Int32) < 0 ∨ cl111.slots.size ≤ (33 : Int32).toNatClampNeg) := inb_of S111 ⟨by decide, by decide⟩
    obtain ⟨T111, h111, X111, e111, W111, st111⟩ := stC X110 hx hZ e110 Ar111 (j := (33 : Int32)) hin111 (g := (mkF m 15 #[.val (.ref b), .val (.int 32), .val (.int nu), .val (.int x)] [(.int 117), (.int 33), (.ref b)])) rfl rfl (hb hby d1_15)
    have V111 : Arv Z h111 b kc .char (37 : Int32) ((vs.set 32 (.int (nar .char (110 : Int32)))).set 33 (.int (nar .char (117 : Int32)))) (.int (0 : Int32)) := Arv.set Ar111 q111 S111 N111 H111 G111 (fits_nar_char _) W111 (33) rfl (by simp only [List.length_set, hvl]; decide)
    refine Fin.by (fun tt_ kk_ => st111 tt_ kk_) ?_
    have N111_ := Fr.snoc X111 N110_ gb
    refine Fin.by (fun tt_ kk_ => XS.aloadN X111.here hx rfl (hb hby d1_16) rfl rfl (XS.iloadN X111.here hx rfl (hb hby d1_17) rfl (XS.iconst X111.here hx rfl (hb hby d1_18) (XS.iadd X111.here hx rfl (hb hby d1_19) rfl (XS.bipush X111.here hx rfl (hb hby d1_20) kk_))))) ?_
    obtain ⟨cl112, Ar112, q112, S112, N112, H112, G112⟩ := id V111
    have hin112 : ¬ ((34 : Int32) < 0 ∨ cl112.slots.size ≤ (34 : Int32).toNatClampNeg) := inb_of S112 ⟨by decide, by decide⟩
    obtain ⟨T112, h112, X112, e112, W112, st112⟩ := stC X111 hx hZ e111 Ar112 (j := (34 : Int32)) hin112 (g := (mkF m 22 #[.val (.ref b), .val (.int 32), .val (.int nu), .val (.int x)] [(.int 108), (.int 34), (.ref b)])) rfl rfl (hb hby d1_22)
    have V112 : Arv Z h112 b kc .char (37 : Int32) (((vs.set 32 (.int (nar .char (110 : Int32)))).set 33 (.int (nar .char (117 : Int32)))).set 34 (.int (nar .char (108 : Int32)))) (.int (0 : Int32)) := Arv.set Ar112 q112 S112 N112 H112 G112 (fits_nar_char _) W112 (34) rfl (by simp only [List.length_set, hvl]; decide)
    refine Fin.by (fun tt_ kk_ => st112 tt_ kk_) ?_
    have N112_ := Fr.snoc X112 N111_ gb
    refine Fin.by (fun tt_ kk_ => XS.aloadN X112.here hx rfl (hb hby d1_23) rfl rfl (XS.iloadN X112.here hx rfl (hb hby d1_24) rfl (XS.iconst X112.here hx rfl (hb hby d1_25) (XS.iadd X112.here hx rfl (hb hby d1_26) rfl (XS.bipush X112.here hx rfl (hb hby d1_27) kk_))))) ?_
    obtain ⟨cl113, Ar113, q113, S113, N113, H113, G113⟩ := id V112
    have hin113 : ¬ ((35 : Int32) < 0 ∨ cl113.slots.size ≤ (35 : Int32).toNatClampNeg) := inb_of S113 ⟨by decide, by decide⟩
    obtain ⟨T113, h113, X113, e113, W113, st113⟩ := stC X112 hx hZ e112 Ar113 (j := (35 : Int32)) hin113 (g := (mkF m 29 #[.val (.ref b), .val (.int 32), .val (.int nu), .val (.int x)] [(.int 108), (.int 35), (.ref b)])) rfl rfl (hb hby d1_29)
    have V113 : Arv Z h113 b kc .char (37 : Int32) ((((vs.set 32 (.int (nar .char (110 : Int32)))).set 33 (.int (nar .char (117 : Int32)))).set 34 (.int (nar .char (108 : Int32)))).set 35 (.int (nar .char (108 : Int32)))) (.int (0 : Int32)) := Arv.set Ar113 q113 S113 N113 H113 G113 (fits_nar_char _) W113 (35) rfl (by simp only [List.length_set, hvl]; decide)
    refine Fin.by (fun tt_ kk_ => st113 tt_ kk_) ?_
    have N113_ := Fr.snoc X113 N112_ gb
    have V114 : Arv Z h113 b kc .char (37 : Int32) ((((vs.set 32 (.int (own_e0 nu x))).set 33 (.int (own_e1 nu x))).set 34 (.int (own_e2 nu x))).set 35 (.int (own_e3 nu x))) (.int (0 : Int32)) := by have q := V113; unfold own_e0 own_e1 own_e2 own_e3; simp only [if_neg hz]; exact q
    refine Fin.by (fun tt_ kk_ => XS.goto X113.here hx rfl (pc0 := 30) (pc' := 84) rfl (hb hby d1_30) (by decide) (by decide) kk_) ?_
    have kp115 : Keep h0 h110 [b] := (Keep.refl h0 [b]).wr W110 (Or.inl (List.mem_of_getElem? (i := 0) rfl))
    have kp116 : Keep h0 h111 [b] := kp115.wr W111 (Or.inl (List.mem_of_getElem? (i := 0) rfl))
    have kp117 : Keep h0 h112 [b] := kp116.wr W112 (Or.inl (List.mem_of_getElem? (i := 0) rfl))
    have kp118 : Keep h0 h113 [b] := kp117.wr W113 (Or.inl (List.mem_of_getElem? (i := 0) rfl))
    show Fin _ _ _ _ _ _ _ (T113.setTop (mkF m 84 #[.val (.ref b), .val (.int 32), .val (.int nu), .val (.int x)] []))
    exact Fin.ret (v := none) X113 (fun _ => rfl) Bd.notSynchronized (by rw [e113]; exact ⟨rfl, N113_, kp118, V114⟩) (by decide) (by decide) (fun fs hr => X113.returnOut hx Bd.returns (hb hby d1_84) hr)
abbrev y_3 : MethodName := (⟨"com/example/ermine/ermine/server/DatabaseSettingsToStringPinLaw", "expected", "(ZIZI)Ljava/lang/String;"⟩ : MethodName)
theorem d2_0 : decode method_5_code 0 = .ok (.bipush 37, 2) := by decide +kernel
theorem d2_2 : decode method_5_code 2 = .ok (.newarray .char, 2) := by decide +kernel
theorem d2_4 : decode method_5_code 4 = .ok (.astore 4, 2) := by decide +kernel
theorem d2_205 : decode method_5_code 205 = .ok (.aload 4, 2) := by decide +kernel
theorem d2_207 : decode method_5_code 207 = .ok (.bipush 32, 2) := by decide +kernel
theorem d2_209 : decode method_5_code 209 = .ok (.iload_n 2, 1) := by decide +kernel
theorem d2_210 : decode method_5_code 210 = .ok (.iload_n 3, 1) := by decide +kernel
theorem pd_117 : parseMethodDescriptor "([CIZI)V" = some ⟨[(.array .char), .int, .boolean, .int], none⟩ := by decide +kernel
theorem d2_211 : decode method_5_code 211 = .ok (.invokestatic 35, 3) := by decide +kernel
theorem d2_214 : decode method_5_code 214 = .ok (.aload 4, 2) := by decide +kernel
theorem d2_216 : decode method_5_code 216 = .ok (.bipush 36, 2) := by decide +kernel
theorem d2_218 : decode method_5_code 218 = .ok (.bipush 93, 2) := by decide +kernel
theorem d2_220 : decode method_5_code 220 = .ok (.castore, 1) := by decide +kernel
theorem d2_221 : decode method_5_code 221 = .ok (.new 27, 3) := by decide +kernel
theorem d2_224 : decode method_5_code 224 = .ok (.dup, 1) := by decide +kernel
theorem d2_225 : decode method_5_code 225 = .ok (.aload 4, 2) := by decide +kernel
theorem d2_227 : decode method_5_code 227 = .ok (.invokespecial 32, 3) := by decide +kernel
theorem d2_230 : decode method_5_code 230 = .ok (.areturn, 1) := by decide +kernel
theorem d2_147 : decode method_5_code 147 = .ok (.aload 4, 2) := by decide +kernel
theorem d2_149 : decode method_5_code 149 = .ok (.bipush 21, 2) := by decide +kernel
theorem d2_151 : decode method_5_code 151 = .ok (.iload_n 0, 1) := by decide +kernel
theorem d2_152 : decode method_5_code 152 = .ok (.iload_n 1, 1) := by decide +kernel
theorem d2_153 : decode method_5_code 153 = .ok (.invokestatic 35, 3) := by decide +kernel
theorem d2_156 : decode method_5_code 156 = .ok (.aload 4, 2) := by decide +kernel
theorem d2_158 : decode method_5_code 158 = .ok (.bipush 25, 2) := by decide +kernel
theorem d2_160 : decode method_5_code 160 = .ok (.bipush 44, 2) := by decide +kernel
theorem d2_162 : decode method_5_code 162 = .ok (.castore, 1) := by decide +kernel
theorem d2_163 : decode method_5_code 163 = .ok (.aload 4, 2) := by decide +kernel
theorem d2_165 : decode method_5_code 165 = .ok (.bipush 26, 2) := by decide +kernel
theorem d2_167 : decode method_5_code 167 = .ok (.bipush 32, 2) := by decide +kernel
theorem d2_169 : decode method_5_code 169 = .ok (.castore, 1) := by decide +kernel
theorem d2_170 : decode method_5_code 170 = .ok (.aload 4, 2) := by decide +kernel
theorem d2_172 : decode method_5_code 172 = .ok (.bipush 27, 2) := by decide +kernel
theorem d2_174 : decode method_5_code 174 = .ok (.bipush 117, 2) := by decide +kernel
theorem d2_176 : decode method_5_code 176 = .ok (.castore, 1) := by decide +kernel
theorem d2_177 : decode method_5_code 177 = .ok (.aload 4, 2) := by decide +kernel
theorem d2_179 : decode method_5_code 179 = .ok (.bipush 28, 2) := by decide +kernel
theorem d2_181 : decode method_5_code 181 = .ok (.bipush 115, 2) := by decide +kernel
theorem d2_183 : decode method_5_code 183 = .ok (.castore, 1) := by decide +kernel
theorem d2_184 : decode method_5_code 184 = .ok (.aload 4, 2) := by decide +kernel
theorem d2_186 : decode method_5_code 186 = .ok (.bipush 29, 2) := by decide +kernel
theorem d2_188 : decode method_5_code 188 = .ok (.bipush 101, 2) := by decide +kernel
theorem d2_190 : decode method_5_code 190 = .ok (.castore, 1) := by decide +kernel
theorem d2_191 : decode method_5_code 191 = .ok (.aload 4, 2) := by decide +kernel
theorem d2_193 : decode method_5_code 193 = .ok (.bipush 30, 2) := by decide +kernel
theorem d2_195 : decode method_5_code 195 = .ok (.bipush 114, 2) := by decide +kernel
theorem d2_197 : decode method_5_code 197 = .ok (.castore, 1) := by decide +kernel
theorem d2_198 : decode method_5_code 198 = .ok (.aload 4, 2) := by decide +kernel
theorem d2_200 : decode method_5_code 200 = .ok (.bipush 31, 2) := by decide +kernel
theorem d2_202 : decode method_5_code 202 = .ok (.bipush 61, 2) := by decide +kernel
theorem d2_204 : decode method_5_code 204 = .ok (.castore, 1) := by decide +kernel
theorem d2_6 : decode method_5_code 6 = .ok (.aload 4, 2) := by decide +kernel
theorem d2_8 : decode method_5_code 8 = .ok (.iconst 0, 1) := by decide +kernel
theorem d2_9 : decode method_5_code 9 = .ok (.bipush 68, 2) := by decide +kernel
theorem d2_11 : decode method_5_code 11 = .ok (.castore, 1) := by decide +kernel
theorem d2_12 : decode method_5_code 12 = .ok (.aload 4, 2) := by decide +kernel
theorem d2_14 : decode method_5_code 14 = .ok (.iconst 1, 1) := by decide +kernel
theorem d2_15 : decode method_5_code 15 = .ok (.bipush 97, 2) := by decide +kernel
theorem d2_17 : decode method_5_code 17 = .ok (.castore, 1) := by decide +kernel
theorem d2_18 : decode method_5_code 18 = .ok (.aload 4, 2) := by decide +kernel
theorem d2_20 : decode method_5_code 20 = .ok (.iconst 2, 1) := by decide +kernel
theorem d2_21 : decode method_5_code 21 = .ok (.bipush 116, 2) := by decide +kernel
theorem d2_23 : decode method_5_code 23 = .ok (.castore, 1) := by decide +kernel
theorem d2_24 : decode method_5_code 24 = .ok (.aload 4, 2) := by decide +kernel
theorem d2_26 : decode method_5_code 26 = .ok (.iconst 3, 1) := by decide +kernel
theorem d2_27 : decode method_5_code 27 = .ok (.bipush 97, 2) := by decide +kernel
theorem d2_29 : decode method_5_code 29 = .ok (.castore, 1) := by decide +kernel
theorem d2_30 : decode method_5_code 30 = .ok (.aload 4, 2) := by decide +kernel
theorem d2_32 : decode method_5_code 32 = .ok (.iconst 4, 1) := by decide +kernel
theorem d2_33 : decode method_5_code 33 = .ok (.bipush 98, 2) := by decide +kernel
theorem d2_35 : decode method_5_code 35 = .ok (.castore, 1) := by decide +kernel
theorem d2_36 : decode method_5_code 36 = .ok (.aload 4, 2) := by decide +kernel
theorem d2_38 : decode method_5_code 38 = .ok (.iconst 5, 1) := by decide +kernel
theorem d2_39 : decode method_5_code 39 = .ok (.bipush 97, 2) := by decide +kernel
theorem d2_41 : decode method_5_code 41 = .ok (.castore, 1) := by decide +kernel
theorem d2_42 : decode method_5_code 42 = .ok (.aload 4, 2) := by decide +kernel
theorem d2_44 : decode method_5_code 44 = .ok (.bipush 6, 2) := by decide +kernel
theorem d2_46 : decode method_5_code 46 = .ok (.bipush 115, 2) := by decide +kernel
theorem d2_48 : decode method_5_code 48 = .ok (.castore, 1) := by decide +kernel
theorem d2_49 : decode method_5_code 49 = .ok (.aload 4, 2) := by decide +kernel
theorem d2_51 : decode method_5_code 51 = .ok (.bipush 7, 2) := by decide +kernel
theorem d2_53 : decode method_5_code 53 = .ok (.bipush 101, 2) := by decide +kernel
theorem d2_55 : decode method_5_code 55 = .ok (.castore, 1) := by decide +kernel
theorem d2_56 : decode method_5_code 56 = .ok (.aload 4, 2) := by decide +kernel
theorem d2_58 : decode method_5_code 58 = .ok (.bipush 8, 2) := by decide +kernel
theorem d2_60 : decode method_5_code 60 = .ok (.bipush 83, 2) := by decide +kernel
theorem d2_62 : decode method_5_code 62 = .ok (.castore, 1) := by decide +kernel
theorem d2_63 : decode method_5_code 63 = .ok (.aload 4, 2) := by decide +kernel
theorem d2_65 : decode method_5_code 65 = .ok (.bipush 9, 2) := by decide +kernel
theorem d2_67 : decode method_5_code 67 = .ok (.bipush 101, 2) := by decide +kernel
theorem d2_69 : decode method_5_code 69 = .ok (.castore, 1) := by decide +kernel
theorem d2_70 : decode method_5_code 70 = .ok (.aload 4, 2) := by decide +kernel
theorem d2_72 : decode method_5_code 72 = .ok (.bipush 10, 2) := by decide +kernel
theorem d2_74 : decode method_5_code 74 = .ok (.bipush 116, 2) := by decide +kernel
theorem d2_76 : decode method_5_code 76 = .ok (.castore, 1) := by decide +kernel
theorem d2_77 : decode method_5_code 77 = .ok (.aload 4, 2) := by decide +kernel
theorem d2_79 : decode method_5_code 79 = .ok (.bipush 11, 2) := by decide +kernel
theorem d2_81 : decode method_5_code 81 = .ok (.bipush 116, 2) := by decide +kernel
theorem d2_83 : decode method_5_code 83 = .ok (.castore, 1) := by decide +kernel
theorem d2_84 : decode method_5_code 84 = .ok (.aload 4, 2) := by decide +kernel
theorem d2_86 : decode method_5_code 86 = .ok (.bipush 12, 2) := by decide +kernel
theorem d2_88 : decode method_5_code 88 = .ok (.bipush 105, 2) := by decide +kernel
theorem d2_90 : decode method_5_code 90 = .ok (.castore, 1) := by decide +kernel
theorem d2_91 : decode method_5_code 91 = .ok (.aload 4, 2) := by decide +kernel
theorem d2_93 : decode method_5_code 93 = .ok (.bipush 13, 2) := by decide +kernel
theorem d2_95 : decode method_5_code 95 = .ok (.bipush 110, 2) := by decide +kernel
theorem d2_97 : decode method_5_code 97 = .ok (.castore, 1) := by decide +kernel
theorem d2_98 : decode method_5_code 98 = .ok (.aload 4, 2) := by decide +kernel
theorem d2_100 : decode method_5_code 100 = .ok (.bipush 14, 2) := by decide +kernel
theorem d2_102 : decode method_5_code 102 = .ok (.bipush 103, 2) := by decide +kernel
theorem d2_104 : decode method_5_code 104 = .ok (.castore, 1) := by decide +kernel
theorem d2_105 : decode method_5_code 105 = .ok (.aload 4, 2) := by decide +kernel
theorem d2_107 : decode method_5_code 107 = .ok (.bipush 15, 2) := by decide +kernel
theorem d2_109 : decode method_5_code 109 = .ok (.bipush 115, 2) := by decide +kernel
theorem d2_111 : decode method_5_code 111 = .ok (.castore, 1) := by decide +kernel
theorem d2_112 : decode method_5_code 112 = .ok (.aload 4, 2) := by decide +kernel
theorem d2_114 : decode method_5_code 114 = .ok (.bipush 16, 2) := by decide +kernel
theorem d2_116 : decode method_5_code 116 = .ok (.bipush 91, 2) := by decide +kernel
theorem d2_118 : decode method_5_code 118 = .ok (.castore, 1) := by decide +kernel
theorem d2_119 : decode method_5_code 119 = .ok (.aload 4, 2) := by decide +kernel
theorem d2_121 : decode method_5_code 121 = .ok (.bipush 17, 2) := by decide +kernel
theorem d2_123 : decode method_5_code 123 = .ok (.bipush 117, 2) := by decide +kernel
theorem d2_125 : decode method_5_code 125 = .ok (.castore, 1) := by decide +kernel
theorem d2_126 : decode method_5_code 126 = .ok (.aload 4, 2) := by decide +kernel
theorem d2_128 : decode method_5_code 128 = .ok (.bipush 18, 2) := by decide +kernel
theorem d2_130 : decode method_5_code 130 = .ok (.bipush 114, 2) := by decide +kernel
theorem d2_132 : decode method_5_code 132 = .ok (.castore, 1) := by decide +kernel
theorem d2_133 : decode method_5_code 133 = .ok (.aload 4, 2) := by decide +kernel
theorem d2_135 : decode method_5_code 135 = .ok (.bipush 19, 2) := by decide +kernel
theorem d2_137 : decode method_5_code 137 = .ok (.bipush 108, 2) := by decide +kernel
theorem d2_139 : decode method_5_code 139 = .ok (.castore, 1) := by decide +kernel
theorem d2_140 : decode method_5_code 140 = .ok (.aload 4, 2) := by decide +kernel
theorem d2_142 : decode method_5_code 142 = .ok (.bipush 20, 2) := by decide +kernel
theorem d2_144 : decode method_5_code 144 = .ok (.bipush 61, 2) := by decide +kernel
theorem d2_146 : decode method_5_code 146 = .ok (.castore, 1) := by decide +kernel
def Q_exp (Z : State) (nu : Int32) (a : Int32) (nw : Int32) (b : Int32) (G1 : Int32) (h0 : Heap) (n0 : Nat) (vv_ : Option Value) (hh_ : Heap) (LL_ : List Loc) : Prop := ∃ (y : Addr), ∃ (t : Addr), ∃ (k : ClassId), vv_ = some (.ref y) ∧ Fr n0 LL_ ∧ Keep h0 hh_ [] ∧ h0.size ≤ y ∧ h0.size ≤ t ∧ t ≠ y ∧ Exa Z hh_ y "java/lang/String" ∧ Fld Z hh_ y "java/lang/String" "value" "[B" (.ref t) ∧ Fld Z hh_ y "java/lang/String" "coder" "B" (.int (0 : Int32)) ∧ Arv Z hh_ t k .byte (37 : Int32) (own_vs (own_D ++ own_p nu a ++ own_U ++ own_p nw b ++ own_E)) (.int 0)
set_option maxRecDepth 65536 in
set_option maxHeartbeats 40000000 in
theorem rm_exp (l : Launch) (Z : State) (a0 : Array Value) (hw : ∀ d ∈ tables_1, d.before a0 Z = true) (ws : List Jvm.Cond) (nu : Int32) (a : Int32) (nw : Int32) (b : Int32) (G1 : Int32) (h0 : Heap) (n0 : Nat) (Z0 : n0 ≤ h0.size) (S1 : Sta Z Z.heap "java/lang/String" "COMPACT_STRINGS" "Z" (.int G1)) (P1 : ¬ G1 = 0) (OL : Old Z n0 h0) :
    MetFree l y_3 (head1 (Jvm.Cond.code y_3 method_5_code 5 (some (.object "java/lang/String")) :: ws) ({ frames := 4, cells := 3, slots := 78, locals := 66 } : Room)) (fun aa_ U => aa_ = #[(.int nu), (.int a), (.int nw), (.int b)] ∧ Z.Warmed39 U.vm ∧ U.heap = h0) (fun _ _ _ _ _ => True) (fun _ U o U' => ∃ vv_ LL_, o = .returned vv_ ∧ Q_exp Z nu a nw b G1 h0 n0 vv_ U'.heap LL_ ∧ FrameEnd U o U' LL_ 3 78) := by
  refine MetFree.of_bodySF (plainFor_of_name pn_com_example_ermine_ermine_server_DatabaseSettingsToStringPinLaw) hisR ?_
  intro p e s m args below meth c s₁ Bd hml0 hP hK
  obtain ⟨rfl, hZ, hh⟩ := hP
  have hx := Bd.exec
  have hby := Bd.bytes
  have hml : c.maxLocals = 5 := hml0
  have hown : s.vm.findClass "com/example/ermine/ermine/server/DatabaseSettingsToStringPinLaw" = some m.cls := findClass_of_methodNamed Bd.named
  have hnm := (name_of_methodNamed Bd.named Bd.method).1
  have X0 : Stand p l e ({ frames := 4, cells := 3, slots := 78, locals := 66 } : Room) s m #[(.int nu), (.int a), (.int nw), (.int b)] below meth c s₁ [] 0 0 := Stand.of_body Bd
  have e0 : s₁.heap = h0 := by rw [← hh, Bd.state]; rfl
  have N0 := Fr.nil n0
  have ef : entryFrame m #[(.int nu), (.int a), (.int nw), (.int b)] 5 = mkF m 0 #[.val (.int nu), .val (.int a), .val (.int nw), .val (.int b), .unset] [] := by first | (simp [entryFrame, mkF, argsToLocals, Value.category]; done) | rfl
  refine Fin.start (Q := Q_exp Z nu a nw b G1 h0 n0) ef ?_
  refine Fin.by (fun tt_ kk_ => XS.bipush X0.here hx rfl (hb hby d2_0) kk_) ?_
  obtain ⟨T101, h101, k101, X101, e101, E101, A101, st101⟩ := newP X0 hx hZ (w_ hw 4 rfl) e0 (g := (mkF m 2 #[.val (.int nu), .val (.int a), .val (.int nw), .val (.int b), .unset] [(.int 37)])) rfl (hb hby d2_2) rfl (by decide) (cap := 37) (by decide) (by decide) (by decide) (by decide)
  obtain ⟨a101, g101⟩ : ∃ z, z = h0.size := ⟨_, rfl⟩
  rw [← g101] at A101 st101
  refine Fin.by (fun tt_ kk_ => st101 tt_ kk_) ?_
  have V101 : Arv Z h101 a101 k101 .char (37 : Int32) [(.int (0 : Int32)), (.int (0 : Int32)), (.int (0 : Int32)), (.int (0 : Int32)), (.int (0 : Int32)), (.int (0 : Int32)), (.int (0 : Int32)), (.int (0 : Int32)), (.int (0 : Int32)), (.int (0 : Int32)), (.int (0 : Int32)), (.int (0 : Int32)), (.int (0 : Int32)), (.int (0 : Int32)), (.int (0 : Int32)), (.int (0 : Int32)), (.int (0 : Int32)), (.int (0 : Int32)), (.int (0 : Int32)), (.int (0 : Int32)), (.int (0 : Int32)), (.int (0 : Int32)), (.int (0 : Int32)), (.int (0 : Int32)), (.int (0 : Int32)), (.int (0 : Int32)), (.int (0 : Int32)), (.int (0 : Int32)), (.int (0 : Int32)), (.int (0 : Int32)), (.int (0 : Int32)), (.int (0 : Int32)), (.int (0 : Int32)), (.int (0 : Int32)), (.int (0 : Int32)), (.int (0 : Int32)), (.int (0 : Int32))] (.int (0 : Int32)) := (Arv.new A101 (by decide)).pad (pad_rep [] (.int (0 : Int32)) 37)
  refine Fin.by (fun tt_ kk_ => XS.astore X101.here hx rfl (hb hby d2_4) rfl rfl (l' := #[.val (.int nu), .val (.int a), .val (.int nw), .val (.int b), .val (.ref a101)]) rfl kk_) ?_
  have JB : ∀ (T102 : State) (h103 : Heap) (lc104 : List Loc), Stand p l e ({ frames := 4, cells := 3, slots := 78, locals := 66 } : Room) s m #[(.int nu), (.int a), (.int nw), (.int b)] below meth c T102 lc104 1 37 → T102.heap = h103 → Fr n0 lc104 → Keep h101 h103 [a101] → (Arv Z h103 a101 k101 .char (37 : Int32) [(.int (nar .char (68 : Int32))), (.int (nar .char (97 : Int32))), (.int (nar .char (116 : Int32))), (.int (nar .char (97 : Int32))), (.int (nar .char (98 : Int32))), (.int (nar .char (97 : Int32))), (.int (nar .char (115 : Int32))), (.int (nar .char (101 : Int32))), (.int (nar .char (83 : Int32))), (.int (nar .char (101 : Int32))), (.int (nar .char (116 : Int32))), (.int (nar .char (116 : Int32))), (.int (nar .char (105 : Int32))), (.int (nar .char (110 : Int32))), (.int (nar .char (103 : Int32))), (.int (nar .char (115 : Int32))), (.int (nar .char (91 : Int32))), (.int (nar .char (117 : Int32))), (.int (nar .char (114 : Int32))), (.int (nar .char (108 : Int32))), (.int (nar .char (61 : Int32))), (.int (own_e0 nu a)), (.int (own_e1 nu a)), (.int (own_e2 nu a)), (.int (own_e3 nu a)), (.int (nar .char (44 : Int32))), (.int (nar .char (32 : Int32))), (.int (nar .char (117 : Int32))), (.int (nar .char (115 : Int32))), (.int (nar .char (101 : Int32))), (.int (nar .char (114 : Int32))), (.int (nar .char (61 : Int32))), (.int (0 : Int32)), (.int (0 : Int32)), (.int (0 : Int32)), (.int (0 : Int32)), (.int (0 : Int32))] (.int (0 : Int32))) → Fin p e below s (Q_exp Z nu a nw b G1 h0 n0) 3 78 (T102.setTop (mkF m 205 #[.val (.int nu), .val (.int a), .val (.int nw), .val (.int b), .val (.ref a101)] [])) := by
    intro T102 h103 lc104 X105 e106 N107 K108 VB
    refine Fin.by (fun tt_ kk_ => XS.aload X105.here hx rfl (hb hby d2_205) rfl rfl (XS.bipush X105.here hx rfl (hb hby d2_207) (XS.iloadN X105.here hx rfl (hb hby d2_209) rfl (XS.iloadN X105.here hx rfl (hb hby d2_210) rfl kk_)))) ?_
    have g109 : n0 ≤ a101 := Nat.le_trans Z0 (Nat.le_of_eq g101.symm)
    have z110 : n0 ≤ h103.size := Nat.le_trans Z0 (Nat.le_trans E101.1 K108.1)
    obtain ⟨v111, _, ⟨T111, L111, k111, n111⟩, -, X111, ⟨Lc111, hQ111, l111, y111, z111⟩, st111⟩ := Jvm.LawKit.callS X105 hx (y := y_2) hown (mvT hZ (w_ hw 37 rfl)) (mvT hZ (w_ hw 38 rfl)) (mvT hZ (w_ hw 2 rfl)) (mvT hZ (w_ hw 39 rfl)) (by decide) (backOf (W := 0) (rm_put32 l Z a0 hw [] a101 k101 ([(.int (nar .char (68 : Int32))), (.int (nar .char (97 : Int32))), (.int (nar .char (116 : Int32))), (.int (nar .char (97 : Int32))), (.int (nar .char (98 : Int32))), (.int (nar .char (97 : Int32))), (.int (nar .char (115 : Int32))), (.int (nar .char (101 : Int32))), (.int (nar .char (83 : Int32))), (.int (nar .char (101 : Int32))), (.int (nar .char (116 : Int32))), (.int (nar .char (116 : Int32))), (.int (nar .char (105 : Int32))), (.int (nar .char (110 : Int32))), (.int (nar .char (103 : Int32))), (.int (nar .char (115 : Int32))), (.int (nar .char (91 : Int32))), (.int (nar .char (117 : Int32))), (.int (nar .char (114 : Int32))), (.int (nar .char (108 : Int32))), (.int (nar .char (61 : Int32))), (.int (own_e0 nu a)), (.int (own_e1 nu a)), (.int (own_e2 nu a)), (.int (own_e3 nu a)), (.int (nar .char (44 : Int32))), (.int (nar .char (32 : Int32))), (.int (nar .char (117 : Int32))), (.int (nar .char (115 : Int32))), (.int (nar .char (101 : Int32))), (.int (nar .char (114 : Int32))), (.int (nar .char (61 : Int32))), (.int (0 : Int32)), (.int (0 : Int32)), (.int (0 : Int32)), (.int (0 : Int32)), (.int (0 : Int32))] : List Value) nw b h103 n0 z110 rfl VB g109) hZ (w_ hw 39 rfl) (w_ hw 2 rfl) (by decide) (by decide)) (g := (mkF m 211 #[.val (.int nu), .val (.int a), .val (.int nw), .val (.int b), .val (.ref a101)] [(.int b), (.int nw), (.int 32), (.ref a101)])) rfl (by rw [hml]; rfl) (argsL := [(.ref a101), (.int 32), (.int nw), (.int b)]) (rest := []) (lenOf pd_117 rfl) rfl (by show 2 * 0 + _ ≤ _; exact Nat.le_of_eq rfl) (hb hby d2_211) (fun _ _ => ⟨rfl, e106, (by decide : 1 + 0 ≤ _), (by decide : 37 + 0 ≤ _)⟩)
    dsimp only [Pt.U, Pt.locs, Pt.cells, Pt.slots] at X111 l111 y111 z111 st111 hQ111
    subst l111 y111 z111
    obtain ⟨rfl, Nq111, p111_0, p111_1⟩ := hQ111
    have N111_ := Fr.app N107 Nq111
    refine Fin.by (fun tt_ kk_ => st111 tt_ kk_) ?_
    have V112 : Arv Z T111.heap a101 k101 .char (37 : Int32) [(.int (nar .char (68 : Int32))), (.int (nar .char (97 : Int32))), (.int (nar .char (116 : Int32))), (.int (nar .char (97 : Int32))), (.int (nar .char (98 : Int32))), (.int (nar .char (97 : Int32))), (.int (nar .char (115 : Int32))), (.int (nar .char (101 : Int32))), (.int (nar .char (83 : Int32))), (.int (nar .char (101 : Int32))), (.int (nar .char (116 : Int32))), (.int (nar .char (116 : Int32))), (.int (nar .char (105 : Int32))), (.int (nar .char (110 : Int32))), (.int (nar .char (103 : Int32))), (.int (nar .char (115 : Int32))), (.int (nar .char (91 : Int32))), (.int (nar .char (117 : Int32))), (.int (nar .char (114 : Int32))), (.int (nar .char (108 : Int32))), (.int (nar .char (61 : Int32))), (.int (own_e0 nu a)), (.int (own_e1 nu a)), (.int (own_e2 nu a)), (.int (own_e3 nu a)), (.int (nar .char (44 : Int32))), (.int (nar .char (32 : Int32))), (.int (nar .char (117 : Int32))), (.int (nar .char (115 : Int32))), (.int (nar .char (101 : Int32))), (.int (nar .char (114 : Int32))), (.int (nar .char (61 : Int32))), (.int (own_e0 nw b)), (.int (own_e1 nw b)), (.int (own_e2 nw b)), (.int (own_e3 nw b)), (.int (0 : Int32))] (.int (0 : Int32)) := by have q := p111_1; simp only [List.set_cons_succ, List.set_cons_zero] at q; exact q
    refine Fin.by (fun tt_ kk_ => XS.aload X111.here hx rfl (hb hby d2_214) rfl rfl (XS.bipush X111.here hx rfl (hb hby d2_216) (XS.bipush X111.here hx rfl (hb hby d2_218) kk_))) ?_
    obtain ⟨cl113, Ar113, q113, S113, N113, H113, G113⟩ := id V112
    obtain ⟨T113, h113, X113, e113, W113, st113⟩ := stC X111 hx hZ rfl Ar113 (j := (36 : Int32)) (inb_of S113 ⟨by decide, by decide⟩) (g := (mkF m 220 #[.val (.int nu), .val (.int a), .val (.int nw), .val (.int b), .val (.ref a101)] [(.int 93), (.int 36), (.ref a101)])) rfl rfl (hb hby d2_220)
    have V113 : Arv Z h113 a101 k101 .char (37 : Int32) [(.int (nar .char (68 : Int32))), (.int (nar .char (97 : Int32))), (.int (nar .char (116 : Int32))), (.int (nar .char (97 : Int32))), (.int (nar .char (98 : Int32))), (.int (nar .char (97 : Int32))), (.int (nar .char (115 : Int32))), (.int (nar .char (101 : Int32))), (.int (nar .char (83 : Int32))), (.int (nar .char (101 : Int32))), (.int (nar .char (116 : Int32))), (.int (nar .char (116 : Int32))), (.int (nar .char (105 : Int32))), (.int (nar .char (110 : Int32))), (.int (nar .char (103 : Int32))), (.int (nar .char (115 : Int32))), (.int (nar .char (91 : Int32))), (.int (nar .char (117 : Int32))), (.int (nar .char (114 : Int32))), (.int (nar .char (108 : Int32))), (.int (nar .char (61 : Int32))), (.int (own_e0 nu a)), (.int (own_e1 nu a)), (.int (own_e2 nu a)), (.int (own_e3 nu a)), (.int (nar .char (44 : Int32))), (.int (nar .char (32 : Int32))), (.int (nar .char (117 : Int32))), (.int (nar .char (115 : Int32))), (.int (nar .char (101 : Int32))), (.int (nar .char (114 : Int32))), (.int (nar .char (61 : Int32))), (.int (own_e0 nw b)), (.int (own_e1 nw b)), (.int (own_e2 nw b)), (.int (own_e3 nw b)), (.int (nar .char (93 : Int32)))] (.int (0 : Int32)) := Arv.set Ar113 q113 S113 N113 H113 G113 (fits_nar_char _) W113 36 rfl (Nat.le_of_ble_eq_true rfl)
    refine Fin.by (fun tt_ kk_ => st113 tt_ kk_) ?_
    have N113_ := Fr.snoc X113 N111_ g109
    obtain ⟨T114, h114, X114, e114, E114, A114, D114, -, st114⟩ := newO X113 hx hZ hown (w_ hw 5 rfl) (w_ hw 6 rfl) (w_ hw 7 rfl) e113 (g := (mkF m 221 #[.val (.int nu), .val (.int a), .val (.int nw), .val (.int b), .val (.ref a101)] [])) rfl (hb hby d2_221) (by decide) (by decide)
    obtain ⟨a114, g114⟩ : ∃ z, z = h113.size := ⟨_, rfl⟩
    rw [← g114] at A114 D114 st114
    refine Fin.by (fun tt_ kk_ => st114 tt_ kk_) ?_
    refine Fin.by (fun tt_ kk_ => XS.dup X114.here hx rfl (hb hby d2_224) rfl rfl (XS.aload X114.here hx rfl (hb hby d2_225) rfl rfl kk_)) ?_
    have A115 : Arv Z h114 a101 k101 .char (37 : Int32) [(.int (nar .char (68 : Int32))), (.int (nar .char (97 : Int32))), (.int (nar .char (116 : Int32))), (.int (nar .char (97 : Int32))), (.int (nar .char (98 : Int32))), (.int (nar .char (97 : Int32))), (.int (nar .char (115 : Int32))), (.int (nar .char (101 : Int32))), (.int (nar .char (83 : Int32))), (.int (nar .char (101 : Int32))), (.int (nar .char (116 : Int32))), (.int (nar .char (116 : Int32))), (.int (nar .char (105 : Int32))), (.int (nar .char (110 : Int32))), (.int (nar .char (103 : Int32))), (.int (nar .char (115 : Int32))), (.int (nar .char (91 : Int32))), (.int (nar .char (117 : Int32))), (.int (nar .char (114 : Int32))), (.int (nar .char (108 : Int32))), (.int (nar .char (61 : Int32))), (.int (own_e0 nu a)), (.int (own_e1 nu a)), (.int (own_e2 nu a)), (.int (own_e3 nu a)), (.int (nar .char (44 : Int32))), (.int (nar .char (32 : Int32))), (.int (nar .char (117 : Int32))), (.int (nar .char (115 : Int32))), (.int (nar .char (101 : Int32))), (.int (nar .char (114 : Int32))), (.int (nar .char (61 : Int32))), (.int (own_e0 nw b)), (.int (own_e1 nw b)), (.int (own_e2 nw b)), (.int (own_e3 nw b)), (.int (nar .char (93 : Int32)))] (.int (0 : Int32)) := (V113.ext E114)
    have z117 : n0 ≤ h113.size := Nat.le_trans z110 (Nat.le_trans p111_0.1 (Keep.of_wr W113).1)
    have g116 : n0 ≤ a114 := Nat.le_trans z117 (Nat.le_of_eq g114.symm)
    have z118 : n0 ≤ h114.size := Nat.le_trans z110 (Nat.le_trans (Nat.le_trans p111_0.1 (Keep.of_wr W113).1) E114.1)
    have O119 : Old Z n0 h114 := (((((OL.ext E101).keep K108 (allS g109 all0)).keep p111_0 (allS g109 all0)).wr W113 g109).ext E114)
    obtain ⟨v120, _, ⟨T120, L120, k120, n120⟩, -, X120, ⟨Lc120, hQ120, l120, y120, z120⟩, st120⟩ := X114.specialBack hx (y := y_0) rfl hown (mvT hZ (w_ hw 8 rfl)) (mvT hZ (w_ hw 9 rfl)) (mvT hZ (w_ hw 10 rfl)) (by decide) (StrChars.Road.backV (W := 1) hZ (fun d hd => hw d (own_words d hd)) (kI := 4) (w_ hw 6 rfl) (cs := ([(nar .char (68 : Int32)), (nar .char (97 : Int32)), (nar .char (116 : Int32)), (nar .char (97 : Int32)), (nar .char (98 : Int32)), (nar .char (97 : Int32)), (nar .char (115 : Int32)), (nar .char (101 : Int32)), (nar .char (83 : Int32)), (nar .char (101 : Int32)), (nar .char (116 : Int32)), (nar .char (116 : Int32)), (nar .char (105 : Int32)), (nar .char (110 : Int32)), (nar .char (103 : Int32)), (nar .char (115 : Int32)), (nar .char (91 : Int32)), (nar .char (117 : Int32)), (nar .char (114 : Int32)), (nar .char (108 : Int32)), (nar .char (61 : Int32)), (own_e0 nu a), (own_e1 nu a), (own_e2 nu a), (own_e3 nu a), (nar .char (44 : Int32)), (nar .char (32 : Int32)), (nar .char (117 : Int32)), (nar .char (115 : Int32)), (nar .char (101 : Int32)), (nar .char (114 : Int32)), (nar .char (61 : Int32)), (own_e0 nw b), (own_e1 nw b), (own_e2 nw b), (own_e3 nw b), (nar .char (93 : Int32))] : List Int32)) (bs := ([(nar .char (68 : Int32)), (nar .char (97 : Int32)), (nar .char (116 : Int32)), (nar .char (97 : Int32)), (nar .char (98 : Int32)), (nar .char (97 : Int32)), (nar .char (115 : Int32)), (nar .char (101 : Int32)), (nar .char (83 : Int32)), (nar .char (101 : Int32)), (nar .char (116 : Int32)), (nar .char (116 : Int32)), (nar .char (105 : Int32)), (nar .char (110 : Int32)), (nar .char (103 : Int32)), (nar .char (115 : Int32)), (nar .char (91 : Int32)), (nar .char (117 : Int32)), (nar .char (114 : Int32)), (nar .char (108 : Int32)), (nar .char (61 : Int32)), (own_e0 nu a), (own_e1 nu a), (own_e2 nu a), (own_e3 nu a), (nar .char (44 : Int32)), (nar .char (32 : Int32)), (nar .char (117 : Int32)), (nar .char (115 : Int32)), (nar .char (101 : Int32)), (nar .char (114 : Int32)), (nar .char (61 : Int32)), (own_e0 nw b), (own_e1 nw b), (own_e2 nw b), (own_e3 nw b), (nar .char (93 : Int32))] : List Int32).map (fun c => c.toInt8.toInt32)) (n := 37) g116 z118 A114 (D114 (Or.inr (w_ hw 33 rfl)) (ty := (.array .byte)) (by decide) : Fld Z h114 a114 "java/lang/String" "value" "[B" .null) (D114 (Or.inr (w_ hw 31 rfl)) (ty := .byte) (by decide) : Fld Z h114 a114 "java/lang/String" "coder" "B" (.int (0 : Int32))) A115 (S1.ext O119.2) P1 rfl rfl (by decide) (by decide) (own_cons (by decide) (own_cons (by decide) (own_cons (by decide) (own_cons (by decide) (own_cons (by decide) (own_cons (by decide) (own_cons (by decide) (own_cons (by decide) (own_cons (by decide) (own_cons (by decide) (own_cons (by decide) (own_cons (by decide) (own_cons (by decide) (own_cons (by decide) (own_cons (by decide) (own_cons (by decide) (own_cons (by decide) (own_cons (by decide) (own_cons (by decide) (own_cons (by decide) (own_cons (by decide) (own_cons (own_he0 _ _) (own_cons (own_he1 _ _) (own_cons (own_he2 _ _) (own_cons (own_he3 _ _) (own_cons (by decide) (own_cons (by decide) (own_cons (by decide) (own_cons (by decide) (own_cons (by decide) (own_cons (by decide) (own_cons (by decide) (own_cons (own_he0 _ _) (own_cons (own_he1 _ _) (own_cons (own_he2 _ _) (own_cons (own_he3 _ _) (own_cons (by decide) own_nil))))))))))))))))))))))))))))))))))))) rfl (by decide) (by decide)) (g := (mkF m 227 #[.val (.int nu), .val (.int a), .val (.int nw), .val (.int b), .val (.ref a101)] [(.ref a101), (.ref a114), (.ref a114)])) rfl (by rw [hml]; rfl) (Steps.refl _) (a := a114) (argsL := [(.ref a101)]) (rest := [(.ref a114)]) (lenOf pd_40 rfl) rfl (by show 2 * 0 + _ ≤ _; exact Nat.le_of_eq rfl) (hb hby d2_227) (fun _ _ => ⟨rfl, e114, (by decide : 2 + 1 ≤ _), (by decide : 41 + 37 ≤ _)⟩)
    dsimp only [Pt.U, Pt.locs, Pt.cells, Pt.slots] at X120 l120 y120 z120 st120 hQ120
    subst l120 y120 z120
    obtain ⟨rfl, Nq120, K120, E120, C120, t120, kb120, gt120, ht120, nt120, V120, A120⟩ := hQ120
    have N120_ := Fr.app N113_ Nq120
    refine Fin.byS st120 ?_
    have V121 : Arv Z T120.heap t120 kb120 .byte (37 : Int32) (own_vs (own_D ++ own_p nu a ++ own_U ++ own_p nw b ++ own_E)) (.int 0) := by have q := A120; exact q
    have kp122 : Keep h0 h101 [] := (Keep.refl h0 []).ext E101
    have kp123 : Keep h0 h103 [] := kp122.trans K108 (allS (Or.inr (Nat.le_trans (Nat.le_refl _) (Nat.le_of_eq g101.symm))) all0)
    have kp124 : Keep h0 T111.heap [] := kp123.trans p111_0 (allS (Or.inr (Nat.le_trans (Nat.le_refl _) (Nat.le_of_eq g101.symm))) all0)
    have kp125 : Keep h0 h113 [] := kp124.wr W113 (Or.inr (Nat.le_trans (Nat.le_refl _) (Nat.le_of_eq g101.symm)))
    have kp126 : Keep h0 h114 [] := kp125.ext E114
    have kp127 : Keep h0 T120.heap [] := kp126.trans K120 (allS (Or.inr (Nat.le_trans (Nat.le_trans (Nat.le_trans (Nat.le_trans E101.1 K108.1) p111_0.1) (Keep.of_wr W113).1) (Nat.le_of_eq g114.symm))) all0)
    show Fin _ _ _ _ _ _ _ (T120.setTop (mkF m 230 #[.val (.int nu), .val (.int a), .val (.int nw), .val (.int b), .val (.ref a101)] [(.ref a114)]))
    exact Fin.ret (v := some (.ref a114)) X120 (fun h => by rw [Bd.returns] at h; cases h) Bd.notSynchronized (⟨a114, t120, kb120, rfl, N120_, kp127, (Nat.le_trans (Nat.le_trans (Nat.le_trans (Nat.le_trans E101.1 K108.1) p111_0.1) (Keep.of_wr W113).1) (Nat.le_of_eq g114.symm)), (Nat.le_trans (Nat.le_trans (Nat.le_trans (Nat.le_trans (Nat.le_trans E101.1 K108.1) p111_0.1) (Keep.of_wr W113).1) E114.1) ht120), nt120, E120, V120, C120, V121⟩) (by decide) (by decide) (fun fs hr => retA X120 hx Bd.returns rfl rfl (hb hby d2_230) hr)
  have JA : ∀ (T128 : State) (h129 : Heap) (lc130 : List Loc), Stand p l e ({ frames := 4, cells := 3, slots := 78, locals := 66 } : Room) s m #[(.int nu), (.int a), (.int nw), (.int b)] below meth c T128 lc130 1 37 → T128.heap = h129 → Fr n0 lc130 → Keep h101 h129 [a101] → (Arv Z h129 a101 k101 .char (37 : Int32) [(.int (nar .char (68 : Int32))), (.int (nar .char (97 : Int32))), (.int (nar .char (116 : Int32))), (.int (nar .char (97 : Int32))), (.int (nar .char (98 : Int32))), (.int (nar .char (97 : Int32))), (.int (nar .char (115 : Int32))), (.int (nar .char (101 : Int32))), (.int (nar .char (83 : Int32))), (.int (nar .char (101 : Int32))), (.int (nar .char (116 : Int32))), (.int (nar .char (116 : Int32))), (.int (nar .char (105 : Int32))), (.int (nar .char (110 : Int32))), (.int (nar .char (103 : Int32))), (.int (nar .char (115 : Int32))), (.int (nar .char (91 : Int32))), (.int (nar .char (117 : Int32))), (.int (nar .char (114 : Int32))), (.int (nar .char (108 : Int32))), (.int (nar .char (61 : Int32))), (.int (0 : Int32)), (.int (0 : Int32)), (.int (0 : Int32)), (.int (0 : Int32)), (.int (0 : Int32)), (.int (0 : Int32)), (.int (0 : Int32)), (.int (0 : Int32)), (.int (0 : Int32)), (.int (0 : Int32)), (.int (0 : Int32)), (.int (0 : Int32)), (.int (0 : Int32)), (.int (0 : Int32)), (.int (0 : Int32)), (.int (0 : Int32))] (.int (0 : Int32))) → Fin p e below s (Q_exp Z nu a nw b G1 h0 n0) 3 78 (T128.setTop (mkF m 147 #[.val (.int nu), .val (.int a), .val (.int nw), .val (.int b), .val (.ref a101)] [])) := by
    intro T128 h129 lc130 X131 e132 N133 K134 VA
    refine Fin.by (fun tt_ kk_ => XS.aload X131.here hx rfl (hb hby d2_147) rfl rfl (XS.bipush X131.here hx rfl (hb hby d2_149) (XS.iloadN X131.here hx rfl (hb hby d2_151) rfl (XS.iloadN X131.here hx rfl (hb hby d2_152) rfl kk_)))) ?_
    have g135 : n0 ≤ a101 := Nat.le_trans Z0 (Nat.le_of_eq g101.symm)
    have z136 : n0 ≤ h129.size := Nat.le_trans Z0 (Nat.le_trans E101.1 K134.1)
    obtain ⟨v137, _, ⟨T137, L137, k137, n137⟩, -, X137, ⟨Lc137, hQ137, l137, y137, z137⟩, st137⟩ := Jvm.LawKit.callS X131 hx (y := y_2) hown (mvT hZ (w_ hw 37 rfl)) (mvT hZ (w_ hw 38 rfl)) (mvT hZ (w_ hw 2 rfl)) (mvT hZ (w_ hw 39 rfl)) (by decide) (backOf (W := 0) (rm_put21 l Z a0 hw [] a101 k101 ([(.int (nar .char (68 : Int32))), (.int (nar .char (97 : Int32))), (.int (nar .char (116 : Int32))), (.int (nar .char (97 : Int32))), (.int (nar .char (98 : Int32))), (.int (nar .char (97 : Int32))), (.int (nar .char (115 : Int32))), (.int (nar .char (101 : Int32))), (.int (nar .char (83 : Int32))), (.int (nar .char (101 : Int32))), (.int (nar .char (116 : Int32))), (.int (nar .char (116 : Int32))), (.int (nar .char (105 : Int32))), (.int (nar .char (110 : Int32))), (.int (nar .char (103 : Int32))), (.int (nar .char (115 : Int32))), (.int (nar .char (91 : Int32))), (.int (nar .char (117 : Int32))), (.int (nar .char (114 : Int32))), (.int (nar .char (108 : Int32))), (.int (nar .char (61 : Int32))), (.int (0 : Int32)), (.int (0 : Int32)), (.int (0 : Int32)), (.int (0 : Int32)), (.int (0 : Int32)), (.int (0 : Int32)), (.int (0 : Int32)), (.int (0 : Int32)), (.int (0 : Int32)), (.int (0 : Int32)), (.int (0 : Int32)), (.int (0 : Int32)), (.int (0 : Int32)), (.int (0 : Int32)), (.int (0 : Int32)), (.int (0 : Int32))] : List Value) nu a h129 n0 z136 rfl VA g135) hZ (w_ hw 39 rfl) (w_ hw 2 rfl) (by decide) (by decide)) (g := (mkF m 153 #[.val (.int nu), .val (.int a), .val (.int nw), .val (.int b), .val (.ref a101)] [(.int a), (.int nu), (.int 21), (.ref a101)])) rfl (by rw [hml]; rfl) (argsL := [(.ref a101), (.int 21), (.int nu), (.int a)]) (rest := []) (lenOf pd_117 rfl) rfl (by show 2 * 0 + _ ≤ _; exact Nat.le_of_eq rfl) (hb hby d2_153) (fun _ _ => ⟨rfl, e132, (by decide : 1 + 0 ≤ _), (by decide : 37 + 0 ≤ _)⟩)
    dsimp only [Pt.U, Pt.locs, Pt.cells, Pt.slots] at X137 l137 y137 z137 st137 hQ137
    subst l137 y137 z137
    obtain ⟨rfl, Nq137, p137_0, p137_1⟩ := hQ137
    have N137_ := Fr.app N133 Nq137
    refine Fin.by (fun tt_ kk_ => st137 tt_ kk_) ?_
    have V138 : Arv Z T137.heap a101 k101 .char (37 : Int32) [(.int (nar .char (68 : Int32))), (.int (nar .char (97 : Int32))), (.int (nar .char (116 : Int32))), (.int (nar .char (97 : Int32))), (.int (nar .char (98 : Int32))), (.int (nar .char (97 : Int32))), (.int (nar .char (115 : Int32))), (.int (nar .char (101 : Int32))), (.int (nar .char (83 : Int32))), (.int (nar .char (101 : Int32))), (.int (nar .char (116 : Int32))), (.int (nar .char (116 : Int32))), (.int (nar .char (105 : Int32))), (.int (nar .char (110 : Int32))), (.int (nar .char (103 : Int32))), (.int (nar .char (115 : Int32))), (.int (nar .char (91 : Int32))), (.int (nar .char (117 : Int32))), (.int (nar .char (114 : Int32))), (.int (nar .char (108 : Int32))), (.int (nar .char (61 : Int32))), (.int (own_e0 nu a)), (.int (own_e1 nu a)), (.int (own_e2 nu a)), (.int (own_e3 nu a)), (.int (0 : Int32)), (.int (0 : Int32)), (.int (0 : Int32)), (.int (0 : Int32)), (.int (0 : Int32)), (.int (0 : Int32)), (.int (0 : Int32)), (.int (0 : Int32)), (.int (0 : Int32)), (.int (0 : Int32)), (.int (0 : Int32)), (.int (0 : Int32))] (.int (0 : Int32)) := by have q := p137_1; simp only [List.set_cons_succ, List.set_cons_zero] at q; exact q
    refine Fin.by (fun tt_ kk_ => XS.aload X137.here hx rfl (hb hby d2_156) rfl rfl (XS.bipush X137.here hx rfl (hb hby d2_158) (XS.bipush X137.here hx rfl (hb hby d2_160) kk_))) ?_
    obtain ⟨cl139, Ar139, q139, S139, N139, H139, G139⟩ := id V138
    obtain ⟨T139, h139, X139, e139, W139, st139⟩ := stC X137 hx hZ rfl Ar139 (j := (25 : Int32)) (inb_of S139 ⟨by decide, by decide⟩) (g := (mkF m 162 #[.val (.int nu), .val (.int a), .val (.int nw), .val (.int b), .val (.ref a101)] [(.int 44), (.int 25), (.ref a101)])) rfl rfl (hb hby d2_162)
    have V139 : Arv Z h139 a101 k101 .char (37 : Int32) [(.int (nar .char (68 : Int32))), (.int (nar .char (97 : Int32))), (.int (nar .char (116 : Int32))), (.int (nar .char (97 : Int32))), (.int (nar .char (98 : Int32))), (.int (nar .char (97 : Int32))), (.int (nar .char (115 : Int32))), (.int (nar .char (101 : Int32))), (.int (nar .char (83 : Int32))), (.int (nar .char (101 : Int32))), (.int (nar .char (116 : Int32))), (.int (nar .char (116 : Int32))), (.int (nar .char (105 : Int32))), (.int (nar .char (110 : Int32))), (.int (nar .char (103 : Int32))), (.int (nar .char (115 : Int32))), (.int (nar .char (91 : Int32))), (.int (nar .char (117 : Int32))), (.int (nar .char (114 : Int32))), (.int (nar .char (108 : Int32))), (.int (nar .char (61 : Int32))), (.int (own_e0 nu a)), (.int (own_e1 nu a)), (.int (own_e2 nu a)), (.int (own_e3 nu a)), (.int (nar .char (44 : Int32))), (.int (0 : Int32)), (.int (0 : Int32)), (.int (0 : Int32)), (.int (0 : Int32)), (.int (0 : Int32)), (.int (0 : Int32)), (.int (0 : Int32)), (.int (0 : Int32)), (.int (0 : Int32)), (.int (0 : Int32)), (.int (0 : Int32))] (.int (0 : Int32)) := Arv.set Ar139 q139 S139 N139 H139 G139 (fits_nar_char _) W139 25 rfl (Nat.le_of_ble_eq_true rfl)
    refine Fin.by (fun tt_ kk_ => st139 tt_ kk_) ?_
    have N139_ := Fr.snoc X139 N137_ g135
    refine Fin.by (fun tt_ kk_ => XS.aload X139.here hx rfl (hb hby d2_163) rfl rfl (XS.bipush X139.here hx rfl (hb hby d2_165) (XS.bipush X139.here hx rfl (hb hby d2_167) kk_))) ?_
    obtain ⟨cl140, Ar140, q140, S140, N140, H140, G140⟩ := id V139
    obtain ⟨T140, h140, X140, e140, W140, st140⟩ := stC X139 hx hZ e139 Ar140 (j := (26 : Int32)) (inb_of S140 ⟨by decide, by decide⟩) (g := (mkF m 169 #[.val (.int nu), .val (.int a), .val (.int nw), .val (.int b), .val (.ref a101)] [(.int 32), (.int 26), (.ref a101)])) rfl rfl (hb hby d2_169)
    have V140 : Arv Z h140 a101 k101 .char (37 : Int32) [(.int (nar .char (68 : Int32))), (.int (nar .char (97 : Int32))), (.int (nar .char (116 : Int32))), (.int (nar .char (97 : Int32))), (.int (nar .char (98 : Int32))), (.int (nar .char (97 : Int32))), (.int (nar .char (115 : Int32))), (.int (nar .char (101 : Int32))), (.int (nar .char (83 : Int32))), (.int (nar .char (101 : Int32))), (.int (nar .char (116 : Int32))), (.int (nar .char (116 : Int32))), (.int (nar .char (105 : Int32))), (.int (nar .char (110 : Int32))), (.int (nar .char (103 : Int32))), (.int (nar .char (115 : Int32))), (.int (nar .char (91 : Int32))), (.int (nar .char (117 : Int32))), (.int (nar .char (114 : Int32))), (.int (nar .char (108 : Int32))), (.int (nar .char (61 : Int32))), (.int (own_e0 nu a)), (.int (own_e1 nu a)), (.int (own_e2 nu a)), (.int (own_e3 nu a)), (.int (nar .char (44 : Int32))), (.int (nar .char (32 : Int32))), (.int (0 : Int32)), (.int (0 : Int32)), (.int (0 : Int32)), (.int (0 : Int32)), (.int (0 : Int32)), (.int (0 : Int32)), (.int (0 : Int32)), (.int (0 : Int32)), (.int (0 : Int32)), (.int (0 : Int32))] (.int (0 : Int32)) := Arv.set Ar140 q140 S140 N140 H140 G140 (fits_nar_char _) W140 26 rfl (Nat.le_of_ble_eq_true rfl)
    refine Fin.by (fun tt_ kk_ => st140 tt_ kk_) ?_
    have N140_ := Fr.snoc X140 N139_ g135
    refine Fin.by (fun tt_ kk_ => XS.aload X140.here hx rfl (hb hby d2_170) rfl rfl (XS.bipush X140.here hx rfl (hb hby d2_172) (XS.bipush X140.here hx rfl (hb hby d2_174) kk_))) ?_
    obtain ⟨cl141, Ar141, q141, S141, N141, H141, G141⟩ := id V140
    obtain ⟨T141, h141, X141, e141, W141, st141⟩ := stC X140 hx hZ e140 Ar141 (j := (27 : Int32)) (inb_of S141 ⟨by decide, by decide⟩) (g := (mkF m 176 #[.val (.int nu), .val (.int a), .val (.int nw), .val (.int b), .val (.ref a101)] [(.int 117), (.int 27), (.ref a101)])) rfl rfl (hb hby d2_176)
    have V141 : Arv Z h141 a101 k101 .char (37 : Int32) [(.int (nar .char (68 : Int32))), (.int (nar .char (97 : Int32))), (.int (nar .char (116 : Int32))), (.int (nar .char (97 : Int32))), (.int (nar .char (98 : Int32))), (.int (nar .char (97 : Int32))), (.int (nar .char (115 : Int32))), (.int (nar .char (101 : Int32))), (.int (nar .char (83 : Int32))), (.int (nar .char (101 : Int32))), (.int (nar .char (116 : Int32))), (.int (nar .char (116 : Int32))), (.int (nar .char (105 : Int32))), (.int (nar .char (110 : Int32))), (.int (nar .char (103 : Int32))), (.int (nar .char (115 : Int32))), (.int (nar .char (91 : Int32))), (.int (nar .char (117 : Int32))), (.int (nar .char (114 : Int32))), (.int (nar .char (108 : Int32))), (.int (nar .char (61 : Int32))), (.int (own_e0 nu a)), (.int (own_e1 nu a)), (.int (own_e2 nu a)), (.int (own_e3 nu a)), (.int (nar .char (44 : Int32))), (.int (nar .char (32 : Int32))), (.int (nar .char (117 : Int32))), (.int (0 : Int32)), (.int (0 : Int32)), (.int (0 : Int32)), (.int (0 : Int32)), (.int (0 : Int32)), (.int (0 : Int32)), (.int (0 : Int32)), (.int (0 : Int32)), (.int (0 : Int32))] (.int (0 : Int32)) := Arv.set Ar141 q141 S141 N141 H141 G141 (fits_nar_char _) W141 27 rfl (Nat.le_of_ble_eq_true rfl)
    refine Fin.by (fun tt_ kk_ => st141 tt_ kk_) ?_
    have N141_ := Fr.snoc X141 N140_ g135
    refine Fin.by (fun tt_ kk_ => XS.aload X141.here hx rfl (hb hby d2_177) rfl rfl (XS.bipush X141.here hx rfl (hb hby d2_179) (XS.bipush X141.here hx rfl (hb hby d2_181) kk_))) ?_
    obtain ⟨cl142, Ar142, q142, S142, N142, H142, G142⟩ := id V141
    obtain ⟨T142, h142, X142, e142, W142, st142⟩ := stC X141 hx hZ e141 Ar142 (j := (28 : Int32)) (inb_of S142 ⟨by decide, by decide⟩) (g := (mkF m 183 #[.val (.int nu), .val (.int a), .val (.int nw), .val (.int b), .val (.ref a101)] [(.int 115), (.int 28), (.ref a101)])) rfl rfl (hb hby d2_183)
    have V142 : Arv Z h142 a101 k101 .char (37 : Int32) [(.int (nar .char (68 : Int32))), (.int (nar .char (97 : Int32))), (.int (nar .char (116 : Int32))), (.int (nar .char (97 : Int32))), (.int (nar .char (98 : Int32))), (.int (nar .char (97 : Int32))), (.int (nar .char (115 : Int32))), (.int (nar .char (101 : Int32))), (.int (nar .char (83 : Int32))), (.int (nar .char (101 : Int32))), (.int (nar .char (116 : Int32))), (.int (nar .char (116 : Int32))), (.int (nar .char (105 : Int32))), (.int (nar .char (110 : Int32))), (.int (nar .char (103 : Int32))), (.int (nar .char (115 : Int32))), (.int (nar .char (91 : Int32))), (.int (nar .char (117 : Int32))), (.int (nar .char (114 : Int32))), (.int (nar .char (108 : Int32))), (.int (nar .char (61 : Int32))), (.int (own_e0 nu a)), (.int (own_e1 nu a)), (.int (own_e2 nu a)), (.int (own_e3 nu a)), (.int (nar .char (44 : Int32))), (.int (nar .char (32 : Int32))), (.int (nar .char (117 : Int32))), (.int (nar .char (115 : Int32))), (.int (0 : Int32)), (.int (0 : Int32)), (.int (0 : Int32)), (.int (0 : Int32)), (.int (0 : Int32)), (.int (0 : Int32)), (.int (0 : Int32)), (.int (0 : Int32))] (.int (0 : Int32)) := Arv.set Ar142 q142 S142 N142 H142 G142 (fits_nar_char _) W142 28 rfl (Nat.le_of_ble_eq_true rfl)
    refine Fin.by (fun tt_ kk_ => st142 tt_ kk_) ?_
    have N142_ := Fr.snoc X142 N141_ g135
    refine Fin.by (fun tt_ kk_ => XS.aload X142.here hx rfl (hb hby d2_184) rfl rfl (XS.bipush X142.here hx rfl (hb hby d2_186) (XS.bipush X142.here hx rfl (hb hby d2_188) kk_))) ?_
    obtain ⟨cl143, Ar143, q143, S143, N143, H143, G143⟩ := id V142
    obtain ⟨T143, h143, X143, e143, W143, st143⟩ := stC X142 hx hZ e142 Ar143 (j := (29 : Int32)) (inb_of S143 ⟨by decide, by decide⟩) (g := (mkF m 190 #[.val (.int nu), .val (.int a), .val (.int nw), .val (.int b), .val (.ref a101)] [(.int 101), (.int 29), (.ref a101)])) rfl rfl (hb hby d2_190)
    have V143 : Arv Z h143 a101 k101 .char (37 : Int32) [(.int (nar .char (68 : Int32))), (.int (nar .char (97 : Int32))), (.int (nar .char (116 : Int32))), (.int (nar .char (97 : Int32))), (.int (nar .char (98 : Int32))), (.int (nar .char (97 : Int32))), (.int (nar .char (115 : Int32))), (.int (nar .char (101 : Int32))), (.int (nar .char (83 : Int32))), (.int (nar .char (101 : Int32))), (.int (nar .char (116 : Int32))), (.int (nar .char (116 : Int32))), (.int (nar .char (105 : Int32))), (.int (nar .char (110 : Int32))), (.int (nar .char (103 : Int32))), (.int (nar .char (115 : Int32))), (.int (nar .char (91 : Int32))), (.int (nar .char (117 : Int32))), (.int (nar .char (114 : Int32))), (.int (nar .char (108 : Int32))), (.int (nar .char (61 : Int32))), (.int (own_e0 nu a)), (.int (own_e1 nu a)), (.int (own_e2 nu a)), (.int (own_e3 nu a)), (.int (nar .char (44 : Int32))), (.int (nar .char (32 : Int32))), (.int (nar .char (117 : Int32))), (.int (nar .char (115 : Int32))), (.int (nar .char (101 : Int32))), (.int (0 : Int32)), (.int (0 : Int32)), (.int (0 : Int32)), (.int (0 : Int32)), (.int (0 : Int32)), (.int (0 : Int32)), (.int (0 : Int32))] (.int (0 : Int32)) := Arv.set Ar143 q143 S143 N143 H143 G143 (fits_nar_char _) W143 29 rfl (Nat.le_of_ble_eq_true rfl)
    refine Fin.by (fun tt_ kk_ => st143 tt_ kk_) ?_
    have N143_ := Fr.snoc X143 N142_ g135
    refine Fin.by (fun tt_ kk_ => XS.aload X143.here hx rfl (hb hby d2_191) rfl rfl (XS.bipush X143.here hx rfl (hb hby d2_193) (XS.bipush X143.here hx rfl (hb hby d2_195) kk_))) ?_
    obtain ⟨cl144, Ar144, q144, S144, N144, H144, G144⟩ := id V143
    obtain ⟨T144, h144, X144, e144, W144, st144⟩ := stC X143 hx hZ e143 Ar144 (j := (30 : Int32)) (inb_of S144 ⟨by decide, by decide⟩) (g := (mkF m 197 #[.val (.int nu), .val (.int a), .val (.int nw), .val (.int b), .val (.ref a101)] [(.int 114), (.int 30), (.ref a101)])) rfl rfl (hb hby d2_197)
    have V144 : Arv Z h144 a101 k101 .char (37 : Int32) [(.int (nar .char (68 : Int32))), (.int (nar .char (97 : Int32))), (.int (nar .char (116 : Int32))), (.int (nar .char (97 : Int32))), (.int (nar .char (98 : Int32))), (.int (nar .char (97 : Int32))), (.int (nar .char (115 : Int32))), (.int (nar .char (101 : Int32))), (.int (nar .char (83 : Int32))), (.int (nar .char (101 : Int32))), (.int (nar .char (116 : Int32))), (.int (nar .char (116 : Int32))), (.int (nar .char (105 : Int32))), (.int (nar .char (110 : Int32))), (.int (nar .char (103 : Int32))), (.int (nar .char (115 : Int32))), (.int (nar .char (91 : Int32))), (.int (nar .char (117 : Int32))), (.int (nar .char (114 : Int32))), (.int (nar .char (108 : Int32))), (.int (nar .char (61 : Int32))), (.int (own_e0 nu a)), (.int (own_e1 nu a)), (.int (own_e2 nu a)), (.int (own_e3 nu a)), (.int (nar .char (44 : Int32))), (.int (nar .char (32 : Int32))), (.int (nar .char (117 : Int32))), (.int (nar .char (115 : Int32))), (.int (nar .char (101 : Int32))), (.int (nar .char (114 : Int32))), (.int (0 : Int32)), (.int (0 : Int32)), (.int (0 : Int32)), (.int (0 : Int32)), (.int (0 : Int32)), (.int (0 : Int32))] (.int (0 : Int32)) := Arv.set Ar144 q144 S144 N144 H144 G144 (fits_nar_char _) W144 30 rfl (Nat.le_of_ble_eq_true rfl)
    refine Fin.by (fun tt_ kk_ => st144 tt_ kk_) ?_
    have N144_ := Fr.snoc X144 N143_ g135
    refine Fin.by (fun tt_ kk_ => XS.aload X144.here hx rfl (hb hby d2_198) rfl rfl (XS.bipush X144.here hx rfl (hb hby d2_200) (XS.bipush X144.here hx rfl (hb hby d2_202) kk_))) ?_
    obtain ⟨cl145, Ar145, q145, S145, N145, H145, G145⟩ := id V144
    obtain ⟨T145, h145, X145, e145, W145, st145⟩ := stC X144 hx hZ e144 Ar145 (j := (31 : Int32)) (inb_of S145 ⟨by decide, by decide⟩) (g := (mkF m 204 #[.val (.int nu), .val (.int a), .val (.int nw), .val (.int b), .val (.ref a101)] [(.int 61), (.int 31), (.ref a101)])) rfl rfl (hb hby d2_204)
    have V145 : Arv Z h145 a101 k101 .char (37 : Int32) [(.int (nar .char (68 : Int32))), (.int (nar .char (97 : Int32))), (.int (nar .char (116 : Int32))), (.int (nar .char (97 : Int32))), (.int (nar .char (98 : Int32))), (.int (nar .char (97 : Int32))), (.int (nar .char (115 : Int32))), (.int (nar .char (101 : Int32))), (.int (nar .char (83 : Int32))), (.int (nar .char (101 : Int32))), (.int (nar .char (116 : Int32))), (.int (nar .char (116 : Int32))), (.int (nar .char (105 : Int32))), (.int (nar .char (110 : Int32))), (.int (nar .char (103 : Int32))), (.int (nar .char (115 : Int32))), (.int (nar .char (91 : Int32))), (.int (nar .char (117 : Int32))), (.int (nar .char (114 : Int32))), (.int (nar .char (108 : Int32))), (.int (nar .char (61 : Int32))), (.int (own_e0 nu a)), (.int (own_e1 nu a)), (.int (own_e2 nu a)), (.int (own_e3 nu a)), (.int (nar .char (44 : Int32))), (.int (nar .char (32 : Int32))), (.int (nar .char (117 : Int32))), (.int (nar .char (115 : Int32))), (.int (nar .char (101 : Int32))), (.int (nar .char (114 : Int32))), (.int (nar .char (61 : Int32))), (.int (0 : Int32)), (.int (0 : Int32)), (.int (0 : Int32)), (.int (0 : Int32)), (.int (0 : Int32))] (.int (0 : Int32)) := Arv.set Ar145 q145 S145 N145 H145 G145 (fits_nar_char _) W145 31 rfl (Nat.le_of_ble_eq_true rfl)
    refine Fin.by (fun tt_ kk_ => st145 tt_ kk_) ?_
    have N145_ := Fr.snoc X145 N144_ g135
    show Fin _ _ _ _ _ _ _ (T145.setTop (mkF m 205 #[.val (.int nu), .val (.int a), .val (.int nw), .val (.int b), .val (.ref a101)] []))
    have kp146 : Keep h101 h129 [a101] := (Keep.refl h101 [a101]).trans K134 (allS (Or.inl (List.mem_of_getElem? (i := 0) rfl)) all0)
    have kp147 : Keep h101 T137.heap [a101] := kp146.trans p137_0 (allS (Or.inl (List.mem_of_getElem? (i := 0) rfl)) all0)
    have kp148 : Keep h101 h139 [a101] := kp147.wr W139 (Or.inl (List.mem_of_getElem? (i := 0) rfl))
    have kp149 : Keep h101 h140 [a101] := kp148.wr W140 (Or.inl (List.mem_of_getElem? (i := 0) rfl))
    have kp150 : Keep h101 h141 [a101] := kp149.wr W141 (Or.inl (List.mem_of_getElem? (i := 0) rfl))
    have kp151 : Keep h101 h142 [a101] := kp150.wr W142 (Or.inl (List.mem_of_getElem? (i := 0) rfl))
    have kp152 : Keep h101 h143 [a101] := kp151.wr W143 (Or.inl (List.mem_of_getElem? (i := 0) rfl))
    have kp153 : Keep h101 h144 [a101] := kp152.wr W144 (Or.inl (List.mem_of_getElem? (i := 0) rfl))
    have kp154 : Keep h101 h145 [a101] := kp153.wr W145 (Or.inl (List.mem_of_getElem? (i := 0) rfl))
    exact JB T145 h145 _ X145 e145 N145_ kp154 V145
  refine Fin.by (fun tt_ kk_ => XS.aload X101.here hx rfl (hb hby d2_6) rfl rfl (XS.iconst X101.here hx rfl (hb hby d2_8) (XS.bipush X101.here hx rfl (hb hby d2_9) kk_))) ?_
  obtain ⟨cl155, Ar155, q155, S155, N155, H155, G155⟩ := id V101
  obtain ⟨T155, h155, X155, e155, W155, st155⟩ := stC X101 hx hZ e101 Ar155 (j := (0 : Int32)) (inb_of S155 ⟨by decide, by decide⟩) (g := (mkF m 11 #[.val (.int nu), .val (.int a), .val (.int nw), .val (.int b), .val (.ref a101)] [(.int 68), (.int 0), (.ref a101)])) rfl rfl (hb hby d2_11)
  have V155 : Arv Z h155 a101 k101 .char (37 : Int32) [(.int (nar .char (68 : Int32))), (.int (0 : Int32)), (.int (0 : Int32)), (.int (0 : Int32)), (.int (0 : Int32)), (.int (0 : Int32)), (.int (0 : Int32)), (.int (0 : Int32)), (.int (0 : Int32)), (.int (0 : Int32)), (.int (0 : Int32)), (.int (0 : Int32)), (.int (0 : Int32)), (.int (0 : Int32)), (.int (0 : Int32)), (.int (0 : Int32)), (.int (0 : Int32)), (.int (0 : Int32)), (.int (0 : Int32)), (.int (0 : Int32)), (.int (0 : Int32)), (.int (0 : Int32)), (.int (0 : Int32)), (.int (0 : Int32)), (.int (0 : Int32)), (.int (0 : Int32)), (.int (0 : Int32)), (.int (0 : Int32)), (.int (0 : Int32)), (.int (0 : Int32)), (.int (0 : Int32)), (.int (0 : Int32)), (.int (0 : Int32)), (.int (0 : Int32)), (.int (0 : Int32)), (.int (0 : Int32)), (.int (0 : Int32))] (.int (0 : Int32)) := Arv.set Ar155 q155 S155 N155 H155 G155 (fits_nar_char _) W155 0 rfl (Nat.le_of_ble_eq_true rfl)
  have g156 : n0 ≤ a101 := Nat.le_trans Z0 (Nat.le_of_eq g101.symm)
  refine Fin.by (fun tt_ kk_ => st155 tt_ kk_) ?_
  have N155_ := Fr.snoc X155 N0 g156
  refine Fin.by (fun tt_ kk_ => XS.aload X155.here hx rfl (hb hby d2_12) rfl rfl (XS.iconst X155.here hx rfl (hb hby d2_14) (XS.bipush X155.here hx rfl (hb hby d2_15) kk_))) ?_
  obtain ⟨cl157, Ar157, q157, S157, N157, H157, G157⟩ := id V155
  obtain ⟨T157, h157, X157, e157, W157, st157⟩ := stC X155 hx hZ e155 Ar157 (j := (1 : Int32)) (inb_of S157 ⟨by decide, by decide⟩) (g := (mkF m 17 #[.val (.int nu), .val (.int a), .val (.int nw), .val (.int b), .val (.ref a101)] [(.int 97), (.int 1), (.ref a101)])) rfl rfl (hb hby d2_17)
  have V157 : Arv Z h157 a101 k101 .char (37 : Int32) [(.int (nar .char (68 : Int32))), (.int (nar .char (97 : Int32))), (.int (0 : Int32)), (.int (0 : Int32)), (.int (0 : Int32)), (.int (0 : Int32)), (.int (0 : Int32)), (.int (0 : Int32)), (.int (0 : Int32)), (.int (0 : Int32)), (.int (0 : Int32)), (.int (0 : Int32)), (.int (0 : Int32)), (.int (0 : Int32)), (.int (0 : Int32)), (.int (0 : Int32)), (.int (0 : Int32)), (.int (0 : Int32)), (.int (0 : Int32)), (.int (0 : Int32)), (.int (0 : Int32)), (.int (0 : Int32)), (.int (0 : Int32)), (.int (0 : Int32)), (.int (0 : Int32)), (.int (0 : Int32)), (.int (0 : Int32)), (.int (0 : Int32)), (.int (0 : Int32)), (.int (0 : Int32)), (.int (0 : Int32)), (.int (0 : Int32)), (.int (0 : Int32)), (.int (0 : Int32)), (.int (0 : Int32)), (.int (0 : Int32)), (.int (0 : Int32))] (.int (0 : Int32)) := Arv.set Ar157 q157 S157 N157 H157 G157 (fits_nar_char _) W157 1 rfl (Nat.le_of_ble_eq_true rfl)
  refine Fin.by (fun tt_ kk_ => st157 tt_ kk_) ?_
  have N157_ := Fr.snoc X157 N155_ g156
  refine Fin.by (fun tt_ kk_ => XS.aload X157.here hx rfl (hb hby d2_18) rfl rfl (XS.iconst X157.here hx rfl (hb hby d2_20) (XS.bipush X157.here hx rfl (hb hby d2_21) kk_))) ?_
  obtain ⟨cl158, Ar158, q158, S158, N158, H158, G158⟩ := id V157
  obtain ⟨T158, h158, X158, e158, W158, st158⟩ := stC X157 hx hZ e157 Ar158 (j := (2 : Int32)) (inb_of S158 ⟨by decide, by decide⟩) (g := (mkF m 23 #[.val (.int nu), .val (.int a), .val (.int nw), .val (.int b), .val (.ref a101)] [(.int 116), (.int 2), (.ref a101)])) rfl rfl (hb hby d2_23)
  have V158 : Arv Z h158 a101 k101 .char (37 : Int32) [(.int (nar .char (68 : Int32))), (.int (nar .char (97 : Int32))), (.int (nar .char (116 : Int32))), (.int (0 : Int32)), (.int (0 : Int32)), (.int (0 : Int32)), (.int (0 : Int32)), (.int (0 : Int32)), (.int (0 : Int32)), (.int (0 : Int32)), (.int (0 : Int32)), (.int (0 : Int32)), (.int (0 : Int32)), (.int (0 : Int32)), (.int (0 : Int32)), (.int (0 : Int32)), (.int (0 : Int32)), (.int (0 : Int32)), (.int (0 : Int32)), (.int (0 : Int32)), (.int (0 : Int32)), (.int (0 : Int32)), (.int (0 : Int32)), (.int (0 : Int32)), (.int (0 : Int32)), (.int (0 : Int32)), (.int (0 : Int32)), (.int (0 : Int32)), (.int (0 : Int32)), (.int (0 : Int32)), (.int (0 : Int32)), (.int (0 : Int32)), (.int (0 : Int32)), (.int (0 : Int32)), (.int (0 : Int32)), (.int (0 : Int32)), (.int (0 : Int32))] (.int (0 : Int32)) := Arv.set Ar158 q158 S158 N158 H158 G158 (fits_nar_char _) W158 2 rfl (Nat.le_of_ble_eq_true rfl)
  refine Fin.by (fun tt_ kk_ => st158 tt_ kk_) ?_
  have N158_ := Fr.snoc X158 N157_ g156
  refine Fin.by (fun tt_ kk_ => XS.aload X158.here hx rfl (hb hby d2_24) rfl rfl (XS.iconst X158.here hx rfl (hb hby d2_26) (XS.bipush X158.here hx rfl (hb hby d2_27) kk_))) ?_
  obtain ⟨cl159, Ar159, q159, S159, N159, H159, G159⟩ := id V158
  obtain ⟨T159, h159, X159, e159, W159, st159⟩ := stC X158 hx hZ e158 Ar159 (j := (3 : Int32)) (inb_of S159 ⟨by decide, by decide⟩) (g := (mkF m 29 #[.val (.int nu), .val (.int a), .val (.int nw), .val (.int b), .val (.ref a101)] [(.int 97), (.int 3), (.ref a101)])) rfl rfl (hb hby d2_29)
  have V159 : Arv Z h159 a101 k101 .char (37 : Int32) [(.int (nar .char (68 : Int32))), (.int (nar .char (97 : Int32))), (.int (nar .char (116 : Int32))), (.int (nar .char (97 : Int32))), (.int (0 : Int32)), (.int (0 : Int32)), (.int (0 : Int32)), (.int (0 : Int32)), (.int (0 : Int32)), (.int (0 : Int32)), (.int (0 : Int32)), (.int (0 : Int32)), (.int (0 : Int32)), (.int (0 : Int32)), (.int (0 : Int32)), (.int (0 : Int32)), (.int (0 : Int32)), (.int (0 : Int32)), (.int (0 : Int32)), (.int (0 : Int32)), (.int (0 : Int32)), (.int (0 : Int32)), (.int (0 : Int32)), (.int (0 : Int32)), (.int (0 : Int32)), (.int (0 : Int32)), (.int (0 : Int32)), (.int (0 : Int32)), (.int (0 : Int32)), (.int (0 : Int32)), (.int (0 : Int32)), (.int (0 : Int32)), (.int (0 : Int32)), (.int (0 : Int32)), (.int (0 : Int32)), (.int (0 : Int32)), (.int (0 : Int32))] (.int (0 : Int32)) := Arv.set Ar159 q159 S159 N159 H159 G159 (fits_nar_char _) W159 3 rfl (Nat.le_of_ble_eq_true rfl)
  refine Fin.by (fun tt_ kk_ => st159 tt_ kk_) ?_
  have N159_ := Fr.snoc X159 N158_ g156
  refine Fin.by (fun tt_ kk_ => XS.aload X159.here hx rfl (hb hby d2_30) rfl rfl (XS.iconst X159.here hx rfl (hb hby d2_32) (XS.bipush X159.here hx rfl (hb hby d2_33) kk_))) ?_
  obtain ⟨cl160, Ar160, q160, S160, N160, H160, G160⟩ := id V159
  obtain ⟨T160, h160, X160, e160, W160, st160⟩ := stC X159 hx hZ e159 Ar160 (j := (4 : Int32)) (inb_of S160 ⟨by decide, by decide⟩) (g := (mkF m 35 #[.val (.int nu), .val (.int a), .val (.int nw), .val (.int b), .val (.ref a101)] [(.int 98), (.int 4), (.ref a101)])) rfl rfl (hb hby d2_35)
  have V160 : Arv Z h160 a101 k101 .char (37 : Int32) [(.int (nar .char (68 : Int32))), (.int (nar .char (97 : Int32))), (.int (nar .char (116 : Int32))), (.int (nar .char (97 : Int32))), (.int (nar .char (98 : Int32))), (.int (0 : Int32)), (.int (0 : Int32)), (.int (0 : Int32)), (.int (0 : Int32)), (.int (0 : Int32)), (.int (0 : Int32)), (.int (0 : Int32)), (.int (0 : Int32)), (.int (0 : Int32)), (.int (0 : Int32)), (.int (0 : Int32)), (.int (0 : Int32)), (.int (0 : Int32)), (.int (0 : Int32)), (.int (0 : Int32)), (.int (0 : Int32)), (.int (0 : Int32)), (.int (0 : Int32)), (.int (0 : Int32)), (.int (0 : Int32)), (.int (0 : Int32)), (.int (0 : Int32)), (.int (0 : Int32)), (.int (0 : Int32)), (.int (0 : Int32)), (.int (0 : Int32)), (.int (0 : Int32)), (.int (0 : Int32)), (.int (0 : Int32)), (.int (0 : Int32)), (.int (0 : Int32)), (.int (0 : Int32))] (.int (0 : Int32)) := Arv.set Ar160 q160 S160 N160 H160 G160 (fits_nar_char _) W160 4 rfl (Nat.le_of_ble_eq_true rfl)
  refine Fin.by (fun tt_ kk_ => st160 tt_ kk_) ?_
  have N160_ := Fr.snoc X160 N159_ g156
  refine Fin.by (fun tt_ kk_ => XS.aload X160.here hx rfl (hb hby d2_36) rfl rfl (XS.iconst X160.here hx rfl (hb hby d2_38) (XS.bipush X160.here hx rfl (hb hby d2_39) kk_))) ?_
  obtain ⟨cl161, Ar161, q161, S161, N161, H161, G161⟩ := id V160
  obtain ⟨T161, h161, X161, e161, W161, st161⟩ := stC X160 hx hZ e160 Ar161 (j := (5 : Int32)) (inb_of S161 ⟨by decide, by decide⟩) (g := (mkF m 41 #[.val (.int nu), .val (.int a), .val (.int nw), .val (.int b), .val (.ref a101)] [(.int 97), (.int 5), (.ref a101)])) rfl rfl (hb hby d2_41)
  have V161 : Arv Z h161 a101 k101 .char (37 : Int32) [(.int (nar .char (68 : Int32))), (.int (nar .char (97 : Int32))), (.int (nar .char (116 : Int32))), (.int (nar .char (97 : Int32))), (.int (nar .char (98 : Int32))), (.int (nar .char (97 : Int32))), (.int (0 : Int32)), (.int (0 : Int32)), (.int (0 : Int32)), (.int (0 : Int32)), (.int (0 : Int32)), (.int (0 : Int32)), (.int (0 : Int32)), (.int (0 : Int32)), (.int (0 : Int32)), (.int (0 : Int32)), (.int (0 : Int32)), (.int (0 : Int32)), (.int (0 : Int32)), (.int (0 : Int32)), (.int (0 : Int32)), (.int (0 : Int32)), (.int (0 : Int32)), (.int (0 : Int32)), (.int (0 : Int32)), (.int (0 : Int32)), (.int (0 : Int32)), (.int (0 : Int32)), (.int (0 : Int32)), (.int (0 : Int32)), (.int (0 : Int32)), (.int (0 : Int32)), (.int (0 : Int32)), (.int (0 : Int32)), (.int (0 : Int32)), (.int (0 : Int32)), (.int (0 : Int32))] (.int (0 : Int32)) := Arv.set Ar161 q161 S161 N161 H161 G161 (fits_nar_char _) W161 5 rfl (Nat.le_of_ble_eq_true rfl)
  refine Fin.by (fun tt_ kk_ => st161 tt_ kk_) ?_
  have N161_ := Fr.snoc X161 N160_ g156
  refine Fin.by (fun tt_ kk_ => XS.aload X161.here hx rfl (hb hby d2_42) rfl rfl (XS.bipush X161.here hx rfl (hb hby d2_44) (XS.bipush X161.here hx rfl (hb hby d2_46) kk_))) ?_
  obtain ⟨cl162, Ar162, q162, S162, N162, H162, G162⟩ := id V161
  obtain ⟨T162, h162, X162, e162, W162, st162⟩ := stC X161 hx hZ e161 Ar162 (j := (6 : Int32)) (inb_of S162 ⟨by decide, by decide⟩) (g := (mkF m 48 #[.val (.int nu), .val (.int a), .val (.int nw), .val (.int b), .val (.ref a101)] [(.int 115), (.int 6), (.ref a101)])) rfl rfl (hb hby d2_48)
  have V162 : Arv Z h162 a101 k101 .char (37 : Int32) [(.int (nar .char (68 : Int32))), (.int (nar .char (97 : Int32))), (.int (nar .char (116 : Int32))), (.int (nar .char (97 : Int32))), (.int (nar .char (98 : Int32))), (.int (nar .char (97 : Int32))), (.int (nar .char (115 : Int32))), (.int (0 : Int32)), (.int (0 : Int32)), (.int (0 : Int32)), (.int (0 : Int32)), (.int (0 : Int32)), (.int (0 : Int32)), (.int (0 : Int32)), (.int (0 : Int32)), (.int (0 : Int32)), (.int (0 : Int32)), (.int (0 : Int32)), (.int (0 : Int32)), (.int (0 : Int32)), (.int (0 : Int32)), (.int (0 : Int32)), (.int (0 : Int32)), (.int (0 : Int32)), (.int (0 : Int32)), (.int (0 : Int32)), (.int (0 : Int32)), (.int (0 : Int32)), (.int (0 : Int32)), (.int (0 : Int32)), (.int (0 : Int32)), (.int (0 : Int32)), (.int (0 : Int32)), (.int (0 : Int32)), (.int (0 : Int32)), (.int (0 : Int32)), (.int (0 : Int32))] (.int (0 : Int32)) := Arv.set Ar162 q162 S162 N162 H162 G162 (fits_nar_char _) W162 6 rfl (Nat.le_of_ble_eq_true rfl)
  refine Fin.by (fun tt_ kk_ => st162 tt_ kk_) ?_
  have N162_ := Fr.snoc X162 N161_ g156
  refine Fin.by (fun tt_ kk_ => XS.aload X162.here hx rfl (hb hby d2_49) rfl rfl (XS.bipush X162.here hx rfl (hb hby d2_51) (XS.bipush X162.here hx rfl (hb hby d2_53) kk_))) ?_
  obtain ⟨cl163, Ar163, q163, S163, N163, H163, G163⟩ := id V162
  obtain ⟨T163, h163, X163, e163, W163, st163⟩ := stC X162 hx hZ e162 Ar163 (j := (7 : Int32)) (inb_of S163 ⟨by decide, by decide⟩) (g := (mkF m 55 #[.val (.int nu), .val (.int a), .val (.int nw), .val (.int b), .val (.ref a101)] [(.int 101), (.int 7), (.ref a101)])) rfl rfl (hb hby d2_55)
  have V163 : Arv Z h163 a101 k101 .char (37 : Int32) [(.int (nar .char (68 : Int32))), (.int (nar .char (97 : Int32))), (.int (nar .char (116 : Int32))), (.int (nar .char (97 : Int32))), (.int (nar .char (98 : Int32))), (.int (nar .char (97 : Int32))), (.int (nar .char (115 : Int32))), (.int (nar .char (101 : Int32))), (.int (0 : Int32)), (.int (0 : Int32)), (.int (0 : Int32)), (.int (0 : Int32)), (.int (0 : Int32)), (.int (0 : Int32)), (.int (0 : Int32)), (.int (0 : Int32)), (.int (0 : Int32)), (.int (0 : Int32)), (.int (0 : Int32)), (.int (0 : Int32)), (.int (0 : Int32)), (.int (0 : Int32)), (.int (0 : Int32)), (.int (0 : Int32)), (.int (0 : Int32)), (.int (0 : Int32)), (.int (0 : Int32)), (.int (0 : Int32)), (.int (0 : Int32)), (.int (0 : Int32)), (.int (0 : Int32)), (.int (0 : Int32)), (.int (0 : Int32)), (.int (0 : Int32)), (.int (0 : Int32)), (.int (0 : Int32)), (.int (0 : Int32))] (.int (0 : Int32)) := Arv.set Ar163 q163 S163 N163 H163 G163 (fits_nar_char _) W163 7 rfl (Nat.le_of_ble_eq_true rfl)
  refine Fin.by (fun tt_ kk_ => st163 tt_ kk_) ?_
  have N163_ := Fr.snoc X163 N162_ g156
  refine Fin.by (fun tt_ kk_ => XS.aload X163.here hx rfl (hb hby d2_56) rfl rfl (XS.bipush X163.here hx rfl (hb hby d2_58) (XS.bipush X163.here hx rfl (hb hby d2_60) kk_))) ?_
  obtain ⟨cl164, Ar164, q164, S164, N164, H164, G164⟩ := id V163
  obtain ⟨T164, h164, X164, e164, W164, st164⟩ := stC X163 hx hZ e163 Ar164 (j := (8 : Int32)) (inb_of S164 ⟨by decide, by decide⟩) (g := (mkF m 62 #[.val (.int nu), .val (.int a), .val (.int nw), .val (.int b), .val (.ref a101)] [(.int 83), (.int 8), (.ref a101)])) rfl rfl (hb hby d2_62)
  have V164 : Arv Z h164 a101 k101 .char (37 : Int32) [(.int (nar .char (68 : Int32))), (.int (nar .char (97 : Int32))), (.int (nar .char (116 : Int32))), (.int (nar .char (97 : Int32))), (.int (nar .char (98 : Int32))), (.int (nar .char (97 : Int32))), (.int (nar .char (115 : Int32))), (.int (nar .char (101 : Int32))), (.int (nar .char (83 : Int32))), (.int (0 : Int32)), (.int (0 : Int32)), (.int (0 : Int32)), (.int (0 : Int32)), (.int (0 : Int32)), (.int (0 : Int32)), (.int (0 : Int32)), (.int (0 : Int32)), (.int (0 : Int32)), (.int (0 : Int32)), (.int (0 : Int32)), (.int (0 : Int32)), (.int (0 : Int32)), (.int (0 : Int32)), (.int (0 : Int32)), (.int (0 : Int32)), (.int (0 : Int32)), (.int (0 : Int32)), (.int (0 : Int32)), (.int (0 : Int32)), (.int (0 : Int32)), (.int (0 : Int32)), (.int (0 : Int32)), (.int (0 : Int32)), (.int (0 : Int32)), (.int (0 : Int32)), (.int (0 : Int32)), (.int (0 : Int32))] (.int (0 : Int32)) := Arv.set Ar164 q164 S164 N164 H164 G164 (fits_nar_char _) W164 8 rfl (Nat.le_of_ble_eq_true rfl)
  refine Fin.by (fun tt_ kk_ => st164 tt_ kk_) ?_
  have N164_ := Fr.snoc X164 N163_ g156
  refine Fin.by (fun tt_ kk_ => XS.aload X164.here hx rfl (hb hby d2_63) rfl rfl (XS.bipush X164.here hx rfl (hb hby d2_65) (XS.bipush X164.here hx rfl (hb hby d2_67) kk_))) ?_
  obtain ⟨cl165, Ar165, q165, S165, N165, H165, G165⟩ := id V164
  obtain ⟨T165, h165, X165, e165, W165, st165⟩ := stC X164 hx hZ e164 Ar165 (j := (9 : Int32)) (inb_of S165 ⟨by decide, by decide⟩) (g := (mkF m 69 #[.val (.int nu), .val (.int a), .val (.int nw), .val (.int b), .val (.ref a101)] [(.int 101), (.int 9), (.ref a101)])) rfl rfl (hb hby d2_69)
  have V165 : Arv Z h165 a101 k101 .char (37 : Int32) [(.int (nar .char (68 : Int32))), (.int (nar .char (97 : Int32))), (.int (nar .char (116 : Int32))), (.int (nar .char (97 : Int32))), (.int (nar .char (98 : Int32))), (.int (nar .char (97 : Int32))), (.int (nar .char (115 : Int32))), (.int (nar .char (101 : Int32))), (.int (nar .char (83 : Int32))), (.int (nar .char (101 : Int32))), (.int (0 : Int32)), (.int (0 : Int32)), (.int (0 : Int32)), (.int (0 : Int32)), (.int (0 : Int32)), (.int (0 : Int32)), (.int (0 : Int32)), (.int (0 : Int32)), (.int (0 : Int32)), (.int (0 : Int32)), (.int (0 : Int32)), (.int (0 : Int32)), (.int (0 : Int32)), (.int (0 : Int32)), (.int (0 : Int32)), (.int (0 : Int32)), (.int (0 : Int32)), (.int (0 : Int32)), (.int (0 : Int32)), (.int (0 : Int32)), (.int (0 : Int32)), (.int (0 : Int32)), (.int (0 : Int32)), (.int (0 : Int32)), (.int (0 : Int32)), (.int (0 : Int32)), (.int (0 : Int32))] (.int (0 : Int32)) := Arv.set Ar165 q165 S165 N165 H165 G165 (fits_nar_char _) W165 9 rfl (Nat.le_of_ble_eq_true rfl)
  refine Fin.by (fun tt_ kk_ => st165 tt_ kk_) ?_
  have N165_ := Fr.snoc X165 N164_ g156
  refine Fin.by (fun tt_ kk_ => XS.aload X165.here hx rfl (hb hby d2_70) rfl rfl (XS.bipush X165.here hx rfl (hb hby d2_72) (XS.bipush X165.here hx rfl (hb hby d2_74) kk_))) ?_
  obtain ⟨cl166, Ar166, q166, S166, N166, H166, G166⟩ := id V165
  obtain ⟨T166, h166, X166, e166, W166, st166⟩ := stC X165 hx hZ e165 Ar166 (j := (10 : Int32)) (inb_of S166 ⟨by decide, by decide⟩) (g := (mkF m 76 #[.val (.int nu), .val (.int a), .val (.int nw), .val (.int b), .val (.ref a101)] [(.int 116), (.int 10), (.ref a101)])) rfl rfl (hb hby d2_76)
  have V166 : Arv Z h166 a101 k101 .char (37 : Int32) [(.int (nar .char (68 : Int32))), (.int (nar .char (97 : Int32))), (.int (nar .char (116 : Int32))), (.int (nar .char (97 : Int32))), (.int (nar .char (98 : Int32))), (.int (nar .char (97 : Int32))), (.int (nar .char (115 : Int32))), (.int (nar .char (101 : Int32))), (.int (nar .char (83 : Int32))), (.int (nar .char (101 : Int32))), (.int (nar .char (116 : Int32))), (.int (0 : Int32)), (.int (0 : Int32)), (.int (0 : Int32)), (.int (0 : Int32)), (.int (0 : Int32)), (.int (0 : Int32)), (.int (0 : Int32)), (.int (0 : Int32)), (.int (0 : Int32)), (.int (0 : Int32)), (.int (0 : Int32)), (.int (0 : Int32)), (.int (0 : Int32)), (.int (0 : Int32)), (.int (0 : Int32)), (.int (0 : Int32)), (.int (0 : Int32)), (.int (0 : Int32)), (.int (0 : Int32)), (.int (0 : Int32)), (.int (0 : Int32)), (.int (0 : Int32)), (.int (0 : Int32)), (.int (0 : Int32)), (.int (0 : Int32)), (.int (0 : Int32))] (.int (0 : Int32)) := Arv.set Ar166 q166 S166 N166 H166 G166 (fits_nar_char _) W166 10 rfl (Nat.le_of_ble_eq_true rfl)
  refine Fin.by (fun tt_ kk_ => st166 tt_ kk_) ?_
  have N166_ := Fr.snoc X166 N165_ g156
  refine Fin.by (fun tt_ kk_ => XS.aload X166.here hx rfl (hb hby d2_77) rfl rfl (XS.bipush X166.here hx rfl (hb hby d2_79) (XS.bipush X166.here hx rfl (hb hby d2_81) kk_))) ?_
  obtain ⟨cl167, Ar167, q167, S167, N167, H167, G167⟩ := id V166
  obtain ⟨T167, h167, X167, e167, W167, st167⟩ := stC X166 hx hZ e166 Ar167 (j := (11 : Int32)) (inb_of S167 ⟨by decide, by decide⟩) (g := (mkF m 83 #[.val (.int nu), .val (.int a), .val (.int nw), .val (.int b), .val (.ref a101)] [(.int 116), (.int 11), (.ref a101)])) rfl rfl (hb hby d2_83)
  have V167 : Arv Z h167 a101 k101 .char (37 : Int32) [(.int (nar .char (68 : Int32))), (.int (nar .char (97 : Int32))), (.int (nar .char (116 : Int32))), (.int (nar .char (97 : Int32))), (.int (nar .char (98 : Int32))), (.int (nar .char (97 : Int32))), (.int (nar .char (115 : Int32))), (.int (nar .char (101 : Int32))), (.int (nar .char (83 : Int32))), (.int (nar .char (101 : Int32))), (.int (nar .char (116 : Int32))), (.int (nar .char (116 : Int32))), (.int (0 : Int32)), (.int (0 : Int32)), (.int (0 : Int32)), (.int (0 : Int32)), (.int (0 : Int32)), (.int (0 : Int32)), (.int (0 : Int32)), (.int (0 : Int32)), (.int (0 : Int32)), (.int (0 : Int32)), (.int (0 : Int32)), (.int (0 : Int32)), (.int (0 : Int32)), (.int (0 : Int32)), (.int (0 : Int32)), (.int (0 : Int32)), (.int (0 : Int32)), (.int (0 : Int32)), (.int (0 : Int32)), (.int (0 : Int32)), (.int (0 : Int32)), (.int (0 : Int32)), (.int (0 : Int32)), (.int (0 : Int32)), (.int (0 : Int32))] (.int (0 : Int32)) := Arv.set Ar167 q167 S167 N167 H167 G167 (fits_nar_char _) W167 11 rfl (Nat.le_of_ble_eq_true rfl)
  refine Fin.by (fun tt_ kk_ => st167 tt_ kk_) ?_
  have N167_ := Fr.snoc X167 N166_ g156
  refine Fin.by (fun tt_ kk_ => XS.aload X167.here hx rfl (hb hby d2_84) rfl rfl (XS.bipush X167.here hx rfl (hb hby d2_86) (XS.bipush X167.here hx rfl (hb hby d2_88) kk_))) ?_
  obtain ⟨cl168, Ar168, q168, S168, N168, H168, G168⟩ := id V167
  obtain ⟨T168, h168, X168, e168, W168, st168⟩ := stC X167 hx hZ e167 Ar168 (j := (12 : Int32)) (inb_of S168 ⟨by decide, by decide⟩) (g := (mkF m 90 #[.val (.int nu), .val (.int a), .val (.int nw), .val (.int b), .val (.ref a101)] [(.int 105), (.int 12), (.ref a101)])) rfl rfl (hb hby d2_90)
  have V168 : Arv Z h168 a101 k101 .char (37 : Int32) [(.int (nar .char (68 : Int32))), (.int (nar .char (97 : Int32))), (.int (nar .char (116 : Int32))), (.int (nar .char (97 : Int32))), (.int (nar .char (98 : Int32))), (.int (nar .char (97 : Int32))), (.int (nar .char (115 : Int32))), (.int (nar .char (101 : Int32))), (.int (nar .char (83 : Int32))), (.int (nar .char (101 : Int32))), (.int (nar .char (116 : Int32))), (.int (nar .char (116 : Int32))), (.int (nar .char (105 : Int32))), (.int (0 : Int32)), (.int (0 : Int32)), (.int (0 : Int32)), (.int (0 : Int32)), (.int (0 : Int32)), (.int (0 : Int32)), (.int (0 : Int32)), (.int (0 : Int32)), (.int (0 : Int32)), (.int (0 : Int32)), (.int (0 : Int32)), (.int (0 : Int32)), (.int (0 : Int32)), (.int (0 : Int32)), (.int (0 : Int32)), (.int (0 : Int32)), (.int (0 : Int32)), (.int (0 : Int32)), (.int (0 : Int32)), (.int (0 : Int32)), (.int (0 : Int32)), (.int (0 : Int32)), (.int (0 : Int32)), (.int (0 : Int32))] (.int (0 : Int32)) := Arv.set Ar168 q168 S168 N168 H168 G168 (fits_nar_char _) W168 12 rfl (Nat.le_of_ble_eq_true rfl)
  refine Fin.by (fun tt_ kk_ => st168 tt_ kk_) ?_
  have N168_ := Fr.snoc X168 N167_ g156
  refine Fin.by (fun tt_ kk_ => XS.aload X168.here hx rfl (hb hby d2_91) rfl rfl (XS.bipush X168.here hx rfl (hb hby d2_93) (XS.bipush X168.here hx rfl (hb hby d2_95) kk_))) ?_
  obtain ⟨cl169, Ar169, q169, S169, N169, H169, G169⟩ := id V168
  obtain ⟨T169, h169, X169, e169, W169, st169⟩ := stC X168 hx hZ e168 Ar169 (j := (13 : Int32)) (inb_of S169 ⟨by decide, by decide⟩) (g := (mkF m 97 #[.val (.int nu), .val (.int a), .val (.int nw), .val (.int b), .val (.ref a101)] [(.int 110), (.int 13), (.ref a101)])) rfl rfl (hb hby d2_97)
  have V169 : Arv Z h169 a101 k101 .char (37 : Int32) [(.int (nar .char (68 : Int32))), (.int (nar .char (97 : Int32))), (.int (nar .char (116 : Int32))), (.int (nar .char (97 : Int32))), (.int (nar .char (98 : Int32))), (.int (nar .char (97 : Int32))), (.int (nar .char (115 : Int32))), (.int (nar .char (101 : Int32))), (.int (nar .char (83 : Int32))), (.int (nar .char (101 : Int32))), (.int (nar .char (116 : Int32))), (.int (nar .char (116 : Int32))), (.int (nar .char (105 : Int32))), (.int (nar .char (110 : Int32))), (.int (0 : Int32)), (.int (0 : Int32)), (.int (0 : Int32)), (.int (0 : Int32)), (.int (0 : Int32)), (.int (0 : Int32)), (.int (0 : Int32)), (.int (0 : Int32)), (.int (0 : Int32)), (.int (0 : Int32)), (.int (0 : Int32)), (.int (0 : Int32)), (.int (0 : Int32)), (.int (0 : Int32)), (.int (0 : Int32)), (.int (0 : Int32)), (.int (0 : Int32)), (.int (0 : Int32)), (.int (0 : Int32)), (.int (0 : Int32)), (.int (0 : Int32)), (.int (0 : Int32)), (.int (0 : Int32))] (.int (0 : Int32)) := Arv.set Ar169 q169 S169 N169 H169 G169 (fits_nar_char _) W169 13 rfl (Nat.le_of_ble_eq_true rfl)
  refine Fin.by (fun tt_ kk_ => st169 tt_ kk_) ?_
  have N169_ := Fr.snoc X169 N168_ g156
  refine Fin.by (fun tt_ kk_ => XS.aload X169.here hx rfl (hb hby d2_98) rfl rfl (XS.bipush X169.here hx rfl (hb hby d2_100) (XS.bipush X169.here hx rfl (hb hby d2_102) kk_))) ?_
  obtain ⟨cl170, Ar170, q170, S170, N170, H170, G170⟩ := id V169
  obtain ⟨T170, h170, X170, e170, W170, st170⟩ := stC X169 hx hZ e169 Ar170 (j := (14 : Int32)) (inb_of S170 ⟨by decide, by decide⟩) (g := (mkF m 104 #[.val (.int nu), .val (.int a), .val (.int nw), .val (.int b), .val (.ref a101)] [(.int 103), (.int 14), (.ref a101)])) rfl rfl (hb hby d2_104)
  have V170 : Arv Z h170 a101 k101 .char (37 : Int32) [(.int (nar .char (68 : Int32))), (.int (nar .char (97 : Int32))), (.int (nar .char (116 : Int32))), (.int (nar .char (97 : Int32))), (.int (nar .char (98 : Int32))), (.int (nar .char (97 : Int32))), (.int (nar .char (115 : Int32))), (.int (nar .char (101 : Int32))), (.int (nar .char (83 : Int32))), (.int (nar .char (101 : Int32))), (.int (nar .char (116 : Int32))), (.int (nar .char (116 : Int32))), (.int (nar .char (105 : Int32))), (.int (nar .char (110 : Int32))), (.int (nar .char (103 : Int32))), (.int (0 : Int32)), (.int (0 : Int32)), (.int (0 : Int32)), (.int (0 : Int32)), (.int (0 : Int32)), (.int (0 : Int32)), (.int (0 : Int32)), (.int (0 : Int32)), (.int (0 : Int32)), (.int (0 : Int32)), (.int (0 : Int32)), (.int (0 : Int32)), (.int (0 : Int32)), (.int (0 : Int32)), (.int (0 : Int32)), (.int (0 : Int32)), (.int (0 : Int32)), (.int (0 : Int32)), (.int (0 : Int32)), (.int (0 : Int32)), (.int (0 : Int32)), (.int (0 : Int32))] (.int (0 : Int32)) := Arv.set Ar170 q170 S170 N170 H170 G170 (fits_nar_char _) W170 14 rfl (Nat.le_of_ble_eq_true rfl)
  refine Fin.by (fun tt_ kk_ => st170 tt_ kk_) ?_
  have N170_ := Fr.snoc X170 N169_ g156
  refine Fin.by (fun tt_ kk_ => XS.aload X170.here hx rfl (hb hby d2_105) rfl rfl (XS.bipush X170.here hx rfl (hb hby d2_107) (XS.bipush X170.here hx rfl (hb hby d2_109) kk_))) ?_
  obtain ⟨cl171, Ar171, q171, S171, N171, H171, G171⟩ := id V170
  obtain ⟨T171, h171, X171, e171, W171, st171⟩ := stC X170 hx hZ e170 Ar171 (j := (15 : Int32)) (inb_of S171 ⟨by decide, by decide⟩) (g := (mkF m 111 #[.val (.int nu), .val (.int a), .val (.int nw), .val (.int b), .val (.ref a101)] [(.int 115), (.int 15), (.ref a101)])) rfl rfl (hb hby d2_111)
  have V171 : Arv Z h171 a101 k101 .char (37 : Int32) [(.int (nar .char (68 : Int32))), (.int (nar .char (97 : Int32))), (.int (nar .char (116 : Int32))), (.int (nar .char (97 : Int32))), (.int (nar .char (98 : Int32))), (.int (nar .char (97 : Int32))), (.int (nar .char (115 : Int32))), (.int (nar .char (101 : Int32))), (.int (nar .char (83 : Int32))), (.int (nar .char (101 : Int32))), (.int (nar .char (116 : Int32))), (.int (nar .char (116 : Int32))), (.int (nar .char (105 : Int32))), (.int (nar .char (110 : Int32))), (.int (nar .char (103 : Int32))), (.int (nar .char (115 : Int32))), (.int (0 : Int32)), (.int (0 : Int32)), (.int (0 : Int32)), (.int (0 : Int32)), (.int (0 : Int32)), (.int (0 : Int32)), (.int (0 : Int32)), (.int (0 : Int32)), (.int (0 : Int32)), (.int (0 : Int32)), (.int (0 : Int32)), (.int (0 : Int32)), (.int (0 : Int32)), (.int (0 : Int32)), (.int (0 : Int32)), (.int (0 : Int32)), (.int (0 : Int32)), (.int (0 : Int32)), (.int (0 : Int32)), (.int (0 : Int32)), (.int (0 : Int32))] (.int (0 : Int32)) := Arv.set Ar171 q171 S171 N171 H171 G171 (fits_nar_char _) W171 15 rfl (Nat.le_of_ble_eq_true rfl)
  refine Fin.by (fun tt_ kk_ => st171 tt_ kk_) ?_
  have N171_ := Fr.snoc X171 N170_ g156
  refine Fin.by (fun tt_ kk_ => XS.aload X171.here hx rfl (hb hby d2_112) rfl rfl (XS.bipush X171.here hx rfl (hb hby d2_114) (XS.bipush X171.here hx rfl (hb hby d2_116) kk_))) ?_
  obtain ⟨cl172, Ar172, q172, S172, N172, H172, G172⟩ := id V171
  obtain ⟨T172, h172, X172, e172, W172, st172⟩ := stC X171 hx hZ e171 Ar172 (j := (16 : Int32)) (inb_of S172 ⟨by decide, by decide⟩) (g := (mkF m 118 #[.val (.int nu), .val (.int a), .val (.int nw), .val (.int b), .val (.ref a101)] [(.int 91), (.int 16), (.ref a101)])) rfl rfl (hb hby d2_118)
  have V172 : Arv Z h172 a101 k101 .char (37 : Int32) [(.int (nar .char (68 : Int32))), (.int (nar .char (97 : Int32))), (.int (nar .char (116 : Int32))), (.int (nar .char (97 : Int32))), (.int (nar .char (98 : Int32))), (.int (nar .char (97 : Int32))), (.int (nar .char (115 : Int32))), (.int (nar .char (101 : Int32))), (.int (nar .char (83 : Int32))), (.int (nar .char (101 : Int32))), (.int (nar .char (116 : Int32))), (.int (nar .char (116 : Int32))), (.int (nar .char (105 : Int32))), (.int (nar .char (110 : Int32))), (.int (nar .char (103 : Int32))), (.int (nar .char (115 : Int32))), (.int (nar .char (91 : Int32))), (.int (0 : Int32)), (.int (0 : Int32)), (.int (0 : Int32)), (.int (0 : Int32)), (.int (0 : Int32)), (.int (0 : Int32)), (.int (0 : Int32)), (.int (0 : Int32)), (.int (0 : Int32)), (.int (0 : Int32)), (.int (0 : Int32)), (.int (0 : Int32)), (.int (0 : Int32)), (.int (0 : Int32)), (.int (0 : Int32)), (.int (0 : Int32)), (.int (0 : Int32)), (.int (0 : Int32)), (.int (0 : Int32)), (.int (0 : Int32))] (.int (0 : Int32)) := Arv.set Ar172 q172 S172 N172 H172 G172 (fits_nar_char _) W172 16 rfl (Nat.le_of_ble_eq_true rfl)
  refine Fin.by (fun tt_ kk_ => st172 tt_ kk_) ?_
  have N172_ := Fr.snoc X172 N171_ g156
  refine Fin.by (fun tt_ kk_ => XS.aload X172.here hx rfl (hb hby d2_119) rfl rfl (XS.bipush X172.here hx rfl (hb hby d2_121) (XS.bipush X172.here hx rfl (hb hby d2_123) kk_))) ?_
  obtain ⟨cl173, Ar173, q173, S173, N173, H173, G173⟩ := id V172
  obtain ⟨T173, h173, X173, e173, W173, st173⟩ := stC X172 hx hZ e172 Ar173 (j := (17 : Int32)) (inb_of S173 ⟨by decide, by decide⟩) (g := (mkF m 125 #[.val (.int nu), .val (.int a), .val (.int nw), .val (.int b), .val (.ref a101)] [(.int 117), (.int 17), (.ref a101)])) rfl rfl (hb hby d2_125)
  have V173 : Arv Z h173 a101 k101 .char (37 : Int32) [(.int (nar .char (68 : Int32))), (.int (nar .char (97 : Int32))), (.int (nar .char (116 : Int32))), (.int (nar .char (97 : Int32))), (.int (nar .char (98 : Int32))), (.int (nar .char (97 : Int32))), (.int (nar .char (115 : Int32))), (.int (nar .char (101 : Int32))), (.int (nar .char (83 : Int32))), (.int (nar .char (101 : Int32))), (.int (nar .char (116 : Int32))), (.int (nar .char (116 : Int32))), (.int (nar .char (105 : Int32))), (.int (nar .char (110 : Int32))), (.int (nar .char (103 : Int32))), (.int (nar .char (115 : Int32))), (.int (nar .char (91 : Int32))), (.int (nar .char (117 : Int32))), (.int (0 : Int32)), (.int (0 : Int32)), (.int (0 : Int32)), (.int (0 : Int32)), (.int (0 : Int32)), (.int (0 : Int32)), (.int (0 : Int32)), (.int (0 : Int32)), (.int (0 : Int32)), (.int (0 : Int32)), (.int (0 : Int32)), (.int (0 : Int32)), (.int (0 : Int32)), (.int (0 : Int32)), (.int (0 : Int32)), (.int (0 : Int32)), (.int (0 : Int32)), (.int (0 : Int32)), (.int (0 : Int32))] (.int (0 : Int32)) := Arv.set Ar173 q173 S173 N173 H173 G173 (fits_nar_char _) W173 17 rfl (Nat.le_of_ble_eq_true rfl)
  refine Fin.by (fun tt_ kk_ => st173 tt_ kk_) ?_
  have N173_ := Fr.snoc X173 N172_ g156
  refine Fin.by (fun tt_ kk_ => XS.aload X173.here hx rfl (hb hby d2_126) rfl rfl (XS.bipush X173.here hx rfl (hb hby d2_128) (XS.bipush X173.here hx rfl (hb hby d2_130) kk_))) ?_
  obtain ⟨cl174, Ar174, q174, S174, N174, H174, G174⟩ := id V173
  obtain ⟨T174, h174, X174, e174, W174, st174⟩ := stC X173 hx hZ e173 Ar174 (j := (18 : Int32)) (inb_of S174 ⟨by decide, by decide⟩) (g := (mkF m 132 #[.val (.int nu), .val (.int a), .val (.int nw), .val (.int b), .val (.ref a101)] [(.int 114), (.int 18), (.ref a101)])) rfl rfl (hb hby d2_132)
  have V174 : Arv Z h174 a101 k101 .char (37 : Int32) [(.int (nar .char (68 : Int32))), (.int (nar .char (97 : Int32))), (.int (nar .char (116 : Int32))), (.int (nar .char (97 : Int32))), (.int (nar .char (98 : Int32))), (.int (nar .char (97 : Int32))), (.int (nar .char (115 : Int32))), (.int (nar .char (101 : Int32))), (.int (nar .char (83 : Int32))), (.int (nar .char (101 : Int32))), (.int (nar .char (116 : Int32))), (.int (nar .char (116 : Int32))), (.int (nar .char (105 : Int32))), (.int (nar .char (110 : Int32))), (.int (nar .char (103 : Int32))), (.int (nar .char (115 : Int32))), (.int (nar .char (91 : Int32))), (.int (nar .char (117 : Int32))), (.int (nar .char (114 : Int32))), (.int (0 : Int32)), (.int (0 : Int32)), (.int (0 : Int32)), (.int (0 : Int32)), (.int (0 : Int32)), (.int (0 : Int32)), (.int (0 : Int32)), (.int (0 : Int32)), (.int (0 : Int32)), (.int (0 : Int32)), (.int (0 : Int32)), (.int (0 : Int32)), (.int (0 : Int32)), (.int (0 : Int32)), (.int (0 : Int32)), (.int (0 : Int32)), (.int (0 : Int32)), (.int (0 : Int32))] (.int (0 : Int32)) := Arv.set Ar174 q174 S174 N174 H174 G174 (fits_nar_char _) W174 18 rfl (Nat.le_of_ble_eq_true rfl)
  refine Fin.by (fun tt_ kk_ => st174 tt_ kk_) ?_
  have N174_ := Fr.snoc X174 N173_ g156
  refine Fin.by (fun tt_ kk_ => XS.aload X174.here hx rfl (hb hby d2_133) rfl rfl (XS.bipush X174.here hx rfl (hb hby d2_135) (XS.bipush X174.here hx rfl (hb hby d2_137) kk_))) ?_
  obtain ⟨cl175, Ar175, q175, S175, N175, H175, G175⟩ := id V174
  obtain ⟨T175, h175, X175, e175, W175, st175⟩ := stC X174 hx hZ e174 Ar175 (j := (19 : Int32)) (inb_of S175 ⟨by decide, by decide⟩) (g := (mkF m 139 #[.val (.int nu), .val (.int a), .val (.int nw), .val (.int b), .val (.ref a101)] [(.int 108), (.int 19), (.ref a101)])) rfl rfl (hb hby d2_139)
  have V175 : Arv Z h175 a101 k101 .char (37 : Int32) [(.int (nar .char (68 : Int32))), (.int (nar .char (97 : Int32))), (.int (nar .char (116 : Int32))), (.int (nar .char (97 : Int32))), (.int (nar .char (98 : Int32))), (.int (nar .char (97 : Int32))), (.int (nar .char (115 : Int32))), (.int (nar .char (101 : Int32))), (.int (nar .char (83 : Int32))), (.int (nar .char (101 : Int32))), (.int (nar .char (116 : Int32))), (.int (nar .char (116 : Int32))), (.int (nar .char (105 : Int32))), (.int (nar .char (110 : Int32))), (.int (nar .char (103 : Int32))), (.int (nar .char (115 : Int32))), (.int (nar .char (91 : Int32))), (.int (nar .char (117 : Int32))), (.int (nar .char (114 : Int32))), (.int (nar .char (108 : Int32))), (.int (0 : Int32)), (.int (0 : Int32)), (.int (0 : Int32)), (.int (0 : Int32)), (.int (0 : Int32)), (.int (0 : Int32)), (.int (0 : Int32)), (.int (0 : Int32)), (.int (0 : Int32)), (.int (0 : Int32)), (.int (0 : Int32)), (.int (0 : Int32)), (.int (0 : Int32)), (.int (0 : Int32)), (.int (0 : Int32)), (.int (0 : Int32)), (.int (0 : Int32))] (.int (0 : Int32)) := Arv.set Ar175 q175 S175 N175 H175 G175 (fits_nar_char _) W175 19 rfl (Nat.le_of_ble_eq_true rfl)
  refine Fin.by (fun tt_ kk_ => st175 tt_ kk_) ?_
  have N175_ := Fr.snoc X175 N174_ g156
  refine Fin.by (fun tt_ kk_ => XS.aload X175.here hx rfl (hb hby d2_140) rfl rfl (XS.bipush X175.here hx rfl (hb hby d2_142) (XS.bipush X175.here hx rfl (hb hby d2_144) kk_))) ?_
  obtain ⟨cl176, Ar176, q176, S176, N176, H176, G176⟩ := id V175
  obtain ⟨T176, h176, X176, e176, W176, st176⟩ := stC X175 hx hZ e175 Ar176 (j := (20 : Int32)) (inb_of S176 ⟨by decide, by decide⟩) (g := (mkF m 146 #[.val (.int nu), .val (.int a), .val (.int nw), .val (.int b), .val (.ref a101)] [(.int 61), (.int 20), (.ref a101)])) rfl rfl (hb hby d2_146)
  have V176 : Arv Z h176 a101 k101 .char (37 : Int32) [(.int (nar .char (68 : Int32))), (.int (nar .char (97 : Int32))), (.int (nar .char (116 : Int32))), (.int (nar .char (97 : Int32))), (.int (nar .char (98 : Int32))), (.int (nar .char (97 : Int32))), (.int (nar .char (115 : Int32))), (.int (nar .char (101 : Int32))), (.int (nar .char (83 : Int32))), (.int (nar .char (101 : Int32))), (.int (nar .char (116 : Int32))), (.int (nar .char (116 : Int32))), (.int (nar .char (105 : Int32))), (.int (nar .char (110 : Int32))), (.int (nar .char (103 : Int32))), (.int (nar .char (115 : Int32))), (.int (nar .char (91 : Int32))), (.int (nar .char (117 : Int32))), (.int (nar .char (114 : Int32))), (.int (nar .char (108 : Int32))), (.int (nar .char (61 : Int32))), (.int (0 : Int32)), (.int (0 : Int32)), (.int (0 : Int32)), (.int (0 : Int32)), (.int (0 : Int32)), (.int (0 : Int32)), (.int (0 : Int32)), (.int (0 : Int32)), (.int (0 : Int32)), (.int (0 : Int32)), (.int (0 : Int32)), (.int (0 : Int32)), (.int (0 : Int32)), (.int (0 : Int32)), (.int (0 : Int32)), (.int (0 : Int32))] (.int (0 : Int32)) := Arv.set Ar176 q176 S176 N176 H176 G176 (fits_nar_char _) W176 20 rfl (Nat.le_of_ble_eq_true rfl)
  refine Fin.by (fun tt_ kk_ => st176 tt_ kk_) ?_
  have N176_ := Fr.snoc X176 N175_ g156
  show Fin _ _ _ _ _ _ _ (T176.setTop (mkF m 147 #[.val (.int nu), .val (.int a), .val (.int nw), .val (.int b), .val (.ref a101)] []))
  have kp177 : Keep h101 h155 [a101] := (Keep.refl h101 [a101]).wr W155 (Or.inl (List.mem_of_getElem? (i := 0) rfl))
  have kp178 : Keep h101 h157 [a101] := kp177.wr W157 (Or.inl (List.mem_of_getElem? (i := 0) rfl))
  have kp179 : Keep h101 h158 [a101] := kp178.wr W158 (Or.inl (List.mem_of_getElem? (i := 0) rfl))
  have kp180 : Keep h101 h159 [a101] := kp179.wr W159 (Or.inl (List.mem_of_getElem? (i := 0) rfl))
  have kp181 : Keep h101 h160 [a101] := kp180.wr W160 (Or.inl (List.mem_of_getElem? (i := 0) rfl))
  have kp182 : Keep h101 h161 [a101] := kp181.wr W161 (Or.inl (List.mem_of_getElem? (i := 0) rfl))
  have kp183 : Keep h101 h162 [a101] := kp182.wr W162 (Or.inl (List.mem_of_getElem? (i := 0) rfl))
  have kp184 : Keep h101 h163 [a101] := kp183.wr W163 (Or.inl (List.mem_of_getElem? (i := 0) rfl))
  have kp185 : Keep h101 h164 [a101] := kp184.wr W164 (Or.inl (List.mem_of_getElem? (i := 0) rfl))
  have kp186 : Keep h101 h165 [a101] := kp185.wr W165 (Or.inl (List.mem_of_getElem? (i := 0) rfl))
  have kp187 : Keep h101 h166 [a101] := kp186.wr W166 (Or.inl (List.mem_of_getElem? (i := 0) rfl))
  have kp188 : Keep h101 h167 [a101] := kp187.wr W167 (Or.inl (List.mem_of_getElem? (i := 0) rfl))
  have kp189 : Keep h101 h168 [a101] := kp188.wr W168 (Or.inl (List.mem_of_getElem? (i := 0) rfl))
  have kp190 : Keep h101 h169 [a101] := kp189.wr W169 (Or.inl (List.mem_of_getElem? (i := 0) rfl))
  have kp191 : Keep h101 h170 [a101] := kp190.wr W170 (Or.inl (List.mem_of_getElem? (i := 0) rfl))
  have kp192 : Keep h101 h171 [a101] := kp191.wr W171 (Or.inl (List.mem_of_getElem? (i := 0) rfl))
  have kp193 : Keep h101 h172 [a101] := kp192.wr W172 (Or.inl (List.mem_of_getElem? (i := 0) rfl))
  have kp194 : Keep h101 h173 [a101] := kp193.wr W173 (Or.inl (List.mem_of_getElem? (i := 0) rfl))
  have kp195 : Keep h101 h174 [a101] := kp194.wr W174 (Or.inl (List.mem_of_getElem? (i := 0) rfl))
  have kp196 : Keep h101 h175 [a101] := kp195.wr W175 (Or.inl (List.mem_of_getElem? (i := 0) rfl))
  have kp197 : Keep h101 h176 [a101] := kp196.wr W176 (Or.inl (List.mem_of_getElem? (i := 0) rfl))
  exact JA T176 h176 _ X176 e176 N176_ kp197 V176
abbrev y_4 : MethodName := (⟨"java/lang/Record", "<init>", "()V"⟩ : MethodName)
theorem d3_0 : decode jdk_30_method_1_code 0 = .ok (.aload_n 0, 1) := by decide +kernel
theorem d3_1 : decode jdk_30_method_1_code 1 = .ok (.invokespecial 1, 3) := by decide +kernel
theorem d3_4 : decode jdk_30_method_1_code 4 = .ok (.return_, 1) := by decide +kernel
theorem pn_java_lang_Record : plainName "java/lang/Record" = true := by first | (simp [plainName, overriddenIn]; done) | decide +kernel
def Q_rec (Z : State) (a : Addr) (h0 : Heap) (n0 : Nat) (vv_ : Option Value) (hh_ : Heap) (LL_ : List Loc) : Prop := vv_ = none ∧ Fr n0 LL_ ∧ hh_ = h0
set_option maxRecDepth 65536 in
set_option maxHeartbeats 40000000 in
theorem rm_rec (l : Launch) (Z : State) (a0 : Array Value) (hw : ∀ d ∈ tables_1, d.before a0 Z = true) (ws : List Jvm.Cond) (a : Addr) (h0 : Heap) (n0 : Nat) (Z0 : n0 ≤ h0.size) :
    MetFree l y_4 (head1 (Jvm.Cond.code y_4 jdk_30_method_1_code 1 none :: ws) ({ frames := 1, cells := 0, slots := 0, locals := 12 } : Room)) (fun aa_ U => aa_ = #[(.ref a)] ∧ Z.Warmed39 U.vm ∧ U.heap = h0) (fun _ _ _ _ _ => True) (fun _ U o U' => ∃ vv_ LL_, o = .returned vv_ ∧ Q_rec Z a h0 n0 vv_ U'.heap LL_ ∧ FrameEnd U o U' LL_ 0 0) := by
  refine MetFree.of_bodySF (plainFor_of_name pn_java_lang_Record) hisR ?_
  intro p e s m args below meth c s₁ Bd hml0 hP hK
  obtain ⟨rfl, hZ, hh⟩ := hP
  have hx := Bd.exec
  have hby := Bd.bytes
  have hml : c.maxLocals = 1 := hml0
  have hown : s.vm.findClass "java/lang/Record" = some m.cls := findClass_of_methodNamed Bd.named
  have hnm := (name_of_methodNamed Bd.named Bd.method).1
  have X0 : Stand p l e ({ frames := 1, cells := 0, slots := 0, locals := 12 } : Room) s m #[(.ref a)] below meth c s₁ [] 0 0 := Stand.of_body Bd
  have e0 : s₁.heap = h0 := by rw [← hh, Bd.state]; rfl
  have N0 := Fr.nil n0
  have ef : entryFrame m #[(.ref a)] 1 = mkF m 0 #[.val (.ref a)] [] := by first | (simp [entryFrame, mkF, argsToLocals, Value.category]; done) | rfl
  refine Fin.start (Q := Q_rec Z a h0 n0) ef ?_
  refine Fin.by (fun tt_ kk_ => XS.aloadN X0.here hx rfl (hb hby d3_0) rfl rfl kk_) ?_
  obtain ⟨T101, X101, e101, st101⟩ := initO X0 hx hZ hown (w_ hw 51 rfl) (w_ hw 16 rfl) (w_ hw 17 rfl) e0 (g := (mkF m 1 #[.val (.ref a)] [(.ref a)])) rfl (by rw [hml]; rfl) rfl (hb hby d3_1) (by decide) (W := 0) (by show 2 * 0 + _ ≤ _; exact Nat.le_of_eq rfl) (by decide)
  refine Fin.by (fun tt_ kk_ => st101 tt_ kk_) ?_
  show Fin _ _ _ _ _ _ _ (T101.setTop (mkF m 4 #[.val (.ref a)] []))
  exact Fin.ret (v := none) X101 (fun _ => rfl) Bd.notSynchronized (by rw [e101]; exact ⟨rfl, N0, rfl⟩) (by decide) (by decide) (fun fs hr => X101.returnOut hx Bd.returns (hb hby d3_4) hr)
abbrev y_5 : MethodName := (⟨"com/example/ermine/ermine/server/DatabaseSettings", "<init>", "(Ljava/lang/String;Ljava/lang/String;Ljava/lang/String;)V"⟩ : MethodName)
theorem d4_0 : decode prog_33_method_1_code 0 = .ok (.aload_n 0, 1) := by decide +kernel
theorem pd_250 : parseMethodDescriptor "()V" = some ⟨[], none⟩ := by decide +kernel
theorem d4_1 : decode prog_33_method_1_code 1 = .ok (.invokespecial 1, 3) := by decide +kernel
theorem d4_4 : decode prog_33_method_1_code 4 = .ok (.aload_n 0, 1) := by decide +kernel
theorem d4_5 : decode prog_33_method_1_code 5 = .ok (.aload_n 1, 1) := by decide +kernel
theorem d4_6 : decode prog_33_method_1_code 6 = .ok (.putfield 7, 3) := by decide +kernel
theorem d4_9 : decode prog_33_method_1_code 9 = .ok (.aload_n 0, 1) := by decide +kernel
theorem d4_10 : decode prog_33_method_1_code 10 = .ok (.aload_n 2, 1) := by decide +kernel
theorem d4_11 : decode prog_33_method_1_code 11 = .ok (.putfield 13, 3) := by decide +kernel
theorem d4_14 : decode prog_33_method_1_code 14 = .ok (.aload_n 0, 1) := by decide +kernel
theorem d4_15 : decode prog_33_method_1_code 15 = .ok (.aload_n 3, 1) := by decide +kernel
theorem d4_16 : decode prog_33_method_1_code 16 = .ok (.putfield 16, 3) := by decide +kernel
theorem d4_19 : decode prog_33_method_1_code 19 = .ok (.return_, 1) := by decide +kernel
theorem pn_com_example_ermine_ermine_server_DatabaseSettings : plainName "com/example/ermine/ermine/server/DatabaseSettings" = true := by first | (simp [plainName, overriddenIn]; done) | decide +kernel
def Q_dsi (Z : State) (d : Addr) (u : Value) (v : Value) (pw : Value) (h0 : Heap) (n0 : Nat) (vv_ : Option Value) (hh_ : Heap) (LL_ : List Loc) : Prop := vv_ = none ∧ Fr n0 LL_ ∧ Keep h0 hh_ [d] ∧ Exa Z hh_ d "com/example/ermine/ermine/server/DatabaseSettings" ∧ Fld Z hh_ d "com/example/ermine/ermine/server/DatabaseSettings" "url" "Ljava/lang/String;" u ∧ Fld Z hh_ d "com/example/ermine/ermine/server/DatabaseSettings" "user" "Ljava/lang/String;" v ∧ Fld Z hh_ d "com/example/ermine/ermine/server/DatabaseSettings" "password" "Ljava/lang/String;" pw
set_option maxRecDepth 65536 in
set_option maxHeartbeats 40000000 in
theorem rm_dsi (l : Launch) (Z : State) (a0 : Array Value) (hw : ∀ d ∈ tables_1, d.before a0 Z = true) (ws : List Jvm.Cond) (d : Addr) (u : Value) (v : Value) (pw : Value) (h0 : Heap) (n0 : Nat) (Z0 : n0 ≤ h0.size) (Ed : Exa Z h0 d "com/example/ermine/ermine/server/DatabaseSettings") (Furl : Fld Z h0 d "com/example/ermine/ermine/server/DatabaseSettings" "url" "Ljava/lang/String;" .null) (Fuser : Fld Z h0 d "com/example/ermine/ermine/server/DatabaseSettings" "user" "Ljava/lang/String;" .null) (Fpassword : Fld Z h0 d "com/example/ermine/ermine/server/DatabaseSettings" "password" "Ljava/lang/String;" .null) (ru : u.isRef = true) (rv : v.isRef = true) (rpw : pw.isRef = true) (gd : n0 ≤ d) :
    MetFree l y_5 (head1 (Jvm.Cond.code y_5 prog_33_method_1_code 4 none :: ws) ({ frames := 2, cells := 0, slots := 0, locals := 24 } : Room)) (fun aa_ U => aa_ = #[(.ref d), u, v, pw] ∧ Z.Warmed39 U.vm ∧ U.heap = h0) (fun _ _ _ _ _ => True) (fun _ U o U' => ∃ vv_ LL_, o = .returned vv_ ∧ Q_dsi Z d u v pw h0 n0 vv_ U'.heap LL_ ∧ FrameEnd U o U' LL_ 0 0) := by
  refine MetFree.of_bodySF (plainFor_of_name pn_com_example_ermine_ermine_server_DatabaseSettings) hisR ?_
  intro p e s m args below meth c s₁ Bd hml0 hP hK
  obtain ⟨rfl, hZ, hh⟩ := hP
  have hx := Bd.exec
  have hby := Bd.bytes
  have hml : c.maxLocals = 4 := hml0
  have hown : s.vm.findClass "com/example/ermine/ermine/server/DatabaseSettings" = some m.cls := findClass_of_methodNamed Bd.named
  have hnm := (name_of_methodNamed Bd.named Bd.method).1
  have X0 : Stand p l e ({ frames := 2, cells := 0, slots := 0, locals := 24 } : Room) s m #[(.ref d), u, v, pw] below meth c s₁ [] 0 0 := Stand.of_body Bd
  have e0 : s₁.heap = h0 := by rw [← hh, Bd.state]; rfl
  have N0 := Fr.nil n0
  have ef : entryFrame m #[(.ref d), u, v, pw] 4 = mkF m 0 #[.val (.ref d), .val u, .val v, .val pw] [] := by first | (simp [entryFrame, mkF, argsToLocals, Value.category]; done) | rfl | (rcases ref_cases ru with rfl | ⟨_, rfl⟩ <;> rcases ref_cases rv with rfl | ⟨_, rfl⟩ <;> rcases ref_cases rpw with rfl | ⟨_, rfl⟩ <;> simp [entryFrame, mkF, argsToLocals, Value.category])
  refine Fin.start (Q := Q_dsi Z d u v pw h0 n0) ef ?_
  refine Fin.by (fun tt_ kk_ => XS.aloadN X0.here hx rfl (hb hby d4_0) rfl rfl kk_) ?_
  obtain ⟨v101, _, ⟨T101, L101, k101, n101⟩, -, X101, ⟨Lc101, hQ101, l101, y101, z101⟩, st101⟩ := X0.specialBack hx (y := y_4) rfl hown (mvT hZ (w_ hw 46 rfl)) (mvT hZ (w_ hw 47 rfl)) (mvT hZ (w_ hw 50 rfl)) (by decide) (backOf (W := 0) (rm_rec l Z a0 hw [] d h0 n0 Z0 ) hZ (w_ hw 50 rfl) (w_ hw 49 rfl) (by decide) (by decide)) (g := (mkF m 1 #[.val (.ref d), .val u, .val v, .val pw] [(.ref d)])) rfl (by rw [hml]; rfl) (Steps.refl _) (a := d) (argsL := []) (rest := []) (lenOf pd_250 rfl) rfl (by show 2 * 0 + _ ≤ _; exact Nat.le_of_eq rfl) (hb hby d4_1) (fun _ _ => ⟨rfl, e0, (by decide : 0 + 0 ≤ _), (by decide : 0 + 0 ≤ _)⟩)
  dsimp only [Pt.U, Pt.locs, Pt.cells, Pt.slots] at X101 l101 y101 z101 st101 hQ101
  subst l101 y101 z101
  obtain ⟨rfl, Nq101, e101_⟩ := hQ101
  have N101_ := Fr.app N0 Nq101
  refine Fin.byS st101 ?_
  have e101 := e101_
  refine Fin.by (fun tt_ kk_ => XS.aloadN X101.here hx rfl (hb hby d4_4) rfl rfl (XS.aloadN X101.here hx rfl (hb hby d4_5) rfl ru kk_)) ?_
  obtain ⟨T102, h102, X102, e102, W102, st102⟩ := putF X101 hx hZ hown (host := "") (Or.inl (w_ hw 52 rfl)) Via.refl e101 Furl Ed (Or.inr ⟨(w_ hw 53 rfl), rfl, hnm⟩) (w_ hw 41 rfl) (ty := (.object "java/lang/String")) (by decide) (nar_ref _ ru) (fits_obj ru) (g := (mkF m 6 #[.val (.ref d), .val u, .val v, .val pw] [u, (.ref d)])) rfl rfl (hb hby d4_6)
  refine Fin.by (fun tt_ kk_ => st102 tt_ kk_) ?_
  have N102_ := Fr.snoc X102 N101_ gd
  refine Fin.by (fun tt_ kk_ => XS.aloadN X102.here hx rfl (hb hby d4_9) rfl rfl (XS.aloadN X102.here hx rfl (hb hby d4_10) rfl rv kk_)) ?_
  have F103 : Fld Z h102 d "com/example/ermine/ermine/server/DatabaseSettings" "user" "Ljava/lang/String;" .null := (Fuser.other W102 (Or.inr (slot_ne (Or.inr (w_ hw 55 rfl)) (Or.inr (w_ hw 53 rfl)) (by decide) (t := (.object "java/lang/String")) (t' := (.object "java/lang/String")) (by decide) (by decide))))
  have E104 : Exa Z h102 d "com/example/ermine/ermine/server/DatabaseSettings" := (Ed.wr W102)
  obtain ⟨T105, h105, X105, e105, W105, st105⟩ := putF X102 hx hZ hown (host := "") (Or.inl (w_ hw 54 rfl)) Via.refl e102 F103 E104 (Or.inr ⟨(w_ hw 55 rfl), rfl, hnm⟩) (w_ hw 41 rfl) (ty := (.object "java/lang/String")) (by decide) (nar_ref _ rv) (fits_obj rv) (g := (mkF m 11 #[.val (.ref d), .val u, .val v, .val pw] [v, (.ref d)])) rfl rfl (hb hby d4_11)
  refine Fin.by (fun tt_ kk_ => st105 tt_ kk_) ?_
  have N105_ := Fr.snoc X105 N102_ gd
  refine Fin.by (fun tt_ kk_ => XS.aloadN X105.here hx rfl (hb hby d4_14) rfl rfl (XS.aloadN X105.here hx rfl (hb hby d4_15) rfl rpw kk_)) ?_
  have F106 : Fld Z h105 d "com/example/ermine/ermine/server/DatabaseSettings" "password" "Ljava/lang/String;" .null := ((Fpassword.other W102 (Or.inr (slot_ne (Or.inr (w_ hw 57 rfl)) (Or.inr (w_ hw 53 rfl)) (by decide) (t := (.object "java/lang/String")) (t' := (.object "java/lang/String")) (by decide) (by decide)))).other W105 (Or.inr (slot_ne (Or.inr (w_ hw 57 rfl)) (Or.inr (w_ hw 55 rfl)) (by decide) (t := (.object "java/lang/String")) (t' := (.object "java/lang/String")) (by decide) (by decide))))
  have E107 : Exa Z h105 d "com/example/ermine/ermine/server/DatabaseSettings" := (E104.wr W105)
  obtain ⟨T108, h108, X108, e108, W108, st108⟩ := putF X105 hx hZ hown (host := "") (Or.inl (w_ hw 56 rfl)) Via.refl e105 F106 E107 (Or.inr ⟨(w_ hw 57 rfl), rfl, hnm⟩) (w_ hw 41 rfl) (ty := (.object "java/lang/String")) (by decide) (nar_ref _ rpw) (fits_obj rpw) (g := (mkF m 16 #[.val (.ref d), .val u, .val v, .val pw] [pw, (.ref d)])) rfl rfl (hb hby d4_16)
  refine Fin.by (fun tt_ kk_ => st108 tt_ kk_) ?_
  have N108_ := Fr.snoc X108 N105_ gd
  have kp109 : Keep h0 h102 [d] := (Keep.refl h0 [d]).wr W102 (Or.inl (List.mem_of_getElem? (i := 0) rfl))
  have kp110 : Keep h0 h105 [d] := kp109.wr W105 (Or.inl (List.mem_of_getElem? (i := 0) rfl))
  have kp111 : Keep h0 h108 [d] := kp110.wr W108 (Or.inl (List.mem_of_getElem? (i := 0) rfl))
  have E112 : Exa Z h108 d "com/example/ermine/ermine/server/DatabaseSettings" := (E107.wr W108)
  have F113 : Fld Z h108 d "com/example/ermine/ermine/server/DatabaseSettings" "url" "Ljava/lang/String;" u := (((Furl.same W102).other W105 (Or.inr (slot_ne (Or.inr (w_ hw 53 rfl)) (Or.inr (w_ hw 55 rfl)) (by decide) (t := (.object "java/lang/String")) (t' := (.object "java/lang/String")) (by decide) (by decide)))).other W108 (Or.inr (slot_ne (Or.inr (w_ hw 53 rfl)) (Or.inr (w_ hw 57 rfl)) (by decide) (t := (.object "java/lang/String")) (t' := (.object "java/lang/String")) (by decide) (by decide))))
  have F114 : Fld Z h108 d "com/example/ermine/ermine/server/DatabaseSettings" "user" "Ljava/lang/String;" v := ((F103.same W105).other W108 (Or.inr (slot_ne (Or.inr (w_ hw 55 rfl)) (Or.inr (w_ hw 57 rfl)) (by decide) (t := (.object "java/lang/String")) (t' := (.object "java/lang/String")) (by decide) (by decide))))
  show Fin _ _ _ _ _ _ _ (T108.setTop (mkF m 19 #[.val (.ref d), .val u, .val v, .val pw] []))
  exact Fin.ret (v := none) X108 (fun _ => rfl) Bd.notSynchronized (by rw [e108]; exact ⟨rfl, N108_, kp111, E112, F113, F114, (F106.same W108)⟩) (by decide) (by decide) (fun fs hr => X108.returnOut hx Bd.returns (hb hby d4_19) hr)
abbrev y_6 : MethodName := (⟨"java/lang/AbstractStringBuilder", "<init>", "(I)V"⟩ : MethodName)
theorem d5_0 : decode jdk_68_method_2_code 0 = .ok (.aload_n 0, 1) := by decide +kernel
theorem d5_1 : decode jdk_68_method_2_code 1 = .ok (.invokespecial 3, 3) := by decide +kernel
theorem d5_4 : decode jdk_68_method_2_code 4 = .ok (.getstatic 18, 3) := by decide +kernel
theorem d5_7 : decode jdk_68_method_2_code 7 = .ok (.ifCond .eq 18, 3) := by decide +kernel
theorem d5_10 : decode jdk_68_method_2_code 10 = .ok (.aload_n 0, 1) := by decide +kernel
theorem d5_11 : decode jdk_68_method_2_code 11 = .ok (.iload_n 1, 1) := by decide +kernel
theorem d5_12 : decode jdk_68_method_2_code 12 = .ok (.newarray .byte, 2) := by decide +kernel
theorem d5_14 : decode jdk_68_method_2_code 14 = .ok (.putfield 15, 3) := by decide +kernel
theorem d5_17 : decode jdk_68_method_2_code 17 = .ok (.aload_n 0, 1) := by decide +kernel
theorem d5_18 : decode jdk_68_method_2_code 18 = .ok (.iconst 0, 1) := by decide +kernel
theorem d5_19 : decode jdk_68_method_2_code 19 = .ok (.putfield 22, 3) := by decide +kernel
theorem d5_22 : decode jdk_68_method_2_code 22 = .ok (.goto 16, 3) := by decide +kernel
theorem d5_38 : decode jdk_68_method_2_code 38 = .ok (.return_, 1) := by decide +kernel
theorem pn_java_lang_AbstractStringBuilder : plainName "java/lang/AbstractStringBuilder" = true := by first | (simp [plainName, overriddenIn]; done) | decide +kernel
def Q_abi (Z : State) (a : Addr) (G1 : Int32) (h0 : Heap) (n0 : Nat) (vv_ : Option Value) (hh_ : Heap) (LL_ : List Loc) : Prop := ∃ (v : Addr), ∃ (kv : ClassId), vv_ = none ∧ Fr n0 LL_ ∧ Keep h0 hh_ [a] ∧ h0.size ≤ v ∧ Exa Z hh_ a "java/lang/StringBuilder" ∧ Fld Z hh_ a "java/lang/AbstractStringBuilder" "value" "[B" (.ref v) ∧ Fld Z hh_ a "java/lang/AbstractStringBuilder" "coder" "B" (.int (0 : Int32)) ∧ Fld Z hh_ a "java/lang/AbstractStringBuilder" "count" "I" (.int (0 : Int32)) ∧ Arv Z hh_ v kv .byte (16 : Int32) [] (.int 0)
set_option maxRecDepth 65536 in
set_option maxHeartbeats 40000000 in
theorem rm_abi (l : Launch) (Z : State) (a0 : Array Value) (hw : ∀ d ∈ tables_1, d.before a0 Z = true) (ws : List Jvm.Cond) (a : Addr) (G1 : Int32) (h0 : Heap) (n0 : Nat) (Z0 : n0 ≤ h0.size) (E0 : Exa Z h0 a "java/lang/StringBuilder") (F0 : Fld Z h0 a "java/lang/AbstractStringBuilder" "value" "[B" .null) (F1 : Fld Z h0 a "java/lang/AbstractStringBuilder" "coder" "B" (.int (0 : Int32))) (F2 : Fld Z h0 a "java/lang/AbstractStringBuilder" "count" "I" (.int (0 : Int32))) (ga : n0 ≤ a) (S1 : Sta Z Z.heap "java/lang/String" "COMPACT_STRINGS" "Z" (.int G1)) (P1 : ¬ G1 = 0) (OL : Old Z n0 h0) :
    MetFree l y_6 (head1 (Jvm.Cond.code y_6 jdk_68_method_2_code 2 none :: ws) ({ frames := 1, cells := 1, slots := 16, locals := 12 } : Room)) (fun aa_ U => aa_ = #[(.ref a), (.int (16 : Int32))] ∧ Z.Warmed39 U.vm ∧ U.heap = h0) (fun _ _ _ _ _ => True) (fun _ U o U' => ∃ vv_ LL_, o = .returned vv_ ∧ Q_abi Z a G1 h0 n0 vv_ U'.heap LL_ ∧ FrameEnd U o U' LL_ 1 16) := by
  refine MetFree.of_bodySF (plainFor_of_name pn_java_lang_AbstractStringBuilder) hisR ?_
  intro p e s m args below meth c s₁ Bd hml0 hP hK
  obtain ⟨rfl, hZ, hh⟩ := hP
  have hx := Bd.exec
  have hby := Bd.bytes
  have hml : c.maxLocals = 2 := hml0
  have hown : s.vm.findClass "java/lang/AbstractStringBuilder" = some m.cls := findClass_of_methodNamed Bd.named
  have hnm := (name_of_methodNamed Bd.named Bd.method).1
  have X0 : Stand p l e ({ frames := 1, cells := 1, slots := 16, locals := 12 } : Room) s m #[(.ref a), (.int (16 : Int32))] below meth c s₁ [] 0 0 := Stand.of_body Bd
  have e0 : s₁.heap = h0 := by rw [← hh, Bd.state]; rfl
  have N0 := Fr.nil n0
  have ef : entryFrame m #[(.ref a), (.int (16 : Int32))] 2 = mkF m 0 #[.val (.ref a), .val (.int (16 : Int32))] [] := by first | (simp [entryFrame, mkF, argsToLocals, Value.category]; done) | rfl
  refine Fin.start (Q := Q_abi Z a G1 h0 n0) ef ?_
  refine Fin.by (fun tt_ kk_ => XS.aloadN X0.here hx rfl (hb hby d5_0) rfl rfl kk_) ?_
  obtain ⟨T101, X101, e101, st101⟩ := initO X0 hx hZ hown (w_ hw 75 rfl) (w_ hw 16 rfl) (w_ hw 17 rfl) e0 (g := (mkF m 1 #[.val (.ref a), .val (.int 16)] [(.ref a)])) rfl (by rw [hml]; rfl) rfl (hb hby d5_1) (by decide) (W := 0) (by show 2 * 0 + _ ≤ _; exact Nat.le_of_eq rfl) (by decide)
  refine Fin.by (fun tt_ kk_ => st101 tt_ kk_) ?_
  obtain ⟨T102, X102, e102, st102⟩ := getS X101 hx hZ (host := "") hown (w_ hw 76 rfl) Via.refl e101 (S1.ext OL.2) (g := (mkF m 4 #[.val (.ref a), .val (.int 16)] [])) rfl (hb hby d5_4)
  refine Fin.by (fun tt_ kk_ => st102 tt_ kk_) ?_
  show Fin _ _ _ _ _ _ _ (T102.setTop (mkF m 7 #[.val (.ref a), .val (.int 16)] [(.int G1)]))
  refine Fin.by (fun tt_ kk_ => XS.ifNo X102.here hx rfl (hb hby d5_7) rfl ((if0 _ _).trans (feq (P1 : ¬ G1 = (0 : Int32))).1) kk_) ?_
  refine Fin.by (fun tt_ kk_ => XS.aloadN X102.here hx rfl (hb hby d5_10) rfl rfl (XS.iloadN X102.here hx rfl (hb hby d5_11) rfl kk_)) ?_
  obtain ⟨T103, h103, k103, X103, e103, E103, A103, st103⟩ := newP X102 hx hZ (w_ hw 23 rfl) e102 (g := (mkF m 12 #[.val (.ref a), .val (.int 16)] [(.int 16), (.ref a)])) rfl (hb hby d5_12) rfl (by decide) (cap := 16) (by decide) (by decide) (by decide) (by decide)
  obtain ⟨a103, g103⟩ : ∃ z, z = h0.size := ⟨_, rfl⟩
  rw [← g103] at A103 st103
  refine Fin.by (fun tt_ kk_ => st103 tt_ kk_) ?_
  have V103 : Arv Z h103 a103 k103 .byte (16 : Int32) [] (.int (0 : Int32)) := Arv.new A103 (by decide)
  have F104 : Fld Z h103 a "java/lang/AbstractStringBuilder" "value" "[B" .null := (F0.ext E103)
  have E105 : Exa Z h103 a "java/lang/StringBuilder" := (E0.ext E103)
  obtain ⟨T106, h106, X106, e106, W106, st106⟩ := putF X103 hx hZ hown (host := "") (Or.inl (w_ hw 77 rfl)) Via.refl e103 F104 E105 (Or.inl (w_ hw 78 rfl)) (w_ hw 64 rfl) (ty := (.array .byte)) (by decide) rfl rfl (g := (mkF m 14 #[.val (.ref a), .val (.int 16)] [(.ref a103), (.ref a)])) rfl rfl (hb hby d5_14)
  refine Fin.by (fun tt_ kk_ => st106 tt_ kk_) ?_
  have N106_ := Fr.snoc X106 N0 ga
  refine Fin.by (fun tt_ kk_ => XS.aloadN X106.here hx rfl (hb hby d5_17) rfl rfl (XS.iconst X106.here hx rfl (hb hby d5_18) kk_)) ?_
  have F107 : Fld Z h106 a "java/lang/AbstractStringBuilder" "coder" "B" (.int (0 : Int32)) := ((F1.ext E103).other W106 (Or.inr (slot_ne (Or.inl (w_ hw 80 rfl)) (Or.inl (w_ hw 78 rfl)) (by decide) (t := .byte) (t' := (.array .byte)) (by decide) (by decide))))
  have E108 : Exa Z h106 a "java/lang/StringBuilder" := (E105.wr W106)
  obtain ⟨T109, h109, X109, e109, W109, st109⟩ := putFN X106 hx hZ hown (w_ hw 79 rfl) Via.refl e106 F107 E108 (Or.inl (w_ hw 80 rfl)) (w_ hw 64 rfl) (ty := .byte) (v' := .int (0 : Int32)) (by decide) rfl rfl (g := (mkF m 19 #[.val (.ref a), .val (.int 16)] [(.int 0), (.ref a)])) rfl rfl (hb hby d5_19)
  refine Fin.by (fun tt_ kk_ => st109 tt_ kk_) ?_
  have N109_ := Fr.snoc X109 N106_ ga
  refine Fin.by (fun tt_ kk_ => XS.goto X109.here hx rfl (pc0 := 22) (pc' := 38) rfl (hb hby d5_22) (by decide) (by decide) kk_) ?_
  have kp110 : Keep h0 h103 [a] := (Keep.refl h0 [a]).ext E103
  have kp111 : Keep h0 h106 [a] := kp110.wr W106 (Or.inl (List.mem_of_getElem? (i := 0) rfl))
  have kp112 : Keep h0 h109 [a] := kp111.wr W109 (Or.inl (List.mem_of_getElem? (i := 0) rfl))
  have E113 : Exa Z h109 a "java/lang/StringBuilder" := (E108.wr W109)
  have F114 : Fld Z h109 a "java/lang/AbstractStringBuilder" "value" "[B" (.ref a103) := ((F104.same W106).other W109 (Or.inr (slot_ne (Or.inl (w_ hw 78 rfl)) (Or.inl (w_ hw 80 rfl)) (by decide) (t := (.array .byte)) (t' := .byte) (by decide) (by decide))))
  have F115 : Fld Z h109 a "java/lang/AbstractStringBuilder" "count" "I" (.int (0 : Int32)) := (((F2.ext E103).other W106 (Or.inr (slot_ne (Or.inl (w_ hw 105 rfl)) (Or.inl (w_ hw 78 rfl)) (by decide) (t := .int) (t' := (.array .byte)) (by decide) (by decide)))).other W109 (Or.inr (slot_ne (Or.inl (w_ hw 105 rfl)) (Or.inl (w_ hw 80 rfl)) (by decide) (t := .int) (t' := .byte) (by decide) (by decide))))
  have ne116 : a ≠ a103 := Nat.ne_of_lt (Nat.lt_of_lt_of_le E0.lt (Nat.le_of_eq g103.symm))
  have A117 : Arv Z h109 a103 k103 .byte (16 : Int32) [] (.int (0 : Int32)) := ((V103.other W106 (Ne.symm ne116)).other W109 (Ne.symm ne116))
  show Fin _ _ _ _ _ _ _ (T109.setTop (mkF m 38 #[.val (.ref a), .val (.int 16)] []))
  exact Fin.ret (v := none) X109 (fun _ => rfl) Bd.notSynchronized (by rw [e109]; exact ⟨a103, k103, rfl, N109_, kp112, (Nat.le_trans (Nat.le_refl _) (Nat.le_of_eq g103.symm)), E113, F114, (F107.same W109), F115, A117⟩) (by decide) (by decide) (fun fs hr => X109.returnOut hx Bd.returns (hb hby d5_38) hr)
abbrev y_7 : MethodName := (⟨"java/lang/StringBuilder", "<init>", "()V"⟩ : MethodName)
theorem d6_0 : decode jdk_67_method_1_code 0 = .ok (.aload_n 0, 1) := by decide +kernel
theorem d6_1 : decode jdk_67_method_1_code 1 = .ok (.bipush 16, 2) := by decide +kernel
theorem pd_279 : parseMethodDescriptor "(I)V" = some ⟨[.int], none⟩ := by decide +kernel
theorem d6_3 : decode jdk_67_method_1_code 3 = .ok (.invokespecial 1, 3) := by decide +kernel
theorem d6_6 : decode jdk_67_method_1_code 6 = .ok (.return_, 1) := by decide +kernel
theorem pn_java_lang_StringBuilder : plainName "java/lang/StringBuilder" = true := by first | (simp [plainName, overriddenIn]; done) | decide +kernel
def Q_sbi (Z : State) (a : Addr) (G1 : Int32) (h0 : Heap) (n0 : Nat) (vv_ : Option Value) (hh_ : Heap) (LL_ : List Loc) : Prop := ∃ (v : Addr), ∃ (kv : ClassId), vv_ = none ∧ Fr n0 LL_ ∧ Keep h0 hh_ [a] ∧ h0.size ≤ v ∧ Exa Z hh_ a "java/lang/StringBuilder" ∧ Fld Z hh_ a "java/lang/AbstractStringBuilder" "value" "[B" (.ref v) ∧ Fld Z hh_ a "java/lang/AbstractStringBuilder" "coder" "B" (.int (0 : Int32)) ∧ Fld Z hh_ a "java/lang/AbstractStringBuilder" "count" "I" (.int (0 : Int32)) ∧ Arv Z hh_ v kv .byte (16 : Int32) [] (.int 0)
set_option maxRecDepth 65536 in
set_option maxHeartbeats 40000000 in
theorem rm_sbi (l : Launch) (Z : State) (a0 : Array Value) (hw : ∀ d ∈ tables_1, d.before a0 Z = true) (ws : List Jvm.Cond) (a : Addr) (G1 : Int32) (h0 : Heap) (n0 : Nat) (Z0 : n0 ≤ h0.size) (E0 : Exa Z h0 a "java/lang/StringBuilder") (F0 : Fld Z h0 a "java/lang/AbstractStringBuilder" "value" "[B" .null) (F1 : Fld Z h0 a "java/lang/AbstractStringBuilder" "coder" "B" (.int (0 : Int32))) (F2 : Fld Z h0 a "java/lang/AbstractStringBuilder" "count" "I" (.int (0 : Int32))) (ga : n0 ≤ a) (S1 : Sta Z Z.heap "java/lang/String" "COMPACT_STRINGS" "Z" (.int G1)) (P1 : ¬ G1 = 0) (OL : Old Z n0 h0) :
    MetFree l y_7 (head1 (Jvm.Cond.code y_7 jdk_67_method_1_code 1 none :: ws) ({ frames := 2, cells := 1, slots := 16, locals := 25 } : Room)) (fun aa_ U => aa_ = #[(.ref a)] ∧ Z.Warmed39 U.vm ∧ U.heap = h0) (fun _ _ _ _ _ => True) (fun _ U o U' => ∃ vv_ LL_, o = .returned vv_ ∧ Q_sbi Z a G1 h0 n0 vv_ U'.heap LL_ ∧ FrameEnd U o U' LL_ 1 16) := by
  refine MetFree.of_bodySF (plainFor_of_name pn_java_lang_StringBuilder) hisR ?_
  intro p e s m args below meth c s₁ Bd hml0 hP hK
  obtain ⟨rfl, hZ, hh⟩ := hP
  have hx := Bd.exec
  have hby := Bd.bytes
  have hml : c.maxLocals = 1 := hml0
  have hown : s.vm.findClass "java/lang/StringBuilder" = some m.cls := findClass_of_methodNamed Bd.named
  have hnm := (name_of_methodNamed Bd.named Bd.method).1
  have X0 : Stand p l e ({ frames := 2, cells := 1, slots := 16, locals := 25 } : Room) s m #[(.ref a)] below meth c s₁ [] 0 0 := Stand.of_body Bd
  have e0 : s₁.heap = h0 := by rw [← hh, Bd.state]; rfl
  have N0 := Fr.nil n0
  have ef : entryFrame m #[(.ref a)] 1 = mkF m 0 #[.val (.ref a)] [] := by first | (simp [entryFrame, mkF, argsToLocals, Value.category]; done) | rfl
  refine Fin.start (Q := Q_sbi Z a G1 h0 n0) ef ?_
  refine Fin.by (fun tt_ kk_ => XS.aloadN X0.here hx rfl (hb hby d6_0) rfl rfl (XS.bipush X0.here hx rfl (hb hby d6_1) kk_)) ?_
  obtain ⟨v101, _, ⟨T101, L101, k101, n101⟩, -, X101, ⟨Lc101, hQ101, l101, y101, z101⟩, st101⟩ := X0.specialBack hx (y := y_6) rfl hown (mvT hZ (w_ hw 69 rfl)) (mvT hZ (w_ hw 70 rfl)) (mvT hZ (w_ hw 74 rfl)) (by decide) (backOf (W := 0) (rm_abi l Z a0 hw [] a G1 h0 n0 Z0 E0 F0 F1 F2 ga S1 P1 OL) hZ (w_ hw 74 rfl) (w_ hw 73 rfl) (by decide) (by decide)) (g := (mkF m 3 #[.val (.ref a)] [(.int 16), (.ref a)])) rfl (by rw [hml]; rfl) (Steps.refl _) (a := a) (argsL := [(.int 16)]) (rest := []) (lenOf pd_279 rfl) rfl (by show 2 * 0 + _ ≤ _; exact Nat.le_of_eq rfl) (hb hby d6_3) (fun _ _ => ⟨rfl, e0, (by decide : 0 + 1 ≤ _), (by decide : 0 + 16 ≤ _)⟩)
  dsimp only [Pt.U, Pt.locs, Pt.cells, Pt.slots] at X101 l101 y101 z101 st101 hQ101
  subst l101 y101 z101
  obtain ⟨v102, kv103, rfl, Nq101, p101_0, p101_1, p101_2, p101_3, p101_4, p101_5, p101_6⟩ := hQ101
  have N101_ := Fr.app N0 Nq101
  refine Fin.byS st101 ?_
  have kp104 : Keep h0 T101.heap [a] := (Keep.refl h0 [a]).trans p101_0 (allS (Or.inl (List.mem_of_getElem? (i := 0) rfl)) all0)
  show Fin _ _ _ _ _ _ _ (T101.setTop (mkF m 6 #[.val (.ref a)] []))
  exact Fin.ret (v := none) X101 (fun _ => rfl) Bd.notSynchronized (⟨v102, kv103, rfl, N101_, kp104, (Nat.le_trans (Nat.le_refl _) p101_1), p101_2, p101_3, p101_4, p101_5, p101_6⟩) (by decide) (by decide) (fun fs hr => X101.returnOut hx Bd.returns (hb hby d6_6) hr)
abbrev y_8 : MethodName := (⟨"java/lang/Math", "max", "(II)I"⟩ : MethodName)
theorem d7_0 : decode jdk_29_method_65_code 0 = .ok (.iload_n 0, 1) := by decide +kernel
theorem d7_1 : decode jdk_29_method_65_code 1 = .ok (.iload_n 1, 1) := by decide +kernel
theorem d7_2 : decode jdk_29_method_65_code 2 = .ok (.if_icmp .lt 7, 3) := by decide +kernel
theorem d7_9 : decode jdk_29_method_65_code 9 = .ok (.iload_n 1, 1) := by decide +kernel
theorem d7_10 : decode jdk_29_method_65_code 10 = .ok (.ireturn, 1) := by decide +kernel
def Q_mx (Z : State) (x : Int32) (y : Int32) (h0 : Heap) (n0 : Nat) (vv_ : Option Value) (hh_ : Heap) (LL_ : List Loc) : Prop := vv_ = some (.int y) ∧ Fr n0 LL_ ∧ hh_ = h0
set_option maxRecDepth 65536 in
set_option maxHeartbeats 40000000 in
theorem rm_mx (l : Launch) (Z : State) (a0 : Array Value) (hw : ∀ d ∈ tables_1, d.before a0 Z = true) (ws : List Jvm.Cond) (x : Int32) (y : Int32) (h0 : Heap) (n0 : Nat) (Z0 : n0 ≤ h0.size) (hxy : x < y) :
    MetFree l y_8 (head1 (Jvm.Cond.code y_8 jdk_29_method_65_code 2 (some .int) :: ws) ({ frames := 0, cells := 0, slots := 0, locals := 0 } : Room)) (fun aa_ U => aa_ = #[(.int x), (.int y)] ∧ Z.Warmed39 U.vm ∧ U.heap = h0) (fun _ _ _ _ _ => True) (fun _ U o U' => ∃ vv_ LL_, o = .returned vv_ ∧ Q_mx Z x y h0 n0 vv_ U'.heap LL_ ∧ FrameEnd U o U' LL_ 0 0) := by
  refine MetFree.of_bodySF (Jvm.Free.JP.mathPlain rfl (by decide +kernel)) hisR ?_
  intro p e s m args below meth c s₁ Bd hml0 hP hK
  obtain ⟨rfl, hZ, hh⟩ := hP
  have hx := Bd.exec
  have hby := Bd.bytes
  have hml : c.maxLocals = 2 := hml0
  have hown : s.vm.findClass "java/lang/Math" = some m.cls := findClass_of_methodNamed Bd.named
  have hnm := (name_of_methodNamed Bd.named Bd.method).1
  have X0 : Stand p l e ({ frames := 0, cells := 0, slots := 0, locals := 0 } : Room) s m #[(.int x), (.int y)] below meth c s₁ [] 0 0 := Stand.of_body Bd
  have e0 : s₁.heap = h0 := by rw [← hh, Bd.state]; rfl
  have N0 := Fr.nil n0
  have ef : entryFrame m #[(.int x), (.int y)] 2 = mkF m 0 #[.val (.int x), .val (.int y)] [] := by first | (simp [entryFrame, mkF, argsToLocals, Value.category]; done) | rfl
  refine Fin.start (Q := Q_mx Z x y h0 n0) ef ?_
  refine Fin.by (fun tt_ kk_ => XS.iloadN X0.here hx rfl (hb hby d7_0) rfl (XS.iloadN X0.here hx rfl (hb hby d7_1) rfl kk_)) ?_
  show Fin _ _ _ _ _ _ _ (s₁.setTop (mkF m 2 #[.val (.int x), .val (.int y)] [(.int y), (.int x)]))
  refine Fin.by (fun tt_ kk_ => XS.icmpYes X0.here hx rfl (pc0 := 2) (pc' := 9) rfl (hb hby d7_2) rfl (tlt (hxy : x < y)).1 (by decide) (by decide) kk_) ?_
  refine Fin.by (fun tt_ kk_ => XS.iloadN X0.here hx rfl (hb hby d7_9) rfl kk_) ?_
  show Fin _ _ _ _ _ _ _ (s₁.setTop (mkF m 10 #[.val (.int x), .val (.int y)] [(.int y)]))
  exact Fin.ret (v := some (.int y)) X0 (fun h => by rw [Bd.returns] at h; cases h) Bd.notSynchronized (by rw [e0]; exact ⟨rfl, N0, rfl⟩) (by decide) (by decide) (fun fs hr => retI X0 hx Bd.returns (hb hby d7_10) hr)
abbrev y_9 : MethodName := (⟨"jdk/internal/util/ArraysSupport", "newLength", "(III)I"⟩ : MethodName)
theorem d8_0 : decode jdk_48_method_27_code 0 = .ok (.iload_n 0, 1) := by decide +kernel
theorem d8_1 : decode jdk_48_method_27_code 1 = .ok (.iload_n 1, 1) := by decide +kernel
theorem d8_2 : decode jdk_48_method_27_code 2 = .ok (.iload_n 2, 1) := by decide +kernel
theorem pd_291 : parseMethodDescriptor "(II)I" = some ⟨[.int, .int], some .int⟩ := by decide +kernel
theorem d8_3 : decode jdk_48_method_27_code 3 = .ok (.invokestatic 194, 3) := by decide +kernel
theorem d8_6 : decode jdk_48_method_27_code 6 = .ok (.iadd, 1) := by decide +kernel
theorem d8_7 : decode jdk_48_method_27_code 7 = .ok (.istore_n 3, 1) := by decide +kernel
theorem d8_8 : decode jdk_48_method_27_code 8 = .ok (.iconst 0, 1) := by decide +kernel
theorem d8_9 : decode jdk_48_method_27_code 9 = .ok (.iload_n 3, 1) := by decide +kernel
theorem d8_10 : decode jdk_48_method_27_code 10 = .ok (.if_icmp .ge 11, 3) := by decide +kernel
theorem d8_13 : decode jdk_48_method_27_code 13 = .ok (.iload_n 3, 1) := by decide +kernel
theorem d8_14 : decode jdk_48_method_27_code 14 = .ok (.ldc 200, 2) := by decide +kernel
theorem d8_16 : decode jdk_48_method_27_code 16 = .ok (.if_icmp .gt 5, 3) := by decide +kernel
theorem d8_19 : decode jdk_48_method_27_code 19 = .ok (.iload_n 3, 1) := by decide +kernel
theorem d8_20 : decode jdk_48_method_27_code 20 = .ok (.ireturn, 1) := by decide +kernel
theorem pn_jdk_internal_util_ArraysSupport : plainName "jdk/internal/util/ArraysSupport" = true := by first | (simp [plainName, overriddenIn]; done) | decide +kernel
def Q_nl16_5 (Z : State)  (h0 : Heap) (n0 : Nat) (vv_ : Option Value) (hh_ : Heap) (LL_ : List Loc) : Prop := vv_ = some (.int (34 : Int32)) ∧ Fr n0 LL_ ∧ hh_ = h0
set_option maxRecDepth 65536 in
set_option maxHeartbeats 40000000 in
theorem rm_nl16_5 (l : Launch) (Z : State) (a0 : Array Value) (hw : ∀ d ∈ tables_1, d.before a0 Z = true) (ws : List Jvm.Cond)  (h0 : Heap) (n0 : Nat) (Z0 : n0 ≤ h0.size) :
    MetFree l y_9 (head1 (Jvm.Cond.code y_9 jdk_48_method_27_code 4 (some .int) :: ws) ({ frames := 1, cells := 0, slots := 0, locals := 14 } : Room)) (fun aa_ U => aa_ = #[(.int (16 : Int32)), (.int (5 : Int32)), (.int (18 : Int32))] ∧ Z.Warmed39 U.vm ∧ U.heap = h0) (fun _ _ _ _ _ => True) (fun _ U o U' => ∃ vv_ LL_, o = .returned vv_ ∧ Q_nl16_5 Z  h0 n0 vv_ U'.heap LL_ ∧ FrameEnd U o U' LL_ 0 0) := by
  refine MetFree.of_bodySF (plainFor_of_name pn_jdk_internal_util_ArraysSupport) hisR ?_
  intro p e s m args below meth c s₁ Bd hml0 hP hK
  obtain ⟨rfl, hZ, hh⟩ := hP
  have hx := Bd.exec
  have hby := Bd.bytes
  have hml : c.maxLocals = 4 := hml0
  have hown : s.vm.findClass "jdk/internal/util/ArraysSupport" = some m.cls := findClass_of_methodNamed Bd.named
  have hnm := (name_of_methodNamed Bd.named Bd.method).1
  have X0 : Stand p l e ({ frames := 1, cells := 0, slots := 0, locals := 14 } : Room) s m #[(.int (16 : Int32)), (.int (5 : Int32)), (.int (18 : Int32))] below meth c s₁ [] 0 0 := Stand.of_body Bd
  have e0 : s₁.heap = h0 := by rw [← hh, Bd.state]; rfl
  have N0 := Fr.nil n0
  have ef : entryFrame m #[(.int (16 : Int32)), (.int (5 : Int32)), (.int (18 : Int32))] 4 = mkF m 0 #[.val (.int (16 : Int32)), .val (.int (5 : Int32)), .val (.int (18 : Int32)), .unset] [] := by first | (simp [entryFrame, mkF, argsToLocals, Value.category]; done) | rfl
  refine Fin.start (Q := Q_nl16_5 Z  h0 n0) ef ?_
  refine Fin.by (fun tt_ kk_ => XS.iloadN X0.here hx rfl (hb hby d8_0) rfl (XS.iloadN X0.here hx rfl (hb hby d8_1) rfl (XS.iloadN X0.here hx rfl (hb hby d8_2) rfl kk_))) ?_
  obtain ⟨v101, _, ⟨T101, L101, k101, n101⟩, -, X101, ⟨Lc101, hQ101, l101, y101, z101⟩, st101⟩ := Jvm.LawKit.callS X0 hx (y := y_8) hown (mvT hZ (w_ hw 120 rfl)) (mvT hZ (w_ hw 121 rfl)) (mvT hZ (w_ hw 122 rfl)) (mvT hZ (w_ hw 123 rfl)) (by decide) (backOf (W := 1) (rm_mx l Z a0 hw [] (5 : Int32) (18 : Int32) h0 n0 Z0 (by decide)) hZ (w_ hw 123 rfl) (w_ hw 122 rfl) (by decide) (by decide)) (g := (mkF m 3 #[.val (.int 16), .val (.int 5), .val (.int 18), .unset] [(.int 18), (.int 5), (.int 16)])) rfl (by rw [hml]; rfl) (argsL := [(.int 5), (.int 18)]) (rest := [(.int 16)]) (lenOf pd_291 rfl) rfl (by show 2 * 0 + _ ≤ _; exact Nat.le_of_eq rfl) (hb hby d8_3) (fun _ _ => ⟨rfl, e0, (by decide : 0 + 0 ≤ _), (by decide : 0 + 0 ≤ _)⟩)
  dsimp only [Pt.U, Pt.locs, Pt.cells, Pt.slots] at X101 l101 y101 z101 st101 hQ101
  subst l101 y101 z101
  obtain ⟨rfl, Nq101, e101_⟩ := hQ101
  have N101_ := Fr.app N0 Nq101
  refine Fin.by (fun tt_ kk_ => st101 tt_ kk_) ?_
  have e101 := e101_
  refine Fin.by (fun tt_ kk_ => XS.iadd X101.here hx rfl (hb hby d8_6) rfl (XS.istoreN X101.here hx rfl (hb hby d8_7) rfl (l' := #[.val (.int 16), .val (.int 5), .val (.int 18), .val (.int 34)]) rfl (XS.iconst X101.here hx rfl (hb hby d8_8) (XS.iloadN X101.here hx rfl (hb hby d8_9) rfl kk_)))) ?_
  show Fin _ _ _ _ _ _ _ (T101.setTop (mkF m 10 #[.val (.int 16), .val (.int 5), .val (.int 18), .val (.int 34)] [(.int 34), (.int 0)]))
  refine Fin.by (fun tt_ kk_ => XS.icmpNo X101.here hx rfl (hb hby d8_10) rfl (tlt (by decide : (0 : Int32) < (34 : Int32))).2.1 kk_) ?_
  refine Fin.by (fun tt_ kk_ => XS.iloadN X101.here hx rfl (hb hby d8_13) rfl kk_) ?_
  refine Fin.by (fun tt_ kk_ => X101.ldcInt hx hown (mvT hZ (w_ hw 124 rfl)) (g := (mkF m 14 #[.val (.int 16), .val (.int 5), .val (.int 18), .val (.int 34)] [(.int 34)])) rfl (hb hby d8_14) _ kk_) ?_
  show Fin _ _ _ _ _ _ _ (T101.setTop (mkF m 16 #[.val (.int 16), .val (.int 5), .val (.int 18), .val (.int 34)] [(.int 2147483639), (.int 34)]))
  refine Fin.by (fun tt_ kk_ => XS.icmpNo X101.here hx rfl (hb hby d8_16) rfl (flt (by decide : ¬ (2147483639 : Int32) < (34 : Int32))).2.2.1 kk_) ?_
  refine Fin.by (fun tt_ kk_ => XS.iloadN X101.here hx rfl (hb hby d8_19) rfl kk_) ?_
  show Fin _ _ _ _ _ _ _ (T101.setTop (mkF m 20 #[.val (.int 16), .val (.int 5), .val (.int 18), .val (.int 34)] [(.int 34)]))
  exact Fin.ret (v := some (.int (34 : Int32))) X101 (fun h => by rw [Bd.returns] at h; cases h) Bd.notSynchronized (by rw [e101]; exact ⟨rfl, N101_, rfl⟩) (by decide) (by decide) (fun fs hr => retI X101 hx Bd.returns (hb hby d8_20) hr)
abbrev y_10 : MethodName := (⟨"java/lang/AbstractStringBuilder", "newCapacity", "(I)I"⟩ : MethodName)
theorem d9_0 : decode jdk_68_method_10_code 0 = .ok (.aload_n 0, 1) := by decide +kernel
theorem d9_1 : decode jdk_68_method_10_code 1 = .ok (.getfield 15, 3) := by decide +kernel
theorem d9_4 : decode jdk_68_method_10_code 4 = .ok (.arraylength, 1) := by decide +kernel
theorem d9_5 : decode jdk_68_method_10_code 5 = .ok (.istore_n 2, 1) := by decide +kernel
theorem d9_6 : decode jdk_68_method_10_code 6 = .ok (.iload_n 1, 1) := by decide +kernel
theorem d9_7 : decode jdk_68_method_10_code 7 = .ok (.aload_n 0, 1) := by decide +kernel
theorem d9_8 : decode jdk_68_method_10_code 8 = .ok (.getfield 22, 3) := by decide +kernel
theorem d9_11 : decode jdk_68_method_10_code 11 = .ok (.ishl, 1) := by decide +kernel
theorem d9_12 : decode jdk_68_method_10_code 12 = .ok (.istore_n 3, 1) := by decide +kernel
theorem d9_13 : decode jdk_68_method_10_code 13 = .ok (.iload_n 3, 1) := by decide +kernel
theorem d9_14 : decode jdk_68_method_10_code 14 = .ok (.iload_n 2, 1) := by decide +kernel
theorem d9_15 : decode jdk_68_method_10_code 15 = .ok (.isub, 1) := by decide +kernel
theorem d9_16 : decode jdk_68_method_10_code 16 = .ok (.istore 4, 2) := by decide +kernel
theorem d9_18 : decode jdk_68_method_10_code 18 = .ok (.iload_n 2, 1) := by decide +kernel
theorem d9_19 : decode jdk_68_method_10_code 19 = .ok (.iload 4, 2) := by decide +kernel
theorem d9_21 : decode jdk_68_method_10_code 21 = .ok (.iload_n 2, 1) := by decide +kernel
theorem d9_22 : decode jdk_68_method_10_code 22 = .ok (.iconst 2, 1) := by decide +kernel
theorem d9_23 : decode jdk_68_method_10_code 23 = .ok (.aload_n 0, 1) := by decide +kernel
theorem d9_24 : decode jdk_68_method_10_code 24 = .ok (.getfield 22, 3) := by decide +kernel
theorem d9_27 : decode jdk_68_method_10_code 27 = .ok (.ishl, 1) := by decide +kernel
theorem d9_28 : decode jdk_68_method_10_code 28 = .ok (.iadd, 1) := by decide +kernel
theorem pd_325 : parseMethodDescriptor "(III)I" = some ⟨[.int, .int, .int], some .int⟩ := by decide +kernel
theorem d9_29 : decode jdk_68_method_10_code 29 = .ok (.invokestatic 114, 3) := by decide +kernel
theorem d9_32 : decode jdk_68_method_10_code 32 = .ok (.istore 5, 2) := by decide +kernel
theorem d9_34 : decode jdk_68_method_10_code 34 = .ok (.iload 5, 2) := by decide +kernel
theorem d9_36 : decode jdk_68_method_10_code 36 = .ok (.ldc 39, 2) := by decide +kernel
theorem d9_38 : decode jdk_68_method_10_code 38 = .ok (.if_icmp .ne 13, 3) := by decide +kernel
theorem d9_51 : decode jdk_68_method_10_code 51 = .ok (.iload 5, 2) := by decide +kernel
theorem d9_53 : decode jdk_68_method_10_code 53 = .ok (.aload_n 0, 1) := by decide +kernel
theorem d9_54 : decode jdk_68_method_10_code 54 = .ok (.getfield 22, 3) := by decide +kernel
theorem d9_57 : decode jdk_68_method_10_code 57 = .ok (.ishr, 1) := by decide +kernel
theorem d9_58 : decode jdk_68_method_10_code 58 = .ok (.ireturn, 1) := by decide +kernel
def Q_nc16_21 (Z : State) (a : Addr) (v : Addr) (kv : ClassId) (vs : List Value) (h0 : Heap) (n0 : Nat) (vv_ : Option Value) (hh_ : Heap) (LL_ : List Loc) : Prop := vv_ = some (.int (34 : Int32)) ∧ Fr n0 LL_ ∧ hh_ = h0
set_option maxRecDepth 65536 in
set_option maxHeartbeats 40000000 in
theorem rm_nc16_21 (l : Launch) (Z : State) (a0 : Array Value) (hw : ∀ d ∈ tables_1, d.before a0 Z = true) (ws : List Jvm.Cond) (a : Addr) (v : Addr) (kv : ClassId) (vs : List Value) (h0 : Heap) (n0 : Nat) (Z0 : n0 ≤ h0.size) (E0 : Exa Z h0 a "java/lang/StringBuilder") (F0 : Fld Z h0 a "java/lang/AbstractStringBuilder" "value" "[B" (.ref v)) (F1 : Fld Z h0 a "java/lang/AbstractStringBuilder" "coder" "B" (.int (0 : Int32))) (A0 : Arv Z h0 v kv .byte (16 : Int32) vs (.int 0)) :
    MetFree l y_10 (head1 (Jvm.Cond.code y_10 jdk_68_method_10_code 6 (some .int) :: ws) ({ frames := 2, cells := 0, slots := 0, locals := 29 } : Room)) (fun aa_ U => aa_ = #[(.ref a), (.int (21 : Int32))] ∧ Z.Warmed39 U.vm ∧ U.heap = h0) (fun _ _ _ _ _ => True) (fun _ U o U' => ∃ vv_ LL_, o = .returned vv_ ∧ Q_nc16_21 Z a v kv vs h0 n0 vv_ U'.heap LL_ ∧ FrameEnd U o U' LL_ 0 0) := by
  refine MetFree.of_bodySF (plainFor_of_name pn_java_lang_AbstractStringBuilder) hisR ?_
  intro p e s m args below meth c s₁ Bd hml0 hP hK
  obtain ⟨rfl, hZ, hh⟩ := hP
  have hx := Bd.exec
  have hby := Bd.bytes
  have hml : c.maxLocals = 6 := hml0
  have hown : s.vm.findClass "java/lang/AbstractStringBuilder" = some m.cls := findClass_of_methodNamed Bd.named
  have hnm := (name_of_methodNamed Bd.named Bd.method).1
  have X0 : Stand p l e ({ frames := 2, cells := 0, slots := 0, locals := 29 } : Room) s m #[(.ref a), (.int (21 : Int32))] below meth c s₁ [] 0 0 := Stand.of_body Bd
  have e0 : s₁.heap = h0 := by rw [← hh, Bd.state]; rfl
  have N0 := Fr.nil n0
  have ef : entryFrame m #[(.ref a), (.int (21 : Int32))] 6 = mkF m 0 #[.val (.ref a), .val (.int (21 : Int32)), .unset, .unset, .unset, .unset] [] := by first | (simp [entryFrame, mkF, argsToLocals, Value.category]; done) | rfl
  refine Fin.start (Q := Q_nc16_21 Z a v kv vs h0 n0) ef ?_
  refine Fin.by (fun tt_ kk_ => XS.aloadN X0.here hx rfl (hb hby d9_0) rfl rfl kk_) ?_
  obtain ⟨T101, X101, e101, st101⟩ := getF X0 hx hZ hown (host := "") (Or.inl (w_ hw 77 rfl)) Via.refl e0 F0 (g := (mkF m 1 #[.val (.ref a), .val (.int 21), .unset, .unset, .unset, .unset] [(.ref a)])) rfl rfl (hb hby d9_1)
  refine Fin.by (fun tt_ kk_ => st101 tt_ kk_) ?_
  obtain ⟨cl102, Ar102, q102, S102, N102, H102, G102⟩ := id A0
  refine Fin.by (fun tt_ kk_ => X101.arraylength hx (by rw [e101]; exact Ar102.1) (State.isArrayOf_alike hZ.alike Ar102.2.1) (g := (mkF m 4 #[.val (.ref a), .val (.int 21), .unset, .unset, .unset, .unset] [(.ref v)])) rfl rfl (hb hby d9_4) _ kk_) ?_
  rw [len_of S102 N102]
  refine Fin.by (fun tt_ kk_ => XS.istoreN X101.here hx rfl (hb hby d9_5) rfl (l' := #[.val (.ref a), .val (.int 21), .val (.int 16), .unset, .unset, .unset]) rfl (XS.iloadN X101.here hx rfl (hb hby d9_6) rfl (XS.aloadN X101.here hx rfl (hb hby d9_7) rfl rfl kk_))) ?_
  obtain ⟨T103, X103, e103, st103⟩ := getF X101 hx hZ hown (host := "") (Or.inl (w_ hw 79 rfl)) Via.refl e101 F1 (g := (mkF m 8 #[.val (.ref a), .val (.int 21), .val (.int 16), .unset, .unset, .unset] [(.ref a), (.int 21)])) rfl rfl (hb hby d9_8)
  refine Fin.by (fun tt_ kk_ => st103 tt_ kk_) ?_
  refine Fin.by (fun tt_ kk_ => XS.ishl X103.here hx rfl (hb hby d9_11) rfl (XS.istoreN X103.here hx rfl (hb hby d9_12) rfl (l' := #[.val (.ref a), .val (.int 21), .val (.int 16), .val (.int 21), .unset, .unset]) rfl (XS.iloadN X103.here hx rfl (hb hby d9_13) rfl (XS.iloadN X103.here hx rfl (hb hby d9_14) rfl (XS.isub X103.here hx rfl (hb hby d9_15) rfl (XS.istore X103.here hx rfl (hb hby d9_16) rfl (l' := #[.val (.ref a), .val (.int 21), .val (.int 16), .val (.int 21), .val (.int 5), .unset]) rfl (XS.iloadN X103.here hx rfl (hb hby d9_18) rfl (XS.iload X103.here hx rfl (hb hby d9_19) rfl (XS.iloadN X103.here hx rfl (hb hby d9_21) rfl (XS.iconst X103.here hx rfl (hb hby d9_22) (XS.aloadN X103.here hx rfl (hb hby d9_23) rfl rfl kk_))))))))))) ?_
  show Fin _ _ _ _ _ _ _ (T103.setTop (mkF m 24 #[.val (.ref a), .val (.int 21), .val (.int 16), .val (.int 21), .val (.int 5), .unset] [(.ref a), (.int 2), (.int 16), (.int 5), (.int 16)]))
  obtain ⟨T104, X104, e104, st104⟩ := getF X103 hx hZ hown (host := "") (Or.inl (w_ hw 79 rfl)) Via.refl e103 F1 (g := (mkF m 24 #[.val (.ref a), .val (.int 21), .val (.int 16), .val (.int 21), .val (.int 5), .unset] [(.ref a), (.int 2), (.int 16), (.int 5), (.int 16)])) rfl rfl (hb hby d9_24)
  refine Fin.by (fun tt_ kk_ => st104 tt_ kk_) ?_
  refine Fin.by (fun tt_ kk_ => XS.ishl X104.here hx rfl (hb hby d9_27) rfl (XS.iadd X104.here hx rfl (hb hby d9_28) rfl kk_)) ?_
  show Fin _ _ _ _ _ _ _ (T104.setTop (mkF m 29 #[.val (.ref a), .val (.int 21), .val (.int 16), .val (.int 21), .val (.int 5), .unset] [(.int 18), (.int 5), (.int 16)]))
  obtain ⟨v105, _, ⟨T105, L105, k105, n105⟩, -, X105, ⟨Lc105, hQ105, l105, y105, z105⟩, st105⟩ := Jvm.LawKit.callS X104 hx (y := y_9) hown (mvT hZ (w_ hw 116 rfl)) (mvT hZ (w_ hw 117 rfl)) (mvT hZ (w_ hw 118 rfl)) (mvT hZ (w_ hw 119 rfl)) (by decide) (backOf (W := 0) (rm_nl16_5 l Z a0 hw []  h0 n0 Z0 ) hZ (w_ hw 119 rfl) (w_ hw 118 rfl) (by decide) (by decide)) (g := (mkF m 29 #[.val (.ref a), .val (.int 21), .val (.int 16), .val (.int 21), .val (.int 5), .unset] [(.int 18), (.int 5), (.int 16)])) rfl (by rw [hml]; rfl) (argsL := [(.int 16), (.int 5), (.int 18)]) (rest := []) (lenOf pd_325 rfl) rfl (by show 2 * 0 + _ ≤ _; exact Nat.le_of_eq rfl) (hb hby d9_29) (fun _ _ => ⟨rfl, e104, (by decide : 0 + 0 ≤ _), (by decide : 0 + 0 ≤ _)⟩)
  dsimp only [Pt.U, Pt.locs, Pt.cells, Pt.slots] at X105 l105 y105 z105 st105 hQ105
  subst l105 y105 z105
  obtain ⟨rfl, Nq105, e105_⟩ := hQ105
  have N105_ := Fr.app N0 Nq105
  refine Fin.by (fun tt_ kk_ => st105 tt_ kk_) ?_
  have e105 := e105_
  refine Fin.by (fun tt_ kk_ => XS.istore X105.here hx rfl (hb hby d9_32) rfl (l' := #[.val (.ref a), .val (.int 21), .val (.int 16), .val (.int 21), .val (.int 5), .val (.int 34)]) rfl (XS.iload X105.here hx rfl (hb hby d9_34) rfl kk_)) ?_
  refine Fin.by (fun tt_ kk_ => X105.ldcInt hx hown (mvT hZ (w_ hw 125 rfl)) (g := (mkF m 36 #[.val (.ref a), .val (.int 21), .val (.int 16), .val (.int 21), .val (.int 5), .val (.int 34)] [(.int 34)])) rfl (hb hby d9_36) _ kk_) ?_
  show Fin _ _ _ _ _ _ _ (T105.setTop (mkF m 38 #[.val (.ref a), .val (.int 21), .val (.int 16), .val (.int 21), .val (.int 5), .val (.int 34)] [(.int 2147483647), (.int 34)]))
  refine Fin.by (fun tt_ kk_ => XS.icmpYes X105.here hx rfl (pc0 := 38) (pc' := 51) rfl (hb hby d9_38) rfl (feq (by decide : ¬ (34 : Int32) = (2147483647 : Int32))).2 (by decide) (by decide) kk_) ?_
  refine Fin.by (fun tt_ kk_ => XS.iload X105.here hx rfl (hb hby d9_51) rfl (XS.aloadN X105.here hx rfl (hb hby d9_53) rfl rfl kk_)) ?_
  obtain ⟨T106, X106, e106, st106⟩ := getF X105 hx hZ hown (host := "") (Or.inl (w_ hw 79 rfl)) Via.refl e105 F1 (g := (mkF m 54 #[.val (.ref a), .val (.int 21), .val (.int 16), .val (.int 21), .val (.int 5), .val (.int 34)] [(.ref a), (.int 34)])) rfl rfl (hb hby d9_54)
  refine Fin.by (fun tt_ kk_ => st106 tt_ kk_) ?_
  refine Fin.by (fun tt_ kk_ => XS.ishr X106.here hx rfl (hb hby d9_57) rfl kk_) ?_
  show Fin _ _ _ _ _ _ _ (T106.setTop (mkF m 58 #[.val (.ref a), .val (.int 21), .val (.int 16), .val (.int 21), .val (.int 5), .val (.int 34)] [(.int 34)]))
  exact Fin.ret (v := some (.int (34 : Int32))) X106 (fun h => by rw [Bd.returns] at h; cases h) Bd.notSynchronized (by rw [e106]; exact ⟨rfl, N105_, rfl⟩) (by decide) (by decide) (fun fs hr => retI X106 hx Bd.returns (hb hby d9_58) hr)
abbrev y_11 : MethodName := (⟨"java/lang/Math", "min", "(II)I"⟩ : MethodName)
theorem d10_0 : decode jdk_29_method_69_code 0 = .ok (.iload_n 0, 1) := by decide +kernel
theorem d10_1 : decode jdk_29_method_69_code 1 = .ok (.iload_n 1, 1) := by decide +kernel
theorem d10_2 : decode jdk_29_method_69_code 2 = .ok (.if_icmp .gt 7, 3) := by decide +kernel
theorem d10_5 : decode jdk_29_method_69_code 5 = .ok (.iload_n 0, 1) := by decide +kernel
theorem d10_6 : decode jdk_29_method_69_code 6 = .ok (.goto 4, 3) := by decide +kernel
theorem d10_10 : decode jdk_29_method_69_code 10 = .ok (.ireturn, 1) := by decide +kernel
def Q_mnx (Z : State) (x : Int32) (y : Int32) (h0 : Heap) (n0 : Nat) (vv_ : Option Value) (hh_ : Heap) (LL_ : List Loc) : Prop := vv_ = some (.int x) ∧ Fr n0 LL_ ∧ hh_ = h0
set_option maxRecDepth 65536 in
set_option maxHeartbeats 40000000 in
theorem rm_mnx (l : Launch) (Z : State) (a0 : Array Value) (hw : ∀ d ∈ tables_1, d.before a0 Z = true) (ws : List Jvm.Cond) (x : Int32) (y : Int32) (h0 : Heap) (n0 : Nat) (Z0 : n0 ≤ h0.size) (hxy : ¬ y < x) :
    MetFree l y_11 (head1 (Jvm.Cond.code y_11 jdk_29_method_69_code 2 (some .int) :: ws) ({ frames := 0, cells := 0, slots := 0, locals := 0 } : Room)) (fun aa_ U => aa_ = #[(.int x), (.int y)] ∧ Z.Warmed39 U.vm ∧ U.heap = h0) (fun _ _ _ _ _ => True) (fun _ U o U' => ∃ vv_ LL_, o = .returned vv_ ∧ Q_mnx Z x y h0 n0 vv_ U'.heap LL_ ∧ FrameEnd U o U' LL_ 0 0) := by
  refine MetFree.of_bodySF (Jvm.Free.JP.mathPlain rfl (by decide +kernel)) hisR ?_
  intro p e s m args below meth c s₁ Bd hml0 hP hK
  obtain ⟨rfl, hZ, hh⟩ := hP
  have hx := Bd.exec
  have hby := Bd.bytes
  have hml : c.maxLocals = 2 := hml0
  have hown : s.vm.findClass "java/lang/Math" = some m.cls := findClass_of_methodNamed Bd.named
  have hnm := (name_of_methodNamed Bd.named Bd.method).1
  have X0 : Stand p l e ({ frames := 0, cells := 0, slots := 0, locals := 0 } : Room) s m #[(.int x), (.int y)] below meth c s₁ [] 0 0 := Stand.of_body Bd
  have e0 : s₁.heap = h0 := by rw [← hh, Bd.state]; rfl
  have N0 := Fr.nil n0
  have ef : entryFrame m #[(.int x), (.int y)] 2 = mkF m 0 #[.val (.int x), .val (.int y)] [] := by first | (simp [entryFrame, mkF, argsToLocals, Value.category]; done) | rfl
  refine Fin.start (Q := Q_mnx Z x y h0 n0) ef ?_
  refine Fin.by (fun tt_ kk_ => XS.iloadN X0.here hx rfl (hb hby d10_0) rfl (XS.iloadN X0.here hx rfl (hb hby d10_1) rfl kk_)) ?_
  show Fin _ _ _ _ _ _ _ (s₁.setTop (mkF m 2 #[.val (.int x), .val (.int y)] [(.int y), (.int x)]))
  refine Fin.by (fun tt_ kk_ => XS.icmpNo X0.here hx rfl (hb hby d10_2) rfl (flt (hxy : ¬ y < x)).2.2.1 kk_) ?_
  refine Fin.by (fun tt_ kk_ => XS.iloadN X0.here hx rfl (hb hby d10_5) rfl (XS.goto X0.here hx rfl (pc0 := 6) (pc' := 10) rfl (hb hby d10_6) (by decide) (by decide) kk_)) ?_
  show Fin _ _ _ _ _ _ _ (s₁.setTop (mkF m 10 #[.val (.int x), .val (.int y)] [(.int x)]))
  exact Fin.ret (v := some (.int x)) X0 (fun h => by rw [Bd.returns] at h; cases h) Bd.notSynchronized (by rw [e0]; exact ⟨rfl, N0, rfl⟩) (by decide) (by decide) (fun fs hr => retI X0 hx Bd.returns (hb hby d10_10) hr)
abbrev y_12 : MethodName := (⟨"java/util/Arrays", "copyOf", "([BI)[B"⟩ : MethodName)
theorem d11_0 : decode jdk_65_method_121_code 0 = .ok (.iload_n 1, 1) := by decide +kernel
theorem d11_1 : decode jdk_65_method_121_code 1 = .ok (.aload_n 0, 1) := by decide +kernel
theorem d11_2 : decode jdk_65_method_121_code 2 = .ok (.arraylength, 1) := by decide +kernel
theorem d11_3 : decode jdk_65_method_121_code 3 = .ok (.if_icmp .ne 11, 3) := by decide +kernel
theorem d11_14 : decode jdk_65_method_121_code 14 = .ok (.iload_n 1, 1) := by decide +kernel
theorem d11_15 : decode jdk_65_method_121_code 15 = .ok (.newarray .byte, 2) := by decide +kernel
theorem d11_17 : decode jdk_65_method_121_code 17 = .ok (.astore_n 2, 1) := by decide +kernel
theorem d11_18 : decode jdk_65_method_121_code 18 = .ok (.aload_n 0, 1) := by decide +kernel
theorem d11_19 : decode jdk_65_method_121_code 19 = .ok (.iconst 0, 1) := by decide +kernel
theorem d11_20 : decode jdk_65_method_121_code 20 = .ok (.aload_n 2, 1) := by decide +kernel
theorem d11_21 : decode jdk_65_method_121_code 21 = .ok (.iconst 0, 1) := by decide +kernel
theorem d11_22 : decode jdk_65_method_121_code 22 = .ok (.aload_n 0, 1) := by decide +kernel
theorem d11_23 : decode jdk_65_method_121_code 23 = .ok (.arraylength, 1) := by decide +kernel
theorem d11_24 : decode jdk_65_method_121_code 24 = .ok (.iload_n 1, 1) := by decide +kernel
theorem d11_25 : decode jdk_65_method_121_code 25 = .ok (.invokestatic 304, 3) := by decide +kernel
theorem d11_28 : decode jdk_65_method_121_code 28 = .ok (.invokestatic 150, 3) := by decide +kernel
theorem d11_31 : decode jdk_65_method_121_code 31 = .ok (.aload_n 2, 1) := by decide +kernel
theorem d11_32 : decode jdk_65_method_121_code 32 = .ok (.areturn, 1) := by decide +kernel
theorem pn_java_util_Arrays : plainName "java/util/Arrays" = true := by first | (simp [plainName, overriddenIn]; done) | decide +kernel
def Q_cpo16_34 (Z : State) (v : Addr) (kv : ClassId) (vs : List Value) (h0 : Heap) (n0 : Nat) (vv_ : Option Value) (hh_ : Heap) (LL_ : List Loc) : Prop := ∃ (t : Addr), ∃ (k : ClassId), vv_ = some (.ref t) ∧ Fr n0 LL_ ∧ Keep h0 hh_ [] ∧ h0.size ≤ t ∧ Arv Z hh_ t k .byte (34 : Int32) vs (.int 0)
set_option maxRecDepth 65536 in
set_option maxHeartbeats 40000000 in
theorem rm_cpo16_34 (l : Launch) (Z : State) (a0 : Array Value) (hw : ∀ d ∈ tables_1, d.before a0 Z = true) (ws : List Jvm.Cond) (v : Addr) (kv : ClassId) (vs : List Value) (h0 : Heap) (n0 : Nat) (Z0 : n0 ≤ h0.size) (hl : vs.length ≤ 16) (A0 : Arv Z h0 v kv .byte (16 : Int32) vs (.int 0)) :
    MetFree l y_12 (head1 (Jvm.Cond.code y_12 jdk_65_method_121_code 3 (some (.array .byte)) :: ws) ({ frames := 1, cells := 1, slots := 34, locals := 18 } : Room)) (fun aa_ U => aa_ = #[(.ref v), (.int (34 : Int32))] ∧ Z.Warmed39 U.vm ∧ U.heap = h0) (fun _ _ _ _ _ => True) (fun _ U o U' => ∃ vv_ LL_, o = .returned vv_ ∧ Q_cpo16_34 Z v kv vs h0 n0 vv_ U'.heap LL_ ∧ FrameEnd U o U' LL_ 1 34) := by
  refine MetFree.of_bodySF (plainFor_of_name pn_java_util_Arrays) hisR ?_
  intro p e s m args below meth c s₁ Bd hml0 hP hK
  obtain ⟨rfl, hZ, hh⟩ := hP
  have hx := Bd.exec
  have hby := Bd.bytes
  have hml : c.maxLocals = 3 := hml0
  have hown : s.vm.findClass "java/util/Arrays" = some m.cls := findClass_of_methodNamed Bd.named
  have hnm := (name_of_methodNamed Bd.named Bd.method).1
  have X0 : Stand p l e ({ frames := 1, cells := 1, slots := 34, locals := 18 } : Room) s m #[(.ref v), (.int (34 : Int32))] below meth c s₁ [] 0 0 := Stand.of_body Bd
  have e0 : s₁.heap = h0 := by rw [← hh, Bd.state]; rfl
  have N0 := Fr.nil n0
  have ef : entryFrame m #[(.ref v), (.int (34 : Int32))] 3 = mkF m 0 #[.val (.ref v), .val (.int (34 : Int32)), .unset] [] := by first | (simp [entryFrame, mkF, argsToLocals, Value.category]; done) | rfl
  refine Fin.start (Q := Q_cpo16_34 Z v kv vs h0 n0) ef ?_
  refine Fin.by (fun tt_ kk_ => XS.iloadN X0.here hx rfl (hb hby d11_0) rfl (XS.aloadN X0.here hx rfl (hb hby d11_1) rfl rfl kk_)) ?_
  obtain ⟨cl101, Ar101, q101, S101, N101, H101, G101⟩ := id A0
  refine Fin.by (fun tt_ kk_ => X0.arraylength hx (by rw [e0]; exact Ar101.1) (State.isArrayOf_alike hZ.alike Ar101.2.1) (g := (mkF m 2 #[.val (.ref v), .val (.int 34), .unset] [(.ref v), (.int 34)])) rfl rfl (hb hby d11_2) _ kk_) ?_
  rw [len_of S101 N101]
  show Fin _ _ _ _ _ _ _ (s₁.setTop (mkF m 3 #[.val (.ref v), .val (.int 34), .unset] [(.int 16), (.int 34)]))
  refine Fin.by (fun tt_ kk_ => XS.icmpYes X0.here hx rfl (pc0 := 3) (pc' := 14) rfl (hb hby d11_3) rfl (feq (by decide : ¬ (34 : Int32) = (16 : Int32))).2 (by decide) (by decide) kk_) ?_
  refine Fin.by (fun tt_ kk_ => XS.iloadN X0.here hx rfl (hb hby d11_14) rfl kk_) ?_
  obtain ⟨T102, h102, k102, X102, e102, E102, A102, st102⟩ := newP X0 hx hZ (w_ hw 23 rfl) e0 (g := (mkF m 15 #[.val (.ref v), .val (.int 34), .unset] [(.int 34)])) rfl (hb hby d11_15) rfl (by decide) (cap := 34) (by decide) (by decide) (by decide) (by decide)
  obtain ⟨a102, g102⟩ : ∃ z, z = h0.size := ⟨_, rfl⟩
  rw [← g102] at A102 st102
  refine Fin.by (fun tt_ kk_ => st102 tt_ kk_) ?_
  have V102 : Arv Z h102 a102 k102 .byte (34 : Int32) [] (.int (0 : Int32)) := Arv.new A102 (by decide)
  refine Fin.by (fun tt_ kk_ => XS.astoreN X102.here hx rfl (hb hby d11_17) rfl rfl (l' := #[.val (.ref v), .val (.int 34), .val (.ref a102)]) rfl (XS.aloadN X102.here hx rfl (hb hby d11_18) rfl rfl (XS.iconst X102.here hx rfl (hb hby d11_19) (XS.aloadN X102.here hx rfl (hb hby d11_20) rfl rfl (XS.iconst X102.here hx rfl (hb hby d11_21) (XS.aloadN X102.here hx rfl (hb hby d11_22) rfl rfl kk_)))))) ?_
  have A103 : Arv Z h102 v kv .byte (16 : Int32) vs (.int 0) := (A0.ext E102)
  obtain ⟨cl104, Ar104, q104, S104, N104, H104, G104⟩ := id A103
  refine Fin.by (fun tt_ kk_ => X102.arraylength hx (by rw [e102]; exact Ar104.1) (State.isArrayOf_alike hZ.alike Ar104.2.1) (g := (mkF m 23 #[.val (.ref v), .val (.int 34), .val (.ref a102)] [(.ref v), (.int 0), (.ref a102), (.int 0), (.ref v)])) rfl rfl (hb hby d11_23) _ kk_) ?_
  rw [len_of S104 N104]
  refine Fin.by (fun tt_ kk_ => XS.iloadN X102.here hx rfl (hb hby d11_24) rfl kk_) ?_
  have z105 : n0 ≤ h102.size := Nat.le_trans Z0 E102.1
  obtain ⟨v106, _, ⟨T106, L106, k106, n106⟩, -, X106, ⟨Lc106, hQ106, l106, y106, z106⟩, st106⟩ := Jvm.LawKit.callS X102 hx (y := y_11) hown (mvT hZ (w_ hw 130 rfl)) (mvT hZ (w_ hw 131 rfl)) (mvT hZ (w_ hw 122 rfl)) (mvT hZ (w_ hw 132 rfl)) (by decide) (backOf (W := 4) (rm_mnx l Z a0 hw [] (16 : Int32) (34 : Int32) h102 n0 z105 (by decide)) hZ (w_ hw 132 rfl) (w_ hw 122 rfl) (by decide) (by decide)) (g := (mkF m 25 #[.val (.ref v), .val (.int 34), .val (.ref a102)] [(.int 34), (.int 16), (.int 0), (.ref a102), (.int 0), (.ref v)])) rfl (by rw [hml]; rfl) (argsL := [(.int 16), (.int 34)]) (rest := [(.int 0), (.ref a102), (.int 0), (.ref v)]) (lenOf pd_291 rfl) rfl (by show 2 * 0 + _ ≤ _; exact Nat.le_of_eq rfl) (hb hby d11_25) (fun _ _ => ⟨rfl, e102, (by decide : 1 + 0 ≤ _), (by decide : 34 + 0 ≤ _)⟩)
  dsimp only [Pt.U, Pt.locs, Pt.cells, Pt.slots] at X106 l106 y106 z106 st106 hQ106
  subst l106 y106 z106
  obtain ⟨rfl, Nq106, e106_⟩ := hQ106
  have N106_ := Fr.app N0 Nq106
  refine Fin.by (fun tt_ kk_ => st106 tt_ kk_) ?_
  have e106 := e106_
  have g107 : n0 ≤ a102 := Nat.le_trans Z0 (Nat.le_of_eq g102.symm)
  obtain ⟨T108, h108, L108, X108, e108, Nc108, K108, V108, st108⟩ := own_cp X106 hx hZ hown (w_ hw 133 rfl) (w_ hw 136 rfl) (w_ hw 134 rfl) (w_ hw 135 rfl) e106 A103 V102 (by decide) (by decide) (by decide) (by decide) rfl (Nat.le_trans hl (by decide)) N106_ g107 (g := (mkF m 28 #[.val (.ref v), .val (.int 34), .val (.ref a102)] [(.int 16), (.int 0), (.ref a102), (.int 0), (.ref v)])) rfl (by rw [hml]; rfl) rfl (hb hby d11_28) (by decide) (W := 0) (by show 2 * 0 + _ ≤ _; exact Nat.le_of_eq rfl) (by decide)
  refine Fin.by (fun tt_ kk_ => st108 tt_ kk_) ?_
  refine Fin.by (fun tt_ kk_ => XS.aloadN X108.here hx rfl (hb hby d11_31) rfl rfl kk_) ?_
  have kp109 : Keep h0 h102 [] := (Keep.refl h0 []).ext E102
  have kp110 : Keep h0 h108 [] := kp109.trans K108 (allS (Or.inr (Nat.le_trans (Nat.le_refl _) (Nat.le_of_eq g102.symm))) all0)
  show Fin _ _ _ _ _ _ _ (T108.setTop (mkF m 32 #[.val (.ref v), .val (.int 34), .val (.ref a102)] [(.ref a102)]))
  exact Fin.ret (v := some (.ref a102)) X108 (fun h => by rw [Bd.returns] at h; cases h) Bd.notSynchronized (by rw [e108]; exact ⟨a102, k102, rfl, Nc108, kp110, (Nat.le_trans (Nat.le_refl _) (Nat.le_of_eq g102.symm)), V108⟩) (by decide) (by decide) (fun fs hr => retA X108 hx Bd.returns rfl rfl (hb hby d11_32) hr)
abbrev y_13 : MethodName := (⟨"java/lang/AbstractStringBuilder", "ensureCapacityInternal", "(I)V"⟩ : MethodName)
theorem d12_0 : decode jdk_68_method_9_code 0 = .ok (.aload_n 0, 1) := by decide +kernel
theorem d12_1 : decode jdk_68_method_9_code 1 = .ok (.getfield 15, 3) := by decide +kernel
theorem d12_4 : decode jdk_68_method_9_code 4 = .ok (.arraylength, 1) := by decide +kernel
theorem d12_5 : decode jdk_68_method_9_code 5 = .ok (.aload_n 0, 1) := by decide +kernel
theorem d12_6 : decode jdk_68_method_9_code 6 = .ok (.getfield 22, 3) := by decide +kernel
theorem d12_9 : decode jdk_68_method_9_code 9 = .ok (.ishr, 1) := by decide +kernel
theorem d12_10 : decode jdk_68_method_9_code 10 = .ok (.istore_n 2, 1) := by decide +kernel
theorem d12_11 : decode jdk_68_method_9_code 11 = .ok (.iload_n 1, 1) := by decide +kernel
theorem d12_12 : decode jdk_68_method_9_code 12 = .ok (.iload_n 2, 1) := by decide +kernel
theorem d12_13 : decode jdk_68_method_9_code 13 = .ok (.isub, 1) := by decide +kernel
theorem d12_14 : decode jdk_68_method_9_code 14 = .ok (.ifCond .le 24, 3) := by decide +kernel
theorem d12_17 : decode jdk_68_method_9_code 17 = .ok (.aload_n 0, 1) := by decide +kernel
theorem d12_18 : decode jdk_68_method_9_code 18 = .ok (.aload_n 0, 1) := by decide +kernel
theorem d12_19 : decode jdk_68_method_9_code 19 = .ok (.getfield 15, 3) := by decide +kernel
theorem d12_22 : decode jdk_68_method_9_code 22 = .ok (.aload_n 0, 1) := by decide +kernel
theorem d12_23 : decode jdk_68_method_9_code 23 = .ok (.iload_n 1, 1) := by decide +kernel
theorem pd_377 : parseMethodDescriptor "(I)I" = some ⟨[.int], some .int⟩ := by decide +kernel
theorem d12_24 : decode jdk_68_method_9_code 24 = .ok (.invokevirtual 104, 3) := by decide +kernel
theorem d12_27 : decode jdk_68_method_9_code 27 = .ok (.aload_n 0, 1) := by decide +kernel
theorem d12_28 : decode jdk_68_method_9_code 28 = .ok (.getfield 22, 3) := by decide +kernel
theorem d12_31 : decode jdk_68_method_9_code 31 = .ok (.ishl, 1) := by decide +kernel
theorem pd_382 : parseMethodDescriptor "([BI)[B" = some ⟨[(.array .byte), .int], some (.array .byte)⟩ := by decide +kernel
theorem d12_32 : decode jdk_68_method_9_code 32 = .ok (.invokestatic 108, 3) := by decide +kernel
theorem d12_35 : decode jdk_68_method_9_code 35 = .ok (.putfield 15, 3) := by decide +kernel
theorem d12_38 : decode jdk_68_method_9_code 38 = .ok (.return_, 1) := by decide +kernel
def Q_eci16_21 (Z : State) (a : Addr) (v : Addr) (kv : ClassId) (vs : List Value) (ct : Int32) (h0 : Heap) (n0 : Nat) (vv_ : Option Value) (hh_ : Heap) (LL_ : List Loc) : Prop := ∃ (t : Addr), ∃ (k : ClassId), vv_ = none ∧ Fr n0 LL_ ∧ Keep h0 hh_ [a] ∧ h0.size ≤ t ∧ Exa Z hh_ a "java/lang/StringBuilder" ∧ Fld Z hh_ a "java/lang/AbstractStringBuilder" "value" "[B" (.ref t) ∧ Fld Z hh_ a "java/lang/AbstractStringBuilder" "coder" "B" (.int (0 : Int32)) ∧ Fld Z hh_ a "java/lang/AbstractStringBuilder" "count" "I" (.int ct) ∧ Arv Z hh_ t k .byte (34 : Int32) vs (.int 0)
set_option maxRecDepth 65536 in
set_option maxHeartbeats 40000000 in
theorem rm_eci16_21 (l : Launch) (Z : State) (a0 : Array Value) (hw : ∀ d ∈ tables_1, d.before a0 Z = true) (ws : List Jvm.Cond) (a : Addr) (v : Addr) (kv : ClassId) (vs : List Value) (ct : Int32) (h0 : Heap) (n0 : Nat) (Z0 : n0 ≤ h0.size) (hl : vs.length ≤ 16) (E0 : Exa Z h0 a "java/lang/StringBuilder") (F0 : Fld Z h0 a "java/lang/AbstractStringBuilder" "value" "[B" (.ref v)) (F1 : Fld Z h0 a "java/lang/AbstractStringBuilder" "coder" "B" (.int (0 : Int32))) (F2 : Fld Z h0 a "java/lang/AbstractStringBuilder" "count" "I" (.int ct)) (A0 : Arv Z h0 v kv .byte (16 : Int32) vs (.int 0)) (ga : n0 ≤ a) :
    MetFree l y_13 (head1 (Jvm.Cond.code y_13 jdk_68_method_9_code 3 none :: ws) ({ frames := 3, cells := 1, slots := 34, locals := 48 } : Room)) (fun aa_ U => aa_ = #[(.ref a), (.int (21 : Int32))] ∧ Z.Warmed39 U.vm ∧ U.heap = h0) (fun _ _ _ _ _ => True) (fun _ U o U' => ∃ vv_ LL_, o = .returned vv_ ∧ Q_eci16_21 Z a v kv vs ct h0 n0 vv_ U'.heap LL_ ∧ FrameEnd U o U' LL_ 1 34) := by
  refine MetFree.of_bodySF (plainFor_of_name pn_java_lang_AbstractStringBuilder) hisR ?_
  intro p e s m args below meth c s₁ Bd hml0 hP hK
  obtain ⟨rfl, hZ, hh⟩ := hP
  have hx := Bd.exec
  have hby := Bd.bytes
  have hml : c.maxLocals = 3 := hml0
  have hown : s.vm.findClass "java/lang/AbstractStringBuilder" = some m.cls := findClass_of_methodNamed Bd.named
  have hnm := (name_of_methodNamed Bd.named Bd.method).1
  have X0 : Stand p l e ({ frames := 3, cells := 1, slots := 34, locals := 48 } : Room) s m #[(.ref a), (.int (21 : Int32))] below meth c s₁ [] 0 0 := Stand.of_body Bd
  have e0 : s₁.heap = h0 := by rw [← hh, Bd.state]; rfl
  have N0 := Fr.nil n0
  have ef : entryFrame m #[(.ref a), (.int (21 : Int32))] 3 = mkF m 0 #[.val (.ref a), .val (.int (21 : Int32)), .unset] [] := by first | (simp [entryFrame, mkF, argsToLocals, Value.category]; done) | rfl
  refine Fin.start (Q := Q_eci16_21 Z a v kv vs ct h0 n0) ef ?_
  refine Fin.by (fun tt_ kk_ => XS.aloadN X0.here hx rfl (hb hby d12_0) rfl rfl kk_) ?_
  obtain ⟨T101, X101, e101, st101⟩ := getF X0 hx hZ hown (host := "") (Or.inl (w_ hw 77 rfl)) Via.refl e0 F0 (g := (mkF m 1 #[.val (.ref a), .val (.int 21), .unset] [(.ref a)])) rfl rfl (hb hby d12_1)
  refine Fin.by (fun tt_ kk_ => st101 tt_ kk_) ?_
  obtain ⟨cl102, Ar102, q102, S102, N102, H102, G102⟩ := id A0
  refine Fin.by (fun tt_ kk_ => X101.arraylength hx (by rw [e101]; exact Ar102.1) (State.isArrayOf_alike hZ.alike Ar102.2.1) (g := (mkF m 4 #[.val (.ref a), .val (.int 21), .unset] [(.ref v)])) rfl rfl (hb hby d12_4) _ kk_) ?_
  rw [len_of S102 N102]
  refine Fin.by (fun tt_ kk_ => XS.aloadN X101.here hx rfl (hb hby d12_5) rfl rfl kk_) ?_
  obtain ⟨T103, X103, e103, st103⟩ := getF X101 hx hZ hown (host := "") (Or.inl (w_ hw 79 rfl)) Via.refl e101 F1 (g := (mkF m 6 #[.val (.ref a), .val (.int 21), .unset] [(.ref a), (.int 16)])) rfl rfl (hb hby d12_6)
  refine Fin.by (fun tt_ kk_ => st103 tt_ kk_) ?_
  refine Fin.by (fun tt_ kk_ => XS.ishr X103.here hx rfl (hb hby d12_9) rfl (XS.istoreN X103.here hx rfl (hb hby d12_10) rfl (l' := #[.val (.ref a), .val (.int 21), .val (.int 16)]) rfl (XS.iloadN X103.here hx rfl (hb hby d12_11) rfl (XS.iloadN X103.here hx rfl (hb hby d12_12) rfl (XS.isub X103.here hx rfl (hb hby d12_13) rfl kk_))))) ?_
  show Fin _ _ _ _ _ _ _ (T103.setTop (mkF m 14 #[.val (.ref a), .val (.int 21), .val (.int 16)] [(.int 5)]))
  refine Fin.by (fun tt_ kk_ => XS.ifNo X103.here hx rfl (hb hby d12_14) rfl ((if0 _ _).trans (tlt (by decide : (0 : Int32) < (5 : Int32))).2.2.2) kk_) ?_
  refine Fin.by (fun tt_ kk_ => XS.aloadN X103.here hx rfl (hb hby d12_17) rfl rfl (XS.aloadN X103.here hx rfl (hb hby d12_18) rfl rfl kk_)) ?_
  obtain ⟨T104, X104, e104, st104⟩ := getF X103 hx hZ hown (host := "") (Or.inl (w_ hw 77 rfl)) Via.refl e103 F0 (g := (mkF m 19 #[.val (.ref a), .val (.int 21), .val (.int 16)] [(.ref a), (.ref a)])) rfl rfl (hb hby d12_19)
  refine Fin.by (fun tt_ kk_ => st104 tt_ kk_) ?_
  refine Fin.by (fun tt_ kk_ => XS.aloadN X104.here hx rfl (hb hby d12_22) rfl rfl (XS.iloadN X104.here hx rfl (hb hby d12_23) rfl kk_)) ?_
  obtain ⟨cq105, qa105, qb105⟩ := E0.cell
  obtain ⟨v105, _, ⟨T105, L105, k105, n105⟩, -, X105, ⟨Lc105, hQ105, l105, y105, z105⟩, st105⟩ := X104.privateBack hx (y := y_10) hown (mvT hZ (w_ hw 111 rfl)) (mvT hZ (w_ hw 112 rfl)) (own_selpriv (z := y_13) (y := y_10) (mvT hZ (w_ hw 109 rfl)) rfl (Cond.privateMethod_at (mvP hZ (w_ hw 113 rfl) (args := #[]))) (mvT hZ (w_ hw 112 rfl)) (by decide)) (Cond.privateMethod_at (mvP hZ (w_ hw 113 rfl) (args := #[]))) (mvT hZ (w_ hw 115 rfl)) (by decide) (backOf (W := 2) (rm_nc16_21 l Z a0 hw [] a v kv (vs : List Value) h0 n0 Z0 E0 F0 F1 A0) hZ (w_ hw 115 rfl) (w_ hw 73 rfl) (by decide) (by decide)) (g := (mkF m 24 #[.val (.ref a), .val (.int 21), .val (.int 16)] [(.int 21), (.ref a), (.ref v), (.ref a)])) rfl (by rw [hml]; rfl) (Steps.refl _) (a := a) (by rw [e104]; exact qa105) qb105 (argsL := [(.int 21)]) (rest := [(.ref v), (.ref a)]) (lenOf pd_377 rfl) rfl (by show 2 * 0 + _ ≤ _; exact Nat.le_of_eq rfl) (hb hby d12_24) (fun _ _ => ⟨rfl, e104, (by decide : 0 + 0 ≤ _), (by decide : 0 + 0 ≤ _)⟩)
  dsimp only [Pt.U, Pt.locs, Pt.cells, Pt.slots] at X105 l105 y105 z105 st105 hQ105
  subst l105 y105 z105
  obtain ⟨rfl, Nq105, e105_⟩ := hQ105
  have N105_ := Fr.app N0 Nq105
  refine Fin.byS st105 ?_
  have e105 := e105_
  refine Fin.by (fun tt_ kk_ => XS.aloadN X105.here hx rfl (hb hby d12_27) rfl rfl kk_) ?_
  obtain ⟨T106, X106, e106, st106⟩ := getF X105 hx hZ hown (host := "") (Or.inl (w_ hw 79 rfl)) Via.refl e105 F1 (g := (mkF m 28 #[.val (.ref a), .val (.int 21), .val (.int 16)] [(.ref a), (.int 34), (.ref v), (.ref a)])) rfl rfl (hb hby d12_28)
  refine Fin.by (fun tt_ kk_ => st106 tt_ kk_) ?_
  refine Fin.by (fun tt_ kk_ => XS.ishl X106.here hx rfl (hb hby d12_31) rfl kk_) ?_
  show Fin _ _ _ _ _ _ _ (T106.setTop (mkF m 32 #[.val (.ref a), .val (.int 21), .val (.int 16)] [(.int 34), (.ref v), (.ref a)]))
  obtain ⟨v107, _, ⟨T107, L107, k107, n107⟩, -, X107, ⟨Lc107, hQ107, l107, y107, z107⟩, st107⟩ := Jvm.LawKit.callS X106 hx (y := y_12) hown (mvT hZ (w_ hw 126 rfl)) (mvT hZ (w_ hw 127 rfl)) (mvT hZ (w_ hw 128 rfl)) (mvT hZ (w_ hw 129 rfl)) (by decide) (backOf (W := 1) (rm_cpo16_34 l Z a0 hw [] v kv (vs : List Value) h0 n0 Z0 hl A0) hZ (w_ hw 129 rfl) (w_ hw 128 rfl) (by decide) (by decide)) (g := (mkF m 32 #[.val (.ref a), .val (.int 21), .val (.int 16)] [(.int 34), (.ref v), (.ref a)])) rfl (by rw [hml]; rfl) (argsL := [(.ref v), (.int 34)]) (rest := [(.ref a)]) (lenOf pd_382 rfl) rfl (by show 2 * 0 + _ ≤ _; exact Nat.le_of_eq rfl) (hb hby d12_32) (fun _ _ => ⟨rfl, e106, (by decide : 0 + 1 ≤ _), (by decide : 0 + 34 ≤ _)⟩)
  dsimp only [Pt.U, Pt.locs, Pt.cells, Pt.slots] at X107 l107 y107 z107 st107 hQ107
  subst l107 y107 z107
  obtain ⟨t108, k109, rfl, Nq107, p107_0, p107_1, p107_2⟩ := hQ107
  have N107_ := Fr.app N105_ Nq107
  refine Fin.by (fun tt_ kk_ => st107 tt_ kk_) ?_
  have F110 : Fld Z T107.heap a "java/lang/AbstractStringBuilder" "value" "[B" (.ref v) := (F0.keep p107_0 nin0)
  have E111 : Exa Z T107.heap a "java/lang/StringBuilder" := (E0.keep p107_0)
  obtain ⟨T112, h112, X112, e112, W112, st112⟩ := putF X107 hx hZ hown (host := "") (Or.inl (w_ hw 77 rfl)) Via.refl rfl F110 E111 (Or.inl (w_ hw 78 rfl)) (w_ hw 64 rfl) (ty := (.array .byte)) (by decide) rfl rfl (g := (mkF m 35 #[.val (.ref a), .val (.int 21), .val (.int 16)] [(.ref t108), (.ref a)])) rfl rfl (hb hby d12_35)
  refine Fin.by (fun tt_ kk_ => st112 tt_ kk_) ?_
  have N112_ := Fr.snoc X112 N107_ ga
  have kp113 : Keep h0 T107.heap [a] := (Keep.refl h0 [a]).trans p107_0 all0
  have kp114 : Keep h0 h112 [a] := kp113.wr W112 (Or.inl (List.mem_of_getElem? (i := 0) rfl))
  have E115 : Exa Z h112 a "java/lang/StringBuilder" := (E111.wr W112)
  have F116 : Fld Z h112 a "java/lang/AbstractStringBuilder" "coder" "B" (.int (0 : Int32)) := ((F1.keep p107_0 nin0).other W112 (Or.inr (slot_ne (Or.inl (w_ hw 80 rfl)) (Or.inl (w_ hw 78 rfl)) (by decide) (t := .byte) (t' := (.array .byte)) (by decide) (by decide))))
  have F117 : Fld Z h112 a "java/lang/AbstractStringBuilder" "count" "I" (.int ct) := ((F2.keep p107_0 nin0).other W112 (Or.inr (slot_ne (Or.inl (w_ hw 105 rfl)) (Or.inl (w_ hw 78 rfl)) (by decide) (t := .int) (t' := (.array .byte)) (by decide) (by decide))))
  have ne118 : a ≠ t108 := Nat.ne_of_lt (Nat.lt_of_lt_of_le E0.lt p107_1)
  have A119 : Arv Z h112 t108 k109 .byte (34 : Int32) (vs : List Value) (.int 0) := (p107_2.other W112 (Ne.symm ne118))
  show Fin _ _ _ _ _ _ _ (T112.setTop (mkF m 38 #[.val (.ref a), .val (.int 21), .val (.int 16)] []))
  exact Fin.ret (v := none) X112 (fun _ => rfl) Bd.notSynchronized (by rw [e112]; exact ⟨t108, k109, rfl, N112_, kp114, (Nat.le_trans (Nat.le_refl _) p107_1), E115, (F110.same W112), F116, F117, A119⟩) (by decide) (by decide) (fun fs hr => X112.returnOut hx Bd.returns (hb hby d12_38) hr)
abbrev y_14 : MethodName := (⟨"java/lang/String", "coder", "()B"⟩ : MethodName)
theorem d13_0 : decode jdk_42_method_152_code 0 = .ok (.getstatic 38, 3) := by decide +kernel
theorem d13_3 : decode jdk_42_method_152_code 3 = .ok (.ifCond .eq 10, 3) := by decide +kernel
theorem d13_6 : decode jdk_42_method_152_code 6 = .ok (.aload_n 0, 1) := by decide +kernel
theorem d13_7 : decode jdk_42_method_152_code 7 = .ok (.getfield 15, 3) := by decide +kernel
theorem d13_10 : decode jdk_42_method_152_code 10 = .ok (.goto 4, 3) := by decide +kernel
theorem d13_14 : decode jdk_42_method_152_code 14 = .ok (.ireturn, 1) := by decide +kernel
theorem pn_java_lang_String : plainName "java/lang/String" = true := by first | (simp [plainName, overriddenIn]; done) | decide +kernel
def Q_cod (Z : State) (x : Addr) (G1 : Int32) (h0 : Heap) (n0 : Nat) (vv_ : Option Value) (hh_ : Heap) (LL_ : List Loc) : Prop := vv_ = some (.int (0 : Int32)) ∧ Fr n0 LL_ ∧ hh_ = h0
set_option maxRecDepth 65536 in
set_option maxHeartbeats 40000000 in
theorem rm_cod (l : Launch) (Z : State) (a0 : Array Value) (hw : ∀ d ∈ tables_1, d.before a0 Z = true) (ws : List Jvm.Cond) (x : Addr) (G1 : Int32) (h0 : Heap) (n0 : Nat) (Z0 : n0 ≤ h0.size) (F4 : Fld Z h0 x "java/lang/String" "coder" "B" (.int (0 : Int32))) (S1 : Sta Z Z.heap "java/lang/String" "COMPACT_STRINGS" "Z" (.int G1)) (P1 : ¬ G1 = 0) (OL : Old Z n0 h0) :
    MetFree l y_14 (head1 (Jvm.Cond.code y_14 jdk_42_method_152_code 1 (some .byte) :: ws) ({ frames := 0, cells := 0, slots := 0, locals := 0 } : Room)) (fun aa_ U => aa_ = #[(.ref x)] ∧ Z.Warmed39 U.vm ∧ U.heap = h0) (fun _ _ _ _ _ => True) (fun _ U o U' => ∃ vv_ LL_, o = .returned vv_ ∧ Q_cod Z x G1 h0 n0 vv_ U'.heap LL_ ∧ FrameEnd U o U' LL_ 0 0) := by
  refine MetFree.of_bodySF (plainFor_of_name pn_java_lang_String) hisR ?_
  intro p e s m args below meth c s₁ Bd hml0 hP hK
  obtain ⟨rfl, hZ, hh⟩ := hP
  have hx := Bd.exec
  have hby := Bd.bytes
  have hml : c.maxLocals = 1 := hml0
  have hown : s.vm.findClass "java/lang/String" = some m.cls := findClass_of_methodNamed Bd.named
  have hnm := (name_of_methodNamed Bd.named Bd.method).1
  have X0 : Stand p l e ({ frames := 0, cells := 0, slots := 0, locals := 0 } : Room) s m #[(.ref x)] below meth c s₁ [] 0 0 := Stand.of_body Bd
  have e0 : s₁.heap = h0 := by rw [← hh, Bd.state]; rfl
  have N0 := Fr.nil n0
  have ef : entryFrame m #[(.ref x)] 1 = mkF m 0 #[.val (.ref x)] [] := by first | (simp [entryFrame, mkF, argsToLocals, Value.category]; done) | rfl
  refine Fin.start (Q := Q_cod Z x G1 h0 n0) ef ?_
  obtain ⟨T101, X101, e101, st101⟩ := getS X0 hx hZ (host := "") hown (w_ hw 18 rfl) Via.refl e0 (S1.ext OL.2) (g := (mkF m 0 #[.val (.ref x)] [])) rfl (hb hby d13_0)
  refine Fin.by (fun tt_ kk_ => st101 tt_ kk_) ?_
  show Fin _ _ _ _ _ _ _ (T101.setTop (mkF m 3 #[.val (.ref x)] [(.int G1)]))
  refine Fin.by (fun tt_ kk_ => XS.ifNo X101.here hx rfl (hb hby d13_3) rfl ((if0 _ _).trans (feq (P1 : ¬ G1 = (0 : Int32))).1) kk_) ?_
  refine Fin.by (fun tt_ kk_ => XS.aloadN X101.here hx rfl (hb hby d13_6) rfl rfl kk_) ?_
  obtain ⟨T102, X102, e102, st102⟩ := getF X101 hx hZ hown (host := "") (Or.inl (w_ hw 30 rfl)) Via.refl e101 F4 (g := (mkF m 7 #[.val (.ref x)] [(.ref x)])) rfl rfl (hb hby d13_7)
  refine Fin.by (fun tt_ kk_ => st102 tt_ kk_) ?_
  refine Fin.by (fun tt_ kk_ => XS.goto X102.here hx rfl (pc0 := 10) (pc' := 14) rfl (hb hby d13_10) (by decide) (by decide) kk_) ?_
  show Fin _ _ _ _ _ _ _ (T102.setTop (mkF m 14 #[.val (.ref x)] [(.int 0)]))
  exact Fin.ret (v := some (.int (nar .byte (0 : Int32)))) X102 (fun h => by rw [Bd.returns] at h; cases h) Bd.notSynchronized (by rw [e102]; exact ⟨rfl, N0, rfl⟩) (by decide) (by decide) (fun fs hr => retN X102 hx (t := .byte) Bd.returns (by simp) (hb hby d13_14) hr)
abbrev y_15 : MethodName := (⟨"java/lang/AbstractStringBuilder", "inflateIfNeededFor", "(Ljava/lang/String;)V"⟩ : MethodName)
theorem d14_0 : decode jdk_68_method_71_code 0 = .ok (.getstatic 18, 3) := by decide +kernel
theorem d14_3 : decode jdk_68_method_71_code 3 = .ok (.ifCond .eq 18, 3) := by decide +kernel
theorem d14_6 : decode jdk_68_method_71_code 6 = .ok (.aload_n 0, 1) := by decide +kernel
theorem d14_7 : decode jdk_68_method_71_code 7 = .ok (.getfield 22, 3) := by decide +kernel
theorem d14_10 : decode jdk_68_method_71_code 10 = .ok (.aload_n 1, 1) := by decide +kernel
theorem pd_398 : parseMethodDescriptor "()B" = some ⟨[], some .byte⟩ := by decide +kernel
theorem d14_11 : decode jdk_68_method_71_code 11 = .ok (.invokevirtual 40, 3) := by decide +kernel
theorem d14_14 : decode jdk_68_method_71_code 14 = .ok (.if_icmp .eq 7, 3) := by decide +kernel
theorem d14_21 : decode jdk_68_method_71_code 21 = .ok (.return_, 1) := by decide +kernel
def Q_inf (Z : State) (a : Addr) (x : Addr) (G1 : Int32) (h0 : Heap) (n0 : Nat) (vv_ : Option Value) (hh_ : Heap) (LL_ : List Loc) : Prop := vv_ = none ∧ Fr n0 LL_ ∧ hh_ = h0
set_option maxRecDepth 65536 in
set_option maxHeartbeats 40000000 in
theorem rm_inf (l : Launch) (Z : State) (a0 : Array Value) (hw : ∀ d ∈ tables_1, d.before a0 Z = true) (ws : List Jvm.Cond) (a : Addr) (x : Addr) (G1 : Int32) (h0 : Heap) (n0 : Nat) (Z0 : n0 ≤ h0.size) (E0 : Exa Z h0 a "java/lang/StringBuilder") (F1 : Fld Z h0 a "java/lang/AbstractStringBuilder" "coder" "B" (.int (0 : Int32))) (E1 : Exa Z h0 x "java/lang/String") (F4 : Fld Z h0 x "java/lang/String" "coder" "B" (.int (0 : Int32))) (S1 : Sta Z Z.heap "java/lang/String" "COMPACT_STRINGS" "Z" (.int G1)) (P1 : ¬ G1 = 0) (OL : Old Z n0 h0) :
    MetFree l y_15 (head1 (Jvm.Cond.code y_15 jdk_68_method_71_code 2 none :: ws) ({ frames := 1, cells := 0, slots := 0, locals := 13 } : Room)) (fun aa_ U => aa_ = #[(.ref a), (.ref x)] ∧ Z.Warmed39 U.vm ∧ U.heap = h0) (fun _ _ _ _ _ => True) (fun _ U o U' => ∃ vv_ LL_, o = .returned vv_ ∧ Q_inf Z a x G1 h0 n0 vv_ U'.heap LL_ ∧ FrameEnd U o U' LL_ 0 0) := by
  refine MetFree.of_bodySF (plainFor_of_name pn_java_lang_AbstractStringBuilder) hisR ?_
  intro p e s m args below meth c s₁ Bd hml0 hP hK
  obtain ⟨rfl, hZ, hh⟩ := hP
  have hx := Bd.exec
  have hby := Bd.bytes
  have hml : c.maxLocals = 2 := hml0
  have hown : s.vm.findClass "java/lang/AbstractStringBuilder" = some m.cls := findClass_of_methodNamed Bd.named
  have hnm := (name_of_methodNamed Bd.named Bd.method).1
  have X0 : Stand p l e ({ frames := 1, cells := 0, slots := 0, locals := 13 } : Room) s m #[(.ref a), (.ref x)] below meth c s₁ [] 0 0 := Stand.of_body Bd
  have e0 : s₁.heap = h0 := by rw [← hh, Bd.state]; rfl
  have N0 := Fr.nil n0
  have ef : entryFrame m #[(.ref a), (.ref x)] 2 = mkF m 0 #[.val (.ref a), .val (.ref x)] [] := by first | (simp [entryFrame, mkF, argsToLocals, Value.category]; done) | rfl
  refine Fin.start (Q := Q_inf Z a x G1 h0 n0) ef ?_
  obtain ⟨T101, X101, e101, st101⟩ := getS X0 hx hZ (host := "") hown (w_ hw 76 rfl) Via.refl e0 (S1.ext OL.2) (g := (mkF m 0 #[.val (.ref a), .val (.ref x)] [])) rfl (hb hby d14_0)
  refine Fin.by (fun tt_ kk_ => st101 tt_ kk_) ?_
  show Fin _ _ _ _ _ _ _ (T101.setTop (mkF m 3 #[.val (.ref a), .val (.ref x)] [(.int G1)]))
  refine Fin.by (fun tt_ kk_ => XS.ifNo X101.here hx rfl (hb hby d14_3) rfl ((if0 _ _).trans (feq (P1 : ¬ G1 = (0 : Int32))).1) kk_) ?_
  refine Fin.by (fun tt_ kk_ => XS.aloadN X101.here hx rfl (hb hby d14_6) rfl rfl kk_) ?_
  obtain ⟨T102, X102, e102, st102⟩ := getF X101 hx hZ hown (host := "") (Or.inl (w_ hw 79 rfl)) Via.refl e101 F1 (g := (mkF m 7 #[.val (.ref a), .val (.ref x)] [(.ref a)])) rfl rfl (hb hby d14_7)
  refine Fin.by (fun tt_ kk_ => st102 tt_ kk_) ?_
  refine Fin.by (fun tt_ kk_ => XS.aloadN X102.here hx rfl (hb hby d14_10) rfl rfl kk_) ?_
  obtain ⟨cq103, kq103, qa103, qb103, qc103⟩ := isOf hZ e102 E1
  obtain ⟨v103, _, ⟨T103, L103, k103, n103⟩, -, X103, ⟨Lc103, hQ103, l103, y103, z103⟩, st103⟩ := X102.virtualBack hx (y := y_14) (z := y_14) hown (mvT hZ (w_ hw 147 rfl)) (mvT hZ (w_ hw 100 rfl)) (notFace_of_selects (args := #[]) (mvT hZ (w_ hw 102 rfl))) (mvT hZ (w_ hw 102 rfl)) (mvT hZ (w_ hw 101 rfl)) (by decide) (backOf (W := 1) (rm_cod l Z a0 hw [] x G1 h0 n0 Z0 F4 S1 P1 OL) hZ (w_ hw 103 rfl) (w_ hw 7 rfl) (by decide) (by decide)) qa103 qc103 (g := (mkF m 11 #[.val (.ref a), .val (.ref x)] [(.ref x), (.int 0)])) rfl (by rw [hml]; rfl) (Steps.refl _) (argsL := []) (rest := [(.int 0)]) (lenOf pd_398 rfl) rfl (by show 2 * 0 + _ ≤ _; exact Nat.le_of_eq rfl) (hb hby d14_11) (fun _ _ => ⟨rfl, e102, (by decide : 0 + 0 ≤ _), (by decide : 0 + 0 ≤ _)⟩)
  dsimp only [Pt.U, Pt.locs, Pt.cells, Pt.slots] at X103 l103 y103 z103 st103 hQ103
  subst l103 y103 z103
  obtain ⟨rfl, Nq103, e103_⟩ := hQ103
  have N103_ := Fr.app N0 Nq103
  refine Fin.byS st103 ?_
  have e103 := e103_
  show Fin _ _ _ _ _ _ _ (T103.setTop (mkF m 14 #[.val (.ref a), .val (.ref x)] [(.int 0), (.int 0)]))
  refine Fin.by (fun tt_ kk_ => XS.icmpYes X103.here hx rfl (pc0 := 14) (pc' := 21) rfl (hb hby d14_14) rfl (teq (rfl : (0 : Int32) = (0 : Int32))).1 (by decide) (by decide) kk_) ?_
  show Fin _ _ _ _ _ _ _ (T103.setTop (mkF m 21 #[.val (.ref a), .val (.ref x)] []))
  exact Fin.ret (v := none) X103 (fun _ => rfl) Bd.notSynchronized (by rw [e103]; exact ⟨rfl, N103_, rfl⟩) (by decide) (by decide) (fun fs hr => X103.returnOut hx Bd.returns (hb hby d14_21) hr)
abbrev y_16 : MethodName := (⟨"java/lang/String", "getBytes", "([BIB)V"⟩ : MethodName)
theorem d15_0 : decode jdk_42_method_147_code 0 = .ok (.aload_n 0, 1) := by decide +kernel
theorem d15_1 : decode jdk_42_method_147_code 1 = .ok (.invokevirtual 335, 3) := by decide +kernel
theorem d15_4 : decode jdk_42_method_147_code 4 = .ok (.iload_n 3, 1) := by decide +kernel
theorem d15_5 : decode jdk_42_method_147_code 5 = .ok (.if_icmp .ne 23, 3) := by decide +kernel
theorem d15_8 : decode jdk_42_method_147_code 8 = .ok (.aload_n 0, 1) := by decide +kernel
theorem d15_9 : decode jdk_42_method_147_code 9 = .ok (.getfield 9, 3) := by decide +kernel
theorem d15_12 : decode jdk_42_method_147_code 12 = .ok (.iconst 0, 1) := by decide +kernel
theorem d15_13 : decode jdk_42_method_147_code 13 = .ok (.aload_n 1, 1) := by decide +kernel
theorem d15_14 : decode jdk_42_method_147_code 14 = .ok (.iload_n 2, 1) := by decide +kernel
theorem d15_15 : decode jdk_42_method_147_code 15 = .ok (.iload_n 3, 1) := by decide +kernel
theorem d15_16 : decode jdk_42_method_147_code 16 = .ok (.ishl, 1) := by decide +kernel
theorem d15_17 : decode jdk_42_method_147_code 17 = .ok (.aload_n 0, 1) := by decide +kernel
theorem d15_18 : decode jdk_42_method_147_code 18 = .ok (.getfield 9, 3) := by decide +kernel
theorem d15_21 : decode jdk_42_method_147_code 21 = .ok (.arraylength, 1) := by decide +kernel
theorem d15_22 : decode jdk_42_method_147_code 22 = .ok (.invokestatic 212, 3) := by decide +kernel
theorem d15_25 : decode jdk_42_method_147_code 25 = .ok (.goto 18, 3) := by decide +kernel
theorem d15_43 : decode jdk_42_method_147_code 43 = .ok (.return_, 1) := by decide +kernel
def Q_gb0_21 (Z : State) (x : Addr) (t : Addr) (kb : ClassId) (us : List Value) (v : Addr) (kv : ClassId) (vs : List Value) (G1 : Int32) (h0 : Heap) (n0 : Nat) (vv_ : Option Value) (hh_ : Heap) (LL_ : List Loc) : Prop := vv_ = none ∧ Fr n0 LL_ ∧ Keep h0 hh_ [v] ∧ Arv Z hh_ v kv .byte (34 : Int32) (vs ++ us) (.int 0)
set_option maxRecDepth 65536 in
set_option maxHeartbeats 40000000 in
theorem rm_gb0_21 (l : Launch) (Z : State) (a0 : Array Value) (hw : ∀ d ∈ tables_1, d.before a0 Z = true) (ws : List Jvm.Cond) (x : Addr) (t : Addr) (kb : ClassId) (us : List Value) (v : Addr) (kv : ClassId) (vs : List Value) (G1 : Int32) (h0 : Heap) (n0 : Nat) (Z0 : n0 ≤ h0.size) (hvd : vs.length = 0) (hus : us.length = 21) (E1 : Exa Z h0 x "java/lang/String") (F3 : Fld Z h0 x "java/lang/String" "value" "[B" (.ref t)) (F4 : Fld Z h0 x "java/lang/String" "coder" "B" (.int (0 : Int32))) (A1 : Arv Z h0 t kb .byte (21 : Int32) us (.int 0)) (A0 : Arv Z h0 v kv .byte (34 : Int32) vs (.int 0)) (gv : n0 ≤ v) (S1 : Sta Z Z.heap "java/lang/String" "COMPACT_STRINGS" "Z" (.int G1)) (P1 : ¬ G1 = 0) (OL : Old Z n0 h0) :
    MetFree l y_16 (head1 (Jvm.Cond.code y_16 jdk_42_method_147_code 4 none :: ws) ({ frames := 1, cells := 0, slots := 0, locals := 18 } : Room)) (fun aa_ U => aa_ = #[(.ref x), (.ref v), (.int (0 : Int32)), (.int (0 : Int32))] ∧ Z.Warmed39 U.vm ∧ U.heap = h0) (fun _ _ _ _ _ => True) (fun _ U o U' => ∃ vv_ LL_, o = .returned vv_ ∧ Q_gb0_21 Z x t kb us v kv vs G1 h0 n0 vv_ U'.heap LL_ ∧ FrameEnd U o U' LL_ 0 0) := by
  refine MetFree.of_bodySF (plainFor_of_name pn_java_lang_String) hisR ?_
  intro p e s m args below meth c s₁ Bd hml0 hP hK
  obtain ⟨rfl, hZ, hh⟩ := hP
  have hx := Bd.exec
  have hby := Bd.bytes
  have hml : c.maxLocals = 4 := hml0
  have hown : s.vm.findClass "java/lang/String" = some m.cls := findClass_of_methodNamed Bd.named
  have hnm := (name_of_methodNamed Bd.named Bd.method).1
  have X0 : Stand p l e ({ frames := 1, cells := 0, slots := 0, locals := 18 } : Room) s m #[(.ref x), (.ref v), (.int (0 : Int32)), (.int (0 : Int32))] below meth c s₁ [] 0 0 := Stand.of_body Bd
  have e0 : s₁.heap = h0 := by rw [← hh, Bd.state]; rfl
  have N0 := Fr.nil n0
  have ef : entryFrame m #[(.ref x), (.ref v), (.int (0 : Int32)), (.int (0 : Int32))] 4 = mkF m 0 #[.val (.ref x), .val (.ref v), .val (.int (0 : Int32)), .val (.int (0 : Int32))] [] := by first | (simp [entryFrame, mkF, argsToLocals, Value.category]; done) | rfl
  refine Fin.start (Q := Q_gb0_21 Z x t kb us v kv vs G1 h0 n0) ef ?_
  refine Fin.by (fun tt_ kk_ => XS.aloadN X0.here hx rfl (hb hby d15_0) rfl rfl kk_) ?_
  obtain ⟨cq101, kq101, qa101, qb101, qc101⟩ := isOf hZ e0 E1
  obtain ⟨v101, _, ⟨T101, L101, k101, n101⟩, -, X101, ⟨Lc101, hQ101, l101, y101, z101⟩, st101⟩ := X0.virtualBack hx (y := y_14) (z := y_14) hown (mvT hZ (w_ hw 99 rfl)) (mvT hZ (w_ hw 100 rfl)) (notFace_of_selects (args := #[]) (mvT hZ (w_ hw 102 rfl))) (mvT hZ (w_ hw 102 rfl)) (mvT hZ (w_ hw 101 rfl)) (by decide) (backOf (W := 0) (rm_cod l Z a0 hw [] x G1 h0 n0 Z0 F4 S1 P1 OL) hZ (w_ hw 103 rfl) (w_ hw 7 rfl) (by decide) (by decide)) qa101 qc101 (g := (mkF m 1 #[.val (.ref x), .val (.ref v), .val (.int 0), .val (.int 0)] [(.ref x)])) rfl (by rw [hml]; rfl) (Steps.refl _) (argsL := []) (rest := []) (lenOf pd_398 rfl) rfl (by show 2 * 0 + _ ≤ _; exact Nat.le_of_eq rfl) (hb hby d15_1) (fun _ _ => ⟨rfl, e0, (by decide : 0 + 0 ≤ _), (by decide : 0 + 0 ≤ _)⟩)
  dsimp only [Pt.U, Pt.locs, Pt.cells, Pt.slots] at X101 l101 y101 z101 st101 hQ101
  subst l101 y101 z101
  obtain ⟨rfl, Nq101, e101_⟩ := hQ101
  have N101_ := Fr.app N0 Nq101
  refine Fin.byS st101 ?_
  have e101 := e101_
  refine Fin.by (fun tt_ kk_ => XS.iloadN X101.here hx rfl (hb hby d15_4) rfl kk_) ?_
  show Fin _ _ _ _ _ _ _ (T101.setTop (mkF m 5 #[.val (.ref x), .val (.ref v), .val (.int 0), .val (.int 0)] [(.int 0), (.int 0)]))
  refine Fin.by (fun tt_ kk_ => XS.icmpNo X101.here hx rfl (hb hby d15_5) rfl (teq (rfl : (0 : Int32) = (0 : Int32))).2 kk_) ?_
  refine Fin.by (fun tt_ kk_ => XS.aloadN X101.here hx rfl (hb hby d15_8) rfl rfl kk_) ?_
  obtain ⟨T102, X102, e102, st102⟩ := getF X101 hx hZ hown (host := "") (Or.inl (w_ hw 32 rfl)) Via.refl e101 F3 (g := (mkF m 9 #[.val (.ref x), .val (.ref v), .val (.int 0), .val (.int 0)] [(.ref x)])) rfl rfl (hb hby d15_9)
  refine Fin.by (fun tt_ kk_ => st102 tt_ kk_) ?_
  refine Fin.by (fun tt_ kk_ => XS.iconst X102.here hx rfl (hb hby d15_12) (XS.aloadN X102.here hx rfl (hb hby d15_13) rfl rfl (XS.iloadN X102.here hx rfl (hb hby d15_14) rfl (XS.iloadN X102.here hx rfl (hb hby d15_15) rfl (XS.ishl X102.here hx rfl (hb hby d15_16) rfl (XS.aloadN X102.here hx rfl (hb hby d15_17) rfl rfl kk_)))))) ?_
  show Fin _ _ _ _ _ _ _ (T102.setTop (mkF m 18 #[.val (.ref x), .val (.ref v), .val (.int 0), .val (.int 0)] [(.ref x), (.int 0), (.ref v), (.int 0), (.ref t)]))
  obtain ⟨T103, X103, e103, st103⟩ := getF X102 hx hZ hown (host := "") (Or.inl (w_ hw 32 rfl)) Via.refl e102 F3 (g := (mkF m 18 #[.val (.ref x), .val (.ref v), .val (.int 0), .val (.int 0)] [(.ref x), (.int 0), (.ref v), (.int 0), (.ref t)])) rfl rfl (hb hby d15_18)
  refine Fin.by (fun tt_ kk_ => st103 tt_ kk_) ?_
  obtain ⟨cl104, Ar104, q104, S104, N104, H104, G104⟩ := id A1
  refine Fin.by (fun tt_ kk_ => X103.arraylength hx (by rw [e103]; exact Ar104.1) (State.isArrayOf_alike hZ.alike Ar104.2.1) (g := (mkF m 21 #[.val (.ref x), .val (.ref v), .val (.int 0), .val (.int 0)] [(.ref t), (.int 0), (.ref v), (.int 0), (.ref t)])) rfl rfl (hb hby d15_21) _ kk_) ?_
  rw [len_of S104 N104]
  obtain ⟨T105, h105, L105, X105, e105, Nc105, K105, V105, st105⟩ := own_cp X103 hx hZ hown (w_ hw 153 rfl) (w_ hw 136 rfl) (w_ hw 134 rfl) (w_ hw 135 rfl) e103 A1 A0 (by decide) (by decide) (by decide) (by decide) (by rw [hvd]; rfl) (by rw [hus]; decide) N101_ gv (g := (mkF m 22 #[.val (.ref x), .val (.ref v), .val (.int 0), .val (.int 0)] [(.int 21), (.int 0), (.ref v), (.int 0), (.ref t)])) rfl (by rw [hml]; rfl) rfl (hb hby d15_22) (by decide) (W := 0) (by show 2 * 0 + _ ≤ _; exact Nat.le_of_eq rfl) (by decide)
  refine Fin.by (fun tt_ kk_ => st105 tt_ kk_) ?_
  refine Fin.by (fun tt_ kk_ => XS.goto X105.here hx rfl (pc0 := 25) (pc' := 43) rfl (hb hby d15_25) (by decide) (by decide) kk_) ?_
  have kp106 : Keep h0 h105 [v] := (Keep.refl h0 [v]).trans K105 (allS (Or.inl (List.mem_of_getElem? (i := 0) rfl)) all0)
  show Fin _ _ _ _ _ _ _ (T105.setTop (mkF m 43 #[.val (.ref x), .val (.ref v), .val (.int 0), .val (.int 0)] []))
  exact Fin.ret (v := none) X105 (fun _ => rfl) Bd.notSynchronized (by rw [e105]; exact ⟨rfl, Nc105, kp106, V105⟩) (by decide) (by decide) (fun fs hr => X105.returnOut hx Bd.returns (hb hby d15_43) hr)
abbrev y_17 : MethodName := (⟨"java/lang/AbstractStringBuilder", "putStringAt", "(ILjava/lang/String;)V"⟩ : MethodName)
theorem d16_0 : decode jdk_68_method_73_code 0 = .ok (.aload_n 0, 1) := by decide +kernel
theorem d16_1 : decode jdk_68_method_73_code 1 = .ok (.aload_n 2, 1) := by decide +kernel
theorem pd_421 : parseMethodDescriptor "(Ljava/lang/String;)V" = some ⟨[(.object "java/lang/String")], none⟩ := by decide +kernel
theorem d16_2 : decode jdk_68_method_73_code 2 = .ok (.invokevirtual 397, 3) := by decide +kernel
theorem d16_5 : decode jdk_68_method_73_code 5 = .ok (.aload_n 2, 1) := by decide +kernel
theorem d16_6 : decode jdk_68_method_73_code 6 = .ok (.aload_n 0, 1) := by decide +kernel
theorem d16_7 : decode jdk_68_method_73_code 7 = .ok (.getfield 15, 3) := by decide +kernel
theorem d16_10 : decode jdk_68_method_73_code 10 = .ok (.iload_n 1, 1) := by decide +kernel
theorem d16_11 : decode jdk_68_method_73_code 11 = .ok (.aload_n 0, 1) := by decide +kernel
theorem d16_12 : decode jdk_68_method_73_code 12 = .ok (.getfield 22, 3) := by decide +kernel
theorem pd_429 : parseMethodDescriptor "([BIB)V" = some ⟨[(.array .byte), .int, .byte], none⟩ := by decide +kernel
theorem d16_15 : decode jdk_68_method_73_code 15 = .ok (.invokevirtual 399, 3) := by decide +kernel
theorem d16_18 : decode jdk_68_method_73_code 18 = .ok (.return_, 1) := by decide +kernel
def Q_psa0_21 (Z : State) (a : Addr) (v : Addr) (kv : ClassId) (vs : List Value) (x : Addr) (t : Addr) (kb : ClassId) (us : List Value) (G1 : Int32) (h0 : Heap) (n0 : Nat) (vv_ : Option Value) (hh_ : Heap) (LL_ : List Loc) : Prop := vv_ = none ∧ Fr n0 LL_ ∧ Keep h0 hh_ [v] ∧ Arv Z hh_ v kv .byte (34 : Int32) (vs ++ us) (.int 0)
set_option maxRecDepth 65536 in
set_option maxHeartbeats 40000000 in
theorem rm_psa0_21 (l : Launch) (Z : State) (a0 : Array Value) (hw : ∀ d ∈ tables_1, d.before a0 Z = true) (ws : List Jvm.Cond) (a : Addr) (v : Addr) (kv : ClassId) (vs : List Value) (x : Addr) (t : Addr) (kb : ClassId) (us : List Value) (G1 : Int32) (h0 : Heap) (n0 : Nat) (Z0 : n0 ≤ h0.size) (hvd : vs.length = 0) (hus : us.length = 21) (E0 : Exa Z h0 a "java/lang/StringBuilder") (F0 : Fld Z h0 a "java/lang/AbstractStringBuilder" "value" "[B" (.ref v)) (F1 : Fld Z h0 a "java/lang/AbstractStringBuilder" "coder" "B" (.int (0 : Int32))) (E1 : Exa Z h0 x "java/lang/String") (F3 : Fld Z h0 x "java/lang/String" "value" "[B" (.ref t)) (F4 : Fld Z h0 x "java/lang/String" "coder" "B" (.int (0 : Int32))) (A1 : Arv Z h0 t kb .byte (21 : Int32) us (.int 0)) (A0 : Arv Z h0 v kv .byte (34 : Int32) vs (.int 0)) (gv : n0 ≤ v) (S1 : Sta Z Z.heap "java/lang/String" "COMPACT_STRINGS" "Z" (.int G1)) (P1 : ¬ G1 = 0) (OL : Old Z n0 h0) :
    MetFree l y_17 (head1 (Jvm.Cond.code y_17 jdk_68_method_73_code 3 none :: ws) ({ frames := 2, cells := 0, slots := 0, locals := 33 } : Room)) (fun aa_ U => aa_ = #[(.ref a), (.int (0 : Int32)), (.ref x)] ∧ Z.Warmed39 U.vm ∧ U.heap = h0) (fun _ _ _ _ _ => True) (fun _ U o U' => ∃ vv_ LL_, o = .returned vv_ ∧ Q_psa0_21 Z a v kv vs x t kb us G1 h0 n0 vv_ U'.heap LL_ ∧ FrameEnd U o U' LL_ 0 0) := by
  refine MetFree.of_bodySF (plainFor_of_name pn_java_lang_AbstractStringBuilder) hisR ?_
  intro p e s m args below meth c s₁ Bd hml0 hP hK
  obtain ⟨rfl, hZ, hh⟩ := hP
  have hx := Bd.exec
  have hby := Bd.bytes
  have hml : c.maxLocals = 3 := hml0
  have hown : s.vm.findClass "java/lang/AbstractStringBuilder" = some m.cls := findClass_of_methodNamed Bd.named
  have hnm := (name_of_methodNamed Bd.named Bd.method).1
  have X0 : Stand p l e ({ frames := 2, cells := 0, slots := 0, locals := 33 } : Room) s m #[(.ref a), (.int (0 : Int32)), (.ref x)] below meth c s₁ [] 0 0 := Stand.of_body Bd
  have e0 : s₁.heap = h0 := by rw [← hh, Bd.state]; rfl
  have N0 := Fr.nil n0
  have ef : entryFrame m #[(.ref a), (.int (0 : Int32)), (.ref x)] 3 = mkF m 0 #[.val (.ref a), .val (.int (0 : Int32)), .val (.ref x)] [] := by first | (simp [entryFrame, mkF, argsToLocals, Value.category]; done) | rfl
  refine Fin.start (Q := Q_psa0_21 Z a v kv vs x t kb us G1 h0 n0) ef ?_
  refine Fin.by (fun tt_ kk_ => XS.aloadN X0.here hx rfl (hb hby d16_0) rfl rfl (XS.aloadN X0.here hx rfl (hb hby d16_1) rfl rfl kk_)) ?_
  obtain ⟨cq101, qa101, qb101⟩ := E0.cell
  obtain ⟨v101, _, ⟨T101, L101, k101, n101⟩, -, X101, ⟨Lc101, hQ101, l101, y101, z101⟩, st101⟩ := X0.privateBack hx (y := y_15) hown (mvT hZ (w_ hw 142 rfl)) (mvT hZ (w_ hw 143 rfl)) (own_selpriv (z := y_13) (y := y_15) (mvT hZ (w_ hw 109 rfl)) rfl (Cond.privateMethod_at (mvP hZ (w_ hw 144 rfl) (args := #[]))) (mvT hZ (w_ hw 143 rfl)) (by decide)) (Cond.privateMethod_at (mvP hZ (w_ hw 144 rfl) (args := #[]))) (mvT hZ (w_ hw 146 rfl)) (by decide) (backOf (W := 0) (rm_inf l Z a0 hw [] a x G1 h0 n0 Z0 E0 F1 E1 F4 S1 P1 OL) hZ (w_ hw 146 rfl) (w_ hw 73 rfl) (by decide) (by decide)) (g := (mkF m 2 #[.val (.ref a), .val (.int 0), .val (.ref x)] [(.ref x), (.ref a)])) rfl (by rw [hml]; rfl) (Steps.refl _) (a := a) (by rw [e0]; exact qa101) qb101 (argsL := [(.ref x)]) (rest := []) (lenOf pd_421 rfl) rfl (by show 2 * 0 + _ ≤ _; exact Nat.le_of_eq rfl) (hb hby d16_2) (fun _ _ => ⟨rfl, e0, (by decide : 0 + 0 ≤ _), (by decide : 0 + 0 ≤ _)⟩)
  dsimp only [Pt.U, Pt.locs, Pt.cells, Pt.slots] at X101 l101 y101 z101 st101 hQ101
  subst l101 y101 z101
  obtain ⟨rfl, Nq101, e101_⟩ := hQ101
  have N101_ := Fr.app N0 Nq101
  refine Fin.byS st101 ?_
  have e101 := e101_
  refine Fin.by (fun tt_ kk_ => XS.aloadN X101.here hx rfl (hb hby d16_5) rfl rfl (XS.aloadN X101.here hx rfl (hb hby d16_6) rfl rfl kk_)) ?_
  obtain ⟨T102, X102, e102, st102⟩ := getF X101 hx hZ hown (host := "") (Or.inl (w_ hw 77 rfl)) Via.refl e101 F0 (g := (mkF m 7 #[.val (.ref a), .val (.int 0), .val (.ref x)] [(.ref a), (.ref x)])) rfl rfl (hb hby d16_7)
  refine Fin.by (fun tt_ kk_ => st102 tt_ kk_) ?_
  refine Fin.by (fun tt_ kk_ => XS.iloadN X102.here hx rfl (hb hby d16_10) rfl (XS.aloadN X102.here hx rfl (hb hby d16_11) rfl rfl kk_)) ?_
  obtain ⟨T103, X103, e103, st103⟩ := getF X102 hx hZ hown (host := "") (Or.inl (w_ hw 79 rfl)) Via.refl e102 F1 (g := (mkF m 12 #[.val (.ref a), .val (.int 0), .val (.ref x)] [(.ref a), (.int 0), (.ref v), (.ref x)])) rfl rfl (hb hby d16_12)
  refine Fin.by (fun tt_ kk_ => st103 tt_ kk_) ?_
  obtain ⟨cq104, kq104, qa104, qb104, qc104⟩ := isOf hZ e103 E1
  obtain ⟨v104, _, ⟨T104, L104, k104, n104⟩, -, X104, ⟨Lc104, hQ104, l104, y104, z104⟩, st104⟩ := X103.virtualBack hx (y := y_16) (z := y_16) hown (mvT hZ (w_ hw 148 rfl)) (mvT hZ (w_ hw 149 rfl)) (notFace_of_selects (args := #[]) (mvT hZ (w_ hw 151 rfl))) (mvT hZ (w_ hw 151 rfl)) (mvT hZ (w_ hw 150 rfl)) (by decide) (backOf (W := 0) (rm_gb0_21 l Z a0 hw [] x t kb (us : List Value) v kv (vs : List Value) G1 h0 n0 Z0 hvd hus E1 F3 F4 A1 A0 gv S1 P1 OL) hZ (w_ hw 152 rfl) (w_ hw 7 rfl) (by decide) (by decide)) qa104 qc104 (g := (mkF m 15 #[.val (.ref a), .val (.int 0), .val (.ref x)] [(.int 0), (.int 0), (.ref v), (.ref x)])) rfl (by rw [hml]; rfl) (Steps.refl _) (argsL := [(.ref v), (.int 0), (.int 0)]) (rest := []) (lenOf pd_429 rfl) rfl (by show 2 * 0 + _ ≤ _; exact Nat.le_of_eq rfl) (hb hby d16_15) (fun _ _ => ⟨rfl, e103, (by decide : 0 + 0 ≤ _), (by decide : 0 + 0 ≤ _)⟩)
  dsimp only [Pt.U, Pt.locs, Pt.cells, Pt.slots] at X104 l104 y104 z104 st104 hQ104
  subst l104 y104 z104
  obtain ⟨rfl, Nq104, p104_0, p104_1⟩ := hQ104
  have N104_ := Fr.app N101_ Nq104
  refine Fin.byS st104 ?_
  have kp105 : Keep h0 T104.heap [v] := (Keep.refl h0 [v]).trans p104_0 (allS (Or.inl (List.mem_of_getElem? (i := 0) rfl)) all0)
  show Fin _ _ _ _ _ _ _ (T104.setTop (mkF m 18 #[.val (.ref a), .val (.int 0), .val (.ref x)] []))
  exact Fin.ret (v := none) X104 (fun _ => rfl) Bd.notSynchronized (⟨rfl, N104_, kp105, p104_1⟩) (by decide) (by decide) (fun fs hr => X104.returnOut hx Bd.returns (hb hby d16_18) hr)
abbrev y_18 : MethodName := (⟨"java/lang/String", "length", "()I"⟩ : MethodName)
theorem d17_0 : decode jdk_42_method_54_code 0 = .ok (.aload_n 0, 1) := by decide +kernel
theorem d17_1 : decode jdk_42_method_54_code 1 = .ok (.getfield 9, 3) := by decide +kernel
theorem d17_4 : decode jdk_42_method_54_code 4 = .ok (.arraylength, 1) := by decide +kernel
theorem d17_5 : decode jdk_42_method_54_code 5 = .ok (.aload_n 0, 1) := by decide +kernel
theorem d17_6 : decode jdk_42_method_54_code 6 = .ok (.invokevirtual 335, 3) := by decide +kernel
theorem d17_9 : decode jdk_42_method_54_code 9 = .ok (.ishr, 1) := by decide +kernel
theorem d17_10 : decode jdk_42_method_54_code 10 = .ok (.ireturn, 1) := by decide +kernel
def Q_sle (Z : State) (x : Addr) (t : Addr) (kb : ClassId) (us : List Value) (N2 : Int32) (G1 : Int32) (h0 : Heap) (n0 : Nat) (vv_ : Option Value) (hh_ : Heap) (LL_ : List Loc) : Prop := vv_ = some (.int N2) ∧ Fr n0 LL_ ∧ hh_ = h0
set_option maxRecDepth 65536 in
set_option maxHeartbeats 40000000 in
theorem rm_sle (l : Launch) (Z : State) (a0 : Array Value) (hw : ∀ d ∈ tables_1, d.before a0 Z = true) (ws : List Jvm.Cond) (x : Addr) (t : Addr) (kb : ClassId) (us : List Value) (N2 : Int32) (G1 : Int32) (h0 : Heap) (n0 : Nat) (Z0 : n0 ≤ h0.size) (E1 : Exa Z h0 x "java/lang/String") (F3 : Fld Z h0 x "java/lang/String" "value" "[B" (.ref t)) (F4 : Fld Z h0 x "java/lang/String" "coder" "B" (.int (0 : Int32))) (A1 : Arv Z h0 t kb .byte N2 us (.int 0)) (S1 : Sta Z Z.heap "java/lang/String" "COMPACT_STRINGS" "Z" (.int G1)) (P1 : ¬ G1 = 0) (OL : Old Z n0 h0) :
    MetFree l y_18 (head1 (Jvm.Cond.code y_18 jdk_42_method_54_code 1 (some .int) :: ws) ({ frames := 1, cells := 0, slots := 0, locals := 13 } : Room)) (fun aa_ U => aa_ = #[(.ref x)] ∧ Z.Warmed39 U.vm ∧ U.heap = h0) (fun _ _ _ _ _ => True) (fun _ U o U' => ∃ vv_ LL_, o = .returned vv_ ∧ Q_sle Z x t kb us N2 G1 h0 n0 vv_ U'.heap LL_ ∧ FrameEnd U o U' LL_ 0 0) := by
  refine MetFree.of_bodySF (plainFor_of_name pn_java_lang_String) hisR ?_
  intro p e s m args below meth c s₁ Bd hml0 hP hK
  obtain ⟨rfl, hZ, hh⟩ := hP
  have hx := Bd.exec
  have hby := Bd.bytes
  have hml : c.maxLocals = 1 := hml0
  have hown : s.vm.findClass "java/lang/String" = some m.cls := findClass_of_methodNamed Bd.named
  have hnm := (name_of_methodNamed Bd.named Bd.method).1
  have X0 : Stand p l e ({ frames := 1, cells := 0, slots := 0, locals := 13 } : Room) s m #[(.ref x)] below meth c s₁ [] 0 0 := Stand.of_body Bd
  have e0 : s₁.heap = h0 := by rw [← hh, Bd.state]; rfl
  have N0 := Fr.nil n0
  have ef : entryFrame m #[(.ref x)] 1 = mkF m 0 #[.val (.ref x)] [] := by first | (simp [entryFrame, mkF, argsToLocals, Value.category]; done) | rfl
  refine Fin.start (Q := Q_sle Z x t kb us N2 G1 h0 n0) ef ?_
  refine Fin.by (fun tt_ kk_ => XS.aloadN X0.here hx rfl (hb hby d17_0) rfl rfl kk_) ?_
  obtain ⟨T101, X101, e101, st101⟩ := getF X0 hx hZ hown (host := "") (Or.inl (w_ hw 32 rfl)) Via.refl e0 F3 (g := (mkF m 1 #[.val (.ref x)] [(.ref x)])) rfl rfl (hb hby d17_1)
  refine Fin.by (fun tt_ kk_ => st101 tt_ kk_) ?_
  obtain ⟨cl102, Ar102, q102, S102, N102, H102, G102⟩ := id A1
  refine Fin.by (fun tt_ kk_ => X101.arraylength hx (by rw [e101]; exact Ar102.1) (State.isArrayOf_alike hZ.alike Ar102.2.1) (g := (mkF m 4 #[.val (.ref x)] [(.ref t)])) rfl rfl (hb hby d17_4) _ kk_) ?_
  rw [len_of S102 N102]
  refine Fin.by (fun tt_ kk_ => XS.aloadN X101.here hx rfl (hb hby d17_5) rfl rfl kk_) ?_
  obtain ⟨cq103, kq103, qa103, qb103, qc103⟩ := isOf hZ e101 E1
  obtain ⟨v103, _, ⟨T103, L103, k103, n103⟩, -, X103, ⟨Lc103, hQ103, l103, y103, z103⟩, st103⟩ := X101.virtualBack hx (y := y_14) (z := y_14) hown (mvT hZ (w_ hw 99 rfl)) (mvT hZ (w_ hw 100 rfl)) (notFace_of_selects (args := #[]) (mvT hZ (w_ hw 102 rfl))) (mvT hZ (w_ hw 102 rfl)) (mvT hZ (w_ hw 101 rfl)) (by decide) (backOf (W := 1) (rm_cod l Z a0 hw [] x G1 h0 n0 Z0 F4 S1 P1 OL) hZ (w_ hw 103 rfl) (w_ hw 7 rfl) (by decide) (by decide)) qa103 qc103 (g := (mkF m 6 #[.val (.ref x)] [(.ref x), (.int N2)])) rfl (by rw [hml]; rfl) (Steps.refl _) (argsL := []) (rest := [(.int N2)]) (lenOf pd_398 rfl) rfl (by show 2 * 0 + _ ≤ _; exact Nat.le_of_eq rfl) (hb hby d17_6) (fun _ _ => ⟨rfl, e101, (by decide : 0 + 0 ≤ _), (by decide : 0 + 0 ≤ _)⟩)
  dsimp only [Pt.U, Pt.locs, Pt.cells, Pt.slots] at X103 l103 y103 z103 st103 hQ103
  subst l103 y103 z103
  obtain ⟨rfl, Nq103, e103_⟩ := hQ103
  have N103_ := Fr.app N0 Nq103
  refine Fin.byS st103 ?_
  have e103 := e103_
  refine Fin.by (fun tt_ kk_ => XS.ishr X103.here hx rfl (hb hby d17_9) rfl kk_) ?_
  show Fin _ _ _ _ _ _ _ (T103.setTop (mkF m 10 #[.val (.ref x)] [(.int (N2 >>> (0 &&& 31)))]))
  exact Fin.ret (v := some (.int (N2 >>> ((0 : Int32) &&& 31)))) X103 (fun h => by rw [Bd.returns] at h; cases h) Bd.notSynchronized (by rw [e103]; exact ⟨(by rw [own_shr0]), N103_, rfl⟩) (by decide) (by decide) (fun fs hr => retI X103 hx Bd.returns (hb hby d17_10) hr)
abbrev y_19 : MethodName := (⟨"java/lang/AbstractStringBuilder", "append", "(Ljava/lang/String;)Ljava/lang/AbstractStringBuilder;"⟩ : MethodName)
theorem d18_0 : decode jdk_68_method_22_code 0 = .ok (.aload_n 1, 1) := by decide +kernel
theorem d18_1 : decode jdk_68_method_22_code 1 = .ok (.ifnonnull 8, 3) := by decide +kernel
theorem d18_9 : decode jdk_68_method_22_code 9 = .ok (.aload_n 1, 1) := by decide +kernel
theorem pd_442 : parseMethodDescriptor "()I" = some ⟨[], some .int⟩ := by decide +kernel
theorem d18_10 : decode jdk_68_method_22_code 10 = .ok (.invokevirtual 32, 3) := by decide +kernel
theorem d18_13 : decode jdk_68_method_22_code 13 = .ok (.istore_n 2, 1) := by decide +kernel
theorem d18_14 : decode jdk_68_method_22_code 14 = .ok (.aload_n 0, 1) := by decide +kernel
theorem d18_15 : decode jdk_68_method_22_code 15 = .ok (.aload_n 0, 1) := by decide +kernel
theorem d18_16 : decode jdk_68_method_22_code 16 = .ok (.getfield 79, 3) := by decide +kernel
theorem d18_19 : decode jdk_68_method_22_code 19 = .ok (.iload_n 2, 1) := by decide +kernel
theorem d18_20 : decode jdk_68_method_22_code 20 = .ok (.iadd, 1) := by decide +kernel
theorem d18_21 : decode jdk_68_method_22_code 21 = .ok (.invokevirtual 100, 3) := by decide +kernel
theorem d18_24 : decode jdk_68_method_22_code 24 = .ok (.aload_n 0, 1) := by decide +kernel
theorem d18_25 : decode jdk_68_method_22_code 25 = .ok (.aload_n 0, 1) := by decide +kernel
theorem d18_26 : decode jdk_68_method_22_code 26 = .ok (.getfield 79, 3) := by decide +kernel
theorem d18_29 : decode jdk_68_method_22_code 29 = .ok (.aload_n 1, 1) := by decide +kernel
theorem pd_455 : parseMethodDescriptor "(ILjava/lang/String;)V" = some ⟨[.int, (.object "java/lang/String")], none⟩ := by decide +kernel
theorem d18_30 : decode jdk_68_method_22_code 30 = .ok (.invokevirtual 208, 3) := by decide +kernel
theorem d18_33 : decode jdk_68_method_22_code 33 = .ok (.aload_n 0, 1) := by decide +kernel
theorem d18_34 : decode jdk_68_method_22_code 34 = .ok (.dup, 1) := by decide +kernel
theorem d18_35 : decode jdk_68_method_22_code 35 = .ok (.getfield 79, 3) := by decide +kernel
theorem d18_38 : decode jdk_68_method_22_code 38 = .ok (.iload_n 2, 1) := by decide +kernel
theorem d18_39 : decode jdk_68_method_22_code 39 = .ok (.iadd, 1) := by decide +kernel
theorem d18_40 : decode jdk_68_method_22_code 40 = .ok (.putfield 79, 3) := by decide +kernel
theorem d18_43 : decode jdk_68_method_22_code 43 = .ok (.aload_n 0, 1) := by decide +kernel
theorem d18_44 : decode jdk_68_method_22_code 44 = .ok (.areturn, 1) := by decide +kernel
def Q_app0_21 (Z : State) (a : Addr) (v : Addr) (kv : ClassId) (vs : List Value) (x : Addr) (t : Addr) (kb : ClassId) (us : List Value) (G1 : Int32) (h0 : Heap) (n0 : Nat) (vv_ : Option Value) (hh_ : Heap) (LL_ : List Loc) : Prop := ∃ (v2 : Addr), ∃ (k2 : ClassId), vv_ = some (.ref a) ∧ Fr n0 LL_ ∧ Keep h0 hh_ [a] ∧ h0.size ≤ v2 ∧ Exa Z hh_ a "java/lang/StringBuilder" ∧ Fld Z hh_ a "java/lang/AbstractStringBuilder" "value" "[B" (.ref v2) ∧ Fld Z hh_ a "java/lang/AbstractStringBuilder" "coder" "B" (.int (0 : Int32)) ∧ Fld Z hh_ a "java/lang/AbstractStringBuilder" "count" "I" (.int (21 : Int32)) ∧ Arv Z hh_ v2 k2 .byte (34 : Int32) (vs ++ us) (.int 0)
set_option maxRecDepth 65536 in
set_option maxHeartbeats 40000000 in
theorem rm_app0_21 (l : Launch) (Z : State) (a0 : Array Value) (hw : ∀ d ∈ tables_1, d.before a0 Z = true) (ws : List Jvm.Cond) (a : Addr) (v : Addr) (kv : ClassId) (vs : List Value) (x : Addr) (t : Addr) (kb : ClassId) (us : List Value) (G1 : Int32) (h0 : Heap) (n0 : Nat) (Z0 : n0 ≤ h0.size) (hvd : vs.length = 0) (hus : us.length = 21) (E0 : Exa Z h0 a "java/lang/StringBuilder") (F0 : Fld Z h0 a "java/lang/AbstractStringBuilder" "value" "[B" (.ref v)) (F1 : Fld Z h0 a "java/lang/AbstractStringBuilder" "coder" "B" (.int (0 : Int32))) (F2 : Fld Z h0 a "java/lang/AbstractStringBuilder" "count" "I" (.int (0 : Int32))) (A0 : Arv Z h0 v kv .byte (16 : Int32) vs (.int 0)) (E1 : Exa Z h0 x "java/lang/String") (F3 : Fld Z h0 x "java/lang/String" "value" "[B" (.ref t)) (F4 : Fld Z h0 x "java/lang/String" "coder" "B" (.int (0 : Int32))) (A1 : Arv Z h0 t kb .byte (21 : Int32) us (.int 0)) (ga : n0 ≤ a) (nx : x ≠ a) (nt : t ≠ a) (S1 : Sta Z Z.heap "java/lang/String" "COMPACT_STRINGS" "Z" (.int G1)) (P1 : ¬ G1 = 0) (OL : Old Z n0 h0) :
    MetFree l y_19 (head1 (Jvm.Cond.code y_19 jdk_68_method_22_code 3 (some (.object "java/lang/AbstractStringBuilder")) :: ws) ({ frames := 4, cells := 1, slots := 34, locals := 62 } : Room)) (fun aa_ U => aa_ = #[(.ref a), (.ref x)] ∧ Z.Warmed39 U.vm ∧ U.heap = h0) (fun _ _ _ _ _ => True) (fun _ U o U' => ∃ vv_ LL_, o = .returned vv_ ∧ Q_app0_21 Z a v kv vs x t kb us G1 h0 n0 vv_ U'.heap LL_ ∧ FrameEnd U o U' LL_ 1 34) := by
  refine MetFree.of_bodySF (plainFor_of_name pn_java_lang_AbstractStringBuilder) hisR ?_
  intro p e s m args below meth c s₁ Bd hml0 hP hK
  obtain ⟨rfl, hZ, hh⟩ := hP
  have hx := Bd.exec
  have hby := Bd.bytes
  have hml : c.maxLocals = 3 := hml0
  have hown : s.vm.findClass "java/lang/AbstractStringBuilder" = some m.cls := findClass_of_methodNamed Bd.named
  have hnm := (name_of_methodNamed Bd.named Bd.method).1
  have X0 : Stand p l e ({ frames := 4, cells := 1, slots := 34, locals := 62 } : Room) s m #[(.ref a), (.ref x)] below meth c s₁ [] 0 0 := Stand.of_body Bd
  have e0 : s₁.heap = h0 := by rw [← hh, Bd.state]; rfl
  have N0 := Fr.nil n0
  have ef : entryFrame m #[(.ref a), (.ref x)] 3 = mkF m 0 #[.val (.ref a), .val (.ref x), .unset] [] := by first | (simp [entryFrame, mkF, argsToLocals, Value.category]; done) | rfl
  refine Fin.start (Q := Q_app0_21 Z a v kv vs x t kb us G1 h0 n0) ef ?_
  refine Fin.by (fun tt_ kk_ => XS.aloadN X0.here hx rfl (hb hby d18_0) rfl rfl kk_) ?_
  refine Fin.by (fun tt_ kk_ => XS.ifnonnullYes X0.here hx rfl (pc0 := 1) (pc' := 9) rfl (hb hby d18_1) rfl (by decide) (by decide) kk_) ?_
  refine Fin.by (fun tt_ kk_ => XS.aloadN X0.here hx rfl (hb hby d18_9) rfl rfl kk_) ?_
  obtain ⟨cq101, kq101, qa101, qb101, qc101⟩ := isOf hZ e0 E1
  obtain ⟨v101, _, ⟨T101, L101, k101, n101⟩, -, X101, ⟨Lc101, hQ101, l101, y101, z101⟩, st101⟩ := X0.virtualBack hx (y := y_18) (z := y_18) hown (mvT hZ (w_ hw 94 rfl)) (mvT hZ (w_ hw 95 rfl)) (notFace_of_selects (args := #[]) (mvT hZ (w_ hw 97 rfl))) (mvT hZ (w_ hw 97 rfl)) (mvT hZ (w_ hw 96 rfl)) (by decide) (backOf (W := 0) (rm_sle l Z a0 hw [] x t kb (us : List Value) (21 : Int32) G1 h0 n0 Z0 E1 F3 F4 A1 S1 P1 OL) hZ (w_ hw 98 rfl) (w_ hw 7 rfl) (by decide) (by decide)) qa101 qc101 (g := (mkF m 10 #[.val (.ref a), .val (.ref x), .unset] [(.ref x)])) rfl (by rw [hml]; rfl) (Steps.refl _) (argsL := []) (rest := []) (lenOf pd_442 rfl) rfl (by show 2 * 0 + _ ≤ _; exact Nat.le_of_eq rfl) (hb hby d18_10) (fun _ _ => ⟨rfl, e0, (by decide : 0 + 0 ≤ _), (by decide : 0 + 0 ≤ _)⟩)
  dsimp only [Pt.U, Pt.locs, Pt.cells, Pt.slots] at X101 l101 y101 z101 st101 hQ101
  subst l101 y101 z101
  obtain ⟨rfl, Nq101, e101_⟩ := hQ101
  have N101_ := Fr.app N0 Nq101
  refine Fin.byS st101 ?_
  have e101 := e101_
  refine Fin.by (fun tt_ kk_ => XS.istoreN X101.here hx rfl (hb hby d18_13) rfl (l' := #[.val (.ref a), .val (.ref x), .val (.int 21)]) rfl (XS.aloadN X101.here hx rfl (hb hby d18_14) rfl rfl (XS.aloadN X101.here hx rfl (hb hby d18_15) rfl rfl kk_))) ?_
  obtain ⟨T102, X102, e102, st102⟩ := getF X101 hx hZ hown (host := "") (Or.inl (w_ hw 104 rfl)) Via.refl e101 F2 (g := (mkF m 16 #[.val (.ref a), .val (.ref x), .val (.int 21)] [(.ref a), (.ref a)])) rfl rfl (hb hby d18_16)
  refine Fin.by (fun tt_ kk_ => st102 tt_ kk_) ?_
  refine Fin.by (fun tt_ kk_ => XS.iloadN X102.here hx rfl (hb hby d18_19) rfl (XS.iadd X102.here hx rfl (hb hby d18_20) rfl kk_)) ?_
  obtain ⟨cq103, qa103, qb103⟩ := E0.cell
  obtain ⟨v103, _, ⟨T103, L103, k103, n103⟩, -, X103, ⟨Lc103, hQ103, l103, y103, z103⟩, st103⟩ := X102.privateBack hx (y := y_13) hown (mvT hZ (w_ hw 106 rfl)) (mvT hZ (w_ hw 107 rfl)) (own_selpriv (z := y_13) (y := y_13) (mvT hZ (w_ hw 109 rfl)) rfl (Cond.privateMethod_at (mvP hZ (w_ hw 108 rfl) (args := #[]))) (mvT hZ (w_ hw 107 rfl)) (by decide)) (Cond.privateMethod_at (mvP hZ (w_ hw 108 rfl) (args := #[]))) (mvT hZ (w_ hw 110 rfl)) (by decide) (backOf (W := 0) (rm_eci16_21 l Z a0 hw [] a v kv (vs : List Value) (0 : Int32) h0 n0 Z0 (Nat.le_trans (Nat.le_of_eq hvd) (by decide)) E0 F0 F1 F2 A0 ga) hZ (w_ hw 110 rfl) (w_ hw 73 rfl) (by decide) (by decide)) (g := (mkF m 21 #[.val (.ref a), .val (.ref x), .val (.int 21)] [(.int 21), (.ref a)])) rfl (by rw [hml]; rfl) (Steps.refl _) (a := a) (by rw [e102]; exact qa103) qb103 (argsL := [(.int 21)]) (rest := []) (lenOf pd_279 rfl) rfl (by show 2 * 0 + _ ≤ _; exact Nat.le_of_eq rfl) (hb hby d18_21) (fun _ _ => ⟨rfl, e102, (by decide : 0 + 1 ≤ _), (by decide : 0 + 34 ≤ _)⟩)
  dsimp only [Pt.U, Pt.locs, Pt.cells, Pt.slots] at X103 l103 y103 z103 st103 hQ103
  subst l103 y103 z103
  obtain ⟨t104, k105, rfl, Nq103, p103_0, p103_1, p103_2, p103_3, p103_4, p103_5, p103_6⟩ := hQ103
  have N103_ := Fr.app N101_ Nq103
  refine Fin.byS st103 ?_
  refine Fin.by (fun tt_ kk_ => XS.aloadN X103.here hx rfl (hb hby d18_24) rfl rfl (XS.aloadN X103.here hx rfl (hb hby d18_25) rfl rfl kk_)) ?_
  obtain ⟨T106, X106, e106, st106⟩ := getF X103 hx hZ hown (host := "") (Or.inl (w_ hw 104 rfl)) Via.refl rfl p103_5 (g := (mkF m 26 #[.val (.ref a), .val (.ref x), .val (.int 21)] [(.ref a), (.ref a)])) rfl rfl (hb hby d18_26)
  refine Fin.by (fun tt_ kk_ => st106 tt_ kk_) ?_
  refine Fin.by (fun tt_ kk_ => XS.aloadN X106.here hx rfl (hb hby d18_29) rfl rfl kk_) ?_
  have E107 : Exa Z T103.heap x "java/lang/String" := (E1.keep p103_0)
  have F108 : Fld Z T103.heap x "java/lang/String" "value" "[B" (.ref t) := (F3.keep p103_0 (ninS nx nin0))
  have F109 : Fld Z T103.heap x "java/lang/String" "coder" "B" (.int (0 : Int32)) := (F4.keep p103_0 (ninS nx nin0))
  have A110 : Arv Z T103.heap t kb .byte (21 : Int32) us (.int 0) := (A1.keep p103_0 (ninS nt nin0))
  have g111 : n0 ≤ t104 := Nat.le_trans Z0 p103_1
  have O112 : Old Z n0 T103.heap := (OL.keep p103_0 (allS ga all0))
  have z113 : n0 ≤ T103.heap.size := Nat.le_trans Z0 p103_0.1
  obtain ⟨cq114, qa114, qb114⟩ := p103_2.cell
  obtain ⟨v114, _, ⟨T114, L114, k114, n114⟩, -, X114, ⟨Lc114, hQ114, l114, y114, z114⟩, st114⟩ := X106.privateBack hx (y := y_17) hown (mvT hZ (w_ hw 137 rfl)) (mvT hZ (w_ hw 138 rfl)) (own_selpriv (z := y_13) (y := y_17) (mvT hZ (w_ hw 109 rfl)) rfl (Cond.privateMethod_at (mvP hZ (w_ hw 139 rfl) (args := #[]))) (mvT hZ (w_ hw 138 rfl)) (by decide)) (Cond.privateMethod_at (mvP hZ (w_ hw 139 rfl) (args := #[]))) (mvT hZ (w_ hw 141 rfl)) (by decide) (backOf (W := 0) (rm_psa0_21 l Z a0 hw [] a t104 k105 ((vs : List Value) : List Value) x t kb (us : List Value) G1 T103.heap n0 z113 hvd hus p103_2 p103_3 p103_4 E107 F108 F109 A110 p103_6 g111 S1 P1 O112) hZ (w_ hw 141 rfl) (w_ hw 73 rfl) (by decide) (by decide)) (g := (mkF m 30 #[.val (.ref a), .val (.ref x), .val (.int 21)] [(.ref x), (.int 0), (.ref a)])) rfl (by rw [hml]; rfl) (Steps.refl _) (a := a) (by rw [e106]; exact qa114) qb114 (argsL := [(.int 0), (.ref x)]) (rest := []) (lenOf pd_455 rfl) rfl (by show 2 * 0 + _ ≤ _; exact Nat.le_of_eq rfl) (hb hby d18_30) (fun _ _ => ⟨rfl, e106, (by decide : 1 + 0 ≤ _), (by decide : 34 + 0 ≤ _)⟩)
  dsimp only [Pt.U, Pt.locs, Pt.cells, Pt.slots] at X114 l114 y114 z114 st114 hQ114
  subst l114 y114 z114
  obtain ⟨rfl, Nq114, p114_0, p114_1⟩ := hQ114
  have N114_ := Fr.app N103_ Nq114
  refine Fin.byS st114 ?_
  refine Fin.by (fun tt_ kk_ => XS.aloadN X114.here hx rfl (hb hby d18_33) rfl rfl (XS.dup X114.here hx rfl (hb hby d18_34) rfl rfl kk_)) ?_
  have ne115 : a ≠ t104 := Nat.ne_of_lt (Nat.lt_of_lt_of_le E0.lt p103_1)
  have F116 : Fld Z T114.heap a "java/lang/AbstractStringBuilder" "count" "I" (.int (0 : Int32)) := (p103_5.keep p114_0 (ninS ne115 nin0))
  obtain ⟨T117, X117, e117, st117⟩ := getF X114 hx hZ hown (host := "") (Or.inl (w_ hw 104 rfl)) Via.refl rfl F116 (g := (mkF m 35 #[.val (.ref a), .val (.ref x), .val (.int 21)] [(.ref a), (.ref a)])) rfl rfl (hb hby d18_35)
  refine Fin.by (fun tt_ kk_ => st117 tt_ kk_) ?_
  refine Fin.by (fun tt_ kk_ => XS.iloadN X117.here hx rfl (hb hby d18_38) rfl (XS.iadd X117.here hx rfl (hb hby d18_39) rfl kk_)) ?_
  have E118 : Exa Z T114.heap a "java/lang/StringBuilder" := (p103_2.keep p114_0)
  obtain ⟨T119, h119, X119, e119, W119, st119⟩ := putF X117 hx hZ hown (host := "") (Or.inl (w_ hw 104 rfl)) Via.refl e117 F116 E118 (Or.inl (w_ hw 105 rfl)) (w_ hw 64 rfl) (ty := .int) (by decide) rfl rfl (g := (mkF m 40 #[.val (.ref a), .val (.ref x), .val (.int 21)] [(.int 21), (.ref a)])) rfl rfl (hb hby d18_40)
  refine Fin.by (fun tt_ kk_ => st119 tt_ kk_) ?_
  have N119_ := Fr.snoc X119 N114_ ga
  refine Fin.by (fun tt_ kk_ => XS.aloadN X119.here hx rfl (hb hby d18_43) rfl rfl kk_) ?_
  have kp120 : Keep h0 T103.heap [a] := (Keep.refl h0 [a]).trans p103_0 (allS (Or.inl (List.mem_of_getElem? (i := 0) rfl)) all0)
  have kp121 : Keep h0 T114.heap [a] := kp120.trans p114_0 (allS (Or.inr (Nat.le_trans (Nat.le_refl _) p103_1)) all0)
  have kp122 : Keep h0 h119 [a] := kp121.wr W119 (Or.inl (List.mem_of_getElem? (i := 0) rfl))
  have E123 : Exa Z h119 a "java/lang/StringBuilder" := (E118.wr W119)
  have F124 : Fld Z h119 a "java/lang/AbstractStringBuilder" "value" "[B" (.ref t104) := ((p103_3.keep p114_0 (ninS ne115 nin0)).other W119 (Or.inr (slot_ne (Or.inl (w_ hw 78 rfl)) (Or.inl (w_ hw 105 rfl)) (by decide) (t := (.array .byte)) (t' := .int) (by decide) (by decide))))
  have F125 : Fld Z h119 a "java/lang/AbstractStringBuilder" "coder" "B" (.int (0 : Int32)) := ((p103_4.keep p114_0 (ninS ne115 nin0)).other W119 (Or.inr (slot_ne (Or.inl (w_ hw 80 rfl)) (Or.inl (w_ hw 105 rfl)) (by decide) (t := .byte) (t' := .int) (by decide) (by decide))))
  have A126 : Arv Z h119 t104 k105 .byte (34 : Int32) (((vs : List Value) : List Value) ++ (us : List Value)) (.int 0) := (p114_1.other W119 (Ne.symm ne115))
  show Fin _ _ _ _ _ _ _ (T119.setTop (mkF m 44 #[.val (.ref a), .val (.ref x), .val (.int 21)] [(.ref a)]))
  exact Fin.ret (v := some (.ref a)) X119 (fun h => by rw [Bd.returns] at h; cases h) Bd.notSynchronized (by rw [e119]; exact ⟨t104, k105, rfl, N119_, kp122, (Nat.le_trans (Nat.le_refl _) p103_1), E123, F124, F125, (F116.same W119), A126⟩) (by decide) (by decide) (fun fs hr => retA X119 hx Bd.returns rfl rfl (hb hby d18_44) hr)
abbrev y_20 : MethodName := (⟨"java/lang/StringBuilder", "append", "(Ljava/lang/String;)Ljava/lang/StringBuilder;"⟩ : MethodName)
theorem d19_0 : decode jdk_67_method_7_code 0 = .ok (.aload_n 0, 1) := by decide +kernel
theorem d19_1 : decode jdk_67_method_7_code 1 = .ok (.aload_n 1, 1) := by decide +kernel
theorem pd_467 : parseMethodDescriptor "(Ljava/lang/String;)Ljava/lang/AbstractStringBuilder;" = some ⟨[(.object "java/lang/String")], some (.object "java/lang/AbstractStringBuilder")⟩ := by decide +kernel
theorem d19_2 : decode jdk_67_method_7_code 2 = .ok (.invokespecial 29, 3) := by decide +kernel
theorem d19_5 : decode jdk_67_method_7_code 5 = .ok (.pop, 1) := by decide +kernel
theorem d19_6 : decode jdk_67_method_7_code 6 = .ok (.aload_n 0, 1) := by decide +kernel
theorem d19_7 : decode jdk_67_method_7_code 7 = .ok (.areturn, 1) := by decide +kernel
def Q_sap0_21 (Z : State) (a : Addr) (v : Addr) (kv : ClassId) (vs : List Value) (x : Addr) (t : Addr) (kb : ClassId) (us : List Value) (G1 : Int32) (h0 : Heap) (n0 : Nat) (vv_ : Option Value) (hh_ : Heap) (LL_ : List Loc) : Prop := ∃ (v2 : Addr), ∃ (k2 : ClassId), vv_ = some (.ref a) ∧ Fr n0 LL_ ∧ Keep h0 hh_ [a] ∧ h0.size ≤ v2 ∧ Exa Z hh_ a "java/lang/StringBuilder" ∧ Fld Z hh_ a "java/lang/AbstractStringBuilder" "value" "[B" (.ref v2) ∧ Fld Z hh_ a "java/lang/AbstractStringBuilder" "coder" "B" (.int (0 : Int32)) ∧ Fld Z hh_ a "java/lang/AbstractStringBuilder" "count" "I" (.int (21 : Int32)) ∧ Arv Z hh_ v2 k2 .byte (34 : Int32) (vs ++ us) (.int 0)
set_option maxRecDepth 65536 in
set_option maxHeartbeats 40000000 in
theorem rm_sap0_21 (l : Launch) (Z : State) (a0 : Array Value) (hw : ∀ d ∈ tables_1, d.before a0 Z = true) (ws : List Jvm.Cond) (a : Addr) (v : Addr) (kv : ClassId) (vs : List Value) (x : Addr) (t : Addr) (kb : ClassId) (us : List Value) (G1 : Int32) (h0 : Heap) (n0 : Nat) (Z0 : n0 ≤ h0.size) (hvd : vs.length = 0) (hus : us.length = 21) (E0 : Exa Z h0 a "java/lang/StringBuilder") (F0 : Fld Z h0 a "java/lang/AbstractStringBuilder" "value" "[B" (.ref v)) (F1 : Fld Z h0 a "java/lang/AbstractStringBuilder" "coder" "B" (.int (0 : Int32))) (F2 : Fld Z h0 a "java/lang/AbstractStringBuilder" "count" "I" (.int (0 : Int32))) (A0 : Arv Z h0 v kv .byte (16 : Int32) vs (.int 0)) (E1 : Exa Z h0 x "java/lang/String") (F3 : Fld Z h0 x "java/lang/String" "value" "[B" (.ref t)) (F4 : Fld Z h0 x "java/lang/String" "coder" "B" (.int (0 : Int32))) (A1 : Arv Z h0 t kb .byte (21 : Int32) us (.int 0)) (ga : n0 ≤ a) (nx : x ≠ a) (nt : t ≠ a) (S1 : Sta Z Z.heap "java/lang/String" "COMPACT_STRINGS" "Z" (.int G1)) (P1 : ¬ G1 = 0) (OL : Old Z n0 h0) :
    MetFree l y_20 (head1 (Jvm.Cond.code y_20 jdk_67_method_7_code 2 (some (.object "java/lang/StringBuilder")) :: ws) ({ frames := 5, cells := 1, slots := 34, locals := 76 } : Room)) (fun aa_ U => aa_ = #[(.ref a), (.ref x)] ∧ Z.Warmed39 U.vm ∧ U.heap = h0) (fun _ _ _ _ _ => True) (fun _ U o U' => ∃ vv_ LL_, o = .returned vv_ ∧ Q_sap0_21 Z a v kv vs x t kb us G1 h0 n0 vv_ U'.heap LL_ ∧ FrameEnd U o U' LL_ 1 34) := by
  refine MetFree.of_bodySF (plainFor_of_name pn_java_lang_StringBuilder) hisR ?_
  intro p e s m args below meth c s₁ Bd hml0 hP hK
  obtain ⟨rfl, hZ, hh⟩ := hP
  have hx := Bd.exec
  have hby := Bd.bytes
  have hml : c.maxLocals = 2 := hml0
  have hown : s.vm.findClass "java/lang/StringBuilder" = some m.cls := findClass_of_methodNamed Bd.named
  have hnm := (name_of_methodNamed Bd.named Bd.method).1
  have X0 : Stand p l e ({ frames := 5, cells := 1, slots := 34, locals := 76 } : Room) s m #[(.ref a), (.ref x)] below meth c s₁ [] 0 0 := Stand.of_body Bd
  have e0 : s₁.heap = h0 := by rw [← hh, Bd.state]; rfl
  have N0 := Fr.nil n0
  have ef : entryFrame m #[(.ref a), (.ref x)] 2 = mkF m 0 #[.val (.ref a), .val (.ref x)] [] := by first | (simp [entryFrame, mkF, argsToLocals, Value.category]; done) | rfl
  refine Fin.start (Q := Q_sap0_21 Z a v kv vs x t kb us G1 h0 n0) ef ?_
  refine Fin.by (fun tt_ kk_ => XS.aloadN X0.here hx rfl (hb hby d19_0) rfl rfl (XS.aloadN X0.here hx rfl (hb hby d19_1) rfl rfl kk_)) ?_
  obtain ⟨v101, _, ⟨T101, L101, k101, n101⟩, -, X101, ⟨Lc101, hQ101, l101, y101, z101⟩, st101⟩ := superBack X0 hx hZ (y := y_19) hown (w_ hw 89 rfl) (own_same (z := y_13) (y := y_19) (w_ hw 109 rfl) rfl (w_ hw 90 rfl) (by decide)) (w_ hw 90 rfl) (w_ hw 91 rfl) (by decide) (backOf (W := 0) (rm_app0_21 l Z a0 hw [] a v kv (vs : List Value) x t kb (us : List Value) G1 h0 n0 Z0 hvd hus E0 F0 F1 F2 A0 E1 F3 F4 A1 ga nx nt S1 P1 OL) hZ (w_ hw 93 rfl) (w_ hw 73 rfl) (by decide) (by decide)) e0 (Ins.self E0) (g := (mkF m 2 #[.val (.ref a), .val (.ref x)] [(.ref x), (.ref a)])) rfl (by rw [hml]; rfl) (w_ hw 93 rfl) (argsL := [(.ref x)]) (rest := []) (lenOf pd_467 rfl) rfl (by show 2 * 0 + _ ≤ _; exact Nat.le_of_eq rfl) (hb hby d19_2) (fun _ _ => ⟨rfl, e0, (by decide : 0 + 1 ≤ _), (by decide : 0 + 34 ≤ _)⟩)
  dsimp only [Pt.U, Pt.locs, Pt.cells, Pt.slots] at X101 l101 y101 z101 st101 hQ101
  subst l101 y101 z101
  obtain ⟨v102, k103, rfl, Nq101, p101_0, p101_1, p101_2, p101_3, p101_4, p101_5, p101_6⟩ := hQ101
  have N101_ := Fr.app N0 Nq101
  refine Fin.byS st101 ?_
  refine Fin.by (fun tt_ kk_ => XS.pop X101.here hx rfl (hb hby d19_5) rfl rfl (XS.aloadN X101.here hx rfl (hb hby d19_6) rfl rfl kk_)) ?_
  have kp104 : Keep h0 T101.heap [a] := (Keep.refl h0 [a]).trans p101_0 (allS (Or.inl (List.mem_of_getElem? (i := 0) rfl)) all0)
  show Fin _ _ _ _ _ _ _ (T101.setTop (mkF m 7 #[.val (.ref a), .val (.ref x)] [(.ref a)]))
  exact Fin.ret (v := some (.ref a)) X101 (fun h => by rw [Bd.returns] at h; cases h) Bd.notSynchronized (⟨v102, k103, rfl, N101_, kp104, (Nat.le_trans (Nat.le_refl _) p101_1), p101_2, p101_3, p101_4, p101_5, p101_6⟩) (by decide) (by decide) (fun fs hr => retA X101 hx Bd.returns rfl rfl (hb hby d19_7) hr)
def Q_eci34_25 (Z : State) (a : Addr) (v : Addr) (kv : ClassId) (vs : List Value) (h0 : Heap) (n0 : Nat) (vv_ : Option Value) (hh_ : Heap) (LL_ : List Loc) : Prop := vv_ = none ∧ Fr n0 LL_ ∧ hh_ = h0
set_option maxRecDepth 65536 in
set_option maxHeartbeats 40000000 in
theorem rm_eci34_25 (l : Launch) (Z : State) (a0 : Array Value) (hw : ∀ d ∈ tables_1, d.before a0 Z = true) (ws : List Jvm.Cond) (a : Addr) (v : Addr) (kv : ClassId) (vs : List Value) (h0 : Heap) (n0 : Nat) (Z0 : n0 ≤ h0.size) (E0 : Exa Z h0 a "java/lang/StringBuilder") (F0 : Fld Z h0 a "java/lang/AbstractStringBuilder" "value" "[B" (.ref v)) (F1 : Fld Z h0 a "java/lang/AbstractStringBuilder" "coder" "B" (.int (0 : Int32))) (A0 : Arv Z h0 v kv .byte (34 : Int32) vs (.int 0)) :
    MetFree l y_13 (head1 (Jvm.Cond.code y_13 jdk_68_method_9_code 3 none :: ws) ({ frames := 0, cells := 0, slots := 0, locals := 0 } : Room)) (fun aa_ U => aa_ = #[(.ref a), (.int (25 : Int32))] ∧ Z.Warmed39 U.vm ∧ U.heap = h0) (fun _ _ _ _ _ => True) (fun _ U o U' => ∃ vv_ LL_, o = .returned vv_ ∧ Q_eci34_25 Z a v kv vs h0 n0 vv_ U'.heap LL_ ∧ FrameEnd U o U' LL_ 0 0) := by
  refine MetFree.of_bodySF (plainFor_of_name pn_java_lang_AbstractStringBuilder) hisR ?_
  intro p e s m args below meth c s₁ Bd hml0 hP hK
  obtain ⟨rfl, hZ, hh⟩ := hP
  have hx := Bd.exec
  have hby := Bd.bytes
  have hml : c.maxLocals = 3 := hml0
  have hown : s.vm.findClass "java/lang/AbstractStringBuilder" = some m.cls := findClass_of_methodNamed Bd.named
  have hnm := (name_of_methodNamed Bd.named Bd.method).1
  have X0 : Stand p l e ({ frames := 0, cells := 0, slots := 0, locals := 0 } : Room) s m #[(.ref a), (.int (25 : Int32))] below meth c s₁ [] 0 0 := Stand.of_body Bd
  have e0 : s₁.heap = h0 := by rw [← hh, Bd.state]; rfl
  have N0 := Fr.nil n0
  have ef : entryFrame m #[(.ref a), (.int (25 : Int32))] 3 = mkF m 0 #[.val (.ref a), .val (.int (25 : Int32)), .unset] [] := by first | (simp [entryFrame, mkF, argsToLocals, Value.category]; done) | rfl
  refine Fin.start (Q := Q_eci34_25 Z a v kv vs h0 n0) ef ?_
  refine Fin.by (fun tt_ kk_ => XS.aloadN X0.here hx rfl (hb hby d12_0) rfl rfl kk_) ?_
  obtain ⟨T101, X101, e101, st101⟩ := getF X0 hx hZ hown (host := "") (Or.inl (w_ hw 77 rfl)) Via.refl e0 F0 (g := (mkF m 1 #[.val (.ref a), .val (.int 25), .unset] [(.ref a)])) rfl rfl (hb hby d12_1)
  refine Fin.by (fun tt_ kk_ => st101 tt_ kk_) ?_
  obtain ⟨cl102, Ar102, q102, S102, N102, H102, G102⟩ := id A0
  refine Fin.by (fun tt_ kk_ => X101.arraylength hx (by rw [e101]; exact Ar102.1) (State.isArrayOf_alike hZ.alike Ar102.2.1) (g := (mkF m 4 #[.val (.ref a), .val (.int 25), .unset] [(.ref v)])) rfl rfl (hb hby d12_4) _ kk_) ?_
  rw [len_of S102 N102]
  refine Fin.by (fun tt_ kk_ => XS.aloadN X101.here hx rfl (hb hby d12_5) rfl rfl kk_) ?_
  obtain ⟨T103, X103, e103, st103⟩ := getF X101 hx hZ hown (host := "") (Or.inl (w_ hw 79 rfl)) Via.refl e101 F1 (g := (mkF m 6 #[.val (.ref a), .val (.int 25), .unset] [(.ref a), (.int 34)])) rfl rfl (hb hby d12_6)
  refine Fin.by (fun tt_ kk_ => st103 tt_ kk_) ?_
  refine Fin.by (fun tt_ kk_ => XS.ishr X103.here hx rfl (hb hby d12_9) rfl (XS.istoreN X103.here hx rfl (hb hby d12_10) rfl (l' := #[.val (.ref a), .val (.int 25), .val (.int 34)]) rfl (XS.iloadN X103.here hx rfl (hb hby d12_11) rfl (XS.iloadN X103.here hx rfl (hb hby d12_12) rfl (XS.isub X103.here hx rfl (hb hby d12_13) rfl kk_))))) ?_
  show Fin _ _ _ _ _ _ _ (T103.setTop (mkF m 14 #[.val (.ref a), .val (.int 25), .val (.int 34)] [(.int (-9 : Int32))]))
  refine Fin.by (fun tt_ kk_ => XS.ifYes X103.here hx rfl (pc0 := 14) (pc' := 38) rfl (hb hby d12_14) rfl ((if0 _ _).trans (flt (by decide : ¬ (0 : Int32) < (-9 : Int32))).2.2.2) (by decide) (by decide) kk_) ?_
  show Fin _ _ _ _ _ _ _ (T103.setTop (mkF m 38 #[.val (.ref a), .val (.int 25), .val (.int 34)] []))
  exact Fin.ret (v := none) X103 (fun _ => rfl) Bd.notSynchronized (by rw [e103]; exact ⟨rfl, N0, rfl⟩) (by decide) (by decide) (fun fs hr => X103.returnOut hx Bd.returns (hb hby d12_38) hr)
def Q_gb21_4 (Z : State) (x : Addr) (t : Addr) (kb : ClassId) (us : List Value) (v : Addr) (kv : ClassId) (vs : List Value) (G1 : Int32) (h0 : Heap) (n0 : Nat) (vv_ : Option Value) (hh_ : Heap) (LL_ : List Loc) : Prop := vv_ = none ∧ Fr n0 LL_ ∧ Keep h0 hh_ [v] ∧ Arv Z hh_ v kv .byte (34 : Int32) (vs ++ us) (.int 0)
set_option maxRecDepth 65536 in
set_option maxHeartbeats 40000000 in
theorem rm_gb21_4 (l : Launch) (Z : State) (a0 : Array Value) (hw : ∀ d ∈ tables_1, d.before a0 Z = true) (ws : List Jvm.Cond) (x : Addr) (t : Addr) (kb : ClassId) (us : List Value) (v : Addr) (kv : ClassId) (vs : List Value) (G1 : Int32) (h0 : Heap) (n0 : Nat) (Z0 : n0 ≤ h0.size) (hvd : vs.length = 21) (hus : us.length = 4) (E1 : Exa Z h0 x "java/lang/String") (F3 : Fld Z h0 x "java/lang/String" "value" "[B" (.ref t)) (F4 : Fld Z h0 x "java/lang/String" "coder" "B" (.int (0 : Int32))) (A1 : Arv Z h0 t kb .byte (4 : Int32) us (.int 0)) (A0 : Arv Z h0 v kv .byte (34 : Int32) vs (.int 0)) (gv : n0 ≤ v) (S1 : Sta Z Z.heap "java/lang/String" "COMPACT_STRINGS" "Z" (.int G1)) (P1 : ¬ G1 = 0) (OL : Old Z n0 h0) :
    MetFree l y_16 (head1 (Jvm.Cond.code y_16 jdk_42_method_147_code 4 none :: ws) ({ frames := 1, cells := 0, slots := 0, locals := 18 } : Room)) (fun aa_ U => aa_ = #[(.ref x), (.ref v), (.int (21 : Int32)), (.int (0 : Int32))] ∧ Z.Warmed39 U.vm ∧ U.heap = h0) (fun _ _ _ _ _ => True) (fun _ U o U' => ∃ vv_ LL_, o = .returned vv_ ∧ Q_gb21_4 Z x t kb us v kv vs G1 h0 n0 vv_ U'.heap LL_ ∧ FrameEnd U o U' LL_ 0 0) := by
  refine MetFree.of_bodySF (plainFor_of_name pn_java_lang_String) hisR ?_
  intro p e s m args below meth c s₁ Bd hml0 hP hK
  obtain ⟨rfl, hZ, hh⟩ := hP
  have hx := Bd.exec
  have hby := Bd.bytes
  have hml : c.maxLocals = 4 := hml0
  have hown : s.vm.findClass "java/lang/String" = some m.cls := findClass_of_methodNamed Bd.named
  have hnm := (name_of_methodNamed Bd.named Bd.method).1
  have X0 : Stand p l e ({ frames := 1, cells := 0, slots := 0, locals := 18 } : Room) s m #[(.ref x), (.ref v), (.int (21 : Int32)), (.int (0 : Int32))] below meth c s₁ [] 0 0 := Stand.of_body Bd
  have e0 : s₁.heap = h0 := by rw [← hh, Bd.state]; rfl
  have N0 := Fr.nil n0
  have ef : entryFrame m #[(.ref x), (.ref v), (.int (21 : Int32)), (.int (0 : Int32))] 4 = mkF m 0 #[.val (.ref x), .val (.ref v), .val (.int (21 : Int32)), .val (.int (0 : Int32))] [] := by first | (simp [entryFrame, mkF, argsToLocals, Value.category]; done) | rfl
  refine Fin.start (Q := Q_gb21_4 Z x t kb us v kv vs G1 h0 n0) ef ?_
  refine Fin.by (fun tt_ kk_ => XS.aloadN X0.here hx rfl (hb hby d15_0) rfl rfl kk_) ?_
  obtain ⟨cq101, kq101, qa101, qb101, qc101⟩ := isOf hZ e0 E1
  obtain ⟨v101, _, ⟨T101, L101, k101, n101⟩, -, X101, ⟨Lc101, hQ101, l101, y101, z101⟩, st101⟩ := X0.virtualBack hx (y := y_14) (z := y_14) hown (mvT hZ (w_ hw 99 rfl)) (mvT hZ (w_ hw 100 rfl)) (notFace_of_selects (args := #[]) (mvT hZ (w_ hw 102 rfl))) (mvT hZ (w_ hw 102 rfl)) (mvT hZ (w_ hw 101 rfl)) (by decide) (backOf (W := 0) (rm_cod l Z a0 hw [] x G1 h0 n0 Z0 F4 S1 P1 OL) hZ (w_ hw 103 rfl) (w_ hw 7 rfl) (by decide) (by decide)) qa101 qc101 (g := (mkF m 1 #[.val (.ref x), .val (.ref v), .val (.int 21), .val (.int 0)] [(.ref x)])) rfl (by rw [hml]; rfl) (Steps.refl _) (argsL := []) (rest := []) (lenOf pd_398 rfl) rfl (by show 2 * 0 + _ ≤ _; exact Nat.le_of_eq rfl) (hb hby d15_1) (fun _ _ => ⟨rfl, e0, (by decide : 0 + 0 ≤ _), (by decide : 0 + 0 ≤ _)⟩)
  dsimp only [Pt.U, Pt.locs, Pt.cells, Pt.slots] at X101 l101 y101 z101 st101 hQ101
  subst l101 y101 z101
  obtain ⟨rfl, Nq101, e101_⟩ := hQ101
  have N101_ := Fr.app N0 Nq101
  refine Fin.byS st101 ?_
  have e101 := e101_
  refine Fin.by (fun tt_ kk_ => XS.iloadN X101.here hx rfl (hb hby d15_4) rfl kk_) ?_
  show Fin _ _ _ _ _ _ _ (T101.setTop (mkF m 5 #[.val (.ref x), .val (.ref v), .val (.int 21), .val (.int 0)] [(.int 0), (.int 0)]))
  refine Fin.by (fun tt_ kk_ => XS.icmpNo X101.here hx rfl (hb hby d15_5) rfl (teq (rfl : (0 : Int32) = (0 : Int32))).2 kk_) ?_
  refine Fin.by (fun tt_ kk_ => XS.aloadN X101.here hx rfl (hb hby d15_8) rfl rfl kk_) ?_
  obtain ⟨T102, X102, e102, st102⟩ := getF X101 hx hZ hown (host := "") (Or.inl (w_ hw 32 rfl)) Via.refl e101 F3 (g := (mkF m 9 #[.val (.ref x), .val (.ref v), .val (.int 21), .val (.int 0)] [(.ref x)])) rfl rfl (hb hby d15_9)
  refine Fin.by (fun tt_ kk_ => st102 tt_ kk_) ?_
  refine Fin.by (fun tt_ kk_ => XS.iconst X102.here hx rfl (hb hby d15_12) (XS.aloadN X102.here hx rfl (hb hby d15_13) rfl rfl (XS.iloadN X102.here hx rfl (hb hby d15_14) rfl (XS.iloadN X102.here hx rfl (hb hby d15_15) rfl (XS.ishl X102.here hx rfl (hb hby d15_16) rfl (XS.aloadN X102.here hx rfl (hb hby d15_17) rfl rfl kk_)))))) ?_
  show Fin _ _ _ _ _ _ _ (T102.setTop (mkF m 18 #[.val (.ref x), .val (.ref v), .val (.int 21), .val (.int 0)] [(.ref x), (.int 21), (.ref v), (.int 0), (.ref t)]))
  obtain ⟨T103, X103, e103, st103⟩ := getF X102 hx hZ hown (host := "") (Or.inl (w_ hw 32 rfl)) Via.refl e102 F3 (g := (mkF m 18 #[.val (.ref x), .val (.ref v), .val (.int 21), .val (.int 0)] [(.ref x), (.int 21), (.ref v), (.int 0), (.ref t)])) rfl rfl (hb hby d15_18)
  refine Fin.by (fun tt_ kk_ => st103 tt_ kk_) ?_
  obtain ⟨cl104, Ar104, q104, S104, N104, H104, G104⟩ := id A1
  refine Fin.by (fun tt_ kk_ => X103.arraylength hx (by rw [e103]; exact Ar104.1) (State.isArrayOf_alike hZ.alike Ar104.2.1) (g := (mkF m 21 #[.val (.ref x), .val (.ref v), .val (.int 21), .val (.int 0)] [(.ref t), (.int 21), (.ref v), (.int 0), (.ref t)])) rfl rfl (hb hby d15_21) _ kk_) ?_
  rw [len_of S104 N104]
  obtain ⟨T105, h105, L105, X105, e105, Nc105, K105, V105, st105⟩ := own_cp X103 hx hZ hown (w_ hw 153 rfl) (w_ hw 136 rfl) (w_ hw 134 rfl) (w_ hw 135 rfl) e103 A1 A0 (by decide) (by decide) (by decide) (by decide) (by rw [hvd]; rfl) (by rw [hus]; decide) N101_ gv (g := (mkF m 22 #[.val (.ref x), .val (.ref v), .val (.int 21), .val (.int 0)] [(.int 4), (.int 21), (.ref v), (.int 0), (.ref t)])) rfl (by rw [hml]; rfl) rfl (hb hby d15_22) (by decide) (W := 0) (by show 2 * 0 + _ ≤ _; exact Nat.le_of_eq rfl) (by decide)
  refine Fin.by (fun tt_ kk_ => st105 tt_ kk_) ?_
  refine Fin.by (fun tt_ kk_ => XS.goto X105.here hx rfl (pc0 := 25) (pc' := 43) rfl (hb hby d15_25) (by decide) (by decide) kk_) ?_
  have kp106 : Keep h0 h105 [v] := (Keep.refl h0 [v]).trans K105 (allS (Or.inl (List.mem_of_getElem? (i := 0) rfl)) all0)
  show Fin _ _ _ _ _ _ _ (T105.setTop (mkF m 43 #[.val (.ref x), .val (.ref v), .val (.int 21), .val (.int 0)] []))
  exact Fin.ret (v := none) X105 (fun _ => rfl) Bd.notSynchronized (by rw [e105]; exact ⟨rfl, Nc105, kp106, V105⟩) (by decide) (by decide) (fun fs hr => X105.returnOut hx Bd.returns (hb hby d15_43) hr)
def Q_psa21_4 (Z : State) (a : Addr) (v : Addr) (kv : ClassId) (vs : List Value) (x : Addr) (t : Addr) (kb : ClassId) (us : List Value) (G1 : Int32) (h0 : Heap) (n0 : Nat) (vv_ : Option Value) (hh_ : Heap) (LL_ : List Loc) : Prop := vv_ = none ∧ Fr n0 LL_ ∧ Keep h0 hh_ [v] ∧ Arv Z hh_ v kv .byte (34 : Int32) (vs ++ us) (.int 0)
set_option maxRecDepth 65536 in
set_option maxHeartbeats 40000000 in
theorem rm_psa21_4 (l : Launch) (Z : State) (a0 : Array Value) (hw : ∀ d ∈ tables_1, d.before a0 Z = true) (ws : List Jvm.Cond) (a : Addr) (v : Addr) (kv : ClassId) (vs : List Value) (x : Addr) (t : Addr) (kb : ClassId) (us : List Value) (G1 : Int32) (h0 : Heap) (n0 : Nat) (Z0 : n0 ≤ h0.size) (hvd : vs.length = 21) (hus : us.length = 4) (E0 : Exa Z h0 a "java/lang/StringBuilder") (F0 : Fld Z h0 a "java/lang/AbstractStringBuilder" "value" "[B" (.ref v)) (F1 : Fld Z h0 a "java/lang/AbstractStringBuilder" "coder" "B" (.int (0 : Int32))) (E1 : Exa Z h0 x "java/lang/String") (F3 : Fld Z h0 x "java/lang/String" "value" "[B" (.ref t)) (F4 : Fld Z h0 x "java/lang/String" "coder" "B" (.int (0 : Int32))) (A1 : Arv Z h0 t kb .byte (4 : Int32) us (.int 0)) (A0 : Arv Z h0 v kv .byte (34 : Int32) vs (.int 0)) (gv : n0 ≤ v) (S1 : Sta Z Z.heap "java/lang/String" "COMPACT_STRINGS" "Z" (.int G1)) (P1 : ¬ G1 = 0) (OL : Old Z n0 h0) :
    MetFree l y_17 (head1 (Jvm.Cond.code y_17 jdk_68_method_73_code 3 none :: ws) ({ frames := 2, cells := 0, slots := 0, locals := 33 } : Room)) (fun aa_ U => aa_ = #[(.ref a), (.int (21 : Int32)), (.ref x)] ∧ Z.Warmed39 U.vm ∧ U.heap = h0) (fun _ _ _ _ _ => True) (fun _ U o U' => ∃ vv_ LL_, o = .returned vv_ ∧ Q_psa21_4 Z a v kv vs x t kb us G1 h0 n0 vv_ U'.heap LL_ ∧ FrameEnd U o U' LL_ 0 0) := by
  refine MetFree.of_bodySF (plainFor_of_name pn_java_lang_AbstractStringBuilder) hisR ?_
  intro p e s m args below meth c s₁ Bd hml0 hP hK
  obtain ⟨rfl, hZ, hh⟩ := hP
  have hx := Bd.exec
  have hby := Bd.bytes
  have hml : c.maxLocals = 3 := hml0
  have hown : s.vm.findClass "java/lang/AbstractStringBuilder" = some m.cls := findClass_of_methodNamed Bd.named
  have hnm := (name_of_methodNamed Bd.named Bd.method).1
  have X0 : Stand p l e ({ frames := 2, cells := 0, slots := 0, locals := 33 } : Room) s m #[(.ref a), (.int (21 : Int32)), (.ref x)] below meth c s₁ [] 0 0 := Stand.of_body Bd
  have e0 : s₁.heap = h0 := by rw [← hh, Bd.state]; rfl
  have N0 := Fr.nil n0
  have ef : entryFrame m #[(.ref a), (.int (21 : Int32)), (.ref x)] 3 = mkF m 0 #[.val (.ref a), .val (.int (21 : Int32)), .val (.ref x)] [] := by first | (simp [entryFrame, mkF, argsToLocals, Value.category]; done) | rfl
  refine Fin.start (Q := Q_psa21_4 Z a v kv vs x t kb us G1 h0 n0) ef ?_
  refine Fin.by (fun tt_ kk_ => XS.aloadN X0.here hx rfl (hb hby d16_0) rfl rfl (XS.aloadN X0.here hx rfl (hb hby d16_1) rfl rfl kk_)) ?_
  obtain ⟨cq101, qa101, qb101⟩ := E0.cell
  obtain ⟨v101, _, ⟨T101, L101, k101, n101⟩, -, X101, ⟨Lc101, hQ101, l101, y101, z101⟩, st101⟩ := X0.privateBack hx (y := y_15) hown (mvT hZ (w_ hw 142 rfl)) (mvT hZ (w_ hw 143 rfl)) (own_selpriv (z := y_13) (y := y_15) (mvT hZ (w_ hw 109 rfl)) rfl (Cond.privateMethod_at (mvP hZ (w_ hw 144 rfl) (args := #[]))) (mvT hZ (w_ hw 143 rfl)) (by decide)) (Cond.privateMethod_at (mvP hZ (w_ hw 144 rfl) (args := #[]))) (mvT hZ (w_ hw 146 rfl)) (by decide) (backOf (W := 0) (rm_inf l Z a0 hw [] a x G1 h0 n0 Z0 E0 F1 E1 F4 S1 P1 OL) hZ (w_ hw 146 rfl) (w_ hw 73 rfl) (by decide) (by decide)) (g := (mkF m 2 #[.val (.ref a), .val (.int 21), .val (.ref x)] [(.ref x), (.ref a)])) rfl (by rw [hml]; rfl) (Steps.refl _) (a := a) (by rw [e0]; exact qa101) qb101 (argsL := [(.ref x)]) (rest := []) (lenOf pd_421 rfl) rfl (by show 2 * 0 + _ ≤ _; exact Nat.le_of_eq rfl) (hb hby d16_2) (fun _ _ => ⟨rfl, e0, (by decide : 0 + 0 ≤ _), (by decide : 0 + 0 ≤ _)⟩)
  dsimp only [Pt.U, Pt.locs, Pt.cells, Pt.slots] at X101 l101 y101 z101 st101 hQ101
  subst l101 y101 z101
  obtain ⟨rfl, Nq101, e101_⟩ := hQ101
  have N101_ := Fr.app N0 Nq101
  refine Fin.byS st101 ?_
  have e101 := e101_
  refine Fin.by (fun tt_ kk_ => XS.aloadN X101.here hx rfl (hb hby d16_5) rfl rfl (XS.aloadN X101.here hx rfl (hb hby d16_6) rfl rfl kk_)) ?_
  obtain ⟨T102, X102, e102, st102⟩ := getF X101 hx hZ hown (host := "") (Or.inl (w_ hw 77 rfl)) Via.refl e101 F0 (g := (mkF m 7 #[.val (.ref a), .val (.int 21), .val (.ref x)] [(.ref a), (.ref x)])) rfl rfl (hb hby d16_7)
  refine Fin.by (fun tt_ kk_ => st102 tt_ kk_) ?_
  refine Fin.by (fun tt_ kk_ => XS.iloadN X102.here hx rfl (hb hby d16_10) rfl (XS.aloadN X102.here hx rfl (hb hby d16_11) rfl rfl kk_)) ?_
  obtain ⟨T103, X103, e103, st103⟩ := getF X102 hx hZ hown (host := "") (Or.inl (w_ hw 79 rfl)) Via.refl e102 F1 (g := (mkF m 12 #[.val (.ref a), .val (.int 21), .val (.ref x)] [(.ref a), (.int 21), (.ref v), (.ref x)])) rfl rfl (hb hby d16_12)
  refine Fin.by (fun tt_ kk_ => st103 tt_ kk_) ?_
  obtain ⟨cq104, kq104, qa104, qb104, qc104⟩ := isOf hZ e103 E1
  obtain ⟨v104, _, ⟨T104, L104, k104, n104⟩, -, X104, ⟨Lc104, hQ104, l104, y104, z104⟩, st104⟩ := X103.virtualBack hx (y := y_16) (z := y_16) hown (mvT hZ (w_ hw 148 rfl)) (mvT hZ (w_ hw 149 rfl)) (notFace_of_selects (args := #[]) (mvT hZ (w_ hw 151 rfl))) (mvT hZ (w_ hw 151 rfl)) (mvT hZ (w_ hw 150 rfl)) (by decide) (backOf (W := 0) (rm_gb21_4 l Z a0 hw [] x t kb (us : List Value) v kv (vs : List Value) G1 h0 n0 Z0 hvd hus E1 F3 F4 A1 A0 gv S1 P1 OL) hZ (w_ hw 152 rfl) (w_ hw 7 rfl) (by decide) (by decide)) qa104 qc104 (g := (mkF m 15 #[.val (.ref a), .val (.int 21), .val (.ref x)] [(.int 0), (.int 21), (.ref v), (.ref x)])) rfl (by rw [hml]; rfl) (Steps.refl _) (argsL := [(.ref v), (.int 21), (.int 0)]) (rest := []) (lenOf pd_429 rfl) rfl (by show 2 * 0 + _ ≤ _; exact Nat.le_of_eq rfl) (hb hby d16_15) (fun _ _ => ⟨rfl, e103, (by decide : 0 + 0 ≤ _), (by decide : 0 + 0 ≤ _)⟩)
  dsimp only [Pt.U, Pt.locs, Pt.cells, Pt.slots] at X104 l104 y104 z104 st104 hQ104
  subst l104 y104 z104
  obtain ⟨rfl, Nq104, p104_0, p104_1⟩ := hQ104
  have N104_ := Fr.app N101_ Nq104
  refine Fin.byS st104 ?_
  have kp105 : Keep h0 T104.heap [v] := (Keep.refl h0 [v]).trans p104_0 (allS (Or.inl (List.mem_of_getElem? (i := 0) rfl)) all0)
  show Fin _ _ _ _ _ _ _ (T104.setTop (mkF m 18 #[.val (.ref a), .val (.int 21), .val (.ref x)] []))
  exact Fin.ret (v := none) X104 (fun _ => rfl) Bd.notSynchronized (⟨rfl, N104_, kp105, p104_1⟩) (by decide) (by decide) (fun fs hr => X104.returnOut hx Bd.returns (hb hby d16_18) hr)
def Q_app21_4 (Z : State) (a : Addr) (v : Addr) (kv : ClassId) (vs : List Value) (x : Addr) (t : Addr) (kb : ClassId) (us : List Value) (G1 : Int32) (h0 : Heap) (n0 : Nat) (vv_ : Option Value) (hh_ : Heap) (LL_ : List Loc) : Prop := vv_ = some (.ref a) ∧ Fr n0 LL_ ∧ Keep h0 hh_ [a, v] ∧ Exa Z hh_ a "java/lang/StringBuilder" ∧ Fld Z hh_ a "java/lang/AbstractStringBuilder" "value" "[B" (.ref v) ∧ Fld Z hh_ a "java/lang/AbstractStringBuilder" "coder" "B" (.int (0 : Int32)) ∧ Fld Z hh_ a "java/lang/AbstractStringBuilder" "count" "I" (.int (25 : Int32)) ∧ Arv Z hh_ v kv .byte (34 : Int32) (vs ++ us) (.int 0)
set_option maxRecDepth 65536 in
set_option maxHeartbeats 40000000 in
theorem rm_app21_4 (l : Launch) (Z : State) (a0 : Array Value) (hw : ∀ d ∈ tables_1, d.before a0 Z = true) (ws : List Jvm.Cond) (a : Addr) (v : Addr) (kv : ClassId) (vs : List Value) (x : Addr) (t : Addr) (kb : ClassId) (us : List Value) (G1 : Int32) (h0 : Heap) (n0 : Nat) (Z0 : n0 ≤ h0.size) (hvd : vs.length = 21) (hus : us.length = 4) (E0 : Exa Z h0 a "java/lang/StringBuilder") (F0 : Fld Z h0 a "java/lang/AbstractStringBuilder" "value" "[B" (.ref v)) (F1 : Fld Z h0 a "java/lang/AbstractStringBuilder" "coder" "B" (.int (0 : Int32))) (F2 : Fld Z h0 a "java/lang/AbstractStringBuilder" "count" "I" (.int (21 : Int32))) (A0 : Arv Z h0 v kv .byte (34 : Int32) vs (.int 0)) (E1 : Exa Z h0 x "java/lang/String") (F3 : Fld Z h0 x "java/lang/String" "value" "[B" (.ref t)) (F4 : Fld Z h0 x "java/lang/String" "coder" "B" (.int (0 : Int32))) (A1 : Arv Z h0 t kb .byte (4 : Int32) us (.int 0)) (ga : n0 ≤ a) (gv : n0 ≤ v) (na : a ≠ v) (S1 : Sta Z Z.heap "java/lang/String" "COMPACT_STRINGS" "Z" (.int G1)) (P1 : ¬ G1 = 0) (OL : Old Z n0 h0) :
    MetFree l y_19 (head1 (Jvm.Cond.code y_19 jdk_68_method_22_code 3 (some (.object "java/lang/AbstractStringBuilder")) :: ws) ({ frames := 3, cells := 0, slots := 0, locals := 47 } : Room)) (fun aa_ U => aa_ = #[(.ref a), (.ref x)] ∧ Z.Warmed39 U.vm ∧ U.heap = h0) (fun _ _ _ _ _ => True) (fun _ U o U' => ∃ vv_ LL_, o = .returned vv_ ∧ Q_app21_4 Z a v kv vs x t kb us G1 h0 n0 vv_ U'.heap LL_ ∧ FrameEnd U o U' LL_ 0 0) := by
  refine MetFree.of_bodySF (plainFor_of_name pn_java_lang_AbstractStringBuilder) hisR ?_
  intro p e s m args below meth c s₁ Bd hml0 hP hK
  obtain ⟨rfl, hZ, hh⟩ := hP
  have hx := Bd.exec
  have hby := Bd.bytes
  have hml : c.maxLocals = 3 := hml0
  have hown : s.vm.findClass "java/lang/AbstractStringBuilder" = some m.cls := findClass_of_methodNamed Bd.named
  have hnm := (name_of_methodNamed Bd.named Bd.method).1
  have X0 : Stand p l e ({ frames := 3, cells := 0, slots := 0, locals := 47 } : Room) s m #[(.ref a), (.ref x)] below meth c s₁ [] 0 0 := Stand.of_body Bd
  have e0 : s₁.heap = h0 := by rw [← hh, Bd.state]; rfl
  have N0 := Fr.nil n0
  have ef : entryFrame m #[(.ref a), (.ref x)] 3 = mkF m 0 #[.val (.ref a), .val (.ref x), .unset] [] := by first | (simp [entryFrame, mkF, argsToLocals, Value.category]; done) | rfl
  refine Fin.start (Q := Q_app21_4 Z a v kv vs x t kb us G1 h0 n0) ef ?_
  refine Fin.by (fun tt_ kk_ => XS.aloadN X0.here hx rfl (hb hby d18_0) rfl rfl kk_) ?_
  refine Fin.by (fun tt_ kk_ => XS.ifnonnullYes X0.here hx rfl (pc0 := 1) (pc' := 9) rfl (hb hby d18_1) rfl (by decide) (by decide) kk_) ?_
  refine Fin.by (fun tt_ kk_ => XS.aloadN X0.here hx rfl (hb hby d18_9) rfl rfl kk_) ?_
  obtain ⟨cq101, kq101, qa101, qb101, qc101⟩ := isOf hZ e0 E1
  obtain ⟨v101, _, ⟨T101, L101, k101, n101⟩, -, X101, ⟨Lc101, hQ101, l101, y101, z101⟩, st101⟩ := X0.virtualBack hx (y := y_18) (z := y_18) hown (mvT hZ (w_ hw 94 rfl)) (mvT hZ (w_ hw 95 rfl)) (notFace_of_selects (args := #[]) (mvT hZ (w_ hw 97 rfl))) (mvT hZ (w_ hw 97 rfl)) (mvT hZ (w_ hw 96 rfl)) (by decide) (backOf (W := 0) (rm_sle l Z a0 hw [] x t kb (us : List Value) (4 : Int32) G1 h0 n0 Z0 E1 F3 F4 A1 S1 P1 OL) hZ (w_ hw 98 rfl) (w_ hw 7 rfl) (by decide) (by decide)) qa101 qc101 (g := (mkF m 10 #[.val (.ref a), .val (.ref x), .unset] [(.ref x)])) rfl (by rw [hml]; rfl) (Steps.refl _) (argsL := []) (rest := []) (lenOf pd_442 rfl) rfl (by show 2 * 0 + _ ≤ _; exact Nat.le_of_eq rfl) (hb hby d18_10) (fun _ _ => ⟨rfl, e0, (by decide : 0 + 0 ≤ _), (by decide : 0 + 0 ≤ _)⟩)
  dsimp only [Pt.U, Pt.locs, Pt.cells, Pt.slots] at X101 l101 y101 z101 st101 hQ101
  subst l101 y101 z101
  obtain ⟨rfl, Nq101, e101_⟩ := hQ101
  have N101_ := Fr.app N0 Nq101
  refine Fin.byS st101 ?_
  have e101 := e101_
  refine Fin.by (fun tt_ kk_ => XS.istoreN X101.here hx rfl (hb hby d18_13) rfl (l' := #[.val (.ref a), .val (.ref x), .val (.int 4)]) rfl (XS.aloadN X101.here hx rfl (hb hby d18_14) rfl rfl (XS.aloadN X101.here hx rfl (hb hby d18_15) rfl rfl kk_))) ?_
  obtain ⟨T102, X102, e102, st102⟩ := getF X101 hx hZ hown (host := "") (Or.inl (w_ hw 104 rfl)) Via.refl e101 F2 (g := (mkF m 16 #[.val (.ref a), .val (.ref x), .val (.int 4)] [(.ref a), (.ref a)])) rfl rfl (hb hby d18_16)
  refine Fin.by (fun tt_ kk_ => st102 tt_ kk_) ?_
  refine Fin.by (fun tt_ kk_ => XS.iloadN X102.here hx rfl (hb hby d18_19) rfl (XS.iadd X102.here hx rfl (hb hby d18_20) rfl kk_)) ?_
  obtain ⟨cq103, qa103, qb103⟩ := E0.cell
  obtain ⟨v103, _, ⟨T103, L103, k103, n103⟩, -, X103, ⟨Lc103, hQ103, l103, y103, z103⟩, st103⟩ := X102.privateBack hx (y := y_13) hown (mvT hZ (w_ hw 106 rfl)) (mvT hZ (w_ hw 107 rfl)) (own_selpriv (z := y_13) (y := y_13) (mvT hZ (w_ hw 109 rfl)) rfl (Cond.privateMethod_at (mvP hZ (w_ hw 108 rfl) (args := #[]))) (mvT hZ (w_ hw 107 rfl)) (by decide)) (Cond.privateMethod_at (mvP hZ (w_ hw 108 rfl) (args := #[]))) (mvT hZ (w_ hw 110 rfl)) (by decide) (backOf (W := 0) (rm_eci34_25 l Z a0 hw [] a v kv (vs : List Value) h0 n0 Z0 E0 F0 F1 A0) hZ (w_ hw 110 rfl) (w_ hw 73 rfl) (by decide) (by decide)) (g := (mkF m 21 #[.val (.ref a), .val (.ref x), .val (.int 4)] [(.int 25), (.ref a)])) rfl (by rw [hml]; rfl) (Steps.refl _) (a := a) (by rw [e102]; exact qa103) qb103 (argsL := [(.int 25)]) (rest := []) (lenOf pd_279 rfl) rfl (by show 2 * 0 + _ ≤ _; exact Nat.le_of_eq rfl) (hb hby d18_21) (fun _ _ => ⟨rfl, e102, (by decide : 0 + 0 ≤ _), (by decide : 0 + 0 ≤ _)⟩)
  dsimp only [Pt.U, Pt.locs, Pt.cells, Pt.slots] at X103 l103 y103 z103 st103 hQ103
  subst l103 y103 z103
  obtain ⟨rfl, Nq103, e103_⟩ := hQ103
  have N103_ := Fr.app N101_ Nq103
  refine Fin.byS st103 ?_
  have e103 := e103_
  refine Fin.by (fun tt_ kk_ => XS.aloadN X103.here hx rfl (hb hby d18_24) rfl rfl (XS.aloadN X103.here hx rfl (hb hby d18_25) rfl rfl kk_)) ?_
  obtain ⟨T104, X104, e104, st104⟩ := getF X103 hx hZ hown (host := "") (Or.inl (w_ hw 104 rfl)) Via.refl e103 F2 (g := (mkF m 26 #[.val (.ref a), .val (.ref x), .val (.int 4)] [(.ref a), (.ref a)])) rfl rfl (hb hby d18_26)
  refine Fin.by (fun tt_ kk_ => st104 tt_ kk_) ?_
  refine Fin.by (fun tt_ kk_ => XS.aloadN X104.here hx rfl (hb hby d18_29) rfl rfl kk_) ?_
  obtain ⟨cq105, qa105, qb105⟩ := E0.cell
  obtain ⟨v105, _, ⟨T105, L105, k105, n105⟩, -, X105, ⟨Lc105, hQ105, l105, y105, z105⟩, st105⟩ := X104.privateBack hx (y := y_17) hown (mvT hZ (w_ hw 137 rfl)) (mvT hZ (w_ hw 138 rfl)) (own_selpriv (z := y_13) (y := y_17) (mvT hZ (w_ hw 109 rfl)) rfl (Cond.privateMethod_at (mvP hZ (w_ hw 139 rfl) (args := #[]))) (mvT hZ (w_ hw 138 rfl)) (by decide)) (Cond.privateMethod_at (mvP hZ (w_ hw 139 rfl) (args := #[]))) (mvT hZ (w_ hw 141 rfl)) (by decide) (backOf (W := 0) (rm_psa21_4 l Z a0 hw [] a v kv (vs : List Value) x t kb (us : List Value) G1 h0 n0 Z0 hvd hus E0 F0 F1 E1 F3 F4 A1 A0 gv S1 P1 OL) hZ (w_ hw 141 rfl) (w_ hw 73 rfl) (by decide) (by decide)) (g := (mkF m 30 #[.val (.ref a), .val (.ref x), .val (.int 4)] [(.ref x), (.int 21), (.ref a)])) rfl (by rw [hml]; rfl) (Steps.refl _) (a := a) (by rw [e104]; exact qa105) qb105 (argsL := [(.int 21), (.ref x)]) (rest := []) (lenOf pd_455 rfl) rfl (by show 2 * 0 + _ ≤ _; exact Nat.le_of_eq rfl) (hb hby d18_30) (fun _ _ => ⟨rfl, e104, (by decide : 0 + 0 ≤ _), (by decide : 0 + 0 ≤ _)⟩)
  dsimp only [Pt.U, Pt.locs, Pt.cells, Pt.slots] at X105 l105 y105 z105 st105 hQ105
  subst l105 y105 z105
  obtain ⟨rfl, Nq105, p105_0, p105_1⟩ := hQ105
  have N105_ := Fr.app N103_ Nq105
  refine Fin.byS st105 ?_
  refine Fin.by (fun tt_ kk_ => XS.aloadN X105.here hx rfl (hb hby d18_33) rfl rfl (XS.dup X105.here hx rfl (hb hby d18_34) rfl rfl kk_)) ?_
  have F106 : Fld Z T105.heap a "java/lang/AbstractStringBuilder" "count" "I" (.int (21 : Int32)) := (F2.keep p105_0 (ninS na nin0))
  obtain ⟨T107, X107, e107, st107⟩ := getF X105 hx hZ hown (host := "") (Or.inl (w_ hw 104 rfl)) Via.refl rfl F106 (g := (mkF m 35 #[.val (.ref a), .val (.ref x), .val (.int 4)] [(.ref a), (.ref a)])) rfl rfl (hb hby d18_35)
  refine Fin.by (fun tt_ kk_ => st107 tt_ kk_) ?_
  refine Fin.by (fun tt_ kk_ => XS.iloadN X107.here hx rfl (hb hby d18_38) rfl (XS.iadd X107.here hx rfl (hb hby d18_39) rfl kk_)) ?_
  have E108 : Exa Z T105.heap a "java/lang/StringBuilder" := (E0.keep p105_0)
  obtain ⟨T109, h109, X109, e109, W109, st109⟩ := putF X107 hx hZ hown (host := "") (Or.inl (w_ hw 104 rfl)) Via.refl e107 F106 E108 (Or.inl (w_ hw 105 rfl)) (w_ hw 64 rfl) (ty := .int) (by decide) rfl rfl (g := (mkF m 40 #[.val (.ref a), .val (.ref x), .val (.int 4)] [(.int 25), (.ref a)])) rfl rfl (hb hby d18_40)
  refine Fin.by (fun tt_ kk_ => st109 tt_ kk_) ?_
  have N109_ := Fr.snoc X109 N105_ ga
  refine Fin.by (fun tt_ kk_ => XS.aloadN X109.here hx rfl (hb hby d18_43) rfl rfl kk_) ?_
  have kp110 : Keep h0 T105.heap [a, v] := (Keep.refl h0 [a, v]).trans p105_0 (allS (Or.inl (List.mem_of_getElem? (i := 1) rfl)) all0)
  have kp111 : Keep h0 h109 [a, v] := kp110.wr W109 (Or.inl (List.mem_of_getElem? (i := 0) rfl))
  have E112 : Exa Z h109 a "java/lang/StringBuilder" := (E108.wr W109)
  have F113 : Fld Z h109 a "java/lang/AbstractStringBuilder" "value" "[B" (.ref v) := ((F0.keep p105_0 (ninS na nin0)).other W109 (Or.inr (slot_ne (Or.inl (w_ hw 78 rfl)) (Or.inl (w_ hw 105 rfl)) (by decide) (t := (.array .byte)) (t' := .int) (by decide) (by decide))))
  have F114 : Fld Z h109 a "java/lang/AbstractStringBuilder" "coder" "B" (.int (0 : Int32)) := ((F1.keep p105_0 (ninS na nin0)).other W109 (Or.inr (slot_ne (Or.inl (w_ hw 80 rfl)) (Or.inl (w_ hw 105 rfl)) (by decide) (t := .byte) (t' := .int) (by decide) (by decide))))
  have A115 : Arv Z h109 v kv .byte (34 : Int32) ((vs : List Value) ++ (us : List Value)) (.int 0) := (p105_1.other W109 (Ne.symm na))
  show Fin _ _ _ _ _ _ _ (T109.setTop (mkF m 44 #[.val (.ref a), .val (.ref x), .val (.int 4)] [(.ref a)]))
  exact Fin.ret (v := some (.ref a)) X109 (fun h => by rw [Bd.returns] at h; cases h) Bd.notSynchronized (by rw [e109]; exact ⟨rfl, N109_, kp111, E112, F113, F114, (F106.same W109), A115⟩) (by decide) (by decide) (fun fs hr => retA X109 hx Bd.returns rfl rfl (hb hby d18_44) hr)
def Q_sap21_4 (Z : State) (a : Addr) (v : Addr) (kv : ClassId) (vs : List Value) (x : Addr) (t : Addr) (kb : ClassId) (us : List Value) (G1 : Int32) (h0 : Heap) (n0 : Nat) (vv_ : Option Value) (hh_ : Heap) (LL_ : List Loc) : Prop := vv_ = some (.ref a) ∧ Fr n0 LL_ ∧ Keep h0 hh_ [a, v] ∧ Exa Z hh_ a "java/lang/StringBuilder" ∧ Fld Z hh_ a "java/lang/AbstractStringBuilder" "value" "[B" (.ref v) ∧ Fld Z hh_ a "java/lang/AbstractStringBuilder" "coder" "B" (.int (0 : Int32)) ∧ Fld Z hh_ a "java/lang/AbstractStringBuilder" "count" "I" (.int (25 : Int32)) ∧ Arv Z hh_ v kv .byte (34 : Int32) (vs ++ us) (.int 0)
set_option maxRecDepth 65536 in
set_option maxHeartbeats 40000000 in
theorem rm_sap21_4 (l : Launch) (Z : State) (a0 : Array Value) (hw : ∀ d ∈ tables_1, d.before a0 Z = true) (ws : List Jvm.Cond) (a : Addr) (v : Addr) (kv : ClassId) (vs : List Value) (x : Addr) (t : Addr) (kb : ClassId) (us : List Value) (G1 : Int32) (h0 : Heap) (n0 : Nat) (Z0 : n0 ≤ h0.size) (hvd : vs.length = 21) (hus : us.length = 4) (E0 : Exa Z h0 a "java/lang/StringBuilder") (F0 : Fld Z h0 a "java/lang/AbstractStringBuilder" "value" "[B" (.ref v)) (F1 : Fld Z h0 a "java/lang/AbstractStringBuilder" "coder" "B" (.int (0 : Int32))) (F2 : Fld Z h0 a "java/lang/AbstractStringBuilder" "count" "I" (.int (21 : Int32))) (A0 : Arv Z h0 v kv .byte (34 : Int32) vs (.int 0)) (E1 : Exa Z h0 x "java/lang/String") (F3 : Fld Z h0 x "java/lang/String" "value" "[B" (.ref t)) (F4 : Fld Z h0 x "java/lang/String" "coder" "B" (.int (0 : Int32))) (A1 : Arv Z h0 t kb .byte (4 : Int32) us (.int 0)) (ga : n0 ≤ a) (gv : n0 ≤ v) (na : a ≠ v) (S1 : Sta Z Z.heap "java/lang/String" "COMPACT_STRINGS" "Z" (.int G1)) (P1 : ¬ G1 = 0) (OL : Old Z n0 h0) :
    MetFree l y_20 (head1 (Jvm.Cond.code y_20 jdk_67_method_7_code 2 (some (.object "java/lang/StringBuilder")) :: ws) ({ frames := 4, cells := 0, slots := 0, locals := 61 } : Room)) (fun aa_ U => aa_ = #[(.ref a), (.ref x)] ∧ Z.Warmed39 U.vm ∧ U.heap = h0) (fun _ _ _ _ _ => True) (fun _ U o U' => ∃ vv_ LL_, o = .returned vv_ ∧ Q_sap21_4 Z a v kv vs x t kb us G1 h0 n0 vv_ U'.heap LL_ ∧ FrameEnd U o U' LL_ 0 0) := by
  refine MetFree.of_bodySF (plainFor_of_name pn_java_lang_StringBuilder) hisR ?_
  intro p e s m args below meth c s₁ Bd hml0 hP hK
  obtain ⟨rfl, hZ, hh⟩ := hP
  have hx := Bd.exec
  have hby := Bd.bytes
  have hml : c.maxLocals = 2 := hml0
  have hown : s.vm.findClass "java/lang/StringBuilder" = some m.cls := findClass_of_methodNamed Bd.named
  have hnm := (name_of_methodNamed Bd.named Bd.method).1
  have X0 : Stand p l e ({ frames := 4, cells := 0, slots := 0, locals := 61 } : Room) s m #[(.ref a), (.ref x)] below meth c s₁ [] 0 0 := Stand.of_body Bd
  have e0 : s₁.heap = h0 := by rw [← hh, Bd.state]; rfl
  have N0 := Fr.nil n0
  have ef : entryFrame m #[(.ref a), (.ref x)] 2 = mkF m 0 #[.val (.ref a), .val (.ref x)] [] := by first | (simp [entryFrame, mkF, argsToLocals, Value.category]; done) | rfl
  refine Fin.start (Q := Q_sap21_4 Z a v kv vs x t kb us G1 h0 n0) ef ?_
  refine Fin.by (fun tt_ kk_ => XS.aloadN X0.here hx rfl (hb hby d19_0) rfl rfl (XS.aloadN X0.here hx rfl (hb hby d19_1) rfl rfl kk_)) ?_
  obtain ⟨v101, _, ⟨T101, L101, k101, n101⟩, -, X101, ⟨Lc101, hQ101, l101, y101, z101⟩, st101⟩ := superBack X0 hx hZ (y := y_19) hown (w_ hw 89 rfl) (own_same (z := y_13) (y := y_19) (w_ hw 109 rfl) rfl (w_ hw 90 rfl) (by decide)) (w_ hw 90 rfl) (w_ hw 91 rfl) (by decide) (backOf (W := 0) (rm_app21_4 l Z a0 hw [] a v kv (vs : List Value) x t kb (us : List Value) G1 h0 n0 Z0 hvd hus E0 F0 F1 F2 A0 E1 F3 F4 A1 ga gv na S1 P1 OL) hZ (w_ hw 93 rfl) (w_ hw 73 rfl) (by decide) (by decide)) e0 (Ins.self E0) (g := (mkF m 2 #[.val (.ref a), .val (.ref x)] [(.ref x), (.ref a)])) rfl (by rw [hml]; rfl) (w_ hw 93 rfl) (argsL := [(.ref x)]) (rest := []) (lenOf pd_467 rfl) rfl (by show 2 * 0 + _ ≤ _; exact Nat.le_of_eq rfl) (hb hby d19_2) (fun _ _ => ⟨rfl, e0, (by decide : 0 + 0 ≤ _), (by decide : 0 + 0 ≤ _)⟩)
  dsimp only [Pt.U, Pt.locs, Pt.cells, Pt.slots] at X101 l101 y101 z101 st101 hQ101
  subst l101 y101 z101
  obtain ⟨rfl, Nq101, p101_0, p101_1, p101_2, p101_3, p101_4, p101_5⟩ := hQ101
  have N101_ := Fr.app N0 Nq101
  refine Fin.byS st101 ?_
  refine Fin.by (fun tt_ kk_ => XS.pop X101.here hx rfl (hb hby d19_5) rfl rfl (XS.aloadN X101.here hx rfl (hb hby d19_6) rfl rfl kk_)) ?_
  have kp102 : Keep h0 T101.heap [a, v] := (Keep.refl h0 [a, v]).trans p101_0 (allS (Or.inl (List.mem_of_getElem? (i := 0) rfl)) (allS (Or.inl (List.mem_of_getElem? (i := 1) rfl)) all0))
  show Fin _ _ _ _ _ _ _ (T101.setTop (mkF m 7 #[.val (.ref a), .val (.ref x)] [(.ref a)]))
  exact Fin.ret (v := some (.ref a)) X101 (fun h => by rw [Bd.returns] at h; cases h) Bd.notSynchronized (⟨rfl, N101_, kp102, p101_1, p101_2, p101_3, p101_4, p101_5⟩) (by decide) (by decide) (fun fs hr => retA X101 hx Bd.returns rfl rfl (hb hby d19_7) hr)
def Q_eci34_32 (Z : State) (a : Addr) (v : Addr) (kv : ClassId) (vs : List Value) (h0 : Heap) (n0 : Nat) (vv_ : Option Value) (hh_ : Heap) (LL_ : List Loc) : Prop := vv_ = none ∧ Fr n0 LL_ ∧ hh_ = h0
set_option maxRecDepth 65536 in
set_option maxHeartbeats 40000000 in
theorem rm_eci34_32 (l : Launch) (Z : State) (a0 : Array Value) (hw : ∀ d ∈ tables_1, d.before a0 Z = true) (ws : List Jvm.Cond) (a : Addr) (v : Addr) (kv : ClassId) (vs : List Value) (h0 : Heap) (n0 : Nat) (Z0 : n0 ≤ h0.size) (E0 : Exa Z h0 a "java/lang/StringBuilder") (F0 : Fld Z h0 a "java/lang/AbstractStringBuilder" "value" "[B" (.ref v)) (F1 : Fld Z h0 a "java/lang/AbstractStringBuilder" "coder" "B" (.int (0 : Int32))) (A0 : Arv Z h0 v kv .byte (34 : Int32) vs (.int 0)) :
    MetFree l y_13 (head1 (Jvm.Cond.code y_13 jdk_68_method_9_code 3 none :: ws) ({ frames := 0, cells := 0, slots := 0, locals := 0 } : Room)) (fun aa_ U => aa_ = #[(.ref a), (.int (32 : Int32))] ∧ Z.Warmed39 U.vm ∧ U.heap = h0) (fun _ _ _ _ _ => True) (fun _ U o U' => ∃ vv_ LL_, o = .returned vv_ ∧ Q_eci34_32 Z a v kv vs h0 n0 vv_ U'.heap LL_ ∧ FrameEnd U o U' LL_ 0 0) := by
  refine MetFree.of_bodySF (plainFor_of_name pn_java_lang_AbstractStringBuilder) hisR ?_
  intro p e s m args below meth c s₁ Bd hml0 hP hK
  obtain ⟨rfl, hZ, hh⟩ := hP
  have hx := Bd.exec
  have hby := Bd.bytes
  have hml : c.maxLocals = 3 := hml0
  have hown : s.vm.findClass "java/lang/AbstractStringBuilder" = some m.cls := findClass_of_methodNamed Bd.named
  have hnm := (name_of_methodNamed Bd.named Bd.method).1
  have X0 : Stand p l e ({ frames := 0, cells := 0, slots := 0, locals := 0 } : Room) s m #[(.ref a), (.int (32 : Int32))] below meth c s₁ [] 0 0 := Stand.of_body Bd
  have e0 : s₁.heap = h0 := by rw [← hh, Bd.state]; rfl
  have N0 := Fr.nil n0
  have ef : entryFrame m #[(.ref a), (.int (32 : Int32))] 3 = mkF m 0 #[.val (.ref a), .val (.int (32 : Int32)), .unset] [] := by first | (simp [entryFrame, mkF, argsToLocals, Value.category]; done) | rfl
  refine Fin.start (Q := Q_eci34_32 Z a v kv vs h0 n0) ef ?_
  refine Fin.by (fun tt_ kk_ => XS.aloadN X0.here hx rfl (hb hby d12_0) rfl rfl kk_) ?_
  obtain ⟨T101, X101, e101, st101⟩ := getF X0 hx hZ hown (host := "") (Or.inl (w_ hw 77 rfl)) Via.refl e0 F0 (g := (mkF m 1 #[.val (.ref a), .val (.int 32), .unset] [(.ref a)])) rfl rfl (hb hby d12_1)
  refine Fin.by (fun tt_ kk_ => st101 tt_ kk_) ?_
  obtain ⟨cl102, Ar102, q102, S102, N102, H102, G102⟩ := id A0
  refine Fin.by (fun tt_ kk_ => X101.arraylength hx (by rw [e101]; exact Ar102.1) (State.isArrayOf_alike hZ.alike Ar102.2.1) (g := (mkF m 4 #[.val (.ref a), .val (.int 32), .unset] [(.ref v)])) rfl rfl (hb hby d12_4) _ kk_) ?_
  rw [len_of S102 N102]
  refine Fin.by (fun tt_ kk_ => XS.aloadN X101.here hx rfl (hb hby d12_5) rfl rfl kk_) ?_
  obtain ⟨T103, X103, e103, st103⟩ := getF X101 hx hZ hown (host := "") (Or.inl (w_ hw 79 rfl)) Via.refl e101 F1 (g := (mkF m 6 #[.val (.ref a), .val (.int 32), .unset] [(.ref a), (.int 34)])) rfl rfl (hb hby d12_6)
  refine Fin.by (fun tt_ kk_ => st103 tt_ kk_) ?_
  refine Fin.by (fun tt_ kk_ => XS.ishr X103.here hx rfl (hb hby d12_9) rfl (XS.istoreN X103.here hx rfl (hb hby d12_10) rfl (l' := #[.val (.ref a), .val (.int 32), .val (.int 34)]) rfl (XS.iloadN X103.here hx rfl (hb hby d12_11) rfl (XS.iloadN X103.here hx rfl (hb hby d12_12) rfl (XS.isub X103.here hx rfl (hb hby d12_13) rfl kk_))))) ?_
  show Fin _ _ _ _ _ _ _ (T103.setTop (mkF m 14 #[.val (.ref a), .val (.int 32), .val (.int 34)] [(.int (-2 : Int32))]))
  refine Fin.by (fun tt_ kk_ => XS.ifYes X103.here hx rfl (pc0 := 14) (pc' := 38) rfl (hb hby d12_14) rfl ((if0 _ _).trans (flt (by decide : ¬ (0 : Int32) < (-2 : Int32))).2.2.2) (by decide) (by decide) kk_) ?_
  show Fin _ _ _ _ _ _ _ (T103.setTop (mkF m 38 #[.val (.ref a), .val (.int 32), .val (.int 34)] []))
  exact Fin.ret (v := none) X103 (fun _ => rfl) Bd.notSynchronized (by rw [e103]; exact ⟨rfl, N0, rfl⟩) (by decide) (by decide) (fun fs hr => X103.returnOut hx Bd.returns (hb hby d12_38) hr)
def Q_gb25_7 (Z : State) (x : Addr) (t : Addr) (kb : ClassId) (us : List Value) (v : Addr) (kv : ClassId) (vs : List Value) (G1 : Int32) (h0 : Heap) (n0 : Nat) (vv_ : Option Value) (hh_ : Heap) (LL_ : List Loc) : Prop := vv_ = none ∧ Fr n0 LL_ ∧ Keep h0 hh_ [v] ∧ Arv Z hh_ v kv .byte (34 : Int32) (vs ++ us) (.int 0)
set_option maxRecDepth 65536 in
set_option maxHeartbeats 40000000 in
theorem rm_gb25_7 (l : Launch) (Z : State) (a0 : Array Value) (hw : ∀ d ∈ tables_1, d.before a0 Z = true) (ws : List Jvm.Cond) (x : Addr) (t : Addr) (kb : ClassId) (us : List Value) (v : Addr) (kv : ClassId) (vs : List Value) (G1 : Int32) (h0 : Heap) (n0 : Nat) (Z0 : n0 ≤ h0.size) (hvd : vs.length = 25) (hus : us.length = 7) (E1 : Exa Z h0 x "java/lang/String") (F3 : Fld Z h0 x "java/lang/String" "value" "[B" (.ref t)) (F4 : Fld Z h0 x "java/lang/String" "coder" "B" (.int (0 : Int32))) (A1 : Arv Z h0 t kb .byte (7 : Int32) us (.int 0)) (A0 : Arv Z h0 v kv .byte (34 : Int32) vs (.int 0)) (gv : n0 ≤ v) (S1 : Sta Z Z.heap "java/lang/String" "COMPACT_STRINGS" "Z" (.int G1)) (P1 : ¬ G1 = 0) (OL : Old Z n0 h0) :
    MetFree l y_16 (head1 (Jvm.Cond.code y_16 jdk_42_method_147_code 4 none :: ws) ({ frames := 1, cells := 0, slots := 0, locals := 18 } : Room)) (fun aa_ U => aa_ = #[(.ref x), (.ref v), (.int (25 : Int32)), (.int (0 : Int32))] ∧ Z.Warmed39 U.vm ∧ U.heap = h0) (fun _ _ _ _ _ => True) (fun _ U o U' => ∃ vv_ LL_, o = .returned vv_ ∧ Q_gb25_7 Z x t kb us v kv vs G1 h0 n0 vv_ U'.heap LL_ ∧ FrameEnd U o U' LL_ 0 0) := by
  refine MetFree.of_bodySF (plainFor_of_name pn_java_lang_String) hisR ?_
  intro p e s m args below meth c s₁ Bd hml0 hP hK
  obtain ⟨rfl, hZ, hh⟩ := hP
  have hx := Bd.exec
  have hby := Bd.bytes
  have hml : c.maxLocals = 4 := hml0
  have hown : s.vm.findClass "java/lang/String" = some m.cls := findClass_of_methodNamed Bd.named
  have hnm := (name_of_methodNamed Bd.named Bd.method).1
  have X0 : Stand p l e ({ frames := 1, cells := 0, slots := 0, locals := 18 } : Room) s m #[(.ref x), (.ref v), (.int (25 : Int32)), (.int (0 : Int32))] below meth c s₁ [] 0 0 := Stand.of_body Bd
  have e0 : s₁.heap = h0 := by rw [← hh, Bd.state]; rfl
  have N0 := Fr.nil n0
  have ef : entryFrame m #[(.ref x), (.ref v), (.int (25 : Int32)), (.int (0 : Int32))] 4 = mkF m 0 #[.val (.ref x), .val (.ref v), .val (.int (25 : Int32)), .val (.int (0 : Int32))] [] := by first | (simp [entryFrame, mkF, argsToLocals, Value.category]; done) | rfl
  refine Fin.start (Q := Q_gb25_7 Z x t kb us v kv vs G1 h0 n0) ef ?_
  refine Fin.by (fun tt_ kk_ => XS.aloadN X0.here hx rfl (hb hby d15_0) rfl rfl kk_) ?_
  obtain ⟨cq101, kq101, qa101, qb101, qc101⟩ := isOf hZ e0 E1
  obtain ⟨v101, _, ⟨T101, L101, k101, n101⟩, -, X101, ⟨Lc101, hQ101, l101, y101, z101⟩, st101⟩ := X0.virtualBack hx (y := y_14) (z := y_14) hown (mvT hZ (w_ hw 99 rfl)) (mvT hZ (w_ hw 100 rfl)) (notFace_of_selects (args := #[]) (mvT hZ (w_ hw 102 rfl))) (mvT hZ (w_ hw 102 rfl)) (mvT hZ (w_ hw 101 rfl)) (by decide) (backOf (W := 0) (rm_cod l Z a0 hw [] x G1 h0 n0 Z0 F4 S1 P1 OL) hZ (w_ hw 103 rfl) (w_ hw 7 rfl) (by decide) (by decide)) qa101 qc101 (g := (mkF m 1 #[.val (.ref x), .val (.ref v), .val (.int 25), .val (.int 0)] [(.ref x)])) rfl (by rw [hml]; rfl) (Steps.refl _) (argsL := []) (rest := []) (lenOf pd_398 rfl) rfl (by show 2 * 0 + _ ≤ _; exact Nat.le_of_eq rfl) (hb hby d15_1) (fun _ _ => ⟨rfl, e0, (by decide : 0 + 0 ≤ _), (by decide : 0 + 0 ≤ _)⟩)
  dsimp only [Pt.U, Pt.locs, Pt.cells, Pt.slots] at X101 l101 y101 z101 st101 hQ101
  subst l101 y101 z101
  obtain ⟨rfl, Nq101, e101_⟩ := hQ101
  have N101_ := Fr.app N0 Nq101
  refine Fin.byS st101 ?_
  have e101 := e101_
  refine Fin.by (fun tt_ kk_ => XS.iloadN X101.here hx rfl (hb hby d15_4) rfl kk_) ?_
  show Fin _ _ _ _ _ _ _ (T101.setTop (mkF m 5 #[.val (.ref x), .val (.ref v), .val (.int 25), .val (.int 0)] [(.int 0), (.int 0)]))
  refine Fin.by (fun tt_ kk_ => XS.icmpNo X101.here hx rfl (hb hby d15_5) rfl (teq (rfl : (0 : Int32) = (0 : Int32))).2 kk_) ?_
  refine Fin.by (fun tt_ kk_ => XS.aloadN X101.here hx rfl (hb hby d15_8) rfl rfl kk_) ?_
  obtain ⟨T102, X102, e102, st102⟩ := getF X101 hx hZ hown (host := "") (Or.inl (w_ hw 32 rfl)) Via.refl e101 F3 (g := (mkF m 9 #[.val (.ref x), .val (.ref v), .val (.int 25), .val (.int 0)] [(.ref x)])) rfl rfl (hb hby d15_9)
  refine Fin.by (fun tt_ kk_ => st102 tt_ kk_) ?_
  refine Fin.by (fun tt_ kk_ => XS.iconst X102.here hx rfl (hb hby d15_12) (XS.aloadN X102.here hx rfl (hb hby d15_13) rfl rfl (XS.iloadN X102.here hx rfl (hb hby d15_14) rfl (XS.iloadN X102.here hx rfl (hb hby d15_15) rfl (XS.ishl X102.here hx rfl (hb hby d15_16) rfl (XS.aloadN X102.here hx rfl (hb hby d15_17) rfl rfl kk_)))))) ?_
  show Fin _ _ _ _ _ _ _ (T102.setTop (mkF m 18 #[.val (.ref x), .val (.ref v), .val (.int 25), .val (.int 0)] [(.ref x), (.int 25), (.ref v), (.int 0), (.ref t)]))
  obtain ⟨T103, X103, e103, st103⟩ := getF X102 hx hZ hown (host := "") (Or.inl (w_ hw 32 rfl)) Via.refl e102 F3 (g := (mkF m 18 #[.val (.ref x), .val (.ref v), .val (.int 25), .val (.int 0)] [(.ref x), (.int 25), (.ref v), (.int 0), (.ref t)])) rfl rfl (hb hby d15_18)
  refine Fin.by (fun tt_ kk_ => st103 tt_ kk_) ?_
  obtain ⟨cl104, Ar104, q104, S104, N104, H104, G104⟩ := id A1
  refine Fin.by (fun tt_ kk_ => X103.arraylength hx (by rw [e103]; exact Ar104.1) (State.isArrayOf_alike hZ.alike Ar104.2.1) (g := (mkF m 21 #[.val (.ref x), .val (.ref v), .val (.int 25), .val (.int 0)] [(.ref t), (.int 25), (.ref v), (.int 0), (.ref t)])) rfl rfl (hb hby d15_21) _ kk_) ?_
  rw [len_of S104 N104]
  obtain ⟨T105, h105, L105, X105, e105, Nc105, K105, V105, st105⟩ := own_cp X103 hx hZ hown (w_ hw 153 rfl) (w_ hw 136 rfl) (w_ hw 134 rfl) (w_ hw 135 rfl) e103 A1 A0 (by decide) (by decide) (by decide) (by decide) (by rw [hvd]; rfl) (by rw [hus]; decide) N101_ gv (g := (mkF m 22 #[.val (.ref x), .val (.ref v), .val (.int 25), .val (.int 0)] [(.int 7), (.int 25), (.ref v), (.int 0), (.ref t)])) rfl (by rw [hml]; rfl) rfl (hb hby d15_22) (by decide) (W := 0) (by show 2 * 0 + _ ≤ _; exact Nat.le_of_eq rfl) (by decide)
  refine Fin.by (fun tt_ kk_ => st105 tt_ kk_) ?_
  refine Fin.by (fun tt_ kk_ => XS.goto X105.here hx rfl (pc0 := 25) (pc' := 43) rfl (hb hby d15_25) (by decide) (by decide) kk_) ?_
  have kp106 : Keep h0 h105 [v] := (Keep.refl h0 [v]).trans K105 (allS (Or.inl (List.mem_of_getElem? (i := 0) rfl)) all0)
  show Fin _ _ _ _ _ _ _ (T105.setTop (mkF m 43 #[.val (.ref x), .val (.ref v), .val (.int 25), .val (.int 0)] []))
  exact Fin.ret (v := none) X105 (fun _ => rfl) Bd.notSynchronized (by rw [e105]; exact ⟨rfl, Nc105, kp106, V105⟩) (by decide) (by decide) (fun fs hr => X105.returnOut hx Bd.returns (hb hby d15_43) hr)
def Q_psa25_7 (Z : State) (a : Addr) (v : Addr) (kv : ClassId) (vs : List Value) (x : Addr) (t : Addr) (kb : ClassId) (us : List Value) (G1 : Int32) (h0 : Heap) (n0 : Nat) (vv_ : Option Value) (hh_ : Heap) (LL_ : List Loc) : Prop := vv_ = none ∧ Fr n0 LL_ ∧ Keep h0 hh_ [v] ∧ Arv Z hh_ v kv .byte (34 : Int32) (vs ++ us) (.int 0)
set_option maxRecDepth 65536 in
set_option maxHeartbeats 40000000 in
theorem rm_psa25_7 (l : Launch) (Z : State) (a0 : Array Value) (hw : ∀ d ∈ tables_1, d.before a0 Z = true) (ws : List Jvm.Cond) (a : Addr) (v : Addr) (kv : ClassId) (vs : List Value) (x : Addr) (t : Addr) (kb : ClassId) (us : List Value) (G1 : Int32) (h0 : Heap) (n0 : Nat) (Z0 : n0 ≤ h0.size) (hvd : vs.length = 25) (hus : us.length = 7) (E0 : Exa Z h0 a "java/lang/StringBuilder") (F0 : Fld Z h0 a "java/lang/AbstractStringBuilder" "value" "[B" (.ref v)) (F1 : Fld Z h0 a "java/lang/AbstractStringBuilder" "coder" "B" (.int (0 : Int32))) (E1 : Exa Z h0 x "java/lang/String") (F3 : Fld Z h0 x "java/lang/String" "value" "[B" (.ref t)) (F4 : Fld Z h0 x "java/lang/String" "coder" "B" (.int (0 : Int32))) (A1 : Arv Z h0 t kb .byte (7 : Int32) us (.int 0)) (A0 : Arv Z h0 v kv .byte (34 : Int32) vs (.int 0)) (gv : n0 ≤ v) (S1 : Sta Z Z.heap "java/lang/String" "COMPACT_STRINGS" "Z" (.int G1)) (P1 : ¬ G1 = 0) (OL : Old Z n0 h0) :
    MetFree l y_17 (head1 (Jvm.Cond.code y_17 jdk_68_method_73_code 3 none :: ws) ({ frames := 2, cells := 0, slots := 0, locals := 33 } : Room)) (fun aa_ U => aa_ = #[(.ref a), (.int (25 : Int32)), (.ref x)] ∧ Z.Warmed39 U.vm ∧ U.heap = h0) (fun _ _ _ _ _ => True) (fun _ U o U' => ∃ vv_ LL_, o = .returned vv_ ∧ Q_psa25_7 Z a v kv vs x t kb us G1 h0 n0 vv_ U'.heap LL_ ∧ FrameEnd U o U' LL_ 0 0) := by
  refine MetFree.of_bodySF (plainFor_of_name pn_java_lang_AbstractStringBuilder) hisR ?_
  intro p e s m args below meth c s₁ Bd hml0 hP hK
  obtain ⟨rfl, hZ, hh⟩ := hP
  have hx := Bd.exec
  have hby := Bd.bytes
  have hml : c.maxLocals = 3 := hml0
  have hown : s.vm.findClass "java/lang/AbstractStringBuilder" = some m.cls := findClass_of_methodNamed Bd.named
  have hnm := (name_of_methodNamed Bd.named Bd.method).1
  have X0 : Stand p l e ({ frames := 2, cells := 0, slots := 0, locals := 33 } : Room) s m #[(.ref a), (.int (25 : Int32)), (.ref x)] below meth c s₁ [] 0 0 := Stand.of_body Bd
  have e0 : s₁.heap = h0 := by rw [← hh, Bd.state]; rfl
  have N0 := Fr.nil n0
  have ef : entryFrame m #[(.ref a), (.int (25 : Int32)), (.ref x)] 3 = mkF m 0 #[.val (.ref a), .val (.int (25 : Int32)), .val (.ref x)] [] := by first | (simp [entryFrame, mkF, argsToLocals, Value.category]; done) | rfl
  refine Fin.start (Q := Q_psa25_7 Z a v kv vs x t kb us G1 h0 n0) ef ?_
  refine Fin.by (fun tt_ kk_ => XS.aloadN X0.here hx rfl (hb hby d16_0) rfl rfl (XS.aloadN X0.here hx rfl (hb hby d16_1) rfl rfl kk_)) ?_
  obtain ⟨cq101, qa101, qb101⟩ := E0.cell
  obtain ⟨v101, _, ⟨T101, L101, k101, n101⟩, -, X101, ⟨Lc101, hQ101, l101, y101, z101⟩, st101⟩ := X0.privateBack hx (y := y_15) hown (mvT hZ (w_ hw 142 rfl)) (mvT hZ (w_ hw 143 rfl)) (own_selpriv (z := y_13) (y := y_15) (mvT hZ (w_ hw 109 rfl)) rfl (Cond.privateMethod_at (mvP hZ (w_ hw 144 rfl) (args := #[]))) (mvT hZ (w_ hw 143 rfl)) (by decide)) (Cond.privateMethod_at (mvP hZ (w_ hw 144 rfl) (args := #[]))) (mvT hZ (w_ hw 146 rfl)) (by decide) (backOf (W := 0) (rm_inf l Z a0 hw [] a x G1 h0 n0 Z0 E0 F1 E1 F4 S1 P1 OL) hZ (w_ hw 146 rfl) (w_ hw 73 rfl) (by decide) (by decide)) (g := (mkF m 2 #[.val (.ref a), .val (.int 25), .val (.ref x)] [(.ref x), (.ref a)])) rfl (by rw [hml]; rfl) (Steps.refl _) (a := a) (by rw [e0]; exact qa101) qb101 (argsL := [(.ref x)]) (rest := []) (lenOf pd_421 rfl) rfl (by show 2 * 0 + _ ≤ _; exact Nat.le_of_eq rfl) (hb hby d16_2) (fun _ _ => ⟨rfl, e0, (by decide : 0 + 0 ≤ _), (by decide : 0 + 0 ≤ _)⟩)
  dsimp only [Pt.U, Pt.locs, Pt.cells, Pt.slots] at X101 l101 y101 z101 st101 hQ101
  subst l101 y101 z101
  obtain ⟨rfl, Nq101, e101_⟩ := hQ101
  have N101_ := Fr.app N0 Nq101
  refine Fin.byS st101 ?_
  have e101 := e101_
  refine Fin.by (fun tt_ kk_ => XS.aloadN X101.here hx rfl (hb hby d16_5) rfl rfl (XS.aloadN X101.here hx rfl (hb hby d16_6) rfl rfl kk_)) ?_
  obtain ⟨T102, X102, e102, st102⟩ := getF X101 hx hZ hown (host := "") (Or.inl (w_ hw 77 rfl)) Via.refl e101 F0 (g := (mkF m 7 #[.val (.ref a), .val (.int 25), .val (.ref x)] [(.ref a), (.ref x)])) rfl rfl (hb hby d16_7)
  refine Fin.by (fun tt_ kk_ => st102 tt_ kk_) ?_
  refine Fin.by (fun tt_ kk_ => XS.iloadN X102.here hx rfl (hb hby d16_10) rfl (XS.aloadN X102.here hx rfl (hb hby d16_11) rfl rfl kk_)) ?_
  obtain ⟨T103, X103, e103, st103⟩ := getF X102 hx hZ hown (host := "") (Or.inl (w_ hw 79 rfl)) Via.refl e102 F1 (g := (mkF m 12 #[.val (.ref a), .val (.int 25), .val (.ref x)] [(.ref a), (.int 25), (.ref v), (.ref x)])) rfl rfl (hb hby d16_12)
  refine Fin.by (fun tt_ kk_ => st103 tt_ kk_) ?_
  obtain ⟨cq104, kq104, qa104, qb104, qc104⟩ := isOf hZ e103 E1
  obtain ⟨v104, _, ⟨T104, L104, k104, n104⟩, -, X104, ⟨Lc104, hQ104, l104, y104, z104⟩, st104⟩ := X103.virtualBack hx (y := y_16) (z := y_16) hown (mvT hZ (w_ hw 148 rfl)) (mvT hZ (w_ hw 149 rfl)) (notFace_of_selects (args := #[]) (mvT hZ (w_ hw 151 rfl))) (mvT hZ (w_ hw 151 rfl)) (mvT hZ (w_ hw 150 rfl)) (by decide) (backOf (W := 0) (rm_gb25_7 l Z a0 hw [] x t kb (us : List Value) v kv (vs : List Value) G1 h0 n0 Z0 hvd hus E1 F3 F4 A1 A0 gv S1 P1 OL) hZ (w_ hw 152 rfl) (w_ hw 7 rfl) (by decide) (by decide)) qa104 qc104 (g := (mkF m 15 #[.val (.ref a), .val (.int 25), .val (.ref x)] [(.int 0), (.int 25), (.ref v), (.ref x)])) rfl (by rw [hml]; rfl) (Steps.refl _) (argsL := [(.ref v), (.int 25), (.int 0)]) (rest := []) (lenOf pd_429 rfl) rfl (by show 2 * 0 + _ ≤ _; exact Nat.le_of_eq rfl) (hb hby d16_15) (fun _ _ => ⟨rfl, e103, (by decide : 0 + 0 ≤ _), (by decide : 0 + 0 ≤ _)⟩)
  dsimp only [Pt.U, Pt.locs, Pt.cells, Pt.slots] at X104 l104 y104 z104 st104 hQ104
  subst l104 y104 z104
  obtain ⟨rfl, Nq104, p104_0, p104_1⟩ := hQ104
  have N104_ := Fr.app N101_ Nq104
  refine Fin.byS st104 ?_
  have kp105 : Keep h0 T104.heap [v] := (Keep.refl h0 [v]).trans p104_0 (allS (Or.inl (List.mem_of_getElem? (i := 0) rfl)) all0)
  show Fin _ _ _ _ _ _ _ (T104.setTop (mkF m 18 #[.val (.ref a), .val (.int 25), .val (.ref x)] []))
  exact Fin.ret (v := none) X104 (fun _ => rfl) Bd.notSynchronized (⟨rfl, N104_, kp105, p104_1⟩) (by decide) (by decide) (fun fs hr => X104.returnOut hx Bd.returns (hb hby d16_18) hr)
def Q_app25_7 (Z : State) (a : Addr) (v : Addr) (kv : ClassId) (vs : List Value) (x : Addr) (t : Addr) (kb : ClassId) (us : List Value) (G1 : Int32) (h0 : Heap) (n0 : Nat) (vv_ : Option Value) (hh_ : Heap) (LL_ : List Loc) : Prop := vv_ = some (.ref a) ∧ Fr n0 LL_ ∧ Keep h0 hh_ [a, v] ∧ Exa Z hh_ a "java/lang/StringBuilder" ∧ Fld Z hh_ a "java/lang/AbstractStringBuilder" "value" "[B" (.ref v) ∧ Fld Z hh_ a "java/lang/AbstractStringBuilder" "coder" "B" (.int (0 : Int32)) ∧ Fld Z hh_ a "java/lang/AbstractStringBuilder" "count" "I" (.int (32 : Int32)) ∧ Arv Z hh_ v kv .byte (34 : Int32) (vs ++ us) (.int 0)
set_option maxRecDepth 65536 in
set_option maxHeartbeats 40000000 in
theorem rm_app25_7 (l : Launch) (Z : State) (a0 : Array Value) (hw : ∀ d ∈ tables_1, d.before a0 Z = true) (ws : List Jvm.Cond) (a : Addr) (v : Addr) (kv : ClassId) (vs : List Value) (x : Addr) (t : Addr) (kb : ClassId) (us : List Value) (G1 : Int32) (h0 : Heap) (n0 : Nat) (Z0 : n0 ≤ h0.size) (hvd : vs.length = 25) (hus : us.length = 7) (E0 : Exa Z h0 a "java/lang/StringBuilder") (F0 : Fld Z h0 a "java/lang/AbstractStringBuilder" "value" "[B" (.ref v)) (F1 : Fld Z h0 a "java/lang/AbstractStringBuilder" "coder" "B" (.int (0 : Int32))) (F2 : Fld Z h0 a "java/lang/AbstractStringBuilder" "count" "I" (.int (25 : Int32))) (A0 : Arv Z h0 v kv .byte (34 : Int32) vs (.int 0)) (E1 : Exa Z h0 x "java/lang/String") (F3 : Fld Z h0 x "java/lang/String" "value" "[B" (.ref t)) (F4 : Fld Z h0 x "java/lang/String" "coder" "B" (.int (0 : Int32))) (A1 : Arv Z h0 t kb .byte (7 : Int32) us (.int 0)) (ga : n0 ≤ a) (gv : n0 ≤ v) (na : a ≠ v) (S1 : Sta Z Z.heap "java/lang/String" "COMPACT_STRINGS" "Z" (.int G1)) (P1 : ¬ G1 = 0) (OL : Old Z n0 h0) :
    MetFree l y_19 (head1 (Jvm.Cond.code y_19 jdk_68_method_22_code 3 (some (.object "java/lang/AbstractStringBuilder")) :: ws) ({ frames := 3, cells := 0, slots := 0, locals := 47 } : Room)) (fun aa_ U => aa_ = #[(.ref a), (.ref x)] ∧ Z.Warmed39 U.vm ∧ U.heap = h0) (fun _ _ _ _ _ => True) (fun _ U o U' => ∃ vv_ LL_, o = .returned vv_ ∧ Q_app25_7 Z a v kv vs x t kb us G1 h0 n0 vv_ U'.heap LL_ ∧ FrameEnd U o U' LL_ 0 0) := by
  refine MetFree.of_bodySF (plainFor_of_name pn_java_lang_AbstractStringBuilder) hisR ?_
  intro p e s m args below meth c s₁ Bd hml0 hP hK
  obtain ⟨rfl, hZ, hh⟩ := hP
  have hx := Bd.exec
  have hby := Bd.bytes
  have hml : c.maxLocals = 3 := hml0
  have hown : s.vm.findClass "java/lang/AbstractStringBuilder" = some m.cls := findClass_of_methodNamed Bd.named
  have hnm := (name_of_methodNamed Bd.named Bd.method).1
  have X0 : Stand p l e ({ frames := 3, cells := 0, slots := 0, locals := 47 } : Room) s m #[(.ref a), (.ref x)] below meth c s₁ [] 0 0 := Stand.of_body Bd
  have e0 : s₁.heap = h0 := by rw [← hh, Bd.state]; rfl
  have N0 := Fr.nil n0
  have ef : entryFrame m #[(.ref a), (.ref x)] 3 = mkF m 0 #[.val (.ref a), .val (.ref x), .unset] [] := by first | (simp [entryFrame, mkF, argsToLocals, Value.category]; done) | rfl
  refine Fin.start (Q := Q_app25_7 Z a v kv vs x t kb us G1 h0 n0) ef ?_
  refine Fin.by (fun tt_ kk_ => XS.aloadN X0.here hx rfl (hb hby d18_0) rfl rfl kk_) ?_
  refine Fin.by (fun tt_ kk_ => XS.ifnonnullYes X0.here hx rfl (pc0 := 1) (pc' := 9) rfl (hb hby d18_1) rfl (by decide) (by decide) kk_) ?_
  refine Fin.by (fun tt_ kk_ => XS.aloadN X0.here hx rfl (hb hby d18_9) rfl rfl kk_) ?_
  obtain ⟨cq101, kq101, qa101, qb101, qc101⟩ := isOf hZ e0 E1
  obtain ⟨v101, _, ⟨T101, L101, k101, n101⟩, -, X101, ⟨Lc101, hQ101, l101, y101, z101⟩, st101⟩ := X0.virtualBack hx (y := y_18) (z := y_18) hown (mvT hZ (w_ hw 94 rfl)) (mvT hZ (w_ hw 95 rfl)) (notFace_of_selects (args := #[]) (mvT hZ (w_ hw 97 rfl))) (mvT hZ (w_ hw 97 rfl)) (mvT hZ (w_ hw 96 rfl)) (by decide) (backOf (W := 0) (rm_sle l Z a0 hw [] x t kb (us : List Value) (7 : Int32) G1 h0 n0 Z0 E1 F3 F4 A1 S1 P1 OL) hZ (w_ hw 98 rfl) (w_ hw 7 rfl) (by decide) (by decide)) qa101 qc101 (g := (mkF m 10 #[.val (.ref a), .val (.ref x), .unset] [(.ref x)])) rfl (by rw [hml]; rfl) (Steps.refl _) (argsL := []) (rest := []) (lenOf pd_442 rfl) rfl (by show 2 * 0 + _ ≤ _; exact Nat.le_of_eq rfl) (hb hby d18_10) (fun _ _ => ⟨rfl, e0, (by decide : 0 + 0 ≤ _), (by decide : 0 + 0 ≤ _)⟩)
  dsimp only [Pt.U, Pt.locs, Pt.cells, Pt.slots] at X101 l101 y101 z101 st101 hQ101
  subst l101 y101 z101
  obtain ⟨rfl, Nq101, e101_⟩ := hQ101
  have N101_ := Fr.app N0 Nq101
  refine Fin.byS st101 ?_
  have e101 := e101_
  refine Fin.by (fun tt_ kk_ => XS.istoreN X101.here hx rfl (hb hby d18_13) rfl (l' := #[.val (.ref a), .val (.ref x), .val (.int 7)]) rfl (XS.aloadN X101.here hx rfl (hb hby d18_14) rfl rfl (XS.aloadN X101.here hx rfl (hb hby d18_15) rfl rfl kk_))) ?_
  obtain ⟨T102, X102, e102, st102⟩ := getF X101 hx hZ hown (host := "") (Or.inl (w_ hw 104 rfl)) Via.refl e101 F2 (g := (mkF m 16 #[.val (.ref a), .val (.ref x), .val (.int 7)] [(.ref a), (.ref a)])) rfl rfl (hb hby d18_16)
  refine Fin.by (fun tt_ kk_ => st102 tt_ kk_) ?_
  refine Fin.by (fun tt_ kk_ => XS.iloadN X102.here hx rfl (hb hby d18_19) rfl (XS.iadd X102.here hx rfl (hb hby d18_20) rfl kk_)) ?_
  obtain ⟨cq103, qa103, qb103⟩ := E0.cell
  obtain ⟨v103, _, ⟨T103, L103, k103, n103⟩, -, X103, ⟨Lc103, hQ103, l103, y103, z103⟩, st103⟩ := X102.privateBack hx (y := y_13) hown (mvT hZ (w_ hw 106 rfl)) (mvT hZ (w_ hw 107 rfl)) (own_selpriv (z := y_13) (y := y_13) (mvT hZ (w_ hw 109 rfl)) rfl (Cond.privateMethod_at (mvP hZ (w_ hw 108 rfl) (args := #[]))) (mvT hZ (w_ hw 107 rfl)) (by decide)) (Cond.privateMethod_at (mvP hZ (w_ hw 108 rfl) (args := #[]))) (mvT hZ (w_ hw 110 rfl)) (by decide) (backOf (W := 0) (rm_eci34_32 l Z a0 hw [] a v kv (vs : List Value) h0 n0 Z0 E0 F0 F1 A0) hZ (w_ hw 110 rfl) (w_ hw 73 rfl) (by decide) (by decide)) (g := (mkF m 21 #[.val (.ref a), .val (.ref x), .val (.int 7)] [(.int 32), (.ref a)])) rfl (by rw [hml]; rfl) (Steps.refl _) (a := a) (by rw [e102]; exact qa103) qb103 (argsL := [(.int 32)]) (rest := []) (lenOf pd_279 rfl) rfl (by show 2 * 0 + _ ≤ _; exact Nat.le_of_eq rfl) (hb hby d18_21) (fun _ _ => ⟨rfl, e102, (by decide : 0 + 0 ≤ _), (by decide : 0 + 0 ≤ _)⟩)
  dsimp only [Pt.U, Pt.locs, Pt.cells, Pt.slots] at X103 l103 y103 z103 st103 hQ103
  subst l103 y103 z103
  obtain ⟨rfl, Nq103, e103_⟩ := hQ103
  have N103_ := Fr.app N101_ Nq103
  refine Fin.byS st103 ?_
  have e103 := e103_
  refine Fin.by (fun tt_ kk_ => XS.aloadN X103.here hx rfl (hb hby d18_24) rfl rfl (XS.aloadN X103.here hx rfl (hb hby d18_25) rfl rfl kk_)) ?_
  obtain ⟨T104, X104, e104, st104⟩ := getF X103 hx hZ hown (host := "") (Or.inl (w_ hw 104 rfl)) Via.refl e103 F2 (g := (mkF m 26 #[.val (.ref a), .val (.ref x), .val (.int 7)] [(.ref a), (.ref a)])) rfl rfl (hb hby d18_26)
  refine Fin.by (fun tt_ kk_ => st104 tt_ kk_) ?_
  refine Fin.by (fun tt_ kk_ => XS.aloadN X104.here hx rfl (hb hby d18_29) rfl rfl kk_) ?_
  obtain ⟨cq105, qa105, qb105⟩ := E0.cell
  obtain ⟨v105, _, ⟨T105, L105, k105, n105⟩, -, X105, ⟨Lc105, hQ105, l105, y105, z105⟩, st105⟩ := X104.privateBack hx (y := y_17) hown (mvT hZ (w_ hw 137 rfl)) (mvT hZ (w_ hw 138 rfl)) (own_selpriv (z := y_13) (y := y_17) (mvT hZ (w_ hw 109 rfl)) rfl (Cond.privateMethod_at (mvP hZ (w_ hw 139 rfl) (args := #[]))) (mvT hZ (w_ hw 138 rfl)) (by decide)) (Cond.privateMethod_at (mvP hZ (w_ hw 139 rfl) (args := #[]))) (mvT hZ (w_ hw 141 rfl)) (by decide) (backOf (W := 0) (rm_psa25_7 l Z a0 hw [] a v kv (vs : List Value) x t kb (us : List Value) G1 h0 n0 Z0 hvd hus E0 F0 F1 E1 F3 F4 A1 A0 gv S1 P1 OL) hZ (w_ hw 141 rfl) (w_ hw 73 rfl) (by decide) (by decide)) (g := (mkF m 30 #[.val (.ref a), .val (.ref x), .val (.int 7)] [(.ref x), (.int 25), (.ref a)])) rfl (by rw [hml]; rfl) (Steps.refl _) (a := a) (by rw [e104]; exact qa105) qb105 (argsL := [(.int 25), (.ref x)]) (rest := []) (lenOf pd_455 rfl) rfl (by show 2 * 0 + _ ≤ _; exact Nat.le_of_eq rfl) (hb hby d18_30) (fun _ _ => ⟨rfl, e104, (by decide : 0 + 0 ≤ _), (by decide : 0 + 0 ≤ _)⟩)
  dsimp only [Pt.U, Pt.locs, Pt.cells, Pt.slots] at X105 l105 y105 z105 st105 hQ105
  subst l105 y105 z105
  obtain ⟨rfl, Nq105, p105_0, p105_1⟩ := hQ105
  have N105_ := Fr.app N103_ Nq105
  refine Fin.byS st105 ?_
  refine Fin.by (fun tt_ kk_ => XS.aloadN X105.here hx rfl (hb hby d18_33) rfl rfl (XS.dup X105.here hx rfl (hb hby d18_34) rfl rfl kk_)) ?_
  have F106 : Fld Z T105.heap a "java/lang/AbstractStringBuilder" "count" "I" (.int (25 : Int32)) := (F2.keep p105_0 (ninS na nin0))
  obtain ⟨T107, X107, e107, st107⟩ := getF X105 hx hZ hown (host := "") (Or.inl (w_ hw 104 rfl)) Via.refl rfl F106 (g := (mkF m 35 #[.val (.ref a), .val (.ref x), .val (.int 7)] [(.ref a), (.ref a)])) rfl rfl (hb hby d18_35)
  refine Fin.by (fun tt_ kk_ => st107 tt_ kk_) ?_
  refine Fin.by (fun tt_ kk_ => XS.iloadN X107.here hx rfl (hb hby d18_38) rfl (XS.iadd X107.here hx rfl (hb hby d18_39) rfl kk_)) ?_
  have E108 : Exa Z T105.heap a "java/lang/StringBuilder" := (E0.keep p105_0)
  obtain ⟨T109, h109, X109, e109, W109, st109⟩ := putF X107 hx hZ hown (host := "") (Or.inl (w_ hw 104 rfl)) Via.refl e107 F106 E108 (Or.inl (w_ hw 105 rfl)) (w_ hw 64 rfl) (ty := .int) (by decide) rfl rfl (g := (mkF m 40 #[.val (.ref a), .val (.ref x), .val (.int 7)] [(.int 32), (.ref a)])) rfl rfl (hb hby d18_40)
  refine Fin.by (fun tt_ kk_ => st109 tt_ kk_) ?_
  have N109_ := Fr.snoc X109 N105_ ga
  refine Fin.by (fun tt_ kk_ => XS.aloadN X109.here hx rfl (hb hby d18_43) rfl rfl kk_) ?_
  have kp110 : Keep h0 T105.heap [a, v] := (Keep.refl h0 [a, v]).trans p105_0 (allS (Or.inl (List.mem_of_getElem? (i := 1) rfl)) all0)
  have kp111 : Keep h0 h109 [a, v] := kp110.wr W109 (Or.inl (List.mem_of_getElem? (i := 0) rfl))
  have E112 : Exa Z h109 a "java/lang/StringBuilder" := (E108.wr W109)
  have F113 : Fld Z h109 a "java/lang/AbstractStringBuilder" "value" "[B" (.ref v) := ((F0.keep p105_0 (ninS na nin0)).other W109 (Or.inr (slot_ne (Or.inl (w_ hw 78 rfl)) (Or.inl (w_ hw 105 rfl)) (by decide) (t := (.array .byte)) (t' := .int) (by decide) (by decide))))
  have F114 : Fld Z h109 a "java/lang/AbstractStringBuilder" "coder" "B" (.int (0 : Int32)) := ((F1.keep p105_0 (ninS na nin0)).other W109 (Or.inr (slot_ne (Or.inl (w_ hw 80 rfl)) (Or.inl (w_ hw 105 rfl)) (by decide) (t := .byte) (t' := .int) (by decide) (by decide))))
  have A115 : Arv Z h109 v kv .byte (34 : Int32) ((vs : List Value) ++ (us : List Value)) (.int 0) := (p105_1.other W109 (Ne.symm na))
  show Fin _ _ _ _ _ _ _ (T109.setTop (mkF m 44 #[.val (.ref a), .val (.ref x), .val (.int 7)] [(.ref a)]))
  exact Fin.ret (v := some (.ref a)) X109 (fun h => by rw [Bd.returns] at h; cases h) Bd.notSynchronized (by rw [e109]; exact ⟨rfl, N109_, kp111, E112, F113, F114, (F106.same W109), A115⟩) (by decide) (by decide) (fun fs hr => retA X109 hx Bd.returns rfl rfl (hb hby d18_44) hr)
def Q_sap25_7 (Z : State) (a : Addr) (v : Addr) (kv : ClassId) (vs : List Value) (x : Addr) (t : Addr) (kb : ClassId) (us : List Value) (G1 : Int32) (h0 : Heap) (n0 : Nat) (vv_ : Option Value) (hh_ : Heap) (LL_ : List Loc) : Prop := vv_ = some (.ref a) ∧ Fr n0 LL_ ∧ Keep h0 hh_ [a, v] ∧ Exa Z hh_ a "java/lang/StringBuilder" ∧ Fld Z hh_ a "java/lang/AbstractStringBuilder" "value" "[B" (.ref v) ∧ Fld Z hh_ a "java/lang/AbstractStringBuilder" "coder" "B" (.int (0 : Int32)) ∧ Fld Z hh_ a "java/lang/AbstractStringBuilder" "count" "I" (.int (32 : Int32)) ∧ Arv Z hh_ v kv .byte (34 : Int32) (vs ++ us) (.int 0)
set_option maxRecDepth 65536 in
set_option maxHeartbeats 40000000 in
theorem rm_sap25_7 (l : Launch) (Z : State) (a0 : Array Value) (hw : ∀ d ∈ tables_1, d.before a0 Z = true) (ws : List Jvm.Cond) (a : Addr) (v : Addr) (kv : ClassId) (vs : List Value) (x : Addr) (t : Addr) (kb : ClassId) (us : List Value) (G1 : Int32) (h0 : Heap) (n0 : Nat) (Z0 : n0 ≤ h0.size) (hvd : vs.length = 25) (hus : us.length = 7) (E0 : Exa Z h0 a "java/lang/StringBuilder") (F0 : Fld Z h0 a "java/lang/AbstractStringBuilder" "value" "[B" (.ref v)) (F1 : Fld Z h0 a "java/lang/AbstractStringBuilder" "coder" "B" (.int (0 : Int32))) (F2 : Fld Z h0 a "java/lang/AbstractStringBuilder" "count" "I" (.int (25 : Int32))) (A0 : Arv Z h0 v kv .byte (34 : Int32) vs (.int 0)) (E1 : Exa Z h0 x "java/lang/String") (F3 : Fld Z h0 x "java/lang/String" "value" "[B" (.ref t)) (F4 : Fld Z h0 x "java/lang/String" "coder" "B" (.int (0 : Int32))) (A1 : Arv Z h0 t kb .byte (7 : Int32) us (.int 0)) (ga : n0 ≤ a) (gv : n0 ≤ v) (na : a ≠ v) (S1 : Sta Z Z.heap "java/lang/String" "COMPACT_STRINGS" "Z" (.int G1)) (P1 : ¬ G1 = 0) (OL : Old Z n0 h0) :
    MetFree l y_20 (head1 (Jvm.Cond.code y_20 jdk_67_method_7_code 2 (some (.object "java/lang/StringBuilder")) :: ws) ({ frames := 4, cells := 0, slots := 0, locals := 61 } : Room)) (fun aa_ U => aa_ = #[(.ref a), (.ref x)] ∧ Z.Warmed39 U.vm ∧ U.heap = h0) (fun _ _ _ _ _ => True) (fun _ U o U' => ∃ vv_ LL_, o = .returned vv_ ∧ Q_sap25_7 Z a v kv vs x t kb us G1 h0 n0 vv_ U'.heap LL_ ∧ FrameEnd U o U' LL_ 0 0) := by
  refine MetFree.of_bodySF (plainFor_of_name pn_java_lang_StringBuilder) hisR ?_
  intro p e s m args below meth c s₁ Bd hml0 hP hK
  obtain ⟨rfl, hZ, hh⟩ := hP
  have hx := Bd.exec
  have hby := Bd.bytes
  have hml : c.maxLocals = 2 := hml0
  have hown : s.vm.findClass "java/lang/StringBuilder" = some m.cls := findClass_of_methodNamed Bd.named
  have hnm := (name_of_methodNamed Bd.named Bd.method).1
  have X0 : Stand p l e ({ frames := 4, cells := 0, slots := 0, locals := 61 } : Room) s m #[(.ref a), (.ref x)] below meth c s₁ [] 0 0 := Stand.of_body Bd
  have e0 : s₁.heap = h0 := by rw [← hh, Bd.state]; rfl
  have N0 := Fr.nil n0
  have ef : entryFrame m #[(.ref a), (.ref x)] 2 = mkF m 0 #[.val (.ref a), .val (.ref x)] [] := by first | (simp [entryFrame, mkF, argsToLocals, Value.category]; done) | rfl
  refine Fin.start (Q := Q_sap25_7 Z a v kv vs x t kb us G1 h0 n0) ef ?_
  refine Fin.by (fun tt_ kk_ => XS.aloadN X0.here hx rfl (hb hby d19_0) rfl rfl (XS.aloadN X0.here hx rfl (hb hby d19_1) rfl rfl kk_)) ?_
  obtain ⟨v101, _, ⟨T101, L101, k101, n101⟩, -, X101, ⟨Lc101, hQ101, l101, y101, z101⟩, st101⟩ := superBack X0 hx hZ (y := y_19) hown (w_ hw 89 rfl) (own_same (z := y_13) (y := y_19) (w_ hw 109 rfl) rfl (w_ hw 90 rfl) (by decide)) (w_ hw 90 rfl) (w_ hw 91 rfl) (by decide) (backOf (W := 0) (rm_app25_7 l Z a0 hw [] a v kv (vs : List Value) x t kb (us : List Value) G1 h0 n0 Z0 hvd hus E0 F0 F1 F2 A0 E1 F3 F4 A1 ga gv na S1 P1 OL) hZ (w_ hw 93 rfl) (w_ hw 73 rfl) (by decide) (by decide)) e0 (Ins.self E0) (g := (mkF m 2 #[.val (.ref a), .val (.ref x)] [(.ref x), (.ref a)])) rfl (by rw [hml]; rfl) (w_ hw 93 rfl) (argsL := [(.ref x)]) (rest := []) (lenOf pd_467 rfl) rfl (by show 2 * 0 + _ ≤ _; exact Nat.le_of_eq rfl) (hb hby d19_2) (fun _ _ => ⟨rfl, e0, (by decide : 0 + 0 ≤ _), (by decide : 0 + 0 ≤ _)⟩)
  dsimp only [Pt.U, Pt.locs, Pt.cells, Pt.slots] at X101 l101 y101 z101 st101 hQ101
  subst l101 y101 z101
  obtain ⟨rfl, Nq101, p101_0, p101_1, p101_2, p101_3, p101_4, p101_5⟩ := hQ101
  have N101_ := Fr.app N0 Nq101
  refine Fin.byS st101 ?_
  refine Fin.by (fun tt_ kk_ => XS.pop X101.here hx rfl (hb hby d19_5) rfl rfl (XS.aloadN X101.here hx rfl (hb hby d19_6) rfl rfl kk_)) ?_
  have kp102 : Keep h0 T101.heap [a, v] := (Keep.refl h0 [a, v]).trans p101_0 (allS (Or.inl (List.mem_of_getElem? (i := 0) rfl)) (allS (Or.inl (List.mem_of_getElem? (i := 1) rfl)) all0))
  show Fin _ _ _ _ _ _ _ (T101.setTop (mkF m 7 #[.val (.ref a), .val (.ref x)] [(.ref a)]))
  exact Fin.ret (v := some (.ref a)) X101 (fun h => by rw [Bd.returns] at h; cases h) Bd.notSynchronized (⟨rfl, N101_, kp102, p101_1, p101_2, p101_3, p101_4, p101_5⟩) (by decide) (by decide) (fun fs hr => retA X101 hx Bd.returns rfl rfl (hb hby d19_7) hr)
def Q_nl34_2 (Z : State)  (h0 : Heap) (n0 : Nat) (vv_ : Option Value) (hh_ : Heap) (LL_ : List Loc) : Prop := vv_ = some (.int (70 : Int32)) ∧ Fr n0 LL_ ∧ hh_ = h0
set_option maxRecDepth 65536 in
set_option maxHeartbeats 40000000 in
theorem rm_nl34_2 (l : Launch) (Z : State) (a0 : Array Value) (hw : ∀ d ∈ tables_1, d.before a0 Z = true) (ws : List Jvm.Cond)  (h0 : Heap) (n0 : Nat) (Z0 : n0 ≤ h0.size) :
    MetFree l y_9 (head1 (Jvm.Cond.code y_9 jdk_48_method_27_code 4 (some .int) :: ws) ({ frames := 1, cells := 0, slots := 0, locals := 14 } : Room)) (fun aa_ U => aa_ = #[(.int (34 : Int32)), (.int (2 : Int32)), (.int (36 : Int32))] ∧ Z.Warmed39 U.vm ∧ U.heap = h0) (fun _ _ _ _ _ => True) (fun _ U o U' => ∃ vv_ LL_, o = .returned vv_ ∧ Q_nl34_2 Z  h0 n0 vv_ U'.heap LL_ ∧ FrameEnd U o U' LL_ 0 0) := by
  refine MetFree.of_bodySF (plainFor_of_name pn_jdk_internal_util_ArraysSupport) hisR ?_
  intro p e s m args below meth c s₁ Bd hml0 hP hK
  obtain ⟨rfl, hZ, hh⟩ := hP
  have hx := Bd.exec
  have hby := Bd.bytes
  have hml : c.maxLocals = 4 := hml0
  have hown : s.vm.findClass "jdk/internal/util/ArraysSupport" = some m.cls := findClass_of_methodNamed Bd.named
  have hnm := (name_of_methodNamed Bd.named Bd.method).1
  have X0 : Stand p l e ({ frames := 1, cells := 0, slots := 0, locals := 14 } : Room) s m #[(.int (34 : Int32)), (.int (2 : Int32)), (.int (36 : Int32))] below meth c s₁ [] 0 0 := Stand.of_body Bd
  have e0 : s₁.heap = h0 := by rw [← hh, Bd.state]; rfl
  have N0 := Fr.nil n0
  have ef : entryFrame m #[(.int (34 : Int32)), (.int (2 : Int32)), (.int (36 : Int32))] 4 = mkF m 0 #[.val (.int (34 : Int32)), .val (.int (2 : Int32)), .val (.int (36 : Int32)), .unset] [] := by first | (simp [entryFrame, mkF, argsToLocals, Value.category]; done) | rfl
  refine Fin.start (Q := Q_nl34_2 Z  h0 n0) ef ?_
  refine Fin.by (fun tt_ kk_ => XS.iloadN X0.here hx rfl (hb hby d8_0) rfl (XS.iloadN X0.here hx rfl (hb hby d8_1) rfl (XS.iloadN X0.here hx rfl (hb hby d8_2) rfl kk_))) ?_
  obtain ⟨v101, _, ⟨T101, L101, k101, n101⟩, -, X101, ⟨Lc101, hQ101, l101, y101, z101⟩, st101⟩ := Jvm.LawKit.callS X0 hx (y := y_8) hown (mvT hZ (w_ hw 120 rfl)) (mvT hZ (w_ hw 121 rfl)) (mvT hZ (w_ hw 122 rfl)) (mvT hZ (w_ hw 123 rfl)) (by decide) (backOf (W := 1) (rm_mx l Z a0 hw [] (2 : Int32) (36 : Int32) h0 n0 Z0 (by decide)) hZ (w_ hw 123 rfl) (w_ hw 122 rfl) (by decide) (by decide)) (g := (mkF m 3 #[.val (.int 34), .val (.int 2), .val (.int 36), .unset] [(.int 36), (.int 2), (.int 34)])) rfl (by rw [hml]; rfl) (argsL := [(.int 2), (.int 36)]) (rest := [(.int 34)]) (lenOf pd_291 rfl) rfl (by show 2 * 0 + _ ≤ _; exact Nat.le_of_eq rfl) (hb hby d8_3) (fun _ _ => ⟨rfl, e0, (by decide : 0 + 0 ≤ _), (by decide : 0 + 0 ≤ _)⟩)
  dsimp only [Pt.U, Pt.locs, Pt.cells, Pt.slots] at X101 l101 y101 z101 st101 hQ101
  subst l101 y101 z101
  obtain ⟨rfl, Nq101, e101_⟩ := hQ101
  have N101_ := Fr.app N0 Nq101
  refine Fin.by (fun tt_ kk_ => st101 tt_ kk_) ?_
  have e101 := e101_
  refine Fin.by (fun tt_ kk_ => XS.iadd X101.here hx rfl (hb hby d8_6) rfl (XS.istoreN X101.here hx rfl (hb hby d8_7) rfl (l' := #[.val (.int 34), .val (.int 2), .val (.int 36), .val (.int 70)]) rfl (XS.iconst X101.here hx rfl (hb hby d8_8) (XS.iloadN X101.here hx rfl (hb hby d8_9) rfl kk_)))) ?_
  show Fin _ _ _ _ _ _ _ (T101.setTop (mkF m 10 #[.val (.int 34), .val (.int 2), .val (.int 36), .val (.int 70)] [(.int 70), (.int 0)]))
  refine Fin.by (fun tt_ kk_ => XS.icmpNo X101.here hx rfl (hb hby d8_10) rfl (tlt (by decide : (0 : Int32) < (70 : Int32))).2.1 kk_) ?_
  refine Fin.by (fun tt_ kk_ => XS.iloadN X101.here hx rfl (hb hby d8_13) rfl kk_) ?_
  refine Fin.by (fun tt_ kk_ => X101.ldcInt hx hown (mvT hZ (w_ hw 124 rfl)) (g := (mkF m 14 #[.val (.int 34), .val (.int 2), .val (.int 36), .val (.int 70)] [(.int 70)])) rfl (hb hby d8_14) _ kk_) ?_
  show Fin _ _ _ _ _ _ _ (T101.setTop (mkF m 16 #[.val (.int 34), .val (.int 2), .val (.int 36), .val (.int 70)] [(.int 2147483639), (.int 70)]))
  refine Fin.by (fun tt_ kk_ => XS.icmpNo X101.here hx rfl (hb hby d8_16) rfl (flt (by decide : ¬ (2147483639 : Int32) < (70 : Int32))).2.2.1 kk_) ?_
  refine Fin.by (fun tt_ kk_ => XS.iloadN X101.here hx rfl (hb hby d8_19) rfl kk_) ?_
  show Fin _ _ _ _ _ _ _ (T101.setTop (mkF m 20 #[.val (.int 34), .val (.int 2), .val (.int 36), .val (.int 70)] [(.int 70)]))
  exact Fin.ret (v := some (.int (70 : Int32))) X101 (fun h => by rw [Bd.returns] at h; cases h) Bd.notSynchronized (by rw [e101]; exact ⟨rfl, N101_, rfl⟩) (by decide) (by decide) (fun fs hr => retI X101 hx Bd.returns (hb hby d8_20) hr)
def Q_nc34_36 (Z : State) (a : Addr) (v : Addr) (kv : ClassId) (vs : List Value) (h0 : Heap) (n0 : Nat) (vv_ : Option Value) (hh_ : Heap) (LL_ : List Loc) : Prop := vv_ = some (.int (70 : Int32)) ∧ Fr n0 LL_ ∧ hh_ = h0
set_option maxRecDepth 65536 in
set_option maxHeartbeats 40000000 in
theorem rm_nc34_36 (l : Launch) (Z : State) (a0 : Array Value) (hw : ∀ d ∈ tables_1, d.before a0 Z = true) (ws : List Jvm.Cond) (a : Addr) (v : Addr) (kv : ClassId) (vs : List Value) (h0 : Heap) (n0 : Nat) (Z0 : n0 ≤ h0.size) (E0 : Exa Z h0 a "java/lang/StringBuilder") (F0 : Fld Z h0 a "java/lang/AbstractStringBuilder" "value" "[B" (.ref v)) (F1 : Fld Z h0 a "java/lang/AbstractStringBuilder" "coder" "B" (.int (0 : Int32))) (A0 : Arv Z h0 v kv .byte (34 : Int32) vs (.int 0)) :
    MetFree l y_10 (head1 (Jvm.Cond.code y_10 jdk_68_method_10_code 6 (some .int) :: ws) ({ frames := 2, cells := 0, slots := 0, locals := 29 } : Room)) (fun aa_ U => aa_ = #[(.ref a), (.int (36 : Int32))] ∧ Z.Warmed39 U.vm ∧ U.heap = h0) (fun _ _ _ _ _ => True) (fun _ U o U' => ∃ vv_ LL_, o = .returned vv_ ∧ Q_nc34_36 Z a v kv vs h0 n0 vv_ U'.heap LL_ ∧ FrameEnd U o U' LL_ 0 0) := by
  refine MetFree.of_bodySF (plainFor_of_name pn_java_lang_AbstractStringBuilder) hisR ?_
  intro p e s m args below meth c s₁ Bd hml0 hP hK
  obtain ⟨rfl, hZ, hh⟩ := hP
  have hx := Bd.exec
  have hby := Bd.bytes
  have hml : c.maxLocals = 6 := hml0
  have hown : s.vm.findClass "java/lang/AbstractStringBuilder" = some m.cls := findClass_of_methodNamed Bd.named
  have hnm := (name_of_methodNamed Bd.named Bd.method).1
  have X0 : Stand p l e ({ frames := 2, cells := 0, slots := 0, locals := 29 } : Room) s m #[(.ref a), (.int (36 : Int32))] below meth c s₁ [] 0 0 := Stand.of_body Bd
  have e0 : s₁.heap = h0 := by rw [← hh, Bd.state]; rfl
  have N0 := Fr.nil n0
  have ef : entryFrame m #[(.ref a), (.int (36 : Int32))] 6 = mkF m 0 #[.val (.ref a), .val (.int (36 : Int32)), .unset, .unset, .unset, .unset] [] := by first | (simp [entryFrame, mkF, argsToLocals, Value.category]; done) | rfl
  refine Fin.start (Q := Q_nc34_36 Z a v kv vs h0 n0) ef ?_
  refine Fin.by (fun tt_ kk_ => XS.aloadN X0.here hx rfl (hb hby d9_0) rfl rfl kk_) ?_
  obtain ⟨T101, X101, e101, st101⟩ := getF X0 hx hZ hown (host := "") (Or.inl (w_ hw 77 rfl)) Via.refl e0 F0 (g := (mkF m 1 #[.val (.ref a), .val (.int 36), .unset, .unset, .unset, .unset] [(.ref a)])) rfl rfl (hb hby d9_1)
  refine Fin.by (fun tt_ kk_ => st101 tt_ kk_) ?_
  obtain ⟨cl102, Ar102, q102, S102, N102, H102, G102⟩ := id A0
  refine Fin.by (fun tt_ kk_ => X101.arraylength hx (by rw [e101]; exact Ar102.1) (State.isArrayOf_alike hZ.alike Ar102.2.1) (g := (mkF m 4 #[.val (.ref a), .val (.int 36), .unset, .unset, .unset, .unset] [(.ref v)])) rfl rfl (hb hby d9_4) _ kk_) ?_
  rw [len_of S102 N102]
  refine Fin.by (fun tt_ kk_ => XS.istoreN X101.here hx rfl (hb hby d9_5) rfl (l' := #[.val (.ref a), .val (.int 36), .val (.int 34), .unset, .unset, .unset]) rfl (XS.iloadN X101.here hx rfl (hb hby d9_6) rfl (XS.aloadN X101.here hx rfl (hb hby d9_7) rfl rfl kk_))) ?_
  obtain ⟨T103, X103, e103, st103⟩ := getF X101 hx hZ hown (host := "") (Or.inl (w_ hw 79 rfl)) Via.refl e101 F1 (g := (mkF m 8 #[.val (.ref a), .val (.int 36), .val (.int 34), .unset, .unset, .unset] [(.ref a), (.int 36)])) rfl rfl (hb hby d9_8)
  refine Fin.by (fun tt_ kk_ => st103 tt_ kk_) ?_
  refine Fin.by (fun tt_ kk_ => XS.ishl X103.here hx rfl (hb hby d9_11) rfl (XS.istoreN X103.here hx rfl (hb hby d9_12) rfl (l' := #[.val (.ref a), .val (.int 36), .val (.int 34), .val (.int 36), .unset, .unset]) rfl (XS.iloadN X103.here hx rfl (hb hby d9_13) rfl (XS.iloadN X103.here hx rfl (hb hby d9_14) rfl (XS.isub X103.here hx rfl (hb hby d9_15) rfl (XS.istore X103.here hx rfl (hb hby d9_16) rfl (l' := #[.val (.ref a), .val (.int 36), .val (.int 34), .val (.int 36), .val (.int 2), .unset]) rfl (XS.iloadN X103.here hx rfl (hb hby d9_18) rfl (XS.iload X103.here hx rfl (hb hby d9_19) rfl (XS.iloadN X103.here hx rfl (hb hby d9_21) rfl (XS.iconst X103.here hx rfl (hb hby d9_22) (XS.aloadN X103.here hx rfl (hb hby d9_23) rfl rfl kk_))))))))))) ?_
  show Fin _ _ _ _ _ _ _ (T103.setTop (mkF m 24 #[.val (.ref a), .val (.int 36), .val (.int 34), .val (.int 36), .val (.int 2), .unset] [(.ref a), (.int 2), (.int 34), (.int 2), (.int 34)]))
  obtain ⟨T104, X104, e104, st104⟩ := getF X103 hx hZ hown (host := "") (Or.inl (w_ hw 79 rfl)) Via.refl e103 F1 (g := (mkF m 24 #[.val (.ref a), .val (.int 36), .val (.int 34), .val (.int 36), .val (.int 2), .unset] [(.ref a), (.int 2), (.int 34), (.int 2), (.int 34)])) rfl rfl (hb hby d9_24)
  refine Fin.by (fun tt_ kk_ => st104 tt_ kk_) ?_
  refine Fin.by (fun tt_ kk_ => XS.ishl X104.here hx rfl (hb hby d9_27) rfl (XS.iadd X104.here hx rfl (hb hby d9_28) rfl kk_)) ?_
  show Fin _ _ _ _ _ _ _ (T104.setTop (mkF m 29 #[.val (.ref a), .val (.int 36), .val (.int 34), .val (.int 36), .val (.int 2), .unset] [(.int 36), (.int 2), (.int 34)]))
  obtain ⟨v105, _, ⟨T105, L105, k105, n105⟩, -, X105, ⟨Lc105, hQ105, l105, y105, z105⟩, st105⟩ := Jvm.LawKit.callS X104 hx (y := y_9) hown (mvT hZ (w_ hw 116 rfl)) (mvT hZ (w_ hw 117 rfl)) (mvT hZ (w_ hw 118 rfl)) (mvT hZ (w_ hw 119 rfl)) (by decide) (backOf (W := 0) (rm_nl34_2 l Z a0 hw []  h0 n0 Z0 ) hZ (w_ hw 119 rfl) (w_ hw 118 rfl) (by decide) (by decide)) (g := (mkF m 29 #[.val (.ref a), .val (.int 36), .val (.int 34), .val (.int 36), .val (.int 2), .unset] [(.int 36), (.int 2), (.int 34)])) rfl (by rw [hml]; rfl) (argsL := [(.int 34), (.int 2), (.int 36)]) (rest := []) (lenOf pd_325 rfl) rfl (by show 2 * 0 + _ ≤ _; exact Nat.le_of_eq rfl) (hb hby d9_29) (fun _ _ => ⟨rfl, e104, (by decide : 0 + 0 ≤ _), (by decide : 0 + 0 ≤ _)⟩)
  dsimp only [Pt.U, Pt.locs, Pt.cells, Pt.slots] at X105 l105 y105 z105 st105 hQ105
  subst l105 y105 z105
  obtain ⟨rfl, Nq105, e105_⟩ := hQ105
  have N105_ := Fr.app N0 Nq105
  refine Fin.by (fun tt_ kk_ => st105 tt_ kk_) ?_
  have e105 := e105_
  refine Fin.by (fun tt_ kk_ => XS.istore X105.here hx rfl (hb hby d9_32) rfl (l' := #[.val (.ref a), .val (.int 36), .val (.int 34), .val (.int 36), .val (.int 2), .val (.int 70)]) rfl (XS.iload X105.here hx rfl (hb hby d9_34) rfl kk_)) ?_
  refine Fin.by (fun tt_ kk_ => X105.ldcInt hx hown (mvT hZ (w_ hw 125 rfl)) (g := (mkF m 36 #[.val (.ref a), .val (.int 36), .val (.int 34), .val (.int 36), .val (.int 2), .val (.int 70)] [(.int 70)])) rfl (hb hby d9_36) _ kk_) ?_
  show Fin _ _ _ _ _ _ _ (T105.setTop (mkF m 38 #[.val (.ref a), .val (.int 36), .val (.int 34), .val (.int 36), .val (.int 2), .val (.int 70)] [(.int 2147483647), (.int 70)]))
  refine Fin.by (fun tt_ kk_ => XS.icmpYes X105.here hx rfl (pc0 := 38) (pc' := 51) rfl (hb hby d9_38) rfl (feq (by decide : ¬ (70 : Int32) = (2147483647 : Int32))).2 (by decide) (by decide) kk_) ?_
  refine Fin.by (fun tt_ kk_ => XS.iload X105.here hx rfl (hb hby d9_51) rfl (XS.aloadN X105.here hx rfl (hb hby d9_53) rfl rfl kk_)) ?_
  obtain ⟨T106, X106, e106, st106⟩ := getF X105 hx hZ hown (host := "") (Or.inl (w_ hw 79 rfl)) Via.refl e105 F1 (g := (mkF m 54 #[.val (.ref a), .val (.int 36), .val (.int 34), .val (.int 36), .val (.int 2), .val (.int 70)] [(.ref a), (.int 70)])) rfl rfl (hb hby d9_54)
  refine Fin.by (fun tt_ kk_ => st106 tt_ kk_) ?_
  refine Fin.by (fun tt_ kk_ => XS.ishr X106.here hx rfl (hb hby d9_57) rfl kk_) ?_
  show Fin _ _ _ _ _ _ _ (T106.setTop (mkF m 58 #[.val (.ref a), .val (.int 36), .val (.int 34), .val (.int 36), .val (.int 2), .val (.int 70)] [(.int 70)]))
  exact Fin.ret (v := some (.int (70 : Int32))) X106 (fun h => by rw [Bd.returns] at h; cases h) Bd.notSynchronized (by rw [e106]; exact ⟨rfl, N105_, rfl⟩) (by decide) (by decide) (fun fs hr => retI X106 hx Bd.returns (hb hby d9_58) hr)
def Q_cpo34_70 (Z : State) (v : Addr) (kv : ClassId) (vs : List Value) (h0 : Heap) (n0 : Nat) (vv_ : Option Value) (hh_ : Heap) (LL_ : List Loc) : Prop := ∃ (t : Addr), ∃ (k : ClassId), vv_ = some (.ref t) ∧ Fr n0 LL_ ∧ Keep h0 hh_ [] ∧ h0.size ≤ t ∧ Arv Z hh_ t k .byte (70 : Int32) vs (.int 0)
set_option maxRecDepth 65536 in
set_option maxHeartbeats 40000000 in
theorem rm_cpo34_70 (l : Launch) (Z : State) (a0 : Array Value) (hw : ∀ d ∈ tables_1, d.before a0 Z = true) (ws : List Jvm.Cond) (v : Addr) (kv : ClassId) (vs : List Value) (h0 : Heap) (n0 : Nat) (Z0 : n0 ≤ h0.size) (hl : vs.length ≤ 34) (A0 : Arv Z h0 v kv .byte (34 : Int32) vs (.int 0)) :
    MetFree l y_12 (head1 (Jvm.Cond.code y_12 jdk_65_method_121_code 3 (some (.array .byte)) :: ws) ({ frames := 1, cells := 1, slots := 70, locals := 18 } : Room)) (fun aa_ U => aa_ = #[(.ref v), (.int (70 : Int32))] ∧ Z.Warmed39 U.vm ∧ U.heap = h0) (fun _ _ _ _ _ => True) (fun _ U o U' => ∃ vv_ LL_, o = .returned vv_ ∧ Q_cpo34_70 Z v kv vs h0 n0 vv_ U'.heap LL_ ∧ FrameEnd U o U' LL_ 1 70) := by
  refine MetFree.of_bodySF (plainFor_of_name pn_java_util_Arrays) hisR ?_
  intro p e s m args below meth c s₁ Bd hml0 hP hK
  obtain ⟨rfl, hZ, hh⟩ := hP
  have hx := Bd.exec
  have hby := Bd.bytes
  have hml : c.maxLocals = 3 := hml0
  have hown : s.vm.findClass "java/util/Arrays" = some m.cls := findClass_of_methodNamed Bd.named
  have hnm := (name_of_methodNamed Bd.named Bd.method).1
  have X0 : Stand p l e ({ frames := 1, cells := 1, slots := 70, locals := 18 } : Room) s m #[(.ref v), (.int (70 : Int32))] below meth c s₁ [] 0 0 := Stand.of_body Bd
  have e0 : s₁.heap = h0 := by rw [← hh, Bd.state]; rfl
  have N0 := Fr.nil n0
  have ef : entryFrame m #[(.ref v), (.int (70 : Int32))] 3 = mkF m 0 #[.val (.ref v), .val (.int (70 : Int32)), .unset] [] := by first | (simp [entryFrame, mkF, argsToLocals, Value.category]; done) | rfl
  refine Fin.start (Q := Q_cpo34_70 Z v kv vs h0 n0) ef ?_
  refine Fin.by (fun tt_ kk_ => XS.iloadN X0.here hx rfl (hb hby d11_0) rfl (XS.aloadN X0.here hx rfl (hb hby d11_1) rfl rfl kk_)) ?_
  obtain ⟨cl101, Ar101, q101, S101, N101, H101, G101⟩ := id A0
  refine Fin.by (fun tt_ kk_ => X0.arraylength hx (by rw [e0]; exact Ar101.1) (State.isArrayOf_alike hZ.alike Ar101.2.1) (g := (mkF m 2 #[.val (.ref v), .val (.int 70), .unset] [(.ref v), (.int 70)])) rfl rfl (hb hby d11_2) _ kk_) ?_
  rw [len_of S101 N101]
  show Fin _ _ _ _ _ _ _ (s₁.setTop (mkF m 3 #[.val (.ref v), .val (.int 70), .unset] [(.int 34), (.int 70)]))
  refine Fin.by (fun tt_ kk_ => XS.icmpYes X0.here hx rfl (pc0 := 3) (pc' := 14) rfl (hb hby d11_3) rfl (feq (by decide : ¬ (70 : Int32) = (34 : Int32))).2 (by decide) (by decide) kk_) ?_
  refine Fin.by (fun tt_ kk_ => XS.iloadN X0.here hx rfl (hb hby d11_14) rfl kk_) ?_
  obtain ⟨T102, h102, k102, X102, e102, E102, A102, st102⟩ := newP X0 hx hZ (w_ hw 23 rfl) e0 (g := (mkF m 15 #[.val (.ref v), .val (.int 70), .unset] [(.int 70)])) rfl (hb hby d11_15) rfl (by decide) (cap := 70) (by decide) (by decide) (by decide) (by decide)
  obtain ⟨a102, g102⟩ : ∃ z, z = h0.size := ⟨_, rfl⟩
  rw [← g102] at A102 st102
  refine Fin.by (fun tt_ kk_ => st102 tt_ kk_) ?_
  have V102 : Arv Z h102 a102 k102 .byte (70 : Int32) [] (.int (0 : Int32)) := Arv.new A102 (by decide)
  refine Fin.by (fun tt_ kk_ => XS.astoreN X102.here hx rfl (hb hby d11_17) rfl rfl (l' := #[.val (.ref v), .val (.int 70), .val (.ref a102)]) rfl (XS.aloadN X102.here hx rfl (hb hby d11_18) rfl rfl (XS.iconst X102.here hx rfl (hb hby d11_19) (XS.aloadN X102.here hx rfl (hb hby d11_20) rfl rfl (XS.iconst X102.here hx rfl (hb hby d11_21) (XS.aloadN X102.here hx rfl (hb hby d11_22) rfl rfl kk_)))))) ?_
  have A103 : Arv Z h102 v kv .byte (34 : Int32) vs (.int 0) := (A0.ext E102)
  obtain ⟨cl104, Ar104, q104, S104, N104, H104, G104⟩ := id A103
  refine Fin.by (fun tt_ kk_ => X102.arraylength hx (by rw [e102]; exact Ar104.1) (State.isArrayOf_alike hZ.alike Ar104.2.1) (g := (mkF m 23 #[.val (.ref v), .val (.int 70), .val (.ref a102)] [(.ref v), (.int 0), (.ref a102), (.int 0), (.ref v)])) rfl rfl (hb hby d11_23) _ kk_) ?_
  rw [len_of S104 N104]
  refine Fin.by (fun tt_ kk_ => XS.iloadN X102.here hx rfl (hb hby d11_24) rfl kk_) ?_
  have z105 : n0 ≤ h102.size := Nat.le_trans Z0 E102.1
  obtain ⟨v106, _, ⟨T106, L106, k106, n106⟩, -, X106, ⟨Lc106, hQ106, l106, y106, z106⟩, st106⟩ := Jvm.LawKit.callS X102 hx (y := y_11) hown (mvT hZ (w_ hw 130 rfl)) (mvT hZ (w_ hw 131 rfl)) (mvT hZ (w_ hw 122 rfl)) (mvT hZ (w_ hw 132 rfl)) (by decide) (backOf (W := 4) (rm_mnx l Z a0 hw [] (34 : Int32) (70 : Int32) h102 n0 z105 (by decide)) hZ (w_ hw 132 rfl) (w_ hw 122 rfl) (by decide) (by decide)) (g := (mkF m 25 #[.val (.ref v), .val (.int 70), .val (.ref a102)] [(.int 70), (.int 34), (.int 0), (.ref a102), (.int 0), (.ref v)])) rfl (by rw [hml]; rfl) (argsL := [(.int 34), (.int 70)]) (rest := [(.int 0), (.ref a102), (.int 0), (.ref v)]) (lenOf pd_291 rfl) rfl (by show 2 * 0 + _ ≤ _; exact Nat.le_of_eq rfl) (hb hby d11_25) (fun _ _ => ⟨rfl, e102, (by decide : 1 + 0 ≤ _), (by decide : 70 + 0 ≤ _)⟩)
  dsimp only [Pt.U, Pt.locs, Pt.cells, Pt.slots] at X106 l106 y106 z106 st106 hQ106
  subst l106 y106 z106
  obtain ⟨rfl, Nq106, e106_⟩ := hQ106
  have N106_ := Fr.app N0 Nq106
  refine Fin.by (fun tt_ kk_ => st106 tt_ kk_) ?_
  have e106 := e106_
  have g107 : n0 ≤ a102 := Nat.le_trans Z0 (Nat.le_of_eq g102.symm)
  obtain ⟨T108, h108, L108, X108, e108, Nc108, K108, V108, st108⟩ := own_cp X106 hx hZ hown (w_ hw 133 rfl) (w_ hw 136 rfl) (w_ hw 134 rfl) (w_ hw 135 rfl) e106 A103 V102 (by decide) (by decide) (by decide) (by decide) rfl (Nat.le_trans hl (by decide)) N106_ g107 (g := (mkF m 28 #[.val (.ref v), .val (.int 70), .val (.ref a102)] [(.int 34), (.int 0), (.ref a102), (.int 0), (.ref v)])) rfl (by rw [hml]; rfl) rfl (hb hby d11_28) (by decide) (W := 0) (by show 2 * 0 + _ ≤ _; exact Nat.le_of_eq rfl) (by decide)
  refine Fin.by (fun tt_ kk_ => st108 tt_ kk_) ?_
  refine Fin.by (fun tt_ kk_ => XS.aloadN X108.here hx rfl (hb hby d11_31) rfl rfl kk_) ?_
  have kp109 : Keep h0 h102 [] := (Keep.refl h0 []).ext E102
  have kp110 : Keep h0 h108 [] := kp109.trans K108 (allS (Or.inr (Nat.le_trans (Nat.le_refl _) (Nat.le_of_eq g102.symm))) all0)
  show Fin _ _ _ _ _ _ _ (T108.setTop (mkF m 32 #[.val (.ref v), .val (.int 70), .val (.ref a102)] [(.ref a102)]))
  exact Fin.ret (v := some (.ref a102)) X108 (fun h => by rw [Bd.returns] at h; cases h) Bd.notSynchronized (by rw [e108]; exact ⟨a102, k102, rfl, Nc108, kp110, (Nat.le_trans (Nat.le_refl _) (Nat.le_of_eq g102.symm)), V108⟩) (by decide) (by decide) (fun fs hr => retA X108 hx Bd.returns rfl rfl (hb hby d11_32) hr)
def Q_eci34_36 (Z : State) (a : Addr) (v : Addr) (kv : ClassId) (vs : List Value) (ct : Int32) (h0 : Heap) (n0 : Nat) (vv_ : Option Value) (hh_ : Heap) (LL_ : List Loc) : Prop := ∃ (t : Addr), ∃ (k : ClassId), vv_ = none ∧ Fr n0 LL_ ∧ Keep h0 hh_ [a] ∧ h0.size ≤ t ∧ Exa Z hh_ a "java/lang/StringBuilder" ∧ Fld Z hh_ a "java/lang/AbstractStringBuilder" "value" "[B" (.ref t) ∧ Fld Z hh_ a "java/lang/AbstractStringBuilder" "coder" "B" (.int (0 : Int32)) ∧ Fld Z hh_ a "java/lang/AbstractStringBuilder" "count" "I" (.int ct) ∧ Arv Z hh_ t k .byte (70 : Int32) vs (.int 0)
set_option maxRecDepth 65536 in
set_option maxHeartbeats 40000000 in
theorem rm_eci34_36 (l : Launch) (Z : State) (a0 : Array Value) (hw : ∀ d ∈ tables_1, d.before a0 Z = true) (ws : List Jvm.Cond) (a : Addr) (v : Addr) (kv : ClassId) (vs : List Value) (ct : Int32) (h0 : Heap) (n0 : Nat) (Z0 : n0 ≤ h0.size) (hl : vs.length ≤ 34) (E0 : Exa Z h0 a "java/lang/StringBuilder") (F0 : Fld Z h0 a "java/lang/AbstractStringBuilder" "value" "[B" (.ref v)) (F1 : Fld Z h0 a "java/lang/AbstractStringBuilder" "coder" "B" (.int (0 : Int32))) (F2 : Fld Z h0 a "java/lang/AbstractStringBuilder" "count" "I" (.int ct)) (A0 : Arv Z h0 v kv .byte (34 : Int32) vs (.int 0)) (ga : n0 ≤ a) :
    MetFree l y_13 (head1 (Jvm.Cond.code y_13 jdk_68_method_9_code 3 none :: ws) ({ frames := 3, cells := 1, slots := 70, locals := 48 } : Room)) (fun aa_ U => aa_ = #[(.ref a), (.int (36 : Int32))] ∧ Z.Warmed39 U.vm ∧ U.heap = h0) (fun _ _ _ _ _ => True) (fun _ U o U' => ∃ vv_ LL_, o = .returned vv_ ∧ Q_eci34_36 Z a v kv vs ct h0 n0 vv_ U'.heap LL_ ∧ FrameEnd U o U' LL_ 1 70) := by
  refine MetFree.of_bodySF (plainFor_of_name pn_java_lang_AbstractStringBuilder) hisR ?_
  intro p e s m args below meth c s₁ Bd hml0 hP hK
  obtain ⟨rfl, hZ, hh⟩ := hP
  have hx := Bd.exec
  have hby := Bd.bytes
  have hml : c.maxLocals = 3 := hml0
  have hown : s.vm.findClass "java/lang/AbstractStringBuilder" = some m.cls := findClass_of_methodNamed Bd.named
  have hnm := (name_of_methodNamed Bd.named Bd.method).1
  have X0 : Stand p l e ({ frames := 3, cells := 1, slots := 70, locals := 48 } : Room) s m #[(.ref a), (.int (36 : Int32))] below meth c s₁ [] 0 0 := Stand.of_body Bd
  have e0 : s₁.heap = h0 := by rw [← hh, Bd.state]; rfl
  have N0 := Fr.nil n0
  have ef : entryFrame m #[(.ref a), (.int (36 : Int32))] 3 = mkF m 0 #[.val (.ref a), .val (.int (36 : Int32)), .unset] [] := by first | (simp [entryFrame, mkF, argsToLocals, Value.category]; done) | rfl
  refine Fin.start (Q := Q_eci34_36 Z a v kv vs ct h0 n0) ef ?_
  refine Fin.by (fun tt_ kk_ => XS.aloadN X0.here hx rfl (hb hby d12_0) rfl rfl kk_) ?_
  obtain ⟨T101, X101, e101, st101⟩ := getF X0 hx hZ hown (host := "") (Or.inl (w_ hw 77 rfl)) Via.refl e0 F0 (g := (mkF m 1 #[.val (.ref a), .val (.int 36), .unset] [(.ref a)])) rfl rfl (hb hby d12_1)
  refine Fin.by (fun tt_ kk_ => st101 tt_ kk_) ?_
  obtain ⟨cl102, Ar102, q102, S102, N102, H102, G102⟩ := id A0
  refine Fin.by (fun tt_ kk_ => X101.arraylength hx (by rw [e101]; exact Ar102.1) (State.isArrayOf_alike hZ.alike Ar102.2.1) (g := (mkF m 4 #[.val (.ref a), .val (.int 36), .unset] [(.ref v)])) rfl rfl (hb hby d12_4) _ kk_) ?_
  rw [len_of S102 N102]
  refine Fin.by (fun tt_ kk_ => XS.aloadN X101.here hx rfl (hb hby d12_5) rfl rfl kk_) ?_
  obtain ⟨T103, X103, e103, st103⟩ := getF X101 hx hZ hown (host := "") (Or.inl (w_ hw 79 rfl)) Via.refl e101 F1 (g := (mkF m 6 #[.val (.ref a), .val (.int 36), .unset] [(.ref a), (.int 34)])) rfl rfl (hb hby d12_6)
  refine Fin.by (fun tt_ kk_ => st103 tt_ kk_) ?_
  refine Fin.by (fun tt_ kk_ => XS.ishr X103.here hx rfl (hb hby d12_9) rfl (XS.istoreN X103.here hx rfl (hb hby d12_10) rfl (l' := #[.val (.ref a), .val (.int 36), .val (.int 34)]) rfl (XS.iloadN X103.here hx rfl (hb hby d12_11) rfl (XS.iloadN X103.here hx rfl (hb hby d12_12) rfl (XS.isub X103.here hx rfl (hb hby d12_13) rfl kk_))))) ?_
  show Fin _ _ _ _ _ _ _ (T103.setTop (mkF m 14 #[.val (.ref a), .val (.int 36), .val (.int 34)] [(.int 2)]))
  refine Fin.by (fun tt_ kk_ => XS.ifNo X103.here hx rfl (hb hby d12_14) rfl ((if0 _ _).trans (tlt (by decide : (0 : Int32) < (2 : Int32))).2.2.2) kk_) ?_
  refine Fin.by (fun tt_ kk_ => XS.aloadN X103.here hx rfl (hb hby d12_17) rfl rfl (XS.aloadN X103.here hx rfl (hb hby d12_18) rfl rfl kk_)) ?_
  obtain ⟨T104, X104, e104, st104⟩ := getF X103 hx hZ hown (host := "") (Or.inl (w_ hw 77 rfl)) Via.refl e103 F0 (g := (mkF m 19 #[.val (.ref a), .val (.int 36), .val (.int 34)] [(.ref a), (.ref a)])) rfl rfl (hb hby d12_19)
  refine Fin.by (fun tt_ kk_ => st104 tt_ kk_) ?_
  refine Fin.by (fun tt_ kk_ => XS.aloadN X104.here hx rfl (hb hby d12_22) rfl rfl (XS.iloadN X104.here hx rfl (hb hby d12_23) rfl kk_)) ?_
  obtain ⟨cq105, qa105, qb105⟩ := E0.cell
  obtain ⟨v105, _, ⟨T105, L105, k105, n105⟩, -, X105, ⟨Lc105, hQ105, l105, y105, z105⟩, st105⟩ := X104.privateBack hx (y := y_10) hown (mvT hZ (w_ hw 111 rfl)) (mvT hZ (w_ hw 112 rfl)) (own_selpriv (z := y_13) (y := y_10) (mvT hZ (w_ hw 109 rfl)) rfl (Cond.privateMethod_at (mvP hZ (w_ hw 113 rfl) (args := #[]))) (mvT hZ (w_ hw 112 rfl)) (by decide)) (Cond.privateMethod_at (mvP hZ (w_ hw 113 rfl) (args := #[]))) (mvT hZ (w_ hw 115 rfl)) (by decide) (backOf (W := 2) (rm_nc34_36 l Z a0 hw [] a v kv (vs : List Value) h0 n0 Z0 E0 F0 F1 A0) hZ (w_ hw 115 rfl) (w_ hw 73 rfl) (by decide) (by decide)) (g := (mkF m 24 #[.val (.ref a), .val (.int 36), .val (.int 34)] [(.int 36), (.ref a), (.ref v), (.ref a)])) rfl (by rw [hml]; rfl) (Steps.refl _) (a := a) (by rw [e104]; exact qa105) qb105 (argsL := [(.int 36)]) (rest := [(.ref v), (.ref a)]) (lenOf pd_377 rfl) rfl (by show 2 * 0 + _ ≤ _; exact Nat.le_of_eq rfl) (hb hby d12_24) (fun _ _ => ⟨rfl, e104, (by decide : 0 + 0 ≤ _), (by decide : 0 + 0 ≤ _)⟩)
  dsimp only [Pt.U, Pt.locs, Pt.cells, Pt.slots] at X105 l105 y105 z105 st105 hQ105
  subst l105 y105 z105
  obtain ⟨rfl, Nq105, e105_⟩ := hQ105
  have N105_ := Fr.app N0 Nq105
  refine Fin.byS st105 ?_
  have e105 := e105_
  refine Fin.by (fun tt_ kk_ => XS.aloadN X105.here hx rfl (hb hby d12_27) rfl rfl kk_) ?_
  obtain ⟨T106, X106, e106, st106⟩ := getF X105 hx hZ hown (host := "") (Or.inl (w_ hw 79 rfl)) Via.refl e105 F1 (g := (mkF m 28 #[.val (.ref a), .val (.int 36), .val (.int 34)] [(.ref a), (.int 70), (.ref v), (.ref a)])) rfl rfl (hb hby d12_28)
  refine Fin.by (fun tt_ kk_ => st106 tt_ kk_) ?_
  refine Fin.by (fun tt_ kk_ => XS.ishl X106.here hx rfl (hb hby d12_31) rfl kk_) ?_
  show Fin _ _ _ _ _ _ _ (T106.setTop (mkF m 32 #[.val (.ref a), .val (.int 36), .val (.int 34)] [(.int 70), (.ref v), (.ref a)]))
  obtain ⟨v107, _, ⟨T107, L107, k107, n107⟩, -, X107, ⟨Lc107, hQ107, l107, y107, z107⟩, st107⟩ := Jvm.LawKit.callS X106 hx (y := y_12) hown (mvT hZ (w_ hw 126 rfl)) (mvT hZ (w_ hw 127 rfl)) (mvT hZ (w_ hw 128 rfl)) (mvT hZ (w_ hw 129 rfl)) (by decide) (backOf (W := 1) (rm_cpo34_70 l Z a0 hw [] v kv (vs : List Value) h0 n0 Z0 hl A0) hZ (w_ hw 129 rfl) (w_ hw 128 rfl) (by decide) (by decide)) (g := (mkF m 32 #[.val (.ref a), .val (.int 36), .val (.int 34)] [(.int 70), (.ref v), (.ref a)])) rfl (by rw [hml]; rfl) (argsL := [(.ref v), (.int 70)]) (rest := [(.ref a)]) (lenOf pd_382 rfl) rfl (by show 2 * 0 + _ ≤ _; exact Nat.le_of_eq rfl) (hb hby d12_32) (fun _ _ => ⟨rfl, e106, (by decide : 0 + 1 ≤ _), (by decide : 0 + 70 ≤ _)⟩)
  dsimp only [Pt.U, Pt.locs, Pt.cells, Pt.slots] at X107 l107 y107 z107 st107 hQ107
  subst l107 y107 z107
  obtain ⟨t108, k109, rfl, Nq107, p107_0, p107_1, p107_2⟩ := hQ107
  have N107_ := Fr.app N105_ Nq107
  refine Fin.by (fun tt_ kk_ => st107 tt_ kk_) ?_
  have F110 : Fld Z T107.heap a "java/lang/AbstractStringBuilder" "value" "[B" (.ref v) := (F0.keep p107_0 nin0)
  have E111 : Exa Z T107.heap a "java/lang/StringBuilder" := (E0.keep p107_0)
  obtain ⟨T112, h112, X112, e112, W112, st112⟩ := putF X107 hx hZ hown (host := "") (Or.inl (w_ hw 77 rfl)) Via.refl rfl F110 E111 (Or.inl (w_ hw 78 rfl)) (w_ hw 64 rfl) (ty := (.array .byte)) (by decide) rfl rfl (g := (mkF m 35 #[.val (.ref a), .val (.int 36), .val (.int 34)] [(.ref t108), (.ref a)])) rfl rfl (hb hby d12_35)
  refine Fin.by (fun tt_ kk_ => st112 tt_ kk_) ?_
  have N112_ := Fr.snoc X112 N107_ ga
  have kp113 : Keep h0 T107.heap [a] := (Keep.refl h0 [a]).trans p107_0 all0
  have kp114 : Keep h0 h112 [a] := kp113.wr W112 (Or.inl (List.mem_of_getElem? (i := 0) rfl))
  have E115 : Exa Z h112 a "java/lang/StringBuilder" := (E111.wr W112)
  have F116 : Fld Z h112 a "java/lang/AbstractStringBuilder" "coder" "B" (.int (0 : Int32)) := ((F1.keep p107_0 nin0).other W112 (Or.inr (slot_ne (Or.inl (w_ hw 80 rfl)) (Or.inl (w_ hw 78 rfl)) (by decide) (t := .byte) (t' := (.array .byte)) (by decide) (by decide))))
  have F117 : Fld Z h112 a "java/lang/AbstractStringBuilder" "count" "I" (.int ct) := ((F2.keep p107_0 nin0).other W112 (Or.inr (slot_ne (Or.inl (w_ hw 105 rfl)) (Or.inl (w_ hw 78 rfl)) (by decide) (t := .int) (t' := (.array .byte)) (by decide) (by decide))))
  have ne118 : a ≠ t108 := Nat.ne_of_lt (Nat.lt_of_lt_of_le E0.lt p107_1)
  have A119 : Arv Z h112 t108 k109 .byte (70 : Int32) (vs : List Value) (.int 0) := (p107_2.other W112 (Ne.symm ne118))
  show Fin _ _ _ _ _ _ _ (T112.setTop (mkF m 38 #[.val (.ref a), .val (.int 36), .val (.int 34)] []))
  exact Fin.ret (v := none) X112 (fun _ => rfl) Bd.notSynchronized (by rw [e112]; exact ⟨t108, k109, rfl, N112_, kp114, (Nat.le_trans (Nat.le_refl _) p107_1), E115, (F110.same W112), F116, F117, A119⟩) (by decide) (by decide) (fun fs hr => X112.returnOut hx Bd.returns (hb hby d12_38) hr)
def Q_gb32_4 (Z : State) (x : Addr) (t : Addr) (kb : ClassId) (us : List Value) (v : Addr) (kv : ClassId) (vs : List Value) (G1 : Int32) (h0 : Heap) (n0 : Nat) (vv_ : Option Value) (hh_ : Heap) (LL_ : List Loc) : Prop := vv_ = none ∧ Fr n0 LL_ ∧ Keep h0 hh_ [v] ∧ Arv Z hh_ v kv .byte (70 : Int32) (vs ++ us) (.int 0)
set_option maxRecDepth 65536 in
set_option maxHeartbeats 40000000 in
theorem rm_gb32_4 (l : Launch) (Z : State) (a0 : Array Value) (hw : ∀ d ∈ tables_1, d.before a0 Z = true) (ws : List Jvm.Cond) (x : Addr) (t : Addr) (kb : ClassId) (us : List Value) (v : Addr) (kv : ClassId) (vs : List Value) (G1 : Int32) (h0 : Heap) (n0 : Nat) (Z0 : n0 ≤ h0.size) (hvd : vs.length = 32) (hus : us.length = 4) (E1 : Exa Z h0 x "java/lang/String") (F3 : Fld Z h0 x "java/lang/String" "value" "[B" (.ref t)) (F4 : Fld Z h0 x "java/lang/String" "coder" "B" (.int (0 : Int32))) (A1 : Arv Z h0 t kb .byte (4 : Int32) us (.int 0)) (A0 : Arv Z h0 v kv .byte (70 : Int32) vs (.int 0)) (gv : n0 ≤ v) (S1 : Sta Z Z.heap "java/lang/String" "COMPACT_STRINGS" "Z" (.int G1)) (P1 : ¬ G1 = 0) (OL : Old Z n0 h0) :
    MetFree l y_16 (head1 (Jvm.Cond.code y_16 jdk_42_method_147_code 4 none :: ws) ({ frames := 1, cells := 0, slots := 0, locals := 18 } : Room)) (fun aa_ U => aa_ = #[(.ref x), (.ref v), (.int (32 : Int32)), (.int (0 : Int32))] ∧ Z.Warmed39 U.vm ∧ U.heap = h0) (fun _ _ _ _ _ => True) (fun _ U o U' => ∃ vv_ LL_, o = .returned vv_ ∧ Q_gb32_4 Z x t kb us v kv vs G1 h0 n0 vv_ U'.heap LL_ ∧ FrameEnd U o U' LL_ 0 0) := by
  refine MetFree.of_bodySF (plainFor_of_name pn_java_lang_String) hisR ?_
  intro p e s m args below meth c s₁ Bd hml0 hP hK
  obtain ⟨rfl, hZ, hh⟩ := hP
  have hx := Bd.exec
  have hby := Bd.bytes
  have hml : c.maxLocals = 4 := hml0
  have hown : s.vm.findClass "java/lang/String" = some m.cls := findClass_of_methodNamed Bd.named
  have hnm := (name_of_methodNamed Bd.named Bd.method).1
  have X0 : Stand p l e ({ frames := 1, cells := 0, slots := 0, locals := 18 } : Room) s m #[(.ref x), (.ref v), (.int (32 : Int32)), (.int (0 : Int32))] below meth c s₁ [] 0 0 := Stand.of_body Bd
  have e0 : s₁.heap = h0 := by rw [← hh, Bd.state]; rfl
  have N0 := Fr.nil n0
  have ef : entryFrame m #[(.ref x), (.ref v), (.int (32 : Int32)), (.int (0 : Int32))] 4 = mkF m 0 #[.val (.ref x), .val (.ref v), .val (.int (32 : Int32)), .val (.int (0 : Int32))] [] := by first | (simp [entryFrame, mkF, argsToLocals, Value.category]; done) | rfl
  refine Fin.start (Q := Q_gb32_4 Z x t kb us v kv vs G1 h0 n0) ef ?_
  refine Fin.by (fun tt_ kk_ => XS.aloadN X0.here hx rfl (hb hby d15_0) rfl rfl kk_) ?_
  obtain ⟨cq101, kq101, qa101, qb101, qc101⟩ := isOf hZ e0 E1
  obtain ⟨v101, _, ⟨T101, L101, k101, n101⟩, -, X101, ⟨Lc101, hQ101, l101, y101, z101⟩, st101⟩ := X0.virtualBack hx (y := y_14) (z := y_14) hown (mvT hZ (w_ hw 99 rfl)) (mvT hZ (w_ hw 100 rfl)) (notFace_of_selects (args := #[]) (mvT hZ (w_ hw 102 rfl))) (mvT hZ (w_ hw 102 rfl)) (mvT hZ (w_ hw 101 rfl)) (by decide) (backOf (W := 0) (rm_cod l Z a0 hw [] x G1 h0 n0 Z0 F4 S1 P1 OL) hZ (w_ hw 103 rfl) (w_ hw 7 rfl) (by decide) (by decide)) qa101 qc101 (g := (mkF m 1 #[.val (.ref x), .val (.ref v), .val (.int 32), .val (.int 0)] [(.ref x)])) rfl (by rw [hml]; rfl) (Steps.refl _) (argsL := []) (rest := []) (lenOf pd_398 rfl) rfl (by show 2 * 0 + _ ≤ _; exact Nat.le_of_eq rfl) (hb hby d15_1) (fun _ _ => ⟨rfl, e0, (by decide : 0 + 0 ≤ _), (by decide : 0 + 0 ≤ _)⟩)
  dsimp only [Pt.U, Pt.locs, Pt.cells, Pt.slots] at X101 l101 y101 z101 st101 hQ101
  subst l101 y101 z101
  obtain ⟨rfl, Nq101, e101_⟩ := hQ101
  have N101_ := Fr.app N0 Nq101
  refine Fin.byS st101 ?_
  have e101 := e101_
  refine Fin.by (fun tt_ kk_ => XS.iloadN X101.here hx rfl (hb hby d15_4) rfl kk_) ?_
  show Fin _ _ _ _ _ _ _ (T101.setTop (mkF m 5 #[.val (.ref x), .val (.ref v), .val (.int 32), .val (.int 0)] [(.int 0), (.int 0)]))
  refine Fin.by (fun tt_ kk_ => XS.icmpNo X101.here hx rfl (hb hby d15_5) rfl (teq (rfl : (0 : Int32) = (0 : Int32))).2 kk_) ?_
  refine Fin.by (fun tt_ kk_ => XS.aloadN X101.here hx rfl (hb hby d15_8) rfl rfl kk_) ?_
  obtain ⟨T102, X102, e102, st102⟩ := getF X101 hx hZ hown (host := "") (Or.inl (w_ hw 32 rfl)) Via.refl e101 F3 (g := (mkF m 9 #[.val (.ref x), .val (.ref v), .val (.int 32), .val (.int 0)] [(.ref x)])) rfl rfl (hb hby d15_9)
  refine Fin.by (fun tt_ kk_ => st102 tt_ kk_) ?_
  refine Fin.by (fun tt_ kk_ => XS.iconst X102.here hx rfl (hb hby d15_12) (XS.aloadN X102.here hx rfl (hb hby d15_13) rfl rfl (XS.iloadN X102.here hx rfl (hb hby d15_14) rfl (XS.iloadN X102.here hx rfl (hb hby d15_15) rfl (XS.ishl X102.here hx rfl (hb hby d15_16) rfl (XS.aloadN X102.here hx rfl (hb hby d15_17) rfl rfl kk_)))))) ?_
  show Fin _ _ _ _ _ _ _ (T102.setTop (mkF m 18 #[.val (.ref x), .val (.ref v), .val (.int 32), .val (.int 0)] [(.ref x), (.int 32), (.ref v), (.int 0), (.ref t)]))
  obtain ⟨T103, X103, e103, st103⟩ := getF X102 hx hZ hown (host := "") (Or.inl (w_ hw 32 rfl)) Via.refl e102 F3 (g := (mkF m 18 #[.val (.ref x), .val (.ref v), .val (.int 32), .val (.int 0)] [(.ref x), (.int 32), (.ref v), (.int 0), (.ref t)])) rfl rfl (hb hby d15_18)
  refine Fin.by (fun tt_ kk_ => st103 tt_ kk_) ?_
  obtain ⟨cl104, Ar104, q104, S104, N104, H104, G104⟩ := id A1
  refine Fin.by (fun tt_ kk_ => X103.arraylength hx (by rw [e103]; exact Ar104.1) (State.isArrayOf_alike hZ.alike Ar104.2.1) (g := (mkF m 21 #[.val (.ref x), .val (.ref v), .val (.int 32), .val (.int 0)] [(.ref t), (.int 32), (.ref v), (.int 0), (.ref t)])) rfl rfl (hb hby d15_21) _ kk_) ?_
  rw [len_of S104 N104]
  obtain ⟨T105, h105, L105, X105, e105, Nc105, K105, V105, st105⟩ := own_cp X103 hx hZ hown (w_ hw 153 rfl) (w_ hw 136 rfl) (w_ hw 134 rfl) (w_ hw 135 rfl) e103 A1 A0 (by decide) (by decide) (by decide) (by decide) (by rw [hvd]; rfl) (by rw [hus]; decide) N101_ gv (g := (mkF m 22 #[.val (.ref x), .val (.ref v), .val (.int 32), .val (.int 0)] [(.int 4), (.int 32), (.ref v), (.int 0), (.ref t)])) rfl (by rw [hml]; rfl) rfl (hb hby d15_22) (by decide) (W := 0) (by show 2 * 0 + _ ≤ _; exact Nat.le_of_eq rfl) (by decide)
  refine Fin.by (fun tt_ kk_ => st105 tt_ kk_) ?_
  refine Fin.by (fun tt_ kk_ => XS.goto X105.here hx rfl (pc0 := 25) (pc' := 43) rfl (hb hby d15_25) (by decide) (by decide) kk_) ?_
  have kp106 : Keep h0 h105 [v] := (Keep.refl h0 [v]).trans K105 (allS (Or.inl (List.mem_of_getElem? (i := 0) rfl)) all0)
  show Fin _ _ _ _ _ _ _ (T105.setTop (mkF m 43 #[.val (.ref x), .val (.ref v), .val (.int 32), .val (.int 0)] []))
  exact Fin.ret (v := none) X105 (fun _ => rfl) Bd.notSynchronized (by rw [e105]; exact ⟨rfl, Nc105, kp106, V105⟩) (by decide) (by decide) (fun fs hr => X105.returnOut hx Bd.returns (hb hby d15_43) hr)
def Q_psa32_4 (Z : State) (a : Addr) (v : Addr) (kv : ClassId) (vs : List Value) (x : Addr) (t : Addr) (kb : ClassId) (us : List Value) (G1 : Int32) (h0 : Heap) (n0 : Nat) (vv_ : Option Value) (hh_ : Heap) (LL_ : List Loc) : Prop := vv_ = none ∧ Fr n0 LL_ ∧ Keep h0 hh_ [v] ∧ Arv Z hh_ v kv .byte (70 : Int32) (vs ++ us) (.int 0)
set_option maxRecDepth 65536 in
set_option maxHeartbeats 40000000 in
theorem rm_psa32_4 (l : Launch) (Z : State) (a0 : Array Value) (hw : ∀ d ∈ tables_1, d.before a0 Z = true) (ws : List Jvm.Cond) (a : Addr) (v : Addr) (kv : ClassId) (vs : List Value) (x : Addr) (t : Addr) (kb : ClassId) (us : List Value) (G1 : Int32) (h0 : Heap) (n0 : Nat) (Z0 : n0 ≤ h0.size) (hvd : vs.length = 32) (hus : us.length = 4) (E0 : Exa Z h0 a "java/lang/StringBuilder") (F0 : Fld Z h0 a "java/lang/AbstractStringBuilder" "value" "[B" (.ref v)) (F1 : Fld Z h0 a "java/lang/AbstractStringBuilder" "coder" "B" (.int (0 : Int32))) (E1 : Exa Z h0 x "java/lang/String") (F3 : Fld Z h0 x "java/lang/String" "value" "[B" (.ref t)) (F4 : Fld Z h0 x "java/lang/String" "coder" "B" (.int (0 : Int32))) (A1 : Arv Z h0 t kb .byte (4 : Int32) us (.int 0)) (A0 : Arv Z h0 v kv .byte (70 : Int32) vs (.int 0)) (gv : n0 ≤ v) (S1 : Sta Z Z.heap "java/lang/String" "COMPACT_STRINGS" "Z" (.int G1)) (P1 : ¬ G1 = 0) (OL : Old Z n0 h0) :
    MetFree l y_17 (head1 (Jvm.Cond.code y_17 jdk_68_method_73_code 3 none :: ws) ({ frames := 2, cells := 0, slots := 0, locals := 33 } : Room)) (fun aa_ U => aa_ = #[(.ref a), (.int (32 : Int32)), (.ref x)] ∧ Z.Warmed39 U.vm ∧ U.heap = h0) (fun _ _ _ _ _ => True) (fun _ U o U' => ∃ vv_ LL_, o = .returned vv_ ∧ Q_psa32_4 Z a v kv vs x t kb us G1 h0 n0 vv_ U'.heap LL_ ∧ FrameEnd U o U' LL_ 0 0) := by
  refine MetFree.of_bodySF (plainFor_of_name pn_java_lang_AbstractStringBuilder) hisR ?_
  intro p e s m args below meth c s₁ Bd hml0 hP hK
  obtain ⟨rfl, hZ, hh⟩ := hP
  have hx := Bd.exec
  have hby := Bd.bytes
  have hml : c.maxLocals = 3 := hml0
  have hown : s.vm.findClass "java/lang/AbstractStringBuilder" = some m.cls := findClass_of_methodNamed Bd.named
  have hnm := (name_of_methodNamed Bd.named Bd.method).1
  have X0 : Stand p l e ({ frames := 2, cells := 0, slots := 0, locals := 33 } : Room) s m #[(.ref a), (.int (32 : Int32)), (.ref x)] below meth c s₁ [] 0 0 := Stand.of_body Bd
  have e0 : s₁.heap = h0 := by rw [← hh, Bd.state]; rfl
  have N0 := Fr.nil n0
  have ef : entryFrame m #[(.ref a), (.int (32 : Int32)), (.ref x)] 3 = mkF m 0 #[.val (.ref a), .val (.int (32 : Int32)), .val (.ref x)] [] := by first | (simp [entryFrame, mkF, argsToLocals, Value.category]; done) | rfl
  refine Fin.start (Q := Q_psa32_4 Z a v kv vs x t kb us G1 h0 n0) ef ?_
  refine Fin.by (fun tt_ kk_ => XS.aloadN X0.here hx rfl (hb hby d16_0) rfl rfl (XS.aloadN X0.here hx rfl (hb hby d16_1) rfl rfl kk_)) ?_
  obtain ⟨cq101, qa101, qb101⟩ := E0.cell
  obtain ⟨v101, _, ⟨T101, L101, k101, n101⟩, -, X101, ⟨Lc101, hQ101, l101, y101, z101⟩, st101⟩ := X0.privateBack hx (y := y_15) hown (mvT hZ (w_ hw 142 rfl)) (mvT hZ (w_ hw 143 rfl)) (own_selpriv (z := y_13) (y := y_15) (mvT hZ (w_ hw 109 rfl)) rfl (Cond.privateMethod_at (mvP hZ (w_ hw 144 rfl) (args := #[]))) (mvT hZ (w_ hw 143 rfl)) (by decide)) (Cond.privateMethod_at (mvP hZ (w_ hw 144 rfl) (args := #[]))) (mvT hZ (w_ hw 146 rfl)) (by decide) (backOf (W := 0) (rm_inf l Z a0 hw [] a x G1 h0 n0 Z0 E0 F1 E1 F4 S1 P1 OL) hZ (w_ hw 146 rfl) (w_ hw 73 rfl) (by decide) (by decide)) (g := (mkF m 2 #[.val (.ref a), .val (.int 32), .val (.ref x)] [(.ref x), (.ref a)])) rfl (by rw [hml]; rfl) (Steps.refl _) (a := a) (by rw [e0]; exact qa101) qb101 (argsL := [(.ref x)]) (rest := []) (lenOf pd_421 rfl) rfl (by show 2 * 0 + _ ≤ _; exact Nat.le_of_eq rfl) (hb hby d16_2) (fun _ _ => ⟨rfl, e0, (by decide : 0 + 0 ≤ _), (by decide : 0 + 0 ≤ _)⟩)
  dsimp only [Pt.U, Pt.locs, Pt.cells, Pt.slots] at X101 l101 y101 z101 st101 hQ101
  subst l101 y101 z101
  obtain ⟨rfl, Nq101, e101_⟩ := hQ101
  have N101_ := Fr.app N0 Nq101
  refine Fin.byS st101 ?_
  have e101 := e101_
  refine Fin.by (fun tt_ kk_ => XS.aloadN X101.here hx rfl (hb hby d16_5) rfl rfl (XS.aloadN X101.here hx rfl (hb hby d16_6) rfl rfl kk_)) ?_
  obtain ⟨T102, X102, e102, st102⟩ := getF X101 hx hZ hown (host := "") (Or.inl (w_ hw 77 rfl)) Via.refl e101 F0 (g := (mkF m 7 #[.val (.ref a), .val (.int 32), .val (.ref x)] [(.ref a), (.ref x)])) rfl rfl (hb hby d16_7)
  refine Fin.by (fun tt_ kk_ => st102 tt_ kk_) ?_
  refine Fin.by (fun tt_ kk_ => XS.iloadN X102.here hx rfl (hb hby d16_10) rfl (XS.aloadN X102.here hx rfl (hb hby d16_11) rfl rfl kk_)) ?_
  obtain ⟨T103, X103, e103, st103⟩ := getF X102 hx hZ hown (host := "") (Or.inl (w_ hw 79 rfl)) Via.refl e102 F1 (g := (mkF m 12 #[.val (.ref a), .val (.int 32), .val (.ref x)] [(.ref a), (.int 32), (.ref v), (.ref x)])) rfl rfl (hb hby d16_12)
  refine Fin.by (fun tt_ kk_ => st103 tt_ kk_) ?_
  obtain ⟨cq104, kq104, qa104, qb104, qc104⟩ := isOf hZ e103 E1
  obtain ⟨v104, _, ⟨T104, L104, k104, n104⟩, -, X104, ⟨Lc104, hQ104, l104, y104, z104⟩, st104⟩ := X103.virtualBack hx (y := y_16) (z := y_16) hown (mvT hZ (w_ hw 148 rfl)) (mvT hZ (w_ hw 149 rfl)) (notFace_of_selects (args := #[]) (mvT hZ (w_ hw 151 rfl))) (mvT hZ (w_ hw 151 rfl)) (mvT hZ (w_ hw 150 rfl)) (by decide) (backOf (W := 0) (rm_gb32_4 l Z a0 hw [] x t kb (us : List Value) v kv (vs : List Value) G1 h0 n0 Z0 hvd hus E1 F3 F4 A1 A0 gv S1 P1 OL) hZ (w_ hw 152 rfl) (w_ hw 7 rfl) (by decide) (by decide)) qa104 qc104 (g := (mkF m 15 #[.val (.ref a), .val (.int 32), .val (.ref x)] [(.int 0), (.int 32), (.ref v), (.ref x)])) rfl (by rw [hml]; rfl) (Steps.refl _) (argsL := [(.ref v), (.int 32), (.int 0)]) (rest := []) (lenOf pd_429 rfl) rfl (by show 2 * 0 + _ ≤ _; exact Nat.le_of_eq rfl) (hb hby d16_15) (fun _ _ => ⟨rfl, e103, (by decide : 0 + 0 ≤ _), (by decide : 0 + 0 ≤ _)⟩)
  dsimp only [Pt.U, Pt.locs, Pt.cells, Pt.slots] at X104 l104 y104 z104 st104 hQ104
  subst l104 y104 z104
  obtain ⟨rfl, Nq104, p104_0, p104_1⟩ := hQ104
  have N104_ := Fr.app N101_ Nq104
  refine Fin.byS st104 ?_
  have kp105 : Keep h0 T104.heap [v] := (Keep.refl h0 [v]).trans p104_0 (allS (Or.inl (List.mem_of_getElem? (i := 0) rfl)) all0)
  show Fin _ _ _ _ _ _ _ (T104.setTop (mkF m 18 #[.val (.ref a), .val (.int 32), .val (.ref x)] []))
  exact Fin.ret (v := none) X104 (fun _ => rfl) Bd.notSynchronized (⟨rfl, N104_, kp105, p104_1⟩) (by decide) (by decide) (fun fs hr => X104.returnOut hx Bd.returns (hb hby d16_18) hr)
def Q_app32_4 (Z : State) (a : Addr) (v : Addr) (kv : ClassId) (vs : List Value) (x : Addr) (t : Addr) (kb : ClassId) (us : List Value) (G1 : Int32) (h0 : Heap) (n0 : Nat) (vv_ : Option Value) (hh_ : Heap) (LL_ : List Loc) : Prop := ∃ (v2 : Addr), ∃ (k2 : ClassId), vv_ = some (.ref a) ∧ Fr n0 LL_ ∧ Keep h0 hh_ [a] ∧ h0.size ≤ v2 ∧ Exa Z hh_ a "java/lang/StringBuilder" ∧ Fld Z hh_ a "java/lang/AbstractStringBuilder" "value" "[B" (.ref v2) ∧ Fld Z hh_ a "java/lang/AbstractStringBuilder" "coder" "B" (.int (0 : Int32)) ∧ Fld Z hh_ a "java/lang/AbstractStringBuilder" "count" "I" (.int (36 : Int32)) ∧ Arv Z hh_ v2 k2 .byte (70 : Int32) (vs ++ us) (.int 0)
set_option maxRecDepth 65536 in
set_option maxHeartbeats 40000000 in
theorem rm_app32_4 (l : Launch) (Z : State) (a0 : Array Value) (hw : ∀ d ∈ tables_1, d.before a0 Z = true) (ws : List Jvm.Cond) (a : Addr) (v : Addr) (kv : ClassId) (vs : List Value) (x : Addr) (t : Addr) (kb : ClassId) (us : List Value) (G1 : Int32) (h0 : Heap) (n0 : Nat) (Z0 : n0 ≤ h0.size) (hvd : vs.length = 32) (hus : us.length = 4) (E0 : Exa Z h0 a "java/lang/StringBuilder") (F0 : Fld Z h0 a "java/lang/AbstractStringBuilder" "value" "[B" (.ref v)) (F1 : Fld Z h0 a "java/lang/AbstractStringBuilder" "coder" "B" (.int (0 : Int32))) (F2 : Fld Z h0 a "java/lang/AbstractStringBuilder" "count" "I" (.int (32 : Int32))) (A0 : Arv Z h0 v kv .byte (34 : Int32) vs (.int 0)) (E1 : Exa Z h0 x "java/lang/String") (F3 : Fld Z h0 x "java/lang/String" "value" "[B" (.ref t)) (F4 : Fld Z h0 x "java/lang/String" "coder" "B" (.int (0 : Int32))) (A1 : Arv Z h0 t kb .byte (4 : Int32) us (.int 0)) (ga : n0 ≤ a) (nx : x ≠ a) (nt : t ≠ a) (S1 : Sta Z Z.heap "java/lang/String" "COMPACT_STRINGS" "Z" (.int G1)) (P1 : ¬ G1 = 0) (OL : Old Z n0 h0) :
    MetFree l y_19 (head1 (Jvm.Cond.code y_19 jdk_68_method_22_code 3 (some (.object "java/lang/AbstractStringBuilder")) :: ws) ({ frames := 4, cells := 1, slots := 70, locals := 62 } : Room)) (fun aa_ U => aa_ = #[(.ref a), (.ref x)] ∧ Z.Warmed39 U.vm ∧ U.heap = h0) (fun _ _ _ _ _ => True) (fun _ U o U' => ∃ vv_ LL_, o = .returned vv_ ∧ Q_app32_4 Z a v kv vs x t kb us G1 h0 n0 vv_ U'.heap LL_ ∧ FrameEnd U o U' LL_ 1 70) := by
  refine MetFree.of_bodySF (plainFor_of_name pn_java_lang_AbstractStringBuilder) hisR ?_
  intro p e s m args below meth c s₁ Bd hml0 hP hK
  obtain ⟨rfl, hZ, hh⟩ := hP
  have hx := Bd.exec
  have hby := Bd.bytes
  have hml : c.maxLocals = 3 := hml0
  have hown : s.vm.findClass "java/lang/AbstractStringBuilder" = some m.cls := findClass_of_methodNamed Bd.named
  have hnm := (name_of_methodNamed Bd.named Bd.method).1
  have X0 : Stand p l e ({ frames := 4, cells := 1, slots := 70, locals := 62 } : Room) s m #[(.ref a), (.ref x)] below meth c s₁ [] 0 0 := Stand.of_body Bd
  have e0 : s₁.heap = h0 := by rw [← hh, Bd.state]; rfl
  have N0 := Fr.nil n0
  have ef : entryFrame m #[(.ref a), (.ref x)] 3 = mkF m 0 #[.val (.ref a), .val (.ref x), .unset] [] := by first | (simp [entryFrame, mkF, argsToLocals, Value.category]; done) | rfl
  refine Fin.start (Q := Q_app32_4 Z a v kv vs x t kb us G1 h0 n0) ef ?_
  refine Fin.by (fun tt_ kk_ => XS.aloadN X0.here hx rfl (hb hby d18_0) rfl rfl kk_) ?_
  refine Fin.by (fun tt_ kk_ => XS.ifnonnullYes X0.here hx rfl (pc0 := 1) (pc' := 9) rfl (hb hby d18_1) rfl (by decide) (by decide) kk_) ?_
  refine Fin.by (fun tt_ kk_ => XS.aloadN X0.here hx rfl (hb hby d18_9) rfl rfl kk_) ?_
  obtain ⟨cq101, kq101, qa101, qb101, qc101⟩ := isOf hZ e0 E1
  obtain ⟨v101, _, ⟨T101, L101, k101, n101⟩, -, X101, ⟨Lc101, hQ101, l101, y101, z101⟩, st101⟩ := X0.virtualBack hx (y := y_18) (z := y_18) hown (mvT hZ (w_ hw 94 rfl)) (mvT hZ (w_ hw 95 rfl)) (notFace_of_selects (args := #[]) (mvT hZ (w_ hw 97 rfl))) (mvT hZ (w_ hw 97 rfl)) (mvT hZ (w_ hw 96 rfl)) (by decide) (backOf (W := 0) (rm_sle l Z a0 hw [] x t kb (us : List Value) (4 : Int32) G1 h0 n0 Z0 E1 F3 F4 A1 S1 P1 OL) hZ (w_ hw 98 rfl) (w_ hw 7 rfl) (by decide) (by decide)) qa101 qc101 (g := (mkF m 10 #[.val (.ref a), .val (.ref x), .unset] [(.ref x)])) rfl (by rw [hml]; rfl) (Steps.refl _) (argsL := []) (rest := []) (lenOf pd_442 rfl) rfl (by show 2 * 0 + _ ≤ _; exact Nat.le_of_eq rfl) (hb hby d18_10) (fun _ _ => ⟨rfl, e0, (by decide : 0 + 0 ≤ _), (by decide : 0 + 0 ≤ _)⟩)
  dsimp only [Pt.U, Pt.locs, Pt.cells, Pt.slots] at X101 l101 y101 z101 st101 hQ101
  subst l101 y101 z101
  obtain ⟨rfl, Nq101, e101_⟩ := hQ101
  have N101_ := Fr.app N0 Nq101
  refine Fin.byS st101 ?_
  have e101 := e101_
  refine Fin.by (fun tt_ kk_ => XS.istoreN X101.here hx rfl (hb hby d18_13) rfl (l' := #[.val (.ref a), .val (.ref x), .val (.int 4)]) rfl (XS.aloadN X101.here hx rfl (hb hby d18_14) rfl rfl (XS.aloadN X101.here hx rfl (hb hby d18_15) rfl rfl kk_))) ?_
  obtain ⟨T102, X102, e102, st102⟩ := getF X101 hx hZ hown (host := "") (Or.inl (w_ hw 104 rfl)) Via.refl e101 F2 (g := (mkF m 16 #[.val (.ref a), .val (.ref x), .val (.int 4)] [(.ref a), (.ref a)])) rfl rfl (hb hby d18_16)
  refine Fin.by (fun tt_ kk_ => st102 tt_ kk_) ?_
  refine Fin.by (fun tt_ kk_ => XS.iloadN X102.here hx rfl (hb hby d18_19) rfl (XS.iadd X102.here hx rfl (hb hby d18_20) rfl kk_)) ?_
  obtain ⟨cq103, qa103, qb103⟩ := E0.cell
  obtain ⟨v103, _, ⟨T103, L103, k103, n103⟩, -, X103, ⟨Lc103, hQ103, l103, y103, z103⟩, st103⟩ := X102.privateBack hx (y := y_13) hown (mvT hZ (w_ hw 106 rfl)) (mvT hZ (w_ hw 107 rfl)) (own_selpriv (z := y_13) (y := y_13) (mvT hZ (w_ hw 109 rfl)) rfl (Cond.privateMethod_at (mvP hZ (w_ hw 108 rfl) (args := #[]))) (mvT hZ (w_ hw 107 rfl)) (by decide)) (Cond.privateMethod_at (mvP hZ (w_ hw 108 rfl) (args := #[]))) (mvT hZ (w_ hw 110 rfl)) (by decide) (backOf (W := 0) (rm_eci34_36 l Z a0 hw [] a v kv (vs : List Value) (32 : Int32) h0 n0 Z0 (Nat.le_trans (Nat.le_of_eq hvd) (by decide)) E0 F0 F1 F2 A0 ga) hZ (w_ hw 110 rfl) (w_ hw 73 rfl) (by decide) (by decide)) (g := (mkF m 21 #[.val (.ref a), .val (.ref x), .val (.int 4)] [(.int 36), (.ref a)])) rfl (by rw [hml]; rfl) (Steps.refl _) (a := a) (by rw [e102]; exact qa103) qb103 (argsL := [(.int 36)]) (rest := []) (lenOf pd_279 rfl) rfl (by show 2 * 0 + _ ≤ _; exact Nat.le_of_eq rfl) (hb hby d18_21) (fun _ _ => ⟨rfl, e102, (by decide : 0 + 1 ≤ _), (by decide : 0 + 70 ≤ _)⟩)
  dsimp only [Pt.U, Pt.locs, Pt.cells, Pt.slots] at X103 l103 y103 z103 st103 hQ103
  subst l103 y103 z103
  obtain ⟨t104, k105, rfl, Nq103, p103_0, p103_1, p103_2, p103_3, p103_4, p103_5, p103_6⟩ := hQ103
  have N103_ := Fr.app N101_ Nq103
  refine Fin.byS st103 ?_
  refine Fin.by (fun tt_ kk_ => XS.aloadN X103.here hx rfl (hb hby d18_24) rfl rfl (XS.aloadN X103.here hx rfl (hb hby d18_25) rfl rfl kk_)) ?_
  obtain ⟨T106, X106, e106, st106⟩ := getF X103 hx hZ hown (host := "") (Or.inl (w_ hw 104 rfl)) Via.refl rfl p103_5 (g := (mkF m 26 #[.val (.ref a), .val (.ref x), .val (.int 4)] [(.ref a), (.ref a)])) rfl rfl (hb hby d18_26)
  refine Fin.by (fun tt_ kk_ => st106 tt_ kk_) ?_
  refine Fin.by (fun tt_ kk_ => XS.aloadN X106.here hx rfl (hb hby d18_29) rfl rfl kk_) ?_
  have E107 : Exa Z T103.heap x "java/lang/String" := (E1.keep p103_0)
  have F108 : Fld Z T103.heap x "java/lang/String" "value" "[B" (.ref t) := (F3.keep p103_0 (ninS nx nin0))
  have F109 : Fld Z T103.heap x "java/lang/String" "coder" "B" (.int (0 : Int32)) := (F4.keep p103_0 (ninS nx nin0))
  have A110 : Arv Z T103.heap t kb .byte (4 : Int32) us (.int 0) := (A1.keep p103_0 (ninS nt nin0))
  have g111 : n0 ≤ t104 := Nat.le_trans Z0 p103_1
  have O112 : Old Z n0 T103.heap := (OL.keep p103_0 (allS ga all0))
  have z113 : n0 ≤ T103.heap.size := Nat.le_trans Z0 p103_0.1
  obtain ⟨cq114, qa114, qb114⟩ := p103_2.cell
  obtain ⟨v114, _, ⟨T114, L114, k114, n114⟩, -, X114, ⟨Lc114, hQ114, l114, y114, z114⟩, st114⟩ := X106.privateBack hx (y := y_17) hown (mvT hZ (w_ hw 137 rfl)) (mvT hZ (w_ hw 138 rfl)) (own_selpriv (z := y_13) (y := y_17) (mvT hZ (w_ hw 109 rfl)) rfl (Cond.privateMethod_at (mvP hZ (w_ hw 139 rfl) (args := #[]))) (mvT hZ (w_ hw 138 rfl)) (by decide)) (Cond.privateMethod_at (mvP hZ (w_ hw 139 rfl) (args := #[]))) (mvT hZ (w_ hw 141 rfl)) (by decide) (backOf (W := 0) (rm_psa32_4 l Z a0 hw [] a t104 k105 ((vs : List Value) : List Value) x t kb (us : List Value) G1 T103.heap n0 z113 hvd hus p103_2 p103_3 p103_4 E107 F108 F109 A110 p103_6 g111 S1 P1 O112) hZ (w_ hw 141 rfl) (w_ hw 73 rfl) (by decide) (by decide)) (g := (mkF m 30 #[.val (.ref a), .val (.ref x), .val (.int 4)] [(.ref x), (.int 32), (.ref a)])) rfl (by rw [hml]; rfl) (Steps.refl _) (a := a) (by rw [e106]; exact qa114) qb114 (argsL := [(.int 32), (.ref x)]) (rest := []) (lenOf pd_455 rfl) rfl (by show 2 * 0 + _ ≤ _; exact Nat.le_of_eq rfl) (hb hby d18_30) (fun _ _ => ⟨rfl, e106, (by decide : 1 + 0 ≤ _), (by decide : 70 + 0 ≤ _)⟩)
  dsimp only [Pt.U, Pt.locs, Pt.cells, Pt.slots] at X114 l114 y114 z114 st114 hQ114
  subst l114 y114 z114
  obtain ⟨rfl, Nq114, p114_0, p114_1⟩ := hQ114
  have N114_ := Fr.app N103_ Nq114
  refine Fin.byS st114 ?_
  refine Fin.by (fun tt_ kk_ => XS.aloadN X114.here hx rfl (hb hby d18_33) rfl rfl (XS.dup X114.here hx rfl (hb hby d18_34) rfl rfl kk_)) ?_
  have ne115 : a ≠ t104 := Nat.ne_of_lt (Nat.lt_of_lt_of_le E0.lt p103_1)
  have F116 : Fld Z T114.heap a "java/lang/AbstractStringBuilder" "count" "I" (.int (32 : Int32)) := (p103_5.keep p114_0 (ninS ne115 nin0))
  obtain ⟨T117, X117, e117, st117⟩ := getF X114 hx hZ hown (host := "") (Or.inl (w_ hw 104 rfl)) Via.refl rfl F116 (g := (mkF m 35 #[.val (.ref a), .val (.ref x), .val (.int 4)] [(.ref a), (.ref a)])) rfl rfl (hb hby d18_35)
  refine Fin.by (fun tt_ kk_ => st117 tt_ kk_) ?_
  refine Fin.by (fun tt_ kk_ => XS.iloadN X117.here hx rfl (hb hby d18_38) rfl (XS.iadd X117.here hx rfl (hb hby d18_39) rfl kk_)) ?_
  have E118 : Exa Z T114.heap a "java/lang/StringBuilder" := (p103_2.keep p114_0)
  obtain ⟨T119, h119, X119, e119, W119, st119⟩ := putF X117 hx hZ hown (host := "") (Or.inl (w_ hw 104 rfl)) Via.refl e117 F116 E118 (Or.inl (w_ hw 105 rfl)) (w_ hw 64 rfl) (ty := .int) (by decide) rfl rfl (g := (mkF m 40 #[.val (.ref a), .val (.ref x), .val (.int 4)] [(.int 36), (.ref a)])) rfl rfl (hb hby d18_40)
  refine Fin.by (fun tt_ kk_ => st119 tt_ kk_) ?_
  have N119_ := Fr.snoc X119 N114_ ga
  refine Fin.by (fun tt_ kk_ => XS.aloadN X119.here hx rfl (hb hby d18_43) rfl rfl kk_) ?_
  have kp120 : Keep h0 T103.heap [a] := (Keep.refl h0 [a]).trans p103_0 (allS (Or.inl (List.mem_of_getElem? (i := 0) rfl)) all0)
  have kp121 : Keep h0 T114.heap [a] := kp120.trans p114_0 (allS (Or.inr (Nat.le_trans (Nat.le_refl _) p103_1)) all0)
  have kp122 : Keep h0 h119 [a] := kp121.wr W119 (Or.inl (List.mem_of_getElem? (i := 0) rfl))
  have E123 : Exa Z h119 a "java/lang/StringBuilder" := (E118.wr W119)
  have F124 : Fld Z h119 a "java/lang/AbstractStringBuilder" "value" "[B" (.ref t104) := ((p103_3.keep p114_0 (ninS ne115 nin0)).other W119 (Or.inr (slot_ne (Or.inl (w_ hw 78 rfl)) (Or.inl (w_ hw 105 rfl)) (by decide) (t := (.array .byte)) (t' := .int) (by decide) (by decide))))
  have F125 : Fld Z h119 a "java/lang/AbstractStringBuilder" "coder" "B" (.int (0 : Int32)) := ((p103_4.keep p114_0 (ninS ne115 nin0)).other W119 (Or.inr (slot_ne (Or.inl (w_ hw 80 rfl)) (Or.inl (w_ hw 105 rfl)) (by decide) (t := .byte) (t' := .int) (by decide) (by decide))))
  have A126 : Arv Z h119 t104 k105 .byte (70 : Int32) (((vs : List Value) : List Value) ++ (us : List Value)) (.int 0) := (p114_1.other W119 (Ne.symm ne115))
  show Fin _ _ _ _ _ _ _ (T119.setTop (mkF m 44 #[.val (.ref a), .val (.ref x), .val (.int 4)] [(.ref a)]))
  exact Fin.ret (v := some (.ref a)) X119 (fun h => by rw [Bd.returns] at h; cases h) Bd.notSynchronized (by rw [e119]; exact ⟨t104, k105, rfl, N119_, kp122, (Nat.le_trans (Nat.le_refl _) p103_1), E123, F124, F125, (F116.same W119), A126⟩) (by decide) (by decide) (fun fs hr => retA X119 hx Bd.returns rfl rfl (hb hby d18_44) hr)
def Q_sap32_4 (Z : State) (a : Addr) (v : Addr) (kv : ClassId) (vs : List Value) (x : Addr) (t : Addr) (kb : ClassId) (us : List Value) (G1 : Int32) (h0 : Heap) (n0 : Nat) (vv_ : Option Value) (hh_ : Heap) (LL_ : List Loc) : Prop := ∃ (v2 : Addr), ∃ (k2 : ClassId), vv_ = some (.ref a) ∧ Fr n0 LL_ ∧ Keep h0 hh_ [a] ∧ h0.size ≤ v2 ∧ Exa Z hh_ a "java/lang/StringBuilder" ∧ Fld Z hh_ a "java/lang/AbstractStringBuilder" "value" "[B" (.ref v2) ∧ Fld Z hh_ a "java/lang/AbstractStringBuilder" "coder" "B" (.int (0 : Int32)) ∧ Fld Z hh_ a "java/lang/AbstractStringBuilder" "count" "I" (.int (36 : Int32)) ∧ Arv Z hh_ v2 k2 .byte (70 : Int32) (vs ++ us) (.int 0)
set_option maxRecDepth 65536 in
set_option maxHeartbeats 40000000 in
theorem rm_sap32_4 (l : Launch) (Z : State) (a0 : Array Value) (hw : ∀ d ∈ tables_1, d.before a0 Z = true) (ws : List Jvm.Cond) (a : Addr) (v : Addr) (kv : ClassId) (vs : List Value) (x : Addr) (t : Addr) (kb : ClassId) (us : List Value) (G1 : Int32) (h0 : Heap) (n0 : Nat) (Z0 : n0 ≤ h0.size) (hvd : vs.length = 32) (hus : us.length = 4) (E0 : Exa Z h0 a "java/lang/StringBuilder") (F0 : Fld Z h0 a "java/lang/AbstractStringBuilder" "value" "[B" (.ref v)) (F1 : Fld Z h0 a "java/lang/AbstractStringBuilder" "coder" "B" (.int (0 : Int32))) (F2 : Fld Z h0 a "java/lang/AbstractStringBuilder" "count" "I" (.int (32 : Int32))) (A0 : Arv Z h0 v kv .byte (34 : Int32) vs (.int 0)) (E1 : Exa Z h0 x "java/lang/String") (F3 : Fld Z h0 x "java/lang/String" "value" "[B" (.ref t)) (F4 : Fld Z h0 x "java/lang/String" "coder" "B" (.int (0 : Int32))) (A1 : Arv Z h0 t kb .byte (4 : Int32) us (.int 0)) (ga : n0 ≤ a) (nx : x ≠ a) (nt : t ≠ a) (S1 : Sta Z Z.heap "java/lang/String" "COMPACT_STRINGS" "Z" (.int G1)) (P1 : ¬ G1 = 0) (OL : Old Z n0 h0) :
    MetFree l y_20 (head1 (Jvm.Cond.code y_20 jdk_67_method_7_code 2 (some (.object "java/lang/StringBuilder")) :: ws) ({ frames := 5, cells := 1, slots := 70, locals := 76 } : Room)) (fun aa_ U => aa_ = #[(.ref a), (.ref x)] ∧ Z.Warmed39 U.vm ∧ U.heap = h0) (fun _ _ _ _ _ => True) (fun _ U o U' => ∃ vv_ LL_, o = .returned vv_ ∧ Q_sap32_4 Z a v kv vs x t kb us G1 h0 n0 vv_ U'.heap LL_ ∧ FrameEnd U o U' LL_ 1 70) := by
  refine MetFree.of_bodySF (plainFor_of_name pn_java_lang_StringBuilder) hisR ?_
  intro p e s m args below meth c s₁ Bd hml0 hP hK
  obtain ⟨rfl, hZ, hh⟩ := hP
  have hx := Bd.exec
  have hby := Bd.bytes
  have hml : c.maxLocals = 2 := hml0
  have hown : s.vm.findClass "java/lang/StringBuilder" = some m.cls := findClass_of_methodNamed Bd.named
  have hnm := (name_of_methodNamed Bd.named Bd.method).1
  have X0 : Stand p l e ({ frames := 5, cells := 1, slots := 70, locals := 76 } : Room) s m #[(.ref a), (.ref x)] below meth c s₁ [] 0 0 := Stand.of_body Bd
  have e0 : s₁.heap = h0 := by rw [← hh, Bd.state]; rfl
  have N0 := Fr.nil n0
  have ef : entryFrame m #[(.ref a), (.ref x)] 2 = mkF m 0 #[.val (.ref a), .val (.ref x)] [] := by first | (simp [entryFrame, mkF, argsToLocals, Value.category]; done) | rfl
  refine Fin.start (Q := Q_sap32_4 Z a v kv vs x t kb us G1 h0 n0) ef ?_
  refine Fin.by (fun tt_ kk_ => XS.aloadN X0.here hx rfl (hb hby d19_0) rfl rfl (XS.aloadN X0.here hx rfl (hb hby d19_1) rfl rfl kk_)) ?_
  obtain ⟨v101, _, ⟨T101, L101, k101, n101⟩, -, X101, ⟨Lc101, hQ101, l101, y101, z101⟩, st101⟩ := superBack X0 hx hZ (y := y_19) hown (w_ hw 89 rfl) (own_same (z := y_13) (y := y_19) (w_ hw 109 rfl) rfl (w_ hw 90 rfl) (by decide)) (w_ hw 90 rfl) (w_ hw 91 rfl) (by decide) (backOf (W := 0) (rm_app32_4 l Z a0 hw [] a v kv (vs : List Value) x t kb (us : List Value) G1 h0 n0 Z0 hvd hus E0 F0 F1 F2 A0 E1 F3 F4 A1 ga nx nt S1 P1 OL) hZ (w_ hw 93 rfl) (w_ hw 73 rfl) (by decide) (by decide)) e0 (Ins.self E0) (g := (mkF m 2 #[.val (.ref a), .val (.ref x)] [(.ref x), (.ref a)])) rfl (by rw [hml]; rfl) (w_ hw 93 rfl) (argsL := [(.ref x)]) (rest := []) (lenOf pd_467 rfl) rfl (by show 2 * 0 + _ ≤ _; exact Nat.le_of_eq rfl) (hb hby d19_2) (fun _ _ => ⟨rfl, e0, (by decide : 0 + 1 ≤ _), (by decide : 0 + 70 ≤ _)⟩)
  dsimp only [Pt.U, Pt.locs, Pt.cells, Pt.slots] at X101 l101 y101 z101 st101 hQ101
  subst l101 y101 z101
  obtain ⟨v102, k103, rfl, Nq101, p101_0, p101_1, p101_2, p101_3, p101_4, p101_5, p101_6⟩ := hQ101
  have N101_ := Fr.app N0 Nq101
  refine Fin.byS st101 ?_
  refine Fin.by (fun tt_ kk_ => XS.pop X101.here hx rfl (hb hby d19_5) rfl rfl (XS.aloadN X101.here hx rfl (hb hby d19_6) rfl rfl kk_)) ?_
  have kp104 : Keep h0 T101.heap [a] := (Keep.refl h0 [a]).trans p101_0 (allS (Or.inl (List.mem_of_getElem? (i := 0) rfl)) all0)
  show Fin _ _ _ _ _ _ _ (T101.setTop (mkF m 7 #[.val (.ref a), .val (.ref x)] [(.ref a)]))
  exact Fin.ret (v := some (.ref a)) X101 (fun h => by rw [Bd.returns] at h; cases h) Bd.notSynchronized (⟨v102, k103, rfl, N101_, kp104, (Nat.le_trans (Nat.le_refl _) p101_1), p101_2, p101_3, p101_4, p101_5, p101_6⟩) (by decide) (by decide) (fun fs hr => retA X101 hx Bd.returns rfl rfl (hb hby d19_7) hr)
def Q_eci70_37 (Z : State) (a : Addr) (v : Addr) (kv : ClassId) (vs : List Value) (h0 : Heap) (n0 : Nat) (vv_ : Option Value) (hh_ : Heap) (LL_ : List Loc) : Prop := vv_ = none ∧ Fr n0 LL_ ∧ hh_ = h0
set_option maxRecDepth 65536 in
set_option maxHeartbeats 40000000 in
theorem rm_eci70_37 (l : Launch) (Z : State) (a0 : Array Value) (hw : ∀ d ∈ tables_1, d.before a0 Z = true) (ws : List Jvm.Cond) (a : Addr) (v : Addr) (kv : ClassId) (vs : List Value) (h0 : Heap) (n0 : Nat) (Z0 : n0 ≤ h0.size) (E0 : Exa Z h0 a "java/lang/StringBuilder") (F0 : Fld Z h0 a "java/lang/AbstractStringBuilder" "value" "[B" (.ref v)) (F1 : Fld Z h0 a "java/lang/AbstractStringBuilder" "coder" "B" (.int (0 : Int32))) (A0 : Arv Z h0 v kv .byte (70 : Int32) vs (.int 0)) :
    MetFree l y_13 (head1 (Jvm.Cond.code y_13 jdk_68_method_9_code 3 none :: ws) ({ frames := 0, cells := 0, slots := 0, locals := 0 } : Room)) (fun aa_ U => aa_ = #[(.ref a), (.int (37 : Int32))] ∧ Z.Warmed39 U.vm ∧ U.heap = h0) (fun _ _ _ _ _ => True) (fun _ U o U' => ∃ vv_ LL_, o = .returned vv_ ∧ Q_eci70_37 Z a v kv vs h0 n0 vv_ U'.heap LL_ ∧ FrameEnd U o U' LL_ 0 0) := by
  refine MetFree.of_bodySF (plainFor_of_name pn_java_lang_AbstractStringBuilder) hisR ?_
  intro p e s m args below meth c s₁ Bd hml0 hP hK
  obtain ⟨rfl, hZ, hh⟩ := hP
  have hx := Bd.exec
  have hby := Bd.bytes
  have hml : c.maxLocals = 3 := hml0
  have hown : s.vm.findClass "java/lang/AbstractStringBuilder" = some m.cls := findClass_of_methodNamed Bd.named
  have hnm := (name_of_methodNamed Bd.named Bd.method).1
  have X0 : Stand p l e ({ frames := 0, cells := 0, slots := 0, locals := 0 } : Room) s m #[(.ref a), (.int (37 : Int32))] below meth c s₁ [] 0 0 := Stand.of_body Bd
  have e0 : s₁.heap = h0 := by rw [← hh, Bd.state]; rfl
  have N0 := Fr.nil n0
  have ef : entryFrame m #[(.ref a), (.int (37 : Int32))] 3 = mkF m 0 #[.val (.ref a), .val (.int (37 : Int32)), .unset] [] := by first | (simp [entryFrame, mkF, argsToLocals, Value.category]; done) | rfl
  refine Fin.start (Q := Q_eci70_37 Z a v kv vs h0 n0) ef ?_
  refine Fin.by (fun tt_ kk_ => XS.aloadN X0.here hx rfl (hb hby d12_0) rfl rfl kk_) ?_
  obtain ⟨T101, X101, e101, st101⟩ := getF X0 hx hZ hown (host := "") (Or.inl (w_ hw 77 rfl)) Via.refl e0 F0 (g := (mkF m 1 #[.val (.ref a), .val (.int 37), .unset] [(.ref a)])) rfl rfl (hb hby d12_1)
  refine Fin.by (fun tt_ kk_ => st101 tt_ kk_) ?_
  obtain ⟨cl102, Ar102, q102, S102, N102, H102, G102⟩ := id A0
  refine Fin.by (fun tt_ kk_ => X101.arraylength hx (by rw [e101]; exact Ar102.1) (State.isArrayOf_alike hZ.alike Ar102.2.1) (g := (mkF m 4 #[.val (.ref a), .val (.int 37), .unset] [(.ref v)])) rfl rfl (hb hby d12_4) _ kk_) ?_
  rw [len_of S102 N102]
  refine Fin.by (fun tt_ kk_ => XS.aloadN X101.here hx rfl (hb hby d12_5) rfl rfl kk_) ?_
  obtain ⟨T103, X103, e103, st103⟩ := getF X101 hx hZ hown (host := "") (Or.inl (w_ hw 79 rfl)) Via.refl e101 F1 (g := (mkF m 6 #[.val (.ref a), .val (.int 37), .unset] [(.ref a), (.int 70)])) rfl rfl (hb hby d12_6)
  refine Fin.by (fun tt_ kk_ => st103 tt_ kk_) ?_
  refine Fin.by (fun tt_ kk_ => XS.ishr X103.here hx rfl (hb hby d12_9) rfl (XS.istoreN X103.here hx rfl (hb hby d12_10) rfl (l' := #[.val (.ref a), .val (.int 37), .val (.int 70)]) rfl (XS.iloadN X103.here hx rfl (hb hby d12_11) rfl (XS.iloadN X103.here hx rfl (hb hby d12_12) rfl (XS.isub X103.here hx rfl (hb hby d12_13) rfl kk_))))) ?_
  show Fin _ _ _ _ _ _ _ (T103.setTop (mkF m 14 #[.val (.ref a), .val (.int 37), .val (.int 70)] [(.int (-33 : Int32))]))
  refine Fin.by (fun tt_ kk_ => XS.ifYes X103.here hx rfl (pc0 := 14) (pc' := 38) rfl (hb hby d12_14) rfl ((if0 _ _).trans (flt (by decide : ¬ (0 : Int32) < (-33 : Int32))).2.2.2) (by decide) (by decide) kk_) ?_
  show Fin _ _ _ _ _ _ _ (T103.setTop (mkF m 38 #[.val (.ref a), .val (.int 37), .val (.int 70)] []))
  exact Fin.ret (v := none) X103 (fun _ => rfl) Bd.notSynchronized (by rw [e103]; exact ⟨rfl, N0, rfl⟩) (by decide) (by decide) (fun fs hr => X103.returnOut hx Bd.returns (hb hby d12_38) hr)
def Q_gb36_1 (Z : State) (x : Addr) (t : Addr) (kb : ClassId) (us : List Value) (v : Addr) (kv : ClassId) (vs : List Value) (G1 : Int32) (h0 : Heap) (n0 : Nat) (vv_ : Option Value) (hh_ : Heap) (LL_ : List Loc) : Prop := vv_ = none ∧ Fr n0 LL_ ∧ Keep h0 hh_ [v] ∧ Arv Z hh_ v kv .byte (70 : Int32) (vs ++ us) (.int 0)
set_option maxRecDepth 65536 in
set_option maxHeartbeats 40000000 in
theorem rm_gb36_1 (l : Launch) (Z : State) (a0 : Array Value) (hw : ∀ d ∈ tables_1, d.before a0 Z = true) (ws : List Jvm.Cond) (x : Addr) (t : Addr) (kb : ClassId) (us : List Value) (v : Addr) (kv : ClassId) (vs : List Value) (G1 : Int32) (h0 : Heap) (n0 : Nat) (Z0 : n0 ≤ h0.size) (hvd : vs.length = 36) (hus : us.length = 1) (E1 : Exa Z h0 x "java/lang/String") (F3 : Fld Z h0 x "java/lang/String" "value" "[B" (.ref t)) (F4 : Fld Z h0 x "java/lang/String" "coder" "B" (.int (0 : Int32))) (A1 : Arv Z h0 t kb .byte (1 : Int32) us (.int 0)) (A0 : Arv Z h0 v kv .byte (70 : Int32) vs (.int 0)) (gv : n0 ≤ v) (S1 : Sta Z Z.heap "java/lang/String" "COMPACT_STRINGS" "Z" (.int G1)) (P1 : ¬ G1 = 0) (OL : Old Z n0 h0) :
    MetFree l y_16 (head1 (Jvm.Cond.code y_16 jdk_42_method_147_code 4 none :: ws) ({ frames := 1, cells := 0, slots := 0, locals := 18 } : Room)) (fun aa_ U => aa_ = #[(.ref x), (.ref v), (.int (36 : Int32)), (.int (0 : Int32))] ∧ Z.Warmed39 U.vm ∧ U.heap = h0) (fun _ _ _ _ _ => True) (fun _ U o U' => ∃ vv_ LL_, o = .returned vv_ ∧ Q_gb36_1 Z x t kb us v kv vs G1 h0 n0 vv_ U'.heap LL_ ∧ FrameEnd U o U' LL_ 0 0) := by
  refine MetFree.of_bodySF (plainFor_of_name pn_java_lang_String) hisR ?_
  intro p e s m args below meth c s₁ Bd hml0 hP hK
  obtain ⟨rfl, hZ, hh⟩ := hP
  have hx := Bd.exec
  have hby := Bd.bytes
  have hml : c.maxLocals = 4 := hml0
  have hown : s.vm.findClass "java/lang/String" = some m.cls := findClass_of_methodNamed Bd.named
  have hnm := (name_of_methodNamed Bd.named Bd.method).1
  have X0 : Stand p l e ({ frames := 1, cells := 0, slots := 0, locals := 18 } : Room) s m #[(.ref x), (.ref v), (.int (36 : Int32)), (.int (0 : Int32))] below meth c s₁ [] 0 0 := Stand.of_body Bd
  have e0 : s₁.heap = h0 := by rw [← hh, Bd.state]; rfl
  have N0 := Fr.nil n0
  have ef : entryFrame m #[(.ref x), (.ref v), (.int (36 : Int32)), (.int (0 : Int32))] 4 = mkF m 0 #[.val (.ref x), .val (.ref v), .val (.int (36 : Int32)), .val (.int (0 : Int32))] [] := by first | (simp [entryFrame, mkF, argsToLocals, Value.category]; done) | rfl
  refine Fin.start (Q := Q_gb36_1 Z x t kb us v kv vs G1 h0 n0) ef ?_
  refine Fin.by (fun tt_ kk_ => XS.aloadN X0.here hx rfl (hb hby d15_0) rfl rfl kk_) ?_
  obtain ⟨cq101, kq101, qa101, qb101, qc101⟩ := isOf hZ e0 E1
  obtain ⟨v101, _, ⟨T101, L101, k101, n101⟩, -, X101, ⟨Lc101, hQ101, l101, y101, z101⟩, st101⟩ := X0.virtualBack hx (y := y_14) (z := y_14) hown (mvT hZ (w_ hw 99 rfl)) (mvT hZ (w_ hw 100 rfl)) (notFace_of_selects (args := #[]) (mvT hZ (w_ hw 102 rfl))) (mvT hZ (w_ hw 102 rfl)) (mvT hZ (w_ hw 101 rfl)) (by decide) (backOf (W := 0) (rm_cod l Z a0 hw [] x G1 h0 n0 Z0 F4 S1 P1 OL) hZ (w_ hw 103 rfl) (w_ hw 7 rfl) (by decide) (by decide)) qa101 qc101 (g := (mkF m 1 #[.val (.ref x), .val (.ref v), .val (.int 36), .val (.int 0)] [(.ref x)])) rfl (by rw [hml]; rfl) (Steps.refl _) (argsL := []) (rest := []) (lenOf pd_398 rfl) rfl (by show 2 * 0 + _ ≤ _; exact Nat.le_of_eq rfl) (hb hby d15_1) (fun _ _ => ⟨rfl, e0, (by decide : 0 + 0 ≤ _), (by decide : 0 + 0 ≤ _)⟩)
  dsimp only [Pt.U, Pt.locs, Pt.cells, Pt.slots] at X101 l101 y101 z101 st101 hQ101
  subst l101 y101 z101
  obtain ⟨rfl, Nq101, e101_⟩ := hQ101
  have N101_ := Fr.app N0 Nq101
  refine Fin.byS st101 ?_
  have e101 := e101_
  refine Fin.by (fun tt_ kk_ => XS.iloadN X101.here hx rfl (hb hby d15_4) rfl kk_) ?_
  show Fin _ _ _ _ _ _ _ (T101.setTop (mkF m 5 #[.val (.ref x), .val (.ref v), .val (.int 36), .val (.int 0)] [(.int 0), (.int 0)]))
  refine Fin.by (fun tt_ kk_ => XS.icmpNo X101.here hx rfl (hb hby d15_5) rfl (teq (rfl : (0 : Int32) = (0 : Int32))).2 kk_) ?_
  refine Fin.by (fun tt_ kk_ => XS.aloadN X101.here hx rfl (hb hby d15_8) rfl rfl kk_) ?_
  obtain ⟨T102, X102, e102, st102⟩ := getF X101 hx hZ hown (host := "") (Or.inl (w_ hw 32 rfl)) Via.refl e101 F3 (g := (mkF m 9 #[.val (.ref x), .val (.ref v), .val (.int 36), .val (.int 0)] [(.ref x)])) rfl rfl (hb hby d15_9)
  refine Fin.by (fun tt_ kk_ => st102 tt_ kk_) ?_
  refine Fin.by (fun tt_ kk_ => XS.iconst X102.here hx rfl (hb hby d15_12) (XS.aloadN X102.here hx rfl (hb hby d15_13) rfl rfl (XS.iloadN X102.here hx rfl (hb hby d15_14) rfl (XS.iloadN X102.here hx rfl (hb hby d15_15) rfl (XS.ishl X102.here hx rfl (hb hby d15_16) rfl (XS.aloadN X102.here hx rfl (hb hby d15_17) rfl rfl kk_)))))) ?_
  show Fin _ _ _ _ _ _ _ (T102.setTop (mkF m 18 #[.val (.ref x), .val (.ref v), .val (.int 36), .val (.int 0)] [(.ref x), (.int 36), (.ref v), (.int 0), (.ref t)]))
  obtain ⟨T103, X103, e103, st103⟩ := getF X102 hx hZ hown (host := "") (Or.inl (w_ hw 32 rfl)) Via.refl e102 F3 (g := (mkF m 18 #[.val (.ref x), .val (.ref v), .val (.int 36), .val (.int 0)] [(.ref x), (.int 36), (.ref v), (.int 0), (.ref t)])) rfl rfl (hb hby d15_18)
  refine Fin.by (fun tt_ kk_ => st103 tt_ kk_) ?_
  obtain ⟨cl104, Ar104, q104, S104, N104, H104, G104⟩ := id A1
  refine Fin.by (fun tt_ kk_ => X103.arraylength hx (by rw [e103]; exact Ar104.1) (State.isArrayOf_alike hZ.alike Ar104.2.1) (g := (mkF m 21 #[.val (.ref x), .val (.ref v), .val (.int 36), .val (.int 0)] [(.ref t), (.int 36), (.ref v), (.int 0), (.ref t)])) rfl rfl (hb hby d15_21) _ kk_) ?_
  rw [len_of S104 N104]
  obtain ⟨T105, h105, L105, X105, e105, Nc105, K105, V105, st105⟩ := own_cp X103 hx hZ hown (w_ hw 153 rfl) (w_ hw 136 rfl) (w_ hw 134 rfl) (w_ hw 135 rfl) e103 A1 A0 (by decide) (by decide) (by decide) (by decide) (by rw [hvd]; rfl) (by rw [hus]; decide) N101_ gv (g := (mkF m 22 #[.val (.ref x), .val (.ref v), .val (.int 36), .val (.int 0)] [(.int 1), (.int 36), (.ref v), (.int 0), (.ref t)])) rfl (by rw [hml]; rfl) rfl (hb hby d15_22) (by decide) (W := 0) (by show 2 * 0 + _ ≤ _; exact Nat.le_of_eq rfl) (by decide)
  refine Fin.by (fun tt_ kk_ => st105 tt_ kk_) ?_
  refine Fin.by (fun tt_ kk_ => XS.goto X105.here hx rfl (pc0 := 25) (pc' := 43) rfl (hb hby d15_25) (by decide) (by decide) kk_) ?_
  have kp106 : Keep h0 h105 [v] := (Keep.refl h0 [v]).trans K105 (allS (Or.inl (List.mem_of_getElem? (i := 0) rfl)) all0)
  show Fin _ _ _ _ _ _ _ (T105.setTop (mkF m 43 #[.val (.ref x), .val (.ref v), .val (.int 36), .val (.int 0)] []))
  exact Fin.ret (v := none) X105 (fun _ => rfl) Bd.notSynchronized (by rw [e105]; exact ⟨rfl, Nc105, kp106, V105⟩) (by decide) (by decide) (fun fs hr => X105.returnOut hx Bd.returns (hb hby d15_43) hr)
def Q_psa36_1 (Z : State) (a : Addr) (v : Addr) (kv : ClassId) (vs : List Value) (x : Addr) (t : Addr) (kb : ClassId) (us : List Value) (G1 : Int32) (h0 : Heap) (n0 : Nat) (vv_ : Option Value) (hh_ : Heap) (LL_ : List Loc) : Prop := vv_ = none ∧ Fr n0 LL_ ∧ Keep h0 hh_ [v] ∧ Arv Z hh_ v kv .byte (70 : Int32) (vs ++ us) (.int 0)
set_option maxRecDepth 65536 in
set_option maxHeartbeats 40000000 in
theorem rm_psa36_1 (l : Launch) (Z : State) (a0 : Array Value) (hw : ∀ d ∈ tables_1, d.before a0 Z = true) (ws : List Jvm.Cond) (a : Addr) (v : Addr) (kv : ClassId) (vs : List Value) (x : Addr) (t : Addr) (kb : ClassId) (us : List Value) (G1 : Int32) (h0 : Heap) (n0 : Nat) (Z0 : n0 ≤ h0.size) (hvd : vs.length = 36) (hus : us.length = 1) (E0 : Exa Z h0 a "java/lang/StringBuilder") (F0 : Fld Z h0 a "java/lang/AbstractStringBuilder" "value" "[B" (.ref v)) (F1 : Fld Z h0 a "java/lang/AbstractStringBuilder" "coder" "B" (.int (0 : Int32))) (E1 : Exa Z h0 x "java/lang/String") (F3 : Fld Z h0 x "java/lang/String" "value" "[B" (.ref t)) (F4 : Fld Z h0 x "java/lang/String" "coder" "B" (.int (0 : Int32))) (A1 : Arv Z h0 t kb .byte (1 : Int32) us (.int 0)) (A0 : Arv Z h0 v kv .byte (70 : Int32) vs (.int 0)) (gv : n0 ≤ v) (S1 : Sta Z Z.heap "java/lang/String" "COMPACT_STRINGS" "Z" (.int G1)) (P1 : ¬ G1 = 0) (OL : Old Z n0 h0) :
    MetFree l y_17 (head1 (Jvm.Cond.code y_17 jdk_68_method_73_code 3 none :: ws) ({ frames := 2, cells := 0, slots := 0, locals := 33 } : Room)) (fun aa_ U => aa_ = #[(.ref a), (.int (36 : Int32)), (.ref x)] ∧ Z.Warmed39 U.vm ∧ U.heap = h0) (fun _ _ _ _ _ => True) (fun _ U o U' => ∃ vv_ LL_, o = .returned vv_ ∧ Q_psa36_1 Z a v kv vs x t kb us G1 h0 n0 vv_ U'.heap LL_ ∧ FrameEnd U o U' LL_ 0 0) := by
  refine MetFree.of_bodySF (plainFor_of_name pn_java_lang_AbstractStringBuilder) hisR ?_
  intro p e s m args below meth c s₁ Bd hml0 hP hK
  obtain ⟨rfl, hZ, hh⟩ := hP
  have hx := Bd.exec
  have hby := Bd.bytes
  have hml : c.maxLocals = 3 := hml0
  have hown : s.vm.findClass "java/lang/AbstractStringBuilder" = some m.cls := findClass_of_methodNamed Bd.named
  have hnm := (name_of_methodNamed Bd.named Bd.method).1
  have X0 : Stand p l e ({ frames := 2, cells := 0, slots := 0, locals := 33 } : Room) s m #[(.ref a), (.int (36 : Int32)), (.ref x)] below meth c s₁ [] 0 0 := Stand.of_body Bd
  have e0 : s₁.heap = h0 := by rw [← hh, Bd.state]; rfl
  have N0 := Fr.nil n0
  have ef : entryFrame m #[(.ref a), (.int (36 : Int32)), (.ref x)] 3 = mkF m 0 #[.val (.ref a), .val (.int (36 : Int32)), .val (.ref x)] [] := by first | (simp [entryFrame, mkF, argsToLocals, Value.category]; done) | rfl
  refine Fin.start (Q := Q_psa36_1 Z a v kv vs x t kb us G1 h0 n0) ef ?_
  refine Fin.by (fun tt_ kk_ => XS.aloadN X0.here hx rfl (hb hby d16_0) rfl rfl (XS.aloadN X0.here hx rfl (hb hby d16_1) rfl rfl kk_)) ?_
  obtain ⟨cq101, qa101, qb101⟩ := E0.cell
  obtain ⟨v101, _, ⟨T101, L101, k101, n101⟩, -, X101, ⟨Lc101, hQ101, l101, y101, z101⟩, st101⟩ := X0.privateBack hx (y := y_15) hown (mvT hZ (w_ hw 142 rfl)) (mvT hZ (w_ hw 143 rfl)) (own_selpriv (z := y_13) (y := y_15) (mvT hZ (w_ hw 109 rfl)) rfl (Cond.privateMethod_at (mvP hZ (w_ hw 144 rfl) (args := #[]))) (mvT hZ (w_ hw 143 rfl)) (by decide)) (Cond.privateMethod_at (mvP hZ (w_ hw 144 rfl) (args := #[]))) (mvT hZ (w_ hw 146 rfl)) (by decide) (backOf (W := 0) (rm_inf l Z a0 hw [] a x G1 h0 n0 Z0 E0 F1 E1 F4 S1 P1 OL) hZ (w_ hw 146 rfl) (w_ hw 73 rfl) (by decide) (by decide)) (g := (mkF m 2 #[.val (.ref a), .val (.int 36), .val (.ref x)] [(.ref x), (.ref a)])) rfl (by rw [hml]; rfl) (Steps.refl _) (a := a) (by rw [e0]; exact qa101) qb101 (argsL := [(.ref x)]) (rest := []) (lenOf pd_421 rfl) rfl (by show 2 * 0 + _ ≤ _; exact Nat.le_of_eq rfl) (hb hby d16_2) (fun _ _ => ⟨rfl, e0, (by decide : 0 + 0 ≤ _), (by decide : 0 + 0 ≤ _)⟩)
  dsimp only [Pt.U, Pt.locs, Pt.cells, Pt.slots] at X101 l101 y101 z101 st101 hQ101
  subst l101 y101 z101
  obtain ⟨rfl, Nq101, e101_⟩ := hQ101
  have N101_ := Fr.app N0 Nq101
  refine Fin.byS st101 ?_
  have e101 := e101_
  refine Fin.by (fun tt_ kk_ => XS.aloadN X101.here hx rfl (hb hby d16_5) rfl rfl (XS.aloadN X101.here hx rfl (hb hby d16_6) rfl rfl kk_)) ?_
  obtain ⟨T102, X102, e102, st102⟩ := getF X101 hx hZ hown (host := "") (Or.inl (w_ hw 77 rfl)) Via.refl e101 F0 (g := (mkF m 7 #[.val (.ref a), .val (.int 36), .val (.ref x)] [(.ref a), (.ref x)])) rfl rfl (hb hby d16_7)
  refine Fin.by (fun tt_ kk_ => st102 tt_ kk_) ?_
  refine Fin.by (fun tt_ kk_ => XS.iloadN X102.here hx rfl (hb hby d16_10) rfl (XS.aloadN X102.here hx rfl (hb hby d16_11) rfl rfl kk_)) ?_
  obtain ⟨T103, X103, e103, st103⟩ := getF X102 hx hZ hown (host := "") (Or.inl (w_ hw 79 rfl)) Via.refl e102 F1 (g := (mkF m 12 #[.val (.ref a), .val (.int 36), .val (.ref x)] [(.ref a), (.int 36), (.ref v), (.ref x)])) rfl rfl (hb hby d16_12)
  refine Fin.by (fun tt_ kk_ => st103 tt_ kk_) ?_
  obtain ⟨cq104, kq104, qa104, qb104, qc104⟩ := isOf hZ e103 E1
  obtain ⟨v104, _, ⟨T104, L104, k104, n104⟩, -, X104, ⟨Lc104, hQ104, l104, y104, z104⟩, st104⟩ := X103.virtualBack hx (y := y_16) (z := y_16) hown (mvT hZ (w_ hw 148 rfl)) (mvT hZ (w_ hw 149 rfl)) (notFace_of_selects (args := #[]) (mvT hZ (w_ hw 151 rfl))) (mvT hZ (w_ hw 151 rfl)) (mvT hZ (w_ hw 150 rfl)) (by decide) (backOf (W := 0) (rm_gb36_1 l Z a0 hw [] x t kb (us : List Value) v kv (vs : List Value) G1 h0 n0 Z0 hvd hus E1 F3 F4 A1 A0 gv S1 P1 OL) hZ (w_ hw 152 rfl) (w_ hw 7 rfl) (by decide) (by decide)) qa104 qc104 (g := (mkF m 15 #[.val (.ref a), .val (.int 36), .val (.ref x)] [(.int 0), (.int 36), (.ref v), (.ref x)])) rfl (by rw [hml]; rfl) (Steps.refl _) (argsL := [(.ref v), (.int 36), (.int 0)]) (rest := []) (lenOf pd_429 rfl) rfl (by show 2 * 0 + _ ≤ _; exact Nat.le_of_eq rfl) (hb hby d16_15) (fun _ _ => ⟨rfl, e103, (by decide : 0 + 0 ≤ _), (by decide : 0 + 0 ≤ _)⟩)
  dsimp only [Pt.U, Pt.locs, Pt.cells, Pt.slots] at X104 l104 y104 z104 st104 hQ104
  subst l104 y104 z104
  obtain ⟨rfl, Nq104, p104_0, p104_1⟩ := hQ104
  have N104_ := Fr.app N101_ Nq104
  refine Fin.byS st104 ?_
  have kp105 : Keep h0 T104.heap [v] := (Keep.refl h0 [v]).trans p104_0 (allS (Or.inl (List.mem_of_getElem? (i := 0) rfl)) all0)
  show Fin _ _ _ _ _ _ _ (T104.setTop (mkF m 18 #[.val (.ref a), .val (.int 36), .val (.ref x)] []))
  exact Fin.ret (v := none) X104 (fun _ => rfl) Bd.notSynchronized (⟨rfl, N104_, kp105, p104_1⟩) (by decide) (by decide) (fun fs hr => X104.returnOut hx Bd.returns (hb hby d16_18) hr)
def Q_app36_1 (Z : State) (a : Addr) (v : Addr) (kv : ClassId) (vs : List Value) (x : Addr) (t : Addr) (kb : ClassId) (us : List Value) (G1 : Int32) (h0 : Heap) (n0 : Nat) (vv_ : Option Value) (hh_ : Heap) (LL_ : List Loc) : Prop := vv_ = some (.ref a) ∧ Fr n0 LL_ ∧ Keep h0 hh_ [a, v] ∧ Exa Z hh_ a "java/lang/StringBuilder" ∧ Fld Z hh_ a "java/lang/AbstractStringBuilder" "value" "[B" (.ref v) ∧ Fld Z hh_ a "java/lang/AbstractStringBuilder" "coder" "B" (.int (0 : Int32)) ∧ Fld Z hh_ a "java/lang/AbstractStringBuilder" "count" "I" (.int (37 : Int32)) ∧ Arv Z hh_ v kv .byte (70 : Int32) (vs ++ us) (.int 0)
set_option maxRecDepth 65536 in
set_option maxHeartbeats 40000000 in
theorem rm_app36_1 (l : Launch) (Z : State) (a0 : Array Value) (hw : ∀ d ∈ tables_1, d.before a0 Z = true) (ws : List Jvm.Cond) (a : Addr) (v : Addr) (kv : ClassId) (vs : List Value) (x : Addr) (t : Addr) (kb : ClassId) (us : List Value) (G1 : Int32) (h0 : Heap) (n0 : Nat) (Z0 : n0 ≤ h0.size) (hvd : vs.length = 36) (hus : us.length = 1) (E0 : Exa Z h0 a "java/lang/StringBuilder") (F0 : Fld Z h0 a "java/lang/AbstractStringBuilder" "value" "[B" (.ref v)) (F1 : Fld Z h0 a "java/lang/AbstractStringBuilder" "coder" "B" (.int (0 : Int32))) (F2 : Fld Z h0 a "java/lang/AbstractStringBuilder" "count" "I" (.int (36 : Int32))) (A0 : Arv Z h0 v kv .byte (70 : Int32) vs (.int 0)) (E1 : Exa Z h0 x "java/lang/String") (F3 : Fld Z h0 x "java/lang/String" "value" "[B" (.ref t)) (F4 : Fld Z h0 x "java/lang/String" "coder" "B" (.int (0 : Int32))) (A1 : Arv Z h0 t kb .byte (1 : Int32) us (.int 0)) (ga : n0 ≤ a) (gv : n0 ≤ v) (na : a ≠ v) (S1 : Sta Z Z.heap "java/lang/String" "COMPACT_STRINGS" "Z" (.int G1)) (P1 : ¬ G1 = 0) (OL : Old Z n0 h0) :
    MetFree l y_19 (head1 (Jvm.Cond.code y_19 jdk_68_method_22_code 3 (some (.object "java/lang/AbstractStringBuilder")) :: ws) ({ frames := 3, cells := 0, slots := 0, locals := 47 } : Room)) (fun aa_ U => aa_ = #[(.ref a), (.ref x)] ∧ Z.Warmed39 U.vm ∧ U.heap = h0) (fun _ _ _ _ _ => True) (fun _ U o U' => ∃ vv_ LL_, o = .returned vv_ ∧ Q_app36_1 Z a v kv vs x t kb us G1 h0 n0 vv_ U'.heap LL_ ∧ FrameEnd U o U' LL_ 0 0) := by
  refine MetFree.of_bodySF (plainFor_of_name pn_java_lang_AbstractStringBuilder) hisR ?_
  intro p e s m args below meth c s₁ Bd hml0 hP hK
  obtain ⟨rfl, hZ, hh⟩ := hP
  have hx := Bd.exec
  have hby := Bd.bytes
  have hml : c.maxLocals = 3 := hml0
  have hown : s.vm.findClass "java/lang/AbstractStringBuilder" = some m.cls := findClass_of_methodNamed Bd.named
  have hnm := (name_of_methodNamed Bd.named Bd.method).1
  have X0 : Stand p l e ({ frames := 3, cells := 0, slots := 0, locals := 47 } : Room) s m #[(.ref a), (.ref x)] below meth c s₁ [] 0 0 := Stand.of_body Bd
  have e0 : s₁.heap = h0 := by rw [← hh, Bd.state]; rfl
  have N0 := Fr.nil n0
  have ef : entryFrame m #[(.ref a), (.ref x)] 3 = mkF m 0 #[.val (.ref a), .val (.ref x), .unset] [] := by first | (simp [entryFrame, mkF, argsToLocals, Value.category]; done) | rfl
  refine Fin.start (Q := Q_app36_1 Z a v kv vs x t kb us G1 h0 n0) ef ?_
  refine Fin.by (fun tt_ kk_ => XS.aloadN X0.here hx rfl (hb hby d18_0) rfl rfl kk_) ?_
  refine Fin.by (fun tt_ kk_ => XS.ifnonnullYes X0.here hx rfl (pc0 := 1) (pc' := 9) rfl (hb hby d18_1) rfl (by decide) (by decide) kk_) ?_
  refine Fin.by (fun tt_ kk_ => XS.aloadN X0.here hx rfl (hb hby d18_9) rfl rfl kk_) ?_
  obtain ⟨cq101, kq101, qa101, qb101, qc101⟩ := isOf hZ e0 E1
  obtain ⟨v101, _, ⟨T101, L101, k101, n101⟩, -, X101, ⟨Lc101, hQ101, l101, y101, z101⟩, st101⟩ := X0.virtualBack hx (y := y_18) (z := y_18) hown (mvT hZ (w_ hw 94 rfl)) (mvT hZ (w_ hw 95 rfl)) (notFace_of_selects (args := #[]) (mvT hZ (w_ hw 97 rfl))) (mvT hZ (w_ hw 97 rfl)) (mvT hZ (w_ hw 96 rfl)) (by decide) (backOf (W := 0) (rm_sle l Z a0 hw [] x t kb (us : List Value) (1 : Int32) G1 h0 n0 Z0 E1 F3 F4 A1 S1 P1 OL) hZ (w_ hw 98 rfl) (w_ hw 7 rfl) (by decide) (by decide)) qa101 qc101 (g := (mkF m 10 #[.val (.ref a), .val (.ref x), .unset] [(.ref x)])) rfl (by rw [hml]; rfl) (Steps.refl _) (argsL := []) (rest := []) (lenOf pd_442 rfl) rfl (by show 2 * 0 + _ ≤ _; exact Nat.le_of_eq rfl) (hb hby d18_10) (fun _ _ => ⟨rfl, e0, (by decide : 0 + 0 ≤ _), (by decide : 0 + 0 ≤ _)⟩)
  dsimp only [Pt.U, Pt.locs, Pt.cells, Pt.slots] at X101 l101 y101 z101 st101 hQ101
  subst l101 y101 z101
  obtain ⟨rfl, Nq101, e101_⟩ := hQ101
  have N101_ := Fr.app N0 Nq101
  refine Fin.byS st101 ?_
  have e101 := e101_
  refine Fin.by (fun tt_ kk_ => XS.istoreN X101.here hx rfl (hb hby d18_13) rfl (l' := #[.val (.ref a), .val (.ref x), .val (.int 1)]) rfl (XS.aloadN X101.here hx rfl (hb hby d18_14) rfl rfl (XS.aloadN X101.here hx rfl (hb hby d18_15) rfl rfl kk_))) ?_
  obtain ⟨T102, X102, e102, st102⟩ := getF X101 hx hZ hown (host := "") (Or.inl (w_ hw 104 rfl)) Via.refl e101 F2 (g := (mkF m 16 #[.val (.ref a), .val (.ref x), .val (.int 1)] [(.ref a), (.ref a)])) rfl rfl (hb hby d18_16)
  refine Fin.by (fun tt_ kk_ => st102 tt_ kk_) ?_
  refine Fin.by (fun tt_ kk_ => XS.iloadN X102.here hx rfl (hb hby d18_19) rfl (XS.iadd X102.here hx rfl (hb hby d18_20) rfl kk_)) ?_
  obtain ⟨cq103, qa103, qb103⟩ := E0.cell
  obtain ⟨v103, _, ⟨T103, L103, k103, n103⟩, -, X103, ⟨Lc103, hQ103, l103, y103, z103⟩, st103⟩ := X102.privateBack hx (y := y_13) hown (mvT hZ (w_ hw 106 rfl)) (mvT hZ (w_ hw 107 rfl)) (own_selpriv (z := y_13) (y := y_13) (mvT hZ (w_ hw 109 rfl)) rfl (Cond.privateMethod_at (mvP hZ (w_ hw 108 rfl) (args := #[]))) (mvT hZ (w_ hw 107 rfl)) (by decide)) (Cond.privateMethod_at (mvP hZ (w_ hw 108 rfl) (args := #[]))) (mvT hZ (w_ hw 110 rfl)) (by decide) (backOf (W := 0) (rm_eci70_37 l Z a0 hw [] a v kv (vs : List Value) h0 n0 Z0 E0 F0 F1 A0) hZ (w_ hw 110 rfl) (w_ hw 73 rfl) (by decide) (by decide)) (g := (mkF m 21 #[.val (.ref a), .val (.ref x), .val (.int 1)] [(.int 37), (.ref a)])) rfl (by rw [hml]; rfl) (Steps.refl _) (a := a) (by rw [e102]; exact qa103) qb103 (argsL := [(.int 37)]) (rest := []) (lenOf pd_279 rfl) rfl (by show 2 * 0 + _ ≤ _; exact Nat.le_of_eq rfl) (hb hby d18_21) (fun _ _ => ⟨rfl, e102, (by decide : 0 + 0 ≤ _), (by decide : 0 + 0 ≤ _)⟩)
  dsimp only [Pt.U, Pt.locs, Pt.cells, Pt.slots] at X103 l103 y103 z103 st103 hQ103
  subst l103 y103 z103
  obtain ⟨rfl, Nq103, e103_⟩ := hQ103
  have N103_ := Fr.app N101_ Nq103
  refine Fin.byS st103 ?_
  have e103 := e103_
  refine Fin.by (fun tt_ kk_ => XS.aloadN X103.here hx rfl (hb hby d18_24) rfl rfl (XS.aloadN X103.here hx rfl (hb hby d18_25) rfl rfl kk_)) ?_
  obtain ⟨T104, X104, e104, st104⟩ := getF X103 hx hZ hown (host := "") (Or.inl (w_ hw 104 rfl)) Via.refl e103 F2 (g := (mkF m 26 #[.val (.ref a), .val (.ref x), .val (.int 1)] [(.ref a), (.ref a)])) rfl rfl (hb hby d18_26)
  refine Fin.by (fun tt_ kk_ => st104 tt_ kk_) ?_
  refine Fin.by (fun tt_ kk_ => XS.aloadN X104.here hx rfl (hb hby d18_29) rfl rfl kk_) ?_
  obtain ⟨cq105, qa105, qb105⟩ := E0.cell
  obtain ⟨v105, _, ⟨T105, L105, k105, n105⟩, -, X105, ⟨Lc105, hQ105, l105, y105, z105⟩, st105⟩ := X104.privateBack hx (y := y_17) hown (mvT hZ (w_ hw 137 rfl)) (mvT hZ (w_ hw 138 rfl)) (own_selpriv (z := y_13) (y := y_17) (mvT hZ (w_ hw 109 rfl)) rfl (Cond.privateMethod_at (mvP hZ (w_ hw 139 rfl) (args := #[]))) (mvT hZ (w_ hw 138 rfl)) (by decide)) (Cond.privateMethod_at (mvP hZ (w_ hw 139 rfl) (args := #[]))) (mvT hZ (w_ hw 141 rfl)) (by decide) (backOf (W := 0) (rm_psa36_1 l Z a0 hw [] a v kv (vs : List Value) x t kb (us : List Value) G1 h0 n0 Z0 hvd hus E0 F0 F1 E1 F3 F4 A1 A0 gv S1 P1 OL) hZ (w_ hw 141 rfl) (w_ hw 73 rfl) (by decide) (by decide)) (g := (mkF m 30 #[.val (.ref a), .val (.ref x), .val (.int 1)] [(.ref x), (.int 36), (.ref a)])) rfl (by rw [hml]; rfl) (Steps.refl _) (a := a) (by rw [e104]; exact qa105) qb105 (argsL := [(.int 36), (.ref x)]) (rest := []) (lenOf pd_455 rfl) rfl (by show 2 * 0 + _ ≤ _; exact Nat.le_of_eq rfl) (hb hby d18_30) (fun _ _ => ⟨rfl, e104, (by decide : 0 + 0 ≤ _), (by decide : 0 + 0 ≤ _)⟩)
  dsimp only [Pt.U, Pt.locs, Pt.cells, Pt.slots] at X105 l105 y105 z105 st105 hQ105
  subst l105 y105 z105
  obtain ⟨rfl, Nq105, p105_0, p105_1⟩ := hQ105
  have N105_ := Fr.app N103_ Nq105
  refine Fin.byS st105 ?_
  refine Fin.by (fun tt_ kk_ => XS.aloadN X105.here hx rfl (hb hby d18_33) rfl rfl (XS.dup X105.here hx rfl (hb hby d18_34) rfl rfl kk_)) ?_
  have F106 : Fld Z T105.heap a "java/lang/AbstractStringBuilder" "count" "I" (.int (36 : Int32)) := (F2.keep p105_0 (ninS na nin0))
  obtain ⟨T107, X107, e107, st107⟩ := getF X105 hx hZ hown (host := "") (Or.inl (w_ hw 104 rfl)) Via.refl rfl F106 (g := (mkF m 35 #[.val (.ref a), .val (.ref x), .val (.int 1)] [(.ref a), (.ref a)])) rfl rfl (hb hby d18_35)
  refine Fin.by (fun tt_ kk_ => st107 tt_ kk_) ?_
  refine Fin.by (fun tt_ kk_ => XS.iloadN X107.here hx rfl (hb hby d18_38) rfl (XS.iadd X107.here hx rfl (hb hby d18_39) rfl kk_)) ?_
  have E108 : Exa Z T105.heap a "java/lang/StringBuilder" := (E0.keep p105_0)
  obtain ⟨T109, h109, X109, e109, W109, st109⟩ := putF X107 hx hZ hown (host := "") (Or.inl (w_ hw 104 rfl)) Via.refl e107 F106 E108 (Or.inl (w_ hw 105 rfl)) (w_ hw 64 rfl) (ty := .int) (by decide) rfl rfl (g := (mkF m 40 #[.val (.ref a), .val (.ref x), .val (.int 1)] [(.int 37), (.ref a)])) rfl rfl (hb hby d18_40)
  refine Fin.by (fun tt_ kk_ => st109 tt_ kk_) ?_
  have N109_ := Fr.snoc X109 N105_ ga
  refine Fin.by (fun tt_ kk_ => XS.aloadN X109.here hx rfl (hb hby d18_43) rfl rfl kk_) ?_
  have kp110 : Keep h0 T105.heap [a, v] := (Keep.refl h0 [a, v]).trans p105_0 (allS (Or.inl (List.mem_of_getElem? (i := 1) rfl)) all0)
  have kp111 : Keep h0 h109 [a, v] := kp110.wr W109 (Or.inl (List.mem_of_getElem? (i := 0) rfl))
  have E112 : Exa Z h109 a "java/lang/StringBuilder" := (E108.wr W109)
  have F113 : Fld Z h109 a "java/lang/AbstractStringBuilder" "value" "[B" (.ref v) := ((F0.keep p105_0 (ninS na nin0)).other W109 (Or.inr (slot_ne (Or.inl (w_ hw 78 rfl)) (Or.inl (w_ hw 105 rfl)) (by decide) (t := (.array .byte)) (t' := .int) (by decide) (by decide))))
  have F114 : Fld Z h109 a "java/lang/AbstractStringBuilder" "coder" "B" (.int (0 : Int32)) := ((F1.keep p105_0 (ninS na nin0)).other W109 (Or.inr (slot_ne (Or.inl (w_ hw 80 rfl)) (Or.inl (w_ hw 105 rfl)) (by decide) (t := .byte) (t' := .int) (by decide) (by decide))))
  have A115 : Arv Z h109 v kv .byte (70 : Int32) ((vs : List Value) ++ (us : List Value)) (.int 0) := (p105_1.other W109 (Ne.symm na))
  show Fin _ _ _ _ _ _ _ (T109.setTop (mkF m 44 #[.val (.ref a), .val (.ref x), .val (.int 1)] [(.ref a)]))
  exact Fin.ret (v := some (.ref a)) X109 (fun h => by rw [Bd.returns] at h; cases h) Bd.notSynchronized (by rw [e109]; exact ⟨rfl, N109_, kp111, E112, F113, F114, (F106.same W109), A115⟩) (by decide) (by decide) (fun fs hr => retA X109 hx Bd.returns rfl rfl (hb hby d18_44) hr)
def Q_sap36_1 (Z : State) (a : Addr) (v : Addr) (kv : ClassId) (vs : List Value) (x : Addr) (t : Addr) (kb : ClassId) (us : List Value) (G1 : Int32) (h0 : Heap) (n0 : Nat) (vv_ : Option Value) (hh_ : Heap) (LL_ : List Loc) : Prop := vv_ = some (.ref a) ∧ Fr n0 LL_ ∧ Keep h0 hh_ [a, v] ∧ Exa Z hh_ a "java/lang/StringBuilder" ∧ Fld Z hh_ a "java/lang/AbstractStringBuilder" "value" "[B" (.ref v) ∧ Fld Z hh_ a "java/lang/AbstractStringBuilder" "coder" "B" (.int (0 : Int32)) ∧ Fld Z hh_ a "java/lang/AbstractStringBuilder" "count" "I" (.int (37 : Int32)) ∧ Arv Z hh_ v kv .byte (70 : Int32) (vs ++ us) (.int 0)
set_option maxRecDepth 65536 in
set_option maxHeartbeats 40000000 in
theorem rm_sap36_1 (l : Launch) (Z : State) (a0 : Array Value) (hw : ∀ d ∈ tables_1, d.before a0 Z = true) (ws : List Jvm.Cond) (a : Addr) (v : Addr) (kv : ClassId) (vs : List Value) (x : Addr) (t : Addr) (kb : ClassId) (us : List Value) (G1 : Int32) (h0 : Heap) (n0 : Nat) (Z0 : n0 ≤ h0.size) (hvd : vs.length = 36) (hus : us.length = 1) (E0 : Exa Z h0 a "java/lang/StringBuilder") (F0 : Fld Z h0 a "java/lang/AbstractStringBuilder" "value" "[B" (.ref v)) (F1 : Fld Z h0 a "java/lang/AbstractStringBuilder" "coder" "B" (.int (0 : Int32))) (F2 : Fld Z h0 a "java/lang/AbstractStringBuilder" "count" "I" (.int (36 : Int32))) (A0 : Arv Z h0 v kv .byte (70 : Int32) vs (.int 0)) (E1 : Exa Z h0 x "java/lang/String") (F3 : Fld Z h0 x "java/lang/String" "value" "[B" (.ref t)) (F4 : Fld Z h0 x "java/lang/String" "coder" "B" (.int (0 : Int32))) (A1 : Arv Z h0 t kb .byte (1 : Int32) us (.int 0)) (ga : n0 ≤ a) (gv : n0 ≤ v) (na : a ≠ v) (S1 : Sta Z Z.heap "java/lang/String" "COMPACT_STRINGS" "Z" (.int G1)) (P1 : ¬ G1 = 0) (OL : Old Z n0 h0) :
    MetFree l y_20 (head1 (Jvm.Cond.code y_20 jdk_67_method_7_code 2 (some (.object "java/lang/StringBuilder")) :: ws) ({ frames := 4, cells := 0, slots := 0, locals := 61 } : Room)) (fun aa_ U => aa_ = #[(.ref a), (.ref x)] ∧ Z.Warmed39 U.vm ∧ U.heap = h0) (fun _ _ _ _ _ => True) (fun _ U o U' => ∃ vv_ LL_, o = .returned vv_ ∧ Q_sap36_1 Z a v kv vs x t kb us G1 h0 n0 vv_ U'.heap LL_ ∧ FrameEnd U o U' LL_ 0 0) := by
  refine MetFree.of_bodySF (plainFor_of_name pn_java_lang_StringBuilder) hisR ?_
  intro p e s m args below meth c s₁ Bd hml0 hP hK
  obtain ⟨rfl, hZ, hh⟩ := hP
  have hx := Bd.exec
  have hby := Bd.bytes
  have hml : c.maxLocals = 2 := hml0
  have hown : s.vm.findClass "java/lang/StringBuilder" = some m.cls := findClass_of_methodNamed Bd.named
  have hnm := (name_of_methodNamed Bd.named Bd.method).1
  have X0 : Stand p l e ({ frames := 4, cells := 0, slots := 0, locals := 61 } : Room) s m #[(.ref a), (.ref x)] below meth c s₁ [] 0 0 := Stand.of_body Bd
  have e0 : s₁.heap = h0 := by rw [← hh, Bd.state]; rfl
  have N0 := Fr.nil n0
  have ef : entryFrame m #[(.ref a), (.ref x)] 2 = mkF m 0 #[.val (.ref a), .val (.ref x)] [] := by first | (simp [entryFrame, mkF, argsToLocals, Value.category]; done) | rfl
  refine Fin.start (Q := Q_sap36_1 Z a v kv vs x t kb us G1 h0 n0) ef ?_
  refine Fin.by (fun tt_ kk_ => XS.aloadN X0.here hx rfl (hb hby d19_0) rfl rfl (XS.aloadN X0.here hx rfl (hb hby d19_1) rfl rfl kk_)) ?_
  obtain ⟨v101, _, ⟨T101, L101, k101, n101⟩, -, X101, ⟨Lc101, hQ101, l101, y101, z101⟩, st101⟩ := superBack X0 hx hZ (y := y_19) hown (w_ hw 89 rfl) (own_same (z := y_13) (y := y_19) (w_ hw 109 rfl) rfl (w_ hw 90 rfl) (by decide)) (w_ hw 90 rfl) (w_ hw 91 rfl) (by decide) (backOf (W := 0) (rm_app36_1 l Z a0 hw [] a v kv (vs : List Value) x t kb (us : List Value) G1 h0 n0 Z0 hvd hus E0 F0 F1 F2 A0 E1 F3 F4 A1 ga gv na S1 P1 OL) hZ (w_ hw 93 rfl) (w_ hw 73 rfl) (by decide) (by decide)) e0 (Ins.self E0) (g := (mkF m 2 #[.val (.ref a), .val (.ref x)] [(.ref x), (.ref a)])) rfl (by rw [hml]; rfl) (w_ hw 93 rfl) (argsL := [(.ref x)]) (rest := []) (lenOf pd_467 rfl) rfl (by show 2 * 0 + _ ≤ _; exact Nat.le_of_eq rfl) (hb hby d19_2) (fun _ _ => ⟨rfl, e0, (by decide : 0 + 0 ≤ _), (by decide : 0 + 0 ≤ _)⟩)
  dsimp only [Pt.U, Pt.locs, Pt.cells, Pt.slots] at X101 l101 y101 z101 st101 hQ101
  subst l101 y101 z101
  obtain ⟨rfl, Nq101, p101_0, p101_1, p101_2, p101_3, p101_4, p101_5⟩ := hQ101
  have N101_ := Fr.app N0 Nq101
  refine Fin.byS st101 ?_
  refine Fin.by (fun tt_ kk_ => XS.pop X101.here hx rfl (hb hby d19_5) rfl rfl (XS.aloadN X101.here hx rfl (hb hby d19_6) rfl rfl kk_)) ?_
  have kp102 : Keep h0 T101.heap [a, v] := (Keep.refl h0 [a, v]).trans p101_0 (allS (Or.inl (List.mem_of_getElem? (i := 0) rfl)) (allS (Or.inl (List.mem_of_getElem? (i := 1) rfl)) all0))
  show Fin _ _ _ _ _ _ _ (T101.setTop (mkF m 7 #[.val (.ref a), .val (.ref x)] [(.ref a)]))
  exact Fin.ret (v := some (.ref a)) X101 (fun h => by rw [Bd.returns] at h; cases h) Bd.notSynchronized (⟨rfl, N101_, kp102, p101_1, p101_2, p101_3, p101_4, p101_5⟩) (by decide) (by decide) (fun fs hr => retA X101 hx Bd.returns rfl rfl (hb hby d19_7) hr)
theorem d10_9 : decode jdk_29_method_69_code 9 = .ok (.iload_n 1, 1) := by decide +kernel
def Q_mny (Z : State) (x : Int32) (y : Int32) (h0 : Heap) (n0 : Nat) (vv_ : Option Value) (hh_ : Heap) (LL_ : List Loc) : Prop := vv_ = some (.int y) ∧ Fr n0 LL_ ∧ hh_ = h0
set_option maxRecDepth 65536 in
set_option maxHeartbeats 40000000 in
theorem rm_mny (l : Launch) (Z : State) (a0 : Array Value) (hw : ∀ d ∈ tables_1, d.before a0 Z = true) (ws : List Jvm.Cond) (x : Int32) (y : Int32) (h0 : Heap) (n0 : Nat) (Z0 : n0 ≤ h0.size) (hxy : y < x) :
    MetFree l y_11 (head1 (Jvm.Cond.code y_11 jdk_29_method_69_code 2 (some .int) :: ws) ({ frames := 0, cells := 0, slots := 0, locals := 0 } : Room)) (fun aa_ U => aa_ = #[(.int x), (.int y)] ∧ Z.Warmed39 U.vm ∧ U.heap = h0) (fun _ _ _ _ _ => True) (fun _ U o U' => ∃ vv_ LL_, o = .returned vv_ ∧ Q_mny Z x y h0 n0 vv_ U'.heap LL_ ∧ FrameEnd U o U' LL_ 0 0) := by
  refine MetFree.of_bodySF (Jvm.Free.JP.mathPlain rfl (by decide +kernel)) hisR ?_
  intro p e s m args below meth c s₁ Bd hml0 hP hK
  obtain ⟨rfl, hZ, hh⟩ := hP
  have hx := Bd.exec
  have hby := Bd.bytes
  have hml : c.maxLocals = 2 := hml0
  have hown : s.vm.findClass "java/lang/Math" = some m.cls := findClass_of_methodNamed Bd.named
  have hnm := (name_of_methodNamed Bd.named Bd.method).1
  have X0 : Stand p l e ({ frames := 0, cells := 0, slots := 0, locals := 0 } : Room) s m #[(.int x), (.int y)] below meth c s₁ [] 0 0 := Stand.of_body Bd
  have e0 : s₁.heap = h0 := by rw [← hh, Bd.state]; rfl
  have N0 := Fr.nil n0
  have ef : entryFrame m #[(.int x), (.int y)] 2 = mkF m 0 #[.val (.int x), .val (.int y)] [] := by first | (simp [entryFrame, mkF, argsToLocals, Value.category]; done) | rfl
  refine Fin.start (Q := Q_mny Z x y h0 n0) ef ?_
  refine Fin.by (fun tt_ kk_ => XS.iloadN X0.here hx rfl (hb hby d10_0) rfl (XS.iloadN X0.here hx rfl (hb hby d10_1) rfl kk_)) ?_
  show Fin _ _ _ _ _ _ _ (s₁.setTop (mkF m 2 #[.val (.int x), .val (.int y)] [(.int y), (.int x)]))
  refine Fin.by (fun tt_ kk_ => XS.icmpYes X0.here hx rfl (pc0 := 2) (pc' := 9) rfl (hb hby d10_2) rfl (tlt (hxy : y < x)).2.2.1 (by decide) (by decide) kk_) ?_
  refine Fin.by (fun tt_ kk_ => XS.iloadN X0.here hx rfl (hb hby d10_9) rfl kk_) ?_
  show Fin _ _ _ _ _ _ _ (s₁.setTop (mkF m 10 #[.val (.int x), .val (.int y)] [(.int y)]))
  exact Fin.ret (v := some (.int y)) X0 (fun h => by rw [Bd.returns] at h; cases h) Bd.notSynchronized (by rw [e0]; exact ⟨rfl, N0, rfl⟩) (by decide) (by decide) (fun fs hr => retI X0 hx Bd.returns (hb hby d10_10) hr)
abbrev y_21 : MethodName := (⟨"java/util/Arrays", "checkLength", "(II)V"⟩ : MethodName)
theorem d20_0 : decode jdk_65_method_131_code 0 = .ok (.iload_n 1, 1) := by decide +kernel
theorem d20_1 : decode jdk_65_method_131_code 1 = .ok (.iload_n 0, 1) := by decide +kernel
theorem d20_2 : decode jdk_65_method_131_code 2 = .ok (.if_icmp .ge 35, 3) := by decide +kernel
theorem d20_37 : decode jdk_65_method_131_code 37 = .ok (.return_, 1) := by decide +kernel
def Q_chk37 (Z : State)  (h0 : Heap) (n0 : Nat) (vv_ : Option Value) (hh_ : Heap) (LL_ : List Loc) : Prop := vv_ = none ∧ Fr n0 LL_ ∧ hh_ = h0
set_option maxRecDepth 65536 in
set_option maxHeartbeats 40000000 in
theorem rm_chk37 (l : Launch) (Z : State) (a0 : Array Value) (hw : ∀ d ∈ tables_1, d.before a0 Z = true) (ws : List Jvm.Cond)  (h0 : Heap) (n0 : Nat) (Z0 : n0 ≤ h0.size) :
    MetFree l y_21 (head1 (Jvm.Cond.code y_21 jdk_65_method_131_code 2 none :: ws) ({ frames := 0, cells := 0, slots := 0, locals := 0 } : Room)) (fun aa_ U => aa_ = #[(.int (0 : Int32)), (.int (37 : Int32))] ∧ Z.Warmed39 U.vm ∧ U.heap = h0) (fun _ _ _ _ _ => True) (fun _ U o U' => ∃ vv_ LL_, o = .returned vv_ ∧ Q_chk37 Z  h0 n0 vv_ U'.heap LL_ ∧ FrameEnd U o U' LL_ 0 0) := by
  refine MetFree.of_bodySF (plainFor_of_name pn_java_util_Arrays) hisR ?_
  intro p e s m args below meth c s₁ Bd hml0 hP hK
  obtain ⟨rfl, hZ, hh⟩ := hP
  have hx := Bd.exec
  have hby := Bd.bytes
  have hml : c.maxLocals = 2 := hml0
  have hown : s.vm.findClass "java/util/Arrays" = some m.cls := findClass_of_methodNamed Bd.named
  have hnm := (name_of_methodNamed Bd.named Bd.method).1
  have X0 : Stand p l e ({ frames := 0, cells := 0, slots := 0, locals := 0 } : Room) s m #[(.int (0 : Int32)), (.int (37 : Int32))] below meth c s₁ [] 0 0 := Stand.of_body Bd
  have e0 : s₁.heap = h0 := by rw [← hh, Bd.state]; rfl
  have N0 := Fr.nil n0
  have ef : entryFrame m #[(.int (0 : Int32)), (.int (37 : Int32))] 2 = mkF m 0 #[.val (.int (0 : Int32)), .val (.int (37 : Int32))] [] := by first | (simp [entryFrame, mkF, argsToLocals, Value.category]; done) | rfl
  refine Fin.start (Q := Q_chk37 Z  h0 n0) ef ?_
  refine Fin.by (fun tt_ kk_ => XS.iloadN X0.here hx rfl (hb hby d20_0) rfl (XS.iloadN X0.here hx rfl (hb hby d20_1) rfl kk_)) ?_
  show Fin _ _ _ _ _ _ _ (s₁.setTop (mkF m 2 #[.val (.int 0), .val (.int 37)] [(.int 0), (.int 37)]))
  refine Fin.by (fun tt_ kk_ => XS.icmpYes X0.here hx rfl (pc0 := 2) (pc' := 37) rfl (hb hby d20_2) rfl (flt (by decide : ¬ (37 : Int32) < (0 : Int32))).2.1 (by decide) (by decide) kk_) ?_
  show Fin _ _ _ _ _ _ _ (s₁.setTop (mkF m 37 #[.val (.int 0), .val (.int 37)] []))
  exact Fin.ret (v := none) X0 (fun _ => rfl) Bd.notSynchronized (by rw [e0]; exact ⟨rfl, N0, rfl⟩) (by decide) (by decide) (fun fs hr => X0.returnOut hx Bd.returns (hb hby d20_37) hr)
abbrev y_22 : MethodName := (⟨"java/util/Arrays", "copyOfRangeByte", "([BII)[B"⟩ : MethodName)
theorem d21_0 : decode jdk_65_method_133_code 0 = .ok (.iload_n 1, 1) := by decide +kernel
theorem d21_1 : decode jdk_65_method_133_code 1 = .ok (.iload_n 2, 1) := by decide +kernel
theorem pd_479 : parseMethodDescriptor "(II)V" = some ⟨[.int, .int], none⟩ := by decide +kernel
theorem d21_2 : decode jdk_65_method_133_code 2 = .ok (.invokestatic 343, 3) := by decide +kernel
theorem d21_5 : decode jdk_65_method_133_code 5 = .ok (.iload_n 2, 1) := by decide +kernel
theorem d21_6 : decode jdk_65_method_133_code 6 = .ok (.iload_n 1, 1) := by decide +kernel
theorem d21_7 : decode jdk_65_method_133_code 7 = .ok (.isub, 1) := by decide +kernel
theorem d21_8 : decode jdk_65_method_133_code 8 = .ok (.istore_n 3, 1) := by decide +kernel
theorem d21_9 : decode jdk_65_method_133_code 9 = .ok (.iload_n 3, 1) := by decide +kernel
theorem d21_10 : decode jdk_65_method_133_code 10 = .ok (.newarray .byte, 2) := by decide +kernel
theorem d21_12 : decode jdk_65_method_133_code 12 = .ok (.astore 4, 2) := by decide +kernel
theorem d21_14 : decode jdk_65_method_133_code 14 = .ok (.aload_n 0, 1) := by decide +kernel
theorem d21_15 : decode jdk_65_method_133_code 15 = .ok (.iload_n 1, 1) := by decide +kernel
theorem d21_16 : decode jdk_65_method_133_code 16 = .ok (.aload 4, 2) := by decide +kernel
theorem d21_18 : decode jdk_65_method_133_code 18 = .ok (.iconst 0, 1) := by decide +kernel
theorem d21_19 : decode jdk_65_method_133_code 19 = .ok (.aload_n 0, 1) := by decide +kernel
theorem d21_20 : decode jdk_65_method_133_code 20 = .ok (.arraylength, 1) := by decide +kernel
theorem d21_21 : decode jdk_65_method_133_code 21 = .ok (.iload_n 1, 1) := by decide +kernel
theorem d21_22 : decode jdk_65_method_133_code 22 = .ok (.isub, 1) := by decide +kernel
theorem d21_23 : decode jdk_65_method_133_code 23 = .ok (.iload_n 3, 1) := by decide +kernel
theorem d21_24 : decode jdk_65_method_133_code 24 = .ok (.invokestatic 304, 3) := by decide +kernel
theorem d21_27 : decode jdk_65_method_133_code 27 = .ok (.invokestatic 150, 3) := by decide +kernel
theorem d21_30 : decode jdk_65_method_133_code 30 = .ok (.aload 4, 2) := by decide +kernel
theorem d21_32 : decode jdk_65_method_133_code 32 = .ok (.areturn, 1) := by decide +kernel
def Q_crb70_37 (Z : State) (v : Addr) (kv : ClassId) (vs : List Value) (h0 : Heap) (n0 : Nat) (vv_ : Option Value) (hh_ : Heap) (LL_ : List Loc) : Prop := ∃ (t : Addr), ∃ (k : ClassId), vv_ = some (.ref t) ∧ Fr n0 LL_ ∧ Keep h0 hh_ [] ∧ h0.size ≤ t ∧ Arv Z hh_ t k .byte (37 : Int32) vs (.int 0)
set_option maxRecDepth 65536 in
set_option maxHeartbeats 40000000 in
theorem rm_crb70_37 (l : Launch) (Z : State) (a0 : Array Value) (hw : ∀ d ∈ tables_1, d.before a0 Z = true) (ws : List Jvm.Cond) (v : Addr) (kv : ClassId) (vs : List Value) (h0 : Heap) (n0 : Nat) (Z0 : n0 ≤ h0.size) (hl : vs.length = 37) (A0 : Arv Z h0 v kv .byte (70 : Int32) vs (.int 0)) :
    MetFree l y_22 (head1 (Jvm.Cond.code y_22 jdk_65_method_133_code 5 (some (.array .byte)) :: ws) ({ frames := 1, cells := 1, slots := 37, locals := 18 } : Room)) (fun aa_ U => aa_ = #[(.ref v), (.int (0 : Int32)), (.int (37 : Int32))] ∧ Z.Warmed39 U.vm ∧ U.heap = h0) (fun _ _ _ _ _ => True) (fun _ U o U' => ∃ vv_ LL_, o = .returned vv_ ∧ Q_crb70_37 Z v kv vs h0 n0 vv_ U'.heap LL_ ∧ FrameEnd U o U' LL_ 1 37) := by
  refine MetFree.of_bodySF (plainFor_of_name pn_java_util_Arrays) hisR ?_
  intro p e s m args below meth c s₁ Bd hml0 hP hK
  obtain ⟨rfl, hZ, hh⟩ := hP
  have hx := Bd.exec
  have hby := Bd.bytes
  have hml : c.maxLocals = 5 := hml0
  have hown : s.vm.findClass "java/util/Arrays" = some m.cls := findClass_of_methodNamed Bd.named
  have hnm := (name_of_methodNamed Bd.named Bd.method).1
  have X0 : Stand p l e ({ frames := 1, cells := 1, slots := 37, locals := 18 } : Room) s m #[(.ref v), (.int (0 : Int32)), (.int (37 : Int32))] below meth c s₁ [] 0 0 := Stand.of_body Bd
  have e0 : s₁.heap = h0 := by rw [← hh, Bd.state]; rfl
  have N0 := Fr.nil n0
  have ef : entryFrame m #[(.ref v), (.int (0 : Int32)), (.int (37 : Int32))] 5 = mkF m 0 #[.val (.ref v), .val (.int (0 : Int32)), .val (.int (37 : Int32)), .unset, .unset] [] := by first | (simp [entryFrame, mkF, argsToLocals, Value.category]; done) | rfl
  refine Fin.start (Q := Q_crb70_37 Z v kv vs h0 n0) ef ?_
  refine Fin.by (fun tt_ kk_ => XS.iloadN X0.here hx rfl (hb hby d21_0) rfl (XS.iloadN X0.here hx rfl (hb hby d21_1) rfl kk_)) ?_
  obtain ⟨v101, _, ⟨T101, L101, k101, n101⟩, -, X101, ⟨Lc101, hQ101, l101, y101, z101⟩, st101⟩ := Jvm.LawKit.callS X0 hx (y := y_21) hown (mvT hZ (w_ hw 198 rfl)) (mvT hZ (w_ hw 199 rfl)) (mvT hZ (w_ hw 128 rfl)) (mvT hZ (w_ hw 200 rfl)) (by decide) (backOf (W := 0) (rm_chk37 l Z a0 hw []  h0 n0 Z0 ) hZ (w_ hw 200 rfl) (w_ hw 128 rfl) (by decide) (by decide)) (g := (mkF m 2 #[.val (.ref v), .val (.int 0), .val (.int 37), .unset, .unset] [(.int 37), (.int 0)])) rfl (by rw [hml]; rfl) (argsL := [(.int 0), (.int 37)]) (rest := []) (lenOf pd_479 rfl) rfl (by show 2 * 0 + _ ≤ _; exact Nat.le_of_eq rfl) (hb hby d21_2) (fun _ _ => ⟨rfl, e0, (by decide : 0 + 0 ≤ _), (by decide : 0 + 0 ≤ _)⟩)
  dsimp only [Pt.U, Pt.locs, Pt.cells, Pt.slots] at X101 l101 y101 z101 st101 hQ101
  subst l101 y101 z101
  obtain ⟨rfl, Nq101, e101_⟩ := hQ101
  have N101_ := Fr.app N0 Nq101
  refine Fin.by (fun tt_ kk_ => st101 tt_ kk_) ?_
  have e101 := e101_
  refine Fin.by (fun tt_ kk_ => XS.iloadN X101.here hx rfl (hb hby d21_5) rfl (XS.iloadN X101.here hx rfl (hb hby d21_6) rfl (XS.isub X101.here hx rfl (hb hby d21_7) rfl (XS.istoreN X101.here hx rfl (hb hby d21_8) rfl (l' := #[.val (.ref v), .val (.int 0), .val (.int 37), .val (.int 37), .unset]) rfl (XS.iloadN X101.here hx rfl (hb hby d21_9) rfl kk_))))) ?_
  obtain ⟨T102, h102, k102, X102, e102, E102, A102, st102⟩ := newP X101 hx hZ (w_ hw 23 rfl) e101 (g := (mkF m 10 #[.val (.ref v), .val (.int 0), .val (.int 37), .val (.int 37), .unset] [(.int 37)])) rfl (hb hby d21_10) rfl (by decide) (cap := 37) (by decide) (by decide) (by decide) (by decide)
  obtain ⟨a102, g102⟩ : ∃ z, z = h0.size := ⟨_, rfl⟩
  rw [← g102] at A102 st102
  refine Fin.by (fun tt_ kk_ => st102 tt_ kk_) ?_
  have V102 : Arv Z h102 a102 k102 .byte (37 : Int32) [] (.int (0 : Int32)) := Arv.new A102 (by decide)
  refine Fin.by (fun tt_ kk_ => XS.astore X102.here hx rfl (hb hby d21_12) rfl rfl (l' := #[.val (.ref v), .val (.int 0), .val (.int 37), .val (.int 37), .val (.ref a102)]) rfl (XS.aloadN X102.here hx rfl (hb hby d21_14) rfl rfl (XS.iloadN X102.here hx rfl (hb hby d21_15) rfl (XS.aload X102.here hx rfl (hb hby d21_16) rfl rfl (XS.iconst X102.here hx rfl (hb hby d21_18) (XS.aloadN X102.here hx rfl (hb hby d21_19) rfl rfl kk_)))))) ?_
  have A103 : Arv Z h102 v kv .byte (70 : Int32) vs (.int 0) := (A0.ext E102)
  obtain ⟨cl104, Ar104, q104, S104, N104, H104, G104⟩ := id A103
  refine Fin.by (fun tt_ kk_ => X102.arraylength hx (by rw [e102]; exact Ar104.1) (State.isArrayOf_alike hZ.alike Ar104.2.1) (g := (mkF m 20 #[.val (.ref v), .val (.int 0), .val (.int 37), .val (.int 37), .val (.ref a102)] [(.ref v), (.int 0), (.ref a102), (.int 0), (.ref v)])) rfl rfl (hb hby d21_20) _ kk_) ?_
  rw [len_of S104 N104]
  refine Fin.by (fun tt_ kk_ => XS.iloadN X102.here hx rfl (hb hby d21_21) rfl (XS.isub X102.here hx rfl (hb hby d21_22) rfl (XS.iloadN X102.here hx rfl (hb hby d21_23) rfl kk_))) ?_
  have z105 : n0 ≤ h102.size := Nat.le_trans Z0 E102.1
  obtain ⟨v106, _, ⟨T106, L106, k106, n106⟩, -, X106, ⟨Lc106, hQ106, l106, y106, z106⟩, st106⟩ := Jvm.LawKit.callS X102 hx (y := y_11) hown (mvT hZ (w_ hw 130 rfl)) (mvT hZ (w_ hw 131 rfl)) (mvT hZ (w_ hw 122 rfl)) (mvT hZ (w_ hw 132 rfl)) (by decide) (backOf (W := 4) (rm_mny l Z a0 hw [] (70 : Int32) (37 : Int32) h102 n0 z105 (by decide)) hZ (w_ hw 132 rfl) (w_ hw 122 rfl) (by decide) (by decide)) (g := (mkF m 24 #[.val (.ref v), .val (.int 0), .val (.int 37), .val (.int 37), .val (.ref a102)] [(.int 37), (.int 70), (.int 0), (.ref a102), (.int 0), (.ref v)])) rfl (by rw [hml]; rfl) (argsL := [(.int 70), (.int 37)]) (rest := [(.int 0), (.ref a102), (.int 0), (.ref v)]) (lenOf pd_291 rfl) rfl (by show 2 * 0 + _ ≤ _; exact Nat.le_of_eq rfl) (hb hby d21_24) (fun _ _ => ⟨rfl, e102, (by decide : 1 + 0 ≤ _), (by decide : 37 + 0 ≤ _)⟩)
  dsimp only [Pt.U, Pt.locs, Pt.cells, Pt.slots] at X106 l106 y106 z106 st106 hQ106
  subst l106 y106 z106
  obtain ⟨rfl, Nq106, e106_⟩ := hQ106
  have N106_ := Fr.app N101_ Nq106
  refine Fin.by (fun tt_ kk_ => st106 tt_ kk_) ?_
  have e106 := e106_
  have g107 : n0 ≤ a102 := Nat.le_trans Z0 (Nat.le_of_eq g102.symm)
  obtain ⟨T108, h108, L108, X108, e108, Nc108, K108, V108, st108⟩ := own_cp X106 hx hZ hown (w_ hw 133 rfl) (w_ hw 136 rfl) (w_ hw 134 rfl) (w_ hw 135 rfl) e106 A103 V102 (by decide) (by decide) (by decide) (by decide) rfl (by rw [hl]; decide) N106_ g107 (g := (mkF m 27 #[.val (.ref v), .val (.int 0), .val (.int 37), .val (.int 37), .val (.ref a102)] [(.int 37), (.int 0), (.ref a102), (.int 0), (.ref v)])) rfl (by rw [hml]; rfl) rfl (hb hby d21_27) (by decide) (W := 0) (by show 2 * 0 + _ ≤ _; exact Nat.le_of_eq rfl) (by decide)
  refine Fin.by (fun tt_ kk_ => st108 tt_ kk_) ?_
  refine Fin.by (fun tt_ kk_ => XS.aload X108.here hx rfl (hb hby d21_30) rfl rfl kk_) ?_
  have kp109 : Keep h0 h102 [] := (Keep.refl h0 []).ext E102
  have kp110 : Keep h0 h108 [] := kp109.trans K108 (allS (Or.inr (Nat.le_trans (Nat.le_refl _) (Nat.le_of_eq g102.symm))) all0)
  show Fin _ _ _ _ _ _ _ (T108.setTop (mkF m 32 #[.val (.ref v), .val (.int 0), .val (.int 37), .val (.int 37), .val (.ref a102)] [(.ref a102)]))
  exact Fin.ret (v := some (.ref a102)) X108 (fun h => by rw [Bd.returns] at h; cases h) Bd.notSynchronized (by rw [e108]; exact ⟨a102, k102, rfl, Nc108, kp110, (Nat.le_trans (Nat.le_refl _) (Nat.le_of_eq g102.symm)), V108⟩) (by decide) (by decide) (fun fs hr => retA X108 hx Bd.returns rfl rfl (hb hby d21_32) hr)
abbrev y_23 : MethodName := (⟨"java/util/Arrays", "copyOfRange", "([BII)[B"⟩ : MethodName)
theorem d22_0 : decode jdk_65_method_132_code 0 = .ok (.iload_n 1, 1) := by decide +kernel
theorem d22_1 : decode jdk_65_method_132_code 1 = .ok (.ifCond .ne 9, 3) := by decide +kernel
theorem d22_4 : decode jdk_65_method_132_code 4 = .ok (.iload_n 2, 1) := by decide +kernel
theorem d22_5 : decode jdk_65_method_132_code 5 = .ok (.aload_n 0, 1) := by decide +kernel
theorem d22_6 : decode jdk_65_method_132_code 6 = .ok (.arraylength, 1) := by decide +kernel
theorem d22_7 : decode jdk_65_method_132_code 7 = .ok (.if_icmp .eq 10, 3) := by decide +kernel
theorem d22_10 : decode jdk_65_method_132_code 10 = .ok (.aload_n 0, 1) := by decide +kernel
theorem d22_11 : decode jdk_65_method_132_code 11 = .ok (.iload_n 1, 1) := by decide +kernel
theorem d22_12 : decode jdk_65_method_132_code 12 = .ok (.iload_n 2, 1) := by decide +kernel
theorem pd_510 : parseMethodDescriptor "([BII)[B" = some ⟨[(.array .byte), .int, .int], some (.array .byte)⟩ := by decide +kernel
theorem d22_13 : decode jdk_65_method_132_code 13 = .ok (.invokestatic 339, 3) := by decide +kernel
theorem d22_16 : decode jdk_65_method_132_code 16 = .ok (.areturn, 1) := by decide +kernel
def Q_cor70_37 (Z : State) (v : Addr) (kv : ClassId) (vs : List Value) (h0 : Heap) (n0 : Nat) (vv_ : Option Value) (hh_ : Heap) (LL_ : List Loc) : Prop := ∃ (t : Addr), ∃ (k : ClassId), vv_ = some (.ref t) ∧ Fr n0 LL_ ∧ Keep h0 hh_ [] ∧ h0.size ≤ t ∧ Arv Z hh_ t k .byte (37 : Int32) vs (.int 0)
set_option maxRecDepth 65536 in
set_option maxHeartbeats 40000000 in
theorem rm_cor70_37 (l : Launch) (Z : State) (a0 : Array Value) (hw : ∀ d ∈ tables_1, d.before a0 Z = true) (ws : List Jvm.Cond) (v : Addr) (kv : ClassId) (vs : List Value) (h0 : Heap) (n0 : Nat) (Z0 : n0 ≤ h0.size) (hl : vs.length = 37) (A0 : Arv Z h0 v kv .byte (70 : Int32) vs (.int 0)) :
    MetFree l y_23 (head1 (Jvm.Cond.code y_23 jdk_65_method_132_code 3 (some (.array .byte)) :: ws) ({ frames := 2, cells := 1, slots := 37, locals := 34 } : Room)) (fun aa_ U => aa_ = #[(.ref v), (.int (0 : Int32)), (.int (37 : Int32))] ∧ Z.Warmed39 U.vm ∧ U.heap = h0) (fun _ _ _ _ _ => True) (fun _ U o U' => ∃ vv_ LL_, o = .returned vv_ ∧ Q_cor70_37 Z v kv vs h0 n0 vv_ U'.heap LL_ ∧ FrameEnd U o U' LL_ 1 37) := by
  refine MetFree.of_bodySF (plainFor_of_name pn_java_util_Arrays) hisR ?_
  intro p e s m args below meth c s₁ Bd hml0 hP hK
  obtain ⟨rfl, hZ, hh⟩ := hP
  have hx := Bd.exec
  have hby := Bd.bytes
  have hml : c.maxLocals = 3 := hml0
  have hown : s.vm.findClass "java/util/Arrays" = some m.cls := findClass_of_methodNamed Bd.named
  have hnm := (name_of_methodNamed Bd.named Bd.method).1
  have X0 : Stand p l e ({ frames := 2, cells := 1, slots := 37, locals := 34 } : Room) s m #[(.ref v), (.int (0 : Int32)), (.int (37 : Int32))] below meth c s₁ [] 0 0 := Stand.of_body Bd
  have e0 : s₁.heap = h0 := by rw [← hh, Bd.state]; rfl
  have N0 := Fr.nil n0
  have ef : entryFrame m #[(.ref v), (.int (0 : Int32)), (.int (37 : Int32))] 3 = mkF m 0 #[.val (.ref v), .val (.int (0 : Int32)), .val (.int (37 : Int32))] [] := by first | (simp [entryFrame, mkF, argsToLocals, Value.category]; done) | rfl
  refine Fin.start (Q := Q_cor70_37 Z v kv vs h0 n0) ef ?_
  refine Fin.by (fun tt_ kk_ => XS.iloadN X0.here hx rfl (hb hby d22_0) rfl kk_) ?_
  show Fin _ _ _ _ _ _ _ (s₁.setTop (mkF m 1 #[.val (.ref v), .val (.int 0), .val (.int 37)] [(.int 0)]))
  refine Fin.by (fun tt_ kk_ => XS.ifNo X0.here hx rfl (hb hby d22_1) rfl ((if0 _ _).trans (teq (rfl : (0 : Int32) = (0 : Int32))).2) kk_) ?_
  refine Fin.by (fun tt_ kk_ => XS.iloadN X0.here hx rfl (hb hby d22_4) rfl (XS.aloadN X0.here hx rfl (hb hby d22_5) rfl rfl kk_)) ?_
  obtain ⟨cl101, Ar101, q101, S101, N101, H101, G101⟩ := id A0
  refine Fin.by (fun tt_ kk_ => X0.arraylength hx (by rw [e0]; exact Ar101.1) (State.isArrayOf_alike hZ.alike Ar101.2.1) (g := (mkF m 6 #[.val (.ref v), .val (.int 0), .val (.int 37)] [(.ref v), (.int 37)])) rfl rfl (hb hby d22_6) _ kk_) ?_
  rw [len_of S101 N101]
  show Fin _ _ _ _ _ _ _ (s₁.setTop (mkF m 7 #[.val (.ref v), .val (.int 0), .val (.int 37)] [(.int 70), (.int 37)]))
  refine Fin.by (fun tt_ kk_ => XS.icmpNo X0.here hx rfl (hb hby d22_7) rfl (feq (by decide : ¬ (37 : Int32) = (70 : Int32))).1 kk_) ?_
  refine Fin.by (fun tt_ kk_ => XS.aloadN X0.here hx rfl (hb hby d22_10) rfl rfl (XS.iloadN X0.here hx rfl (hb hby d22_11) rfl (XS.iloadN X0.here hx rfl (hb hby d22_12) rfl kk_))) ?_
  obtain ⟨v102, _, ⟨T102, L102, k102, n102⟩, -, X102, ⟨Lc102, hQ102, l102, y102, z102⟩, st102⟩ := Jvm.LawKit.callS X0 hx (y := y_22) hown (mvT hZ (w_ hw 195 rfl)) (mvT hZ (w_ hw 196 rfl)) (mvT hZ (w_ hw 128 rfl)) (mvT hZ (w_ hw 197 rfl)) (by decide) (backOf (W := 0) (rm_crb70_37 l Z a0 hw [] v kv (vs : List Value) h0 n0 Z0 hl A0) hZ (w_ hw 197 rfl) (w_ hw 128 rfl) (by decide) (by decide)) (g := (mkF m 13 #[.val (.ref v), .val (.int 0), .val (.int 37)] [(.int 37), (.int 0), (.ref v)])) rfl (by rw [hml]; rfl) (argsL := [(.ref v), (.int 0), (.int 37)]) (rest := []) (lenOf pd_510 rfl) rfl (by show 2 * 0 + _ ≤ _; exact Nat.le_of_eq rfl) (hb hby d22_13) (fun _ _ => ⟨rfl, e0, (by decide : 0 + 1 ≤ _), (by decide : 0 + 37 ≤ _)⟩)
  dsimp only [Pt.U, Pt.locs, Pt.cells, Pt.slots] at X102 l102 y102 z102 st102 hQ102
  subst l102 y102 z102
  obtain ⟨t103, k104, rfl, Nq102, p102_0, p102_1, p102_2⟩ := hQ102
  have N102_ := Fr.app N0 Nq102
  refine Fin.by (fun tt_ kk_ => st102 tt_ kk_) ?_
  have kp105 : Keep h0 T102.heap [] := (Keep.refl h0 []).trans p102_0 all0
  show Fin _ _ _ _ _ _ _ (T102.setTop (mkF m 16 #[.val (.ref v), .val (.int 0), .val (.int 37)] [(.ref t103)]))
  exact Fin.ret (v := some (.ref t103)) X102 (fun h => by rw [Bd.returns] at h; cases h) Bd.notSynchronized (⟨t103, k104, rfl, N102_, kp105, (Nat.le_trans (Nat.le_refl _) p102_1), p102_2⟩) (by decide) (by decide) (fun fs hr => retA X102 hx Bd.returns rfl rfl (hb hby d22_16) hr)
abbrev y_24 : MethodName := (⟨"java/lang/AbstractStringBuilder", "length", "()I"⟩ : MethodName)
theorem d23_0 : decode jdk_68_method_6_code 0 = .ok (.aload_n 0, 1) := by decide +kernel
theorem d23_1 : decode jdk_68_method_6_code 1 = .ok (.getfield 79, 3) := by decide +kernel
theorem d23_4 : decode jdk_68_method_6_code 4 = .ok (.ireturn, 1) := by decide +kernel
def Q_asl (Z : State) (a : Addr) (ct : Int32) (h0 : Heap) (n0 : Nat) (vv_ : Option Value) (hh_ : Heap) (LL_ : List Loc) : Prop := vv_ = some (.int ct) ∧ Fr n0 LL_ ∧ hh_ = h0
set_option maxRecDepth 65536 in
set_option maxHeartbeats 40000000 in
theorem rm_asl (l : Launch) (Z : State) (a0 : Array Value) (hw : ∀ d ∈ tables_1, d.before a0 Z = true) (ws : List Jvm.Cond) (a : Addr) (ct : Int32) (h0 : Heap) (n0 : Nat) (Z0 : n0 ≤ h0.size) (E0 : Exa Z h0 a "java/lang/StringBuilder") (F2 : Fld Z h0 a "java/lang/AbstractStringBuilder" "count" "I" (.int ct)) :
    MetFree l y_24 (head1 (Jvm.Cond.code y_24 jdk_68_method_6_code 1 (some .int) :: ws) ({ frames := 0, cells := 0, slots := 0, locals := 0 } : Room)) (fun aa_ U => aa_ = #[(.ref a)] ∧ Z.Warmed39 U.vm ∧ U.heap = h0) (fun _ _ _ _ _ => True) (fun _ U o U' => ∃ vv_ LL_, o = .returned vv_ ∧ Q_asl Z a ct h0 n0 vv_ U'.heap LL_ ∧ FrameEnd U o U' LL_ 0 0) := by
  refine MetFree.of_bodySF (plainFor_of_name pn_java_lang_AbstractStringBuilder) hisR ?_
  intro p e s m args below meth c s₁ Bd hml0 hP hK
  obtain ⟨rfl, hZ, hh⟩ := hP
  have hx := Bd.exec
  have hby := Bd.bytes
  have hml : c.maxLocals = 1 := hml0
  have hown : s.vm.findClass "java/lang/AbstractStringBuilder" = some m.cls := findClass_of_methodNamed Bd.named
  have hnm := (name_of_methodNamed Bd.named Bd.method).1
  have X0 : Stand p l e ({ frames := 0, cells := 0, slots := 0, locals := 0 } : Room) s m #[(.ref a)] below meth c s₁ [] 0 0 := Stand.of_body Bd
  have e0 : s₁.heap = h0 := by rw [← hh, Bd.state]; rfl
  have N0 := Fr.nil n0
  have ef : entryFrame m #[(.ref a)] 1 = mkF m 0 #[.val (.ref a)] [] := by first | (simp [entryFrame, mkF, argsToLocals, Value.category]; done) | rfl
  refine Fin.start (Q := Q_asl Z a ct h0 n0) ef ?_
  refine Fin.by (fun tt_ kk_ => XS.aloadN X0.here hx rfl (hb hby d23_0) rfl rfl kk_) ?_
  obtain ⟨T101, X101, e101, st101⟩ := getF X0 hx hZ hown (host := "") (Or.inl (w_ hw 104 rfl)) Via.refl e0 F2 (g := (mkF m 1 #[.val (.ref a)] [(.ref a)])) rfl rfl (hb hby d23_1)
  refine Fin.by (fun tt_ kk_ => st101 tt_ kk_) ?_
  show Fin _ _ _ _ _ _ _ (T101.setTop (mkF m 4 #[.val (.ref a)] [(.int ct)]))
  exact Fin.ret (v := some (.int ct)) X101 (fun h => by rw [Bd.returns] at h; cases h) Bd.notSynchronized (by rw [e101]; exact ⟨rfl, N0, rfl⟩) (by decide) (by decide) (fun fs hr => retI X101 hx Bd.returns (hb hby d23_4) hr)
abbrev y_25 : MethodName := (⟨"java/lang/StringBuilder", "length", "()I"⟩ : MethodName)
theorem d24_0 : decode jdk_67_method_93_code 0 = .ok (.aload_n 0, 1) := by decide +kernel
theorem d24_1 : decode jdk_67_method_93_code 1 = .ok (.invokespecial 343, 3) := by decide +kernel
theorem d24_4 : decode jdk_67_method_93_code 4 = .ok (.ireturn, 1) := by decide +kernel
def Q_sbl (Z : State) (a : Addr) (ct : Int32) (h0 : Heap) (n0 : Nat) (vv_ : Option Value) (hh_ : Heap) (LL_ : List Loc) : Prop := vv_ = some (.int ct) ∧ Fr n0 LL_ ∧ hh_ = h0
set_option maxRecDepth 65536 in
set_option maxHeartbeats 40000000 in
theorem rm_sbl (l : Launch) (Z : State) (a0 : Array Value) (hw : ∀ d ∈ tables_1, d.before a0 Z = true) (ws : List Jvm.Cond) (a : Addr) (ct : Int32) (h0 : Heap) (n0 : Nat) (Z0 : n0 ≤ h0.size) (E0 : Exa Z h0 a "java/lang/StringBuilder") (F2 : Fld Z h0 a "java/lang/AbstractStringBuilder" "count" "I" (.int ct)) :
    MetFree l y_25 (head1 (Jvm.Cond.code y_25 jdk_67_method_93_code 1 (some .int) :: ws) ({ frames := 1, cells := 0, slots := 0, locals := 12 } : Room)) (fun aa_ U => aa_ = #[(.ref a)] ∧ Z.Warmed39 U.vm ∧ U.heap = h0) (fun _ _ _ _ _ => True) (fun _ U o U' => ∃ vv_ LL_, o = .returned vv_ ∧ Q_sbl Z a ct h0 n0 vv_ U'.heap LL_ ∧ FrameEnd U o U' LL_ 0 0) := by
  refine MetFree.of_bodySF (plainFor_of_name pn_java_lang_StringBuilder) hisR ?_
  intro p e s m args below meth c s₁ Bd hml0 hP hK
  obtain ⟨rfl, hZ, hh⟩ := hP
  have hx := Bd.exec
  have hby := Bd.bytes
  have hml : c.maxLocals = 1 := hml0
  have hown : s.vm.findClass "java/lang/StringBuilder" = some m.cls := findClass_of_methodNamed Bd.named
  have hnm := (name_of_methodNamed Bd.named Bd.method).1
  have X0 : Stand p l e ({ frames := 1, cells := 0, slots := 0, locals := 12 } : Room) s m #[(.ref a)] below meth c s₁ [] 0 0 := Stand.of_body Bd
  have e0 : s₁.heap = h0 := by rw [← hh, Bd.state]; rfl
  have N0 := Fr.nil n0
  have ef : entryFrame m #[(.ref a)] 1 = mkF m 0 #[.val (.ref a)] [] := by first | (simp [entryFrame, mkF, argsToLocals, Value.category]; done) | rfl
  refine Fin.start (Q := Q_sbl Z a ct h0 n0) ef ?_
  refine Fin.by (fun tt_ kk_ => XS.aloadN X0.here hx rfl (hb hby d24_0) rfl rfl kk_) ?_
  obtain ⟨v101, _, ⟨T101, L101, k101, n101⟩, -, X101, ⟨Lc101, hQ101, l101, y101, z101⟩, st101⟩ := superBack X0 hx hZ (y := y_24) hown (w_ hw 189 rfl) (own_same (z := y_13) (y := y_24) (w_ hw 109 rfl) rfl (w_ hw 185 rfl) (by decide)) (w_ hw 185 rfl) (w_ hw 91 rfl) (by decide) (backOf (W := 0) (rm_asl l Z a0 hw [] a ct h0 n0 Z0 E0 F2) hZ (w_ hw 190 rfl) (w_ hw 73 rfl) (by decide) (by decide)) e0 (Ins.self E0) (g := (mkF m 1 #[.val (.ref a)] [(.ref a)])) rfl (by rw [hml]; rfl) (w_ hw 190 rfl) (argsL := []) (rest := []) (lenOf pd_442 rfl) rfl (by show 2 * 0 + _ ≤ _; exact Nat.le_of_eq rfl) (hb hby d24_1) (fun _ _ => ⟨rfl, e0, (by decide : 0 + 0 ≤ _), (by decide : 0 + 0 ≤ _)⟩)
  dsimp only [Pt.U, Pt.locs, Pt.cells, Pt.slots] at X101 l101 y101 z101 st101 hQ101
  subst l101 y101 z101
  obtain ⟨rfl, Nq101, e101_⟩ := hQ101
  have N101_ := Fr.app N0 Nq101
  refine Fin.byS st101 ?_
  have e101 := e101_
  show Fin _ _ _ _ _ _ _ (T101.setTop (mkF m 4 #[.val (.ref a)] [(.int ct)]))
  exact Fin.ret (v := some (.int ct)) X101 (fun h => by rw [Bd.returns] at h; cases h) Bd.notSynchronized (by rw [e101]; exact ⟨rfl, N101_, rfl⟩) (by decide) (by decide) (fun fs hr => retI X101 hx Bd.returns (hb hby d24_4) hr)
abbrev y_26 : MethodName := (⟨"java/lang/AbstractStringBuilder", "isLatin1", "()Z"⟩ : MethodName)
theorem d25_0 : decode jdk_68_method_68_code 0 = .ok (.getstatic 18, 3) := by decide +kernel
theorem d25_3 : decode jdk_68_method_68_code 3 = .ok (.ifCond .eq 14, 3) := by decide +kernel
theorem d25_6 : decode jdk_68_method_68_code 6 = .ok (.aload_n 0, 1) := by decide +kernel
theorem d25_7 : decode jdk_68_method_68_code 7 = .ok (.getfield 22, 3) := by decide +kernel
theorem d25_10 : decode jdk_68_method_68_code 10 = .ok (.ifCond .ne 7, 3) := by decide +kernel
theorem d25_13 : decode jdk_68_method_68_code 13 = .ok (.iconst 1, 1) := by decide +kernel
theorem d25_14 : decode jdk_68_method_68_code 14 = .ok (.goto 4, 3) := by decide +kernel
theorem d25_18 : decode jdk_68_method_68_code 18 = .ok (.ireturn, 1) := by decide +kernel
def Q_isl (Z : State) (a : Addr) (G1 : Int32) (h0 : Heap) (n0 : Nat) (vv_ : Option Value) (hh_ : Heap) (LL_ : List Loc) : Prop := vv_ = some (.int (1 : Int32)) ∧ Fr n0 LL_ ∧ hh_ = h0
set_option maxRecDepth 65536 in
set_option maxHeartbeats 40000000 in
theorem rm_isl (l : Launch) (Z : State) (a0 : Array Value) (hw : ∀ d ∈ tables_1, d.before a0 Z = true) (ws : List Jvm.Cond) (a : Addr) (G1 : Int32) (h0 : Heap) (n0 : Nat) (Z0 : n0 ≤ h0.size) (E0 : Exa Z h0 a "java/lang/StringBuilder") (F1 : Fld Z h0 a "java/lang/AbstractStringBuilder" "coder" "B" (.int (0 : Int32))) (S1 : Sta Z Z.heap "java/lang/String" "COMPACT_STRINGS" "Z" (.int G1)) (P1 : ¬ G1 = 0) (OL : Old Z n0 h0) :
    MetFree l y_26 (head1 (Jvm.Cond.code y_26 jdk_68_method_68_code 1 (some .boolean) :: ws) ({ frames := 0, cells := 0, slots := 0, locals := 0 } : Room)) (fun aa_ U => aa_ = #[(.ref a)] ∧ Z.Warmed39 U.vm ∧ U.heap = h0) (fun _ _ _ _ _ => True) (fun _ U o U' => ∃ vv_ LL_, o = .returned vv_ ∧ Q_isl Z a G1 h0 n0 vv_ U'.heap LL_ ∧ FrameEnd U o U' LL_ 0 0) := by
  refine MetFree.of_bodySF (plainFor_of_name pn_java_lang_AbstractStringBuilder) hisR ?_
  intro p e s m args below meth c s₁ Bd hml0 hP hK
  obtain ⟨rfl, hZ, hh⟩ := hP
  have hx := Bd.exec
  have hby := Bd.bytes
  have hml : c.maxLocals = 1 := hml0
  have hown : s.vm.findClass "java/lang/AbstractStringBuilder" = some m.cls := findClass_of_methodNamed Bd.named
  have hnm := (name_of_methodNamed Bd.named Bd.method).1
  have X0 : Stand p l e ({ frames := 0, cells := 0, slots := 0, locals := 0 } : Room) s m #[(.ref a)] below meth c s₁ [] 0 0 := Stand.of_body Bd
  have e0 : s₁.heap = h0 := by rw [← hh, Bd.state]; rfl
  have N0 := Fr.nil n0
  have ef : entryFrame m #[(.ref a)] 1 = mkF m 0 #[.val (.ref a)] [] := by first | (simp [entryFrame, mkF, argsToLocals, Value.category]; done) | rfl
  refine Fin.start (Q := Q_isl Z a G1 h0 n0) ef ?_
  obtain ⟨T101, X101, e101, st101⟩ := getS X0 hx hZ (host := "") hown (w_ hw 76 rfl) Via.refl e0 (S1.ext OL.2) (g := (mkF m 0 #[.val (.ref a)] [])) rfl (hb hby d25_0)
  refine Fin.by (fun tt_ kk_ => st101 tt_ kk_) ?_
  show Fin _ _ _ _ _ _ _ (T101.setTop (mkF m 3 #[.val (.ref a)] [(.int G1)]))
  refine Fin.by (fun tt_ kk_ => XS.ifNo X101.here hx rfl (hb hby d25_3) rfl ((if0 _ _).trans (feq (P1 : ¬ G1 = (0 : Int32))).1) kk_) ?_
  refine Fin.by (fun tt_ kk_ => XS.aloadN X101.here hx rfl (hb hby d25_6) rfl rfl kk_) ?_
  obtain ⟨T102, X102, e102, st102⟩ := getF X101 hx hZ hown (host := "") (Or.inl (w_ hw 79 rfl)) Via.refl e101 F1 (g := (mkF m 7 #[.val (.ref a)] [(.ref a)])) rfl rfl (hb hby d25_7)
  refine Fin.by (fun tt_ kk_ => st102 tt_ kk_) ?_
  show Fin _ _ _ _ _ _ _ (T102.setTop (mkF m 10 #[.val (.ref a)] [(.int 0)]))
  refine Fin.by (fun tt_ kk_ => XS.ifNo X102.here hx rfl (hb hby d25_10) rfl ((if0 _ _).trans (teq (rfl : (0 : Int32) = (0 : Int32))).2) kk_) ?_
  refine Fin.by (fun tt_ kk_ => XS.iconst X102.here hx rfl (hb hby d25_13) (XS.goto X102.here hx rfl (pc0 := 14) (pc' := 18) rfl (hb hby d25_14) (by decide) (by decide) kk_)) ?_
  show Fin _ _ _ _ _ _ _ (T102.setTop (mkF m 18 #[.val (.ref a)] [(.int 1)]))
  exact Fin.ret (v := some (.int (nar .boolean (1 : Int32)))) X102 (fun h => by rw [Bd.returns] at h; cases h) Bd.notSynchronized (by rw [e102]; exact ⟨rfl, N0, rfl⟩) (by decide) (by decide) (fun fs hr => retN X102 hx (t := .boolean) Bd.returns (by simp) (hb hby d25_18) hr)
abbrev y_27 : MethodName := (⟨"java/lang/AbstractStringBuilder", "getValue", "()[B"⟩ : MethodName)
theorem d26_0 : decode jdk_68_method_64_code 0 = .ok (.aload_n 0, 1) := by decide +kernel
theorem d26_1 : decode jdk_68_method_64_code 1 = .ok (.getfield 15, 3) := by decide +kernel
theorem d26_4 : decode jdk_68_method_64_code 4 = .ok (.areturn, 1) := by decide +kernel
def Q_gva (Z : State) (a : Addr) (v : Addr) (h0 : Heap) (n0 : Nat) (vv_ : Option Value) (hh_ : Heap) (LL_ : List Loc) : Prop := vv_ = some (.ref v) ∧ Fr n0 LL_ ∧ hh_ = h0
set_option maxRecDepth 65536 in
set_option maxHeartbeats 40000000 in
theorem rm_gva (l : Launch) (Z : State) (a0 : Array Value) (hw : ∀ d ∈ tables_1, d.before a0 Z = true) (ws : List Jvm.Cond) (a : Addr) (v : Addr) (h0 : Heap) (n0 : Nat) (Z0 : n0 ≤ h0.size) (E0 : Exa Z h0 a "java/lang/StringBuilder") (F0 : Fld Z h0 a "java/lang/AbstractStringBuilder" "value" "[B" (.ref v)) :
    MetFree l y_27 (head1 (Jvm.Cond.code y_27 jdk_68_method_64_code 1 (some (.array .byte)) :: ws) ({ frames := 0, cells := 0, slots := 0, locals := 0 } : Room)) (fun aa_ U => aa_ = #[(.ref a)] ∧ Z.Warmed39 U.vm ∧ U.heap = h0) (fun _ _ _ _ _ => True) (fun _ U o U' => ∃ vv_ LL_, o = .returned vv_ ∧ Q_gva Z a v h0 n0 vv_ U'.heap LL_ ∧ FrameEnd U o U' LL_ 0 0) := by
  refine MetFree.of_bodySF (plainFor_of_name pn_java_lang_AbstractStringBuilder) hisR ?_
  intro p e s m args below meth c s₁ Bd hml0 hP hK
  obtain ⟨rfl, hZ, hh⟩ := hP
  have hx := Bd.exec
  have hby := Bd.bytes
  have hml : c.maxLocals = 1 := hml0
  have hown : s.vm.findClass "java/lang/AbstractStringBuilder" = some m.cls := findClass_of_methodNamed Bd.named
  have hnm := (name_of_methodNamed Bd.named Bd.method).1
  have X0 : Stand p l e ({ frames := 0, cells := 0, slots := 0, locals := 0 } : Room) s m #[(.ref a)] below meth c s₁ [] 0 0 := Stand.of_body Bd
  have e0 : s₁.heap = h0 := by rw [← hh, Bd.state]; rfl
  have N0 := Fr.nil n0
  have ef : entryFrame m #[(.ref a)] 1 = mkF m 0 #[.val (.ref a)] [] := by first | (simp [entryFrame, mkF, argsToLocals, Value.category]; done) | rfl
  refine Fin.start (Q := Q_gva Z a v h0 n0) ef ?_
  refine Fin.by (fun tt_ kk_ => XS.aloadN X0.here hx rfl (hb hby d26_0) rfl rfl kk_) ?_
  obtain ⟨T101, X101, e101, st101⟩ := getF X0 hx hZ hown (host := "") (Or.inl (w_ hw 77 rfl)) Via.refl e0 F0 (g := (mkF m 1 #[.val (.ref a)] [(.ref a)])) rfl rfl (hb hby d26_1)
  refine Fin.by (fun tt_ kk_ => st101 tt_ kk_) ?_
  show Fin _ _ _ _ _ _ _ (T101.setTop (mkF m 4 #[.val (.ref a)] [(.ref v)]))
  exact Fin.ret (v := some (.ref v)) X101 (fun h => by rw [Bd.returns] at h; cases h) Bd.notSynchronized (by rw [e101]; exact ⟨rfl, N0, rfl⟩) (by decide) (by decide) (fun fs hr => retA X101 hx Bd.returns rfl rfl (hb hby d26_4) hr)
abbrev y_28 : MethodName := (⟨"java/lang/String", "<init>", "(Ljava/lang/AbstractStringBuilder;Ljava/lang/Void;)V"⟩ : MethodName)
theorem d27_0 : decode jdk_42_method_150_code 0 = .ok (.aload_n 0, 1) := by decide +kernel
theorem d27_1 : decode jdk_42_method_150_code 1 = .ok (.invokespecial 1, 3) := by decide +kernel
theorem d27_4 : decode jdk_42_method_150_code 4 = .ok (.aload_n 1, 1) := by decide +kernel
theorem pd_533 : parseMethodDescriptor "()[B" = some ⟨[], some (.array .byte)⟩ := by decide +kernel
theorem d27_5 : decode jdk_42_method_150_code 5 = .ok (.invokevirtual 552, 3) := by decide +kernel
theorem d27_8 : decode jdk_42_method_150_code 8 = .ok (.astore_n 3, 1) := by decide +kernel
theorem d27_9 : decode jdk_42_method_150_code 9 = .ok (.aload_n 1, 1) := by decide +kernel
theorem d27_10 : decode jdk_42_method_150_code 10 = .ok (.invokevirtual 549, 3) := by decide +kernel
theorem d27_13 : decode jdk_42_method_150_code 13 = .ok (.istore 4, 2) := by decide +kernel
theorem d27_15 : decode jdk_42_method_150_code 15 = .ok (.aload_n 1, 1) := by decide +kernel
theorem pd_540 : parseMethodDescriptor "()Z" = some ⟨[], some .boolean⟩ := by decide +kernel
theorem d27_16 : decode jdk_42_method_150_code 16 = .ok (.invokevirtual 1047, 3) := by decide +kernel
theorem d27_19 : decode jdk_42_method_150_code 19 = .ok (.ifCond .eq 22, 3) := by decide +kernel
theorem d27_22 : decode jdk_42_method_150_code 22 = .ok (.aload_n 0, 1) := by decide +kernel
theorem d27_23 : decode jdk_42_method_150_code 23 = .ok (.iconst 0, 1) := by decide +kernel
theorem d27_24 : decode jdk_42_method_150_code 24 = .ok (.putfield 15, 3) := by decide +kernel
theorem d27_27 : decode jdk_42_method_150_code 27 = .ok (.aload_n 0, 1) := by decide +kernel
theorem d27_28 : decode jdk_42_method_150_code 28 = .ok (.aload_n 3, 1) := by decide +kernel
theorem d27_29 : decode jdk_42_method_150_code 29 = .ok (.iconst 0, 1) := by decide +kernel
theorem d27_30 : decode jdk_42_method_150_code 30 = .ok (.iload 4, 2) := by decide +kernel
theorem d27_32 : decode jdk_42_method_150_code 32 = .ok (.invokestatic 54, 3) := by decide +kernel
theorem d27_35 : decode jdk_42_method_150_code 35 = .ok (.putfield 9, 3) := by decide +kernel
theorem d27_38 : decode jdk_42_method_150_code 38 = .ok (.goto 59, 3) := by decide +kernel
theorem d27_97 : decode jdk_42_method_150_code 97 = .ok (.return_, 1) := by decide +kernel
def Q_sti37 (Z : State) (x : Addr) (a : Addr) (v : Addr) (kv : ClassId) (vs : List Value) (G1 : Int32) (h0 : Heap) (n0 : Nat) (vv_ : Option Value) (hh_ : Heap) (LL_ : List Loc) : Prop := ∃ (t : Addr), ∃ (k : ClassId), vv_ = none ∧ Fr n0 LL_ ∧ Keep h0 hh_ [x] ∧ h0.size ≤ t ∧ Exa Z hh_ x "java/lang/String" ∧ Fld Z hh_ x "java/lang/String" "value" "[B" (.ref t) ∧ Fld Z hh_ x "java/lang/String" "coder" "B" (.int (0 : Int32)) ∧ Arv Z hh_ t k .byte (37 : Int32) vs (.int 0)
set_option maxRecDepth 65536 in
set_option maxHeartbeats 40000000 in
theorem rm_sti37 (l : Launch) (Z : State) (a0 : Array Value) (hw : ∀ d ∈ tables_1, d.before a0 Z = true) (ws : List Jvm.Cond) (x : Addr) (a : Addr) (v : Addr) (kv : ClassId) (vs : List Value) (G1 : Int32) (h0 : Heap) (n0 : Nat) (Z0 : n0 ≤ h0.size) (E1 : Exa Z h0 x "java/lang/String") (F3 : Fld Z h0 x "java/lang/String" "value" "[B" .null) (F4 : Fld Z h0 x "java/lang/String" "coder" "B" (.int (0 : Int32))) (gx : n0 ≤ x) (hl : vs.length = 37) (E0 : Exa Z h0 a "java/lang/StringBuilder") (F0 : Fld Z h0 a "java/lang/AbstractStringBuilder" "value" "[B" (.ref v)) (F1 : Fld Z h0 a "java/lang/AbstractStringBuilder" "coder" "B" (.int (0 : Int32))) (F2 : Fld Z h0 a "java/lang/AbstractStringBuilder" "count" "I" (.int (37 : Int32))) (A0 : Arv Z h0 v kv .byte (70 : Int32) vs (.int 0)) (nv : v ≠ x) (S1 : Sta Z Z.heap "java/lang/String" "COMPACT_STRINGS" "Z" (.int G1)) (P1 : ¬ G1 = 0) (OL : Old Z n0 h0) :
    MetFree l y_28 (head1 (Jvm.Cond.code y_28 jdk_42_method_150_code 5 none :: ws) ({ frames := 3, cells := 1, slots := 37, locals := 49 } : Room)) (fun aa_ U => aa_ = #[(.ref x), (.ref a), .null] ∧ Z.Warmed39 U.vm ∧ U.heap = h0) (fun _ _ _ _ _ => True) (fun _ U o U' => ∃ vv_ LL_, o = .returned vv_ ∧ Q_sti37 Z x a v kv vs G1 h0 n0 vv_ U'.heap LL_ ∧ FrameEnd U o U' LL_ 1 37) := by
  refine MetFree.of_bodySF (plainFor_of_name pn_java_lang_String) hisR ?_
  intro p e s m args below meth c s₁ Bd hml0 hP hK
  obtain ⟨rfl, hZ, hh⟩ := hP
  have hx := Bd.exec
  have hby := Bd.bytes
  have hml : c.maxLocals = 5 := hml0
  have hown : s.vm.findClass "java/lang/String" = some m.cls := findClass_of_methodNamed Bd.named
  have hnm := (name_of_methodNamed Bd.named Bd.method).1
  have X0 : Stand p l e ({ frames := 3, cells := 1, slots := 37, locals := 49 } : Room) s m #[(.ref x), (.ref a), .null] below meth c s₁ [] 0 0 := Stand.of_body Bd
  have e0 : s₁.heap = h0 := by rw [← hh, Bd.state]; rfl
  have N0 := Fr.nil n0
  have ef : entryFrame m #[(.ref x), (.ref a), .null] 5 = mkF m 0 #[.val (.ref x), .val (.ref a), .val .null, .unset, .unset] [] := by first | (simp [entryFrame, mkF, argsToLocals, Value.category]; done) | rfl
  refine Fin.start (Q := Q_sti37 Z x a v kv vs G1 h0 n0) ef ?_
  refine Fin.by (fun tt_ kk_ => XS.aloadN X0.here hx rfl (hb hby d27_0) rfl rfl kk_) ?_
  obtain ⟨T101, X101, e101, st101⟩ := initO X0 hx hZ hown (w_ hw 15 rfl) (w_ hw 16 rfl) (w_ hw 17 rfl) e0 (g := (mkF m 1 #[.val (.ref x), .val (.ref a), .val .null, .unset, .unset] [(.ref x)])) rfl (by rw [hml]; rfl) rfl (hb hby d27_1) (by decide) (W := 0) (by show 2 * 0 + _ ≤ _; exact Nat.le_of_eq rfl) (by decide)
  refine Fin.by (fun tt_ kk_ => st101 tt_ kk_) ?_
  refine Fin.by (fun tt_ kk_ => XS.aloadN X101.here hx rfl (hb hby d27_4) rfl rfl kk_) ?_
  obtain ⟨cq102, kq102, qa102, qb102, qc102⟩ := isOf hZ e101 E0
  obtain ⟨v102, _, ⟨T102, L102, k102, n102⟩, -, X102, ⟨Lc102, hQ102, l102, y102, z102⟩, st102⟩ := X101.virtualBack hx (y := y_27) (z := y_27) hown (mvT hZ (w_ hw 178 rfl)) (mvT hZ (w_ hw 179 rfl)) (notFace_of_selects (args := #[]) (mvT hZ (w_ hw 181 rfl))) (mvT hZ (w_ hw 181 rfl)) (mvT hZ (w_ hw 180 rfl)) (by decide) (backOf (W := 0) (rm_gva l Z a0 hw [] a v h0 n0 Z0 E0 F0) hZ (w_ hw 182 rfl) (w_ hw 73 rfl) (by decide) (by decide)) qa102 qc102 (g := (mkF m 5 #[.val (.ref x), .val (.ref a), .val .null, .unset, .unset] [(.ref a)])) rfl (by rw [hml]; rfl) (Steps.refl _) (argsL := []) (rest := []) (lenOf pd_533 rfl) rfl (by show 2 * 0 + _ ≤ _; exact Nat.le_of_eq rfl) (hb hby d27_5) (fun _ _ => ⟨rfl, e101, (by decide : 0 + 0 ≤ _), (by decide : 0 + 0 ≤ _)⟩)
  dsimp only [Pt.U, Pt.locs, Pt.cells, Pt.slots] at X102 l102 y102 z102 st102 hQ102
  subst l102 y102 z102
  obtain ⟨rfl, Nq102, e102_⟩ := hQ102
  have N102_ := Fr.app N0 Nq102
  refine Fin.byS st102 ?_
  have e102 := e102_
  refine Fin.by (fun tt_ kk_ => XS.astoreN X102.here hx rfl (hb hby d27_8) rfl rfl (l' := #[.val (.ref x), .val (.ref a), .val .null, .val (.ref v), .unset]) rfl (XS.aloadN X102.here hx rfl (hb hby d27_9) rfl rfl kk_)) ?_
  obtain ⟨cq103, kq103, qa103, qb103, qc103⟩ := isOf hZ e102 E0
  obtain ⟨v103, _, ⟨T103, L103, k103, n103⟩, -, X103, ⟨Lc103, hQ103, l103, y103, z103⟩, st103⟩ := X102.virtualBack hx (y := y_24) (z := y_25) hown (mvT hZ (w_ hw 183 rfl)) (mvT hZ (w_ hw 184 rfl)) (own_face (args := #[]) (z := y_13) (y := y_24) (mvT hZ (w_ hw 109 rfl)) rfl) (mvT hZ (w_ hw 186 rfl)) (mvT hZ (w_ hw 187 rfl)) (by decide) (backOf (W := 0) (rm_sbl l Z a0 hw [] a (37 : Int32) h0 n0 Z0 E0 F2) hZ (w_ hw 188 rfl) (w_ hw 65 rfl) (by decide) (by decide)) qa103 qc103 (g := (mkF m 10 #[.val (.ref x), .val (.ref a), .val .null, .val (.ref v), .unset] [(.ref a)])) rfl (by rw [hml]; rfl) (Steps.refl _) (argsL := []) (rest := []) (lenOf pd_442 rfl) rfl (by show 2 * 0 + _ ≤ _; exact Nat.le_of_eq rfl) (hb hby d27_10) (fun _ _ => ⟨rfl, e102, (by decide : 0 + 0 ≤ _), (by decide : 0 + 0 ≤ _)⟩)
  dsimp only [Pt.U, Pt.locs, Pt.cells, Pt.slots] at X103 l103 y103 z103 st103 hQ103
  subst l103 y103 z103
  obtain ⟨rfl, Nq103, e103_⟩ := hQ103
  have N103_ := Fr.app N102_ Nq103
  refine Fin.byS st103 ?_
  have e103 := e103_
  refine Fin.by (fun tt_ kk_ => XS.istore X103.here hx rfl (hb hby d27_13) rfl (l' := #[.val (.ref x), .val (.ref a), .val .null, .val (.ref v), .val (.int 37)]) rfl (XS.aloadN X103.here hx rfl (hb hby d27_15) rfl rfl kk_)) ?_
  obtain ⟨cq104, kq104, qa104, qb104, qc104⟩ := isOf hZ e103 E0
  obtain ⟨v104, _, ⟨T104, L104, k104, n104⟩, -, X104, ⟨Lc104, hQ104, l104, y104, z104⟩, st104⟩ := X103.virtualBack hx (y := y_26) (z := y_26) hown (mvT hZ (w_ hw 191 rfl)) (mvT hZ (w_ hw 160 rfl)) (notFace_of_selects (args := #[]) (mvT hZ (w_ hw 162 rfl))) (mvT hZ (w_ hw 162 rfl)) (mvT hZ (w_ hw 161 rfl)) (by decide) (backOf (W := 0) (rm_isl l Z a0 hw [] a G1 h0 n0 Z0 E0 F1 S1 P1 OL) hZ (w_ hw 163 rfl) (w_ hw 73 rfl) (by decide) (by decide)) qa104 qc104 (g := (mkF m 16 #[.val (.ref x), .val (.ref a), .val .null, .val (.ref v), .val (.int 37)] [(.ref a)])) rfl (by rw [hml]; rfl) (Steps.refl _) (argsL := []) (rest := []) (lenOf pd_540 rfl) rfl (by show 2 * 0 + _ ≤ _; exact Nat.le_of_eq rfl) (hb hby d27_16) (fun _ _ => ⟨rfl, e103, (by decide : 0 + 0 ≤ _), (by decide : 0 + 0 ≤ _)⟩)
  dsimp only [Pt.U, Pt.locs, Pt.cells, Pt.slots] at X104 l104 y104 z104 st104 hQ104
  subst l104 y104 z104
  obtain ⟨rfl, Nq104, e104_⟩ := hQ104
  have N104_ := Fr.app N103_ Nq104
  refine Fin.byS st104 ?_
  have e104 := e104_
  show Fin _ _ _ _ _ _ _ (T104.setTop (mkF m 19 #[.val (.ref x), .val (.ref a), .val .null, .val (.ref v), .val (.int 37)] [(.int 1)]))
  refine Fin.by (fun tt_ kk_ => XS.ifNo X104.here hx rfl (hb hby d27_19) rfl ((if0 _ _).trans (feq (by decide : ¬ (1 : Int32) = (0 : Int32))).1) kk_) ?_
  refine Fin.by (fun tt_ kk_ => XS.aloadN X104.here hx rfl (hb hby d27_22) rfl rfl (XS.iconst X104.here hx rfl (hb hby d27_23) kk_)) ?_
  obtain ⟨T105, h105, X105, e105, W105, st105⟩ := putFN X104 hx hZ hown (w_ hw 30 rfl) Via.refl e104 F4 E1 (Or.inr ⟨(w_ hw 31 rfl), rfl, hnm⟩) (w_ hw 6 rfl) (ty := .byte) (v' := .int (0 : Int32)) (by decide) rfl rfl (g := (mkF m 24 #[.val (.ref x), .val (.ref a), .val .null, .val (.ref v), .val (.int 37)] [(.int 0), (.ref x)])) rfl rfl (hb hby d27_24)
  refine Fin.by (fun tt_ kk_ => st105 tt_ kk_) ?_
  have N105_ := Fr.snoc X105 N104_ gx
  refine Fin.by (fun tt_ kk_ => XS.aloadN X105.here hx rfl (hb hby d27_27) rfl rfl (XS.aloadN X105.here hx rfl (hb hby d27_28) rfl rfl (XS.iconst X105.here hx rfl (hb hby d27_29) (XS.iload X105.here hx rfl (hb hby d27_30) rfl kk_)))) ?_
  have A106 : Arv Z h105 v kv .byte (70 : Int32) vs (.int 0) := (A0.other W105 nv)
  have z107 : n0 ≤ h105.size := Nat.le_trans Z0 (Keep.of_wr W105).1
  obtain ⟨v108, _, ⟨T108, L108, k108, n108⟩, -, X108, ⟨Lc108, hQ108, l108, y108, z108⟩, st108⟩ := Jvm.LawKit.callS X105 hx (y := y_23) hown (mvT hZ (w_ hw 192 rfl)) (mvT hZ (w_ hw 193 rfl)) (mvT hZ (w_ hw 128 rfl)) (mvT hZ (w_ hw 194 rfl)) (by decide) (backOf (W := 1) (rm_cor70_37 l Z a0 hw [] v kv (vs : List Value) h105 n0 z107 hl A106) hZ (w_ hw 194 rfl) (w_ hw 128 rfl) (by decide) (by decide)) (g := (mkF m 32 #[.val (.ref x), .val (.ref a), .val .null, .val (.ref v), .val (.int 37)] [(.int 37), (.int 0), (.ref v), (.ref x)])) rfl (by rw [hml]; rfl) (argsL := [(.ref v), (.int 0), (.int 37)]) (rest := [(.ref x)]) (lenOf pd_510 rfl) rfl (by show 2 * 0 + _ ≤ _; exact Nat.le_of_eq rfl) (hb hby d27_32) (fun _ _ => ⟨rfl, e105, (by decide : 0 + 1 ≤ _), (by decide : 0 + 37 ≤ _)⟩)
  dsimp only [Pt.U, Pt.locs, Pt.cells, Pt.slots] at X108 l108 y108 z108 st108 hQ108
  subst l108 y108 z108
  obtain ⟨t109, k110, rfl, Nq108, p108_0, p108_1, p108_2⟩ := hQ108
  have N108_ := Fr.app N105_ Nq108
  refine Fin.by (fun tt_ kk_ => st108 tt_ kk_) ?_
  have F111 : Fld Z T108.heap x "java/lang/String" "value" "[B" .null := ((F3.other W105 (Or.inr (slot_ne (Or.inr (w_ hw 33 rfl)) (Or.inr (w_ hw 31 rfl)) (by decide) (t := (.array .byte)) (t' := .byte) (by decide) (by decide)))).keep p108_0 nin0)
  have E112 : Exa Z T108.heap x "java/lang/String" := ((E1.wr W105).keep p108_0)
  obtain ⟨T113, h113, X113, e113, W113, st113⟩ := putF X108 hx hZ hown (host := "") (Or.inl (w_ hw 32 rfl)) Via.refl rfl F111 E112 (Or.inr ⟨(w_ hw 33 rfl), rfl, hnm⟩) (w_ hw 6 rfl) (ty := (.array .byte)) (by decide) rfl rfl (g := (mkF m 35 #[.val (.ref x), .val (.ref a), .val .null, .val (.ref v), .val (.int 37)] [(.ref t109), (.ref x)])) rfl rfl (hb hby d27_35)
  refine Fin.by (fun tt_ kk_ => st113 tt_ kk_) ?_
  have N113_ := Fr.snoc X113 N108_ gx
  refine Fin.by (fun tt_ kk_ => XS.goto X113.here hx rfl (pc0 := 38) (pc' := 97) rfl (hb hby d27_38) (by decide) (by decide) kk_) ?_
  have kp114 : Keep h0 h105 [x] := (Keep.refl h0 [x]).wr W105 (Or.inl (List.mem_of_getElem? (i := 0) rfl))
  have kp115 : Keep h0 T108.heap [x] := kp114.trans p108_0 all0
  have kp116 : Keep h0 h113 [x] := kp115.wr W113 (Or.inl (List.mem_of_getElem? (i := 0) rfl))
  have E117 : Exa Z h113 x "java/lang/String" := (E112.wr W113)
  have F118 : Fld Z h113 x "java/lang/String" "coder" "B" (.int (0 : Int32)) := (((F4.same W105).keep p108_0 nin0).other W113 (Or.inr (slot_ne (Or.inr (w_ hw 31 rfl)) (Or.inr (w_ hw 33 rfl)) (by decide) (t := .byte) (t' := (.array .byte)) (by decide) (by decide))))
  have lt120 : x < h105.size := Nat.lt_of_lt_of_le E1.lt (Keep.of_wr W105).1
  have ne119 : x ≠ t109 := Nat.ne_of_lt (Nat.lt_of_lt_of_le lt120 p108_1)
  have A121 : Arv Z h113 t109 k110 .byte (37 : Int32) (vs : List Value) (.int 0) := (p108_2.other W113 (Ne.symm ne119))
  show Fin _ _ _ _ _ _ _ (T113.setTop (mkF m 97 #[.val (.ref x), .val (.ref a), .val .null, .val (.ref v), .val (.int 37)] []))
  exact Fin.ret (v := none) X113 (fun _ => rfl) Bd.notSynchronized (by rw [e113]; exact ⟨t109, k110, rfl, N113_, kp116, (Nat.le_trans (Keep.of_wr W105).1 p108_1), E117, (F111.same W113), F118, A121⟩) (by decide) (by decide) (fun fs hr => X113.returnOut hx Bd.returns (hb hby d27_97) hr)
abbrev y_29 : MethodName := (⟨"java/lang/String", "<init>", "(Ljava/lang/StringBuilder;)V"⟩ : MethodName)
theorem d28_0 : decode jdk_42_method_53_code 0 = .ok (.aload_n 0, 1) := by decide +kernel
theorem d28_1 : decode jdk_42_method_53_code 1 = .ok (.aload_n 1, 1) := by decide +kernel
theorem d28_2 : decode jdk_42_method_53_code 2 = .ok (.aconst_null, 1) := by decide +kernel
theorem pd_557 : parseMethodDescriptor "(Ljava/lang/AbstractStringBuilder;Ljava/lang/Void;)V" = some ⟨[(.object "java/lang/AbstractStringBuilder"), (.object "java/lang/Void")], none⟩ := by decide +kernel
theorem d28_3 : decode jdk_42_method_53_code 3 = .ok (.invokespecial 489, 3) := by decide +kernel
theorem d28_6 : decode jdk_42_method_53_code 6 = .ok (.return_, 1) := by decide +kernel
def Q_stb37 (Z : State) (x : Addr) (a : Addr) (v : Addr) (kv : ClassId) (vs : List Value) (G1 : Int32) (h0 : Heap) (n0 : Nat) (vv_ : Option Value) (hh_ : Heap) (LL_ : List Loc) : Prop := ∃ (t : Addr), ∃ (k : ClassId), vv_ = none ∧ Fr n0 LL_ ∧ Keep h0 hh_ [x] ∧ h0.size ≤ t ∧ Exa Z hh_ x "java/lang/String" ∧ Fld Z hh_ x "java/lang/String" "value" "[B" (.ref t) ∧ Fld Z hh_ x "java/lang/String" "coder" "B" (.int (0 : Int32)) ∧ Arv Z hh_ t k .byte (37 : Int32) vs (.int 0)
set_option maxRecDepth 65536 in
set_option maxHeartbeats 40000000 in
theorem rm_stb37 (l : Launch) (Z : State) (a0 : Array Value) (hw : ∀ d ∈ tables_1, d.before a0 Z = true) (ws : List Jvm.Cond) (x : Addr) (a : Addr) (v : Addr) (kv : ClassId) (vs : List Value) (G1 : Int32) (h0 : Heap) (n0 : Nat) (Z0 : n0 ≤ h0.size) (E1 : Exa Z h0 x "java/lang/String") (F3 : Fld Z h0 x "java/lang/String" "value" "[B" .null) (F4 : Fld Z h0 x "java/lang/String" "coder" "B" (.int (0 : Int32))) (gx : n0 ≤ x) (hl : vs.length = 37) (E0 : Exa Z h0 a "java/lang/StringBuilder") (F0 : Fld Z h0 a "java/lang/AbstractStringBuilder" "value" "[B" (.ref v)) (F1 : Fld Z h0 a "java/lang/AbstractStringBuilder" "coder" "B" (.int (0 : Int32))) (F2 : Fld Z h0 a "java/lang/AbstractStringBuilder" "count" "I" (.int (37 : Int32))) (A0 : Arv Z h0 v kv .byte (70 : Int32) vs (.int 0)) (nv : v ≠ x) (S1 : Sta Z Z.heap "java/lang/String" "COMPACT_STRINGS" "Z" (.int G1)) (P1 : ¬ G1 = 0) (OL : Old Z n0 h0) :
    MetFree l y_29 (head1 (Jvm.Cond.code y_29 jdk_42_method_53_code 2 none :: ws) ({ frames := 4, cells := 1, slots := 37, locals := 65 } : Room)) (fun aa_ U => aa_ = #[(.ref x), (.ref a)] ∧ Z.Warmed39 U.vm ∧ U.heap = h0) (fun _ _ _ _ _ => True) (fun _ U o U' => ∃ vv_ LL_, o = .returned vv_ ∧ Q_stb37 Z x a v kv vs G1 h0 n0 vv_ U'.heap LL_ ∧ FrameEnd U o U' LL_ 1 37) := by
  refine MetFree.of_bodySF (plainFor_of_name pn_java_lang_String) hisR ?_
  intro p e s m args below meth c s₁ Bd hml0 hP hK
  obtain ⟨rfl, hZ, hh⟩ := hP
  have hx := Bd.exec
  have hby := Bd.bytes
  have hml : c.maxLocals = 2 := hml0
  have hown : s.vm.findClass "java/lang/String" = some m.cls := findClass_of_methodNamed Bd.named
  have hnm := (name_of_methodNamed Bd.named Bd.method).1
  have X0 : Stand p l e ({ frames := 4, cells := 1, slots := 37, locals := 65 } : Room) s m #[(.ref x), (.ref a)] below meth c s₁ [] 0 0 := Stand.of_body Bd
  have e0 : s₁.heap = h0 := by rw [← hh, Bd.state]; rfl
  have N0 := Fr.nil n0
  have ef : entryFrame m #[(.ref x), (.ref a)] 2 = mkF m 0 #[.val (.ref x), .val (.ref a)] [] := by first | (simp [entryFrame, mkF, argsToLocals, Value.category]; done) | rfl
  refine Fin.start (Q := Q_stb37 Z x a v kv vs G1 h0 n0) ef ?_
  refine Fin.by (fun tt_ kk_ => XS.aloadN X0.here hx rfl (hb hby d28_0) rfl rfl (XS.aloadN X0.here hx rfl (hb hby d28_1) rfl rfl (XS.aconstNull X0.here hx rfl (hb hby d28_2) kk_))) ?_
  obtain ⟨v101, _, ⟨T101, L101, k101, n101⟩, -, X101, ⟨Lc101, hQ101, l101, y101, z101⟩, st101⟩ := X0.specialBack hx (y := y_28) rfl hown (mvT hZ (w_ hw 175 rfl)) (mvT hZ (w_ hw 176 rfl)) (mvT hZ (w_ hw 177 rfl)) (by decide) (backOf (W := 0) (rm_sti37 l Z a0 hw [] x a v kv (vs : List Value) G1 h0 n0 Z0 E1 F3 F4 gx hl E0 F0 F1 F2 A0 nv S1 P1 OL) hZ (w_ hw 177 rfl) (w_ hw 7 rfl) (by decide) (by decide)) (g := (mkF m 3 #[.val (.ref x), .val (.ref a)] [.null, (.ref a), (.ref x)])) rfl (by rw [hml]; rfl) (Steps.refl _) (a := x) (argsL := [(.ref a), .null]) (rest := []) (lenOf pd_557 rfl) rfl (by show 2 * 0 + _ ≤ _; exact Nat.le_of_eq rfl) (hb hby d28_3) (fun _ _ => ⟨rfl, e0, (by decide : 0 + 1 ≤ _), (by decide : 0 + 37 ≤ _)⟩)
  dsimp only [Pt.U, Pt.locs, Pt.cells, Pt.slots] at X101 l101 y101 z101 st101 hQ101
  subst l101 y101 z101
  obtain ⟨t102, k103, rfl, Nq101, p101_0, p101_1, p101_2, p101_3, p101_4, p101_5⟩ := hQ101
  have N101_ := Fr.app N0 Nq101
  refine Fin.byS st101 ?_
  have kp104 : Keep h0 T101.heap [x] := (Keep.refl h0 [x]).trans p101_0 (allS (Or.inl (List.mem_of_getElem? (i := 0) rfl)) all0)
  show Fin _ _ _ _ _ _ _ (T101.setTop (mkF m 6 #[.val (.ref x), .val (.ref a)] []))
  exact Fin.ret (v := none) X101 (fun _ => rfl) Bd.notSynchronized (⟨t102, k103, rfl, N101_, kp104, (Nat.le_trans (Nat.le_refl _) p101_1), p101_2, p101_3, p101_4, p101_5⟩) (by decide) (by decide) (fun fs hr => X101.returnOut hx Bd.returns (hb hby d28_6) hr)
abbrev y_30 : MethodName := (⟨"java/lang/StringBuilder", "toString", "()Ljava/lang/String;"⟩ : MethodName)
theorem d29_0 : decode jdk_67_method_42_code 0 = .ok (.new 18, 3) := by decide +kernel
theorem d29_3 : decode jdk_67_method_42_code 3 = .ok (.dup, 1) := by decide +kernel
theorem d29_4 : decode jdk_67_method_42_code 4 = .ok (.aload_n 0, 1) := by decide +kernel
theorem pd_563 : parseMethodDescriptor "(Ljava/lang/StringBuilder;)V" = some ⟨[(.object "java/lang/StringBuilder")], none⟩ := by decide +kernel
theorem d29_5 : decode jdk_67_method_42_code 5 = .ok (.invokespecial 137, 3) := by decide +kernel
theorem d29_8 : decode jdk_67_method_42_code 8 = .ok (.areturn, 1) := by decide +kernel
def Q_tos37 (Z : State) (a : Addr) (v : Addr) (kv : ClassId) (vs : List Value) (G1 : Int32) (h0 : Heap) (n0 : Nat) (vv_ : Option Value) (hh_ : Heap) (LL_ : List Loc) : Prop := ∃ (x : Addr), ∃ (t : Addr), ∃ (k : ClassId), vv_ = some (.ref x) ∧ Fr n0 LL_ ∧ Keep h0 hh_ [] ∧ h0.size ≤ x ∧ x ≠ t ∧ h0.size ≤ t ∧ Exa Z hh_ x "java/lang/String" ∧ Fld Z hh_ x "java/lang/String" "value" "[B" (.ref t) ∧ Fld Z hh_ x "java/lang/String" "coder" "B" (.int (0 : Int32)) ∧ Arv Z hh_ t k .byte (37 : Int32) vs (.int 0)
set_option maxRecDepth 65536 in
set_option maxHeartbeats 40000000 in
theorem rm_tos37 (l : Launch) (Z : State) (a0 : Array Value) (hw : ∀ d ∈ tables_1, d.before a0 Z = true) (ws : List Jvm.Cond) (a : Addr) (v : Addr) (kv : ClassId) (vs : List Value) (G1 : Int32) (h0 : Heap) (n0 : Nat) (Z0 : n0 ≤ h0.size) (hl : vs.length = 37) (E0 : Exa Z h0 a "java/lang/StringBuilder") (F0 : Fld Z h0 a "java/lang/AbstractStringBuilder" "value" "[B" (.ref v)) (F1 : Fld Z h0 a "java/lang/AbstractStringBuilder" "coder" "B" (.int (0 : Int32))) (F2 : Fld Z h0 a "java/lang/AbstractStringBuilder" "count" "I" (.int (37 : Int32))) (A0 : Arv Z h0 v kv .byte (70 : Int32) vs (.int 0)) (S1 : Sta Z Z.heap "java/lang/String" "COMPACT_STRINGS" "Z" (.int G1)) (P1 : ¬ G1 = 0) (OL : Old Z n0 h0) :
    MetFree l y_30 (head1 (Jvm.Cond.code y_30 jdk_67_method_42_code 1 (some (.object "java/lang/String")) :: ws) ({ frames := 5, cells := 2, slots := 41, locals := 79 } : Room)) (fun aa_ U => aa_ = #[(.ref a)] ∧ Z.Warmed39 U.vm ∧ U.heap = h0) (fun _ _ _ _ _ => True) (fun _ U o U' => ∃ vv_ LL_, o = .returned vv_ ∧ Q_tos37 Z a v kv vs G1 h0 n0 vv_ U'.heap LL_ ∧ FrameEnd U o U' LL_ 2 41) := by
  refine MetFree.of_bodySF (plainFor_of_name pn_java_lang_StringBuilder) hisR ?_
  intro p e s m args below meth c s₁ Bd hml0 hP hK
  obtain ⟨rfl, hZ, hh⟩ := hP
  have hx := Bd.exec
  have hby := Bd.bytes
  have hml : c.maxLocals = 1 := hml0
  have hown : s.vm.findClass "java/lang/StringBuilder" = some m.cls := findClass_of_methodNamed Bd.named
  have hnm := (name_of_methodNamed Bd.named Bd.method).1
  have X0 : Stand p l e ({ frames := 5, cells := 2, slots := 41, locals := 79 } : Room) s m #[(.ref a)] below meth c s₁ [] 0 0 := Stand.of_body Bd
  have e0 : s₁.heap = h0 := by rw [← hh, Bd.state]; rfl
  have N0 := Fr.nil n0
  have ef : entryFrame m #[(.ref a)] 1 = mkF m 0 #[.val (.ref a)] [] := by first | (simp [entryFrame, mkF, argsToLocals, Value.category]; done) | rfl
  refine Fin.start (Q := Q_tos37 Z a v kv vs G1 h0 n0) ef ?_
  obtain ⟨T101, h101, X101, e101, E101, A101, D101, -, st101⟩ := newO X0 hx hZ hown (w_ hw 171 rfl) (w_ hw 6 rfl) (w_ hw 7 rfl) e0 (g := (mkF m 0 #[.val (.ref a)] [])) rfl (hb hby d29_0) (by decide) (by decide)
  obtain ⟨a101, g101⟩ : ∃ z, z = h0.size := ⟨_, rfl⟩
  rw [← g101] at A101 D101 st101
  refine Fin.by (fun tt_ kk_ => st101 tt_ kk_) ?_
  refine Fin.by (fun tt_ kk_ => XS.dup X101.here hx rfl (hb hby d29_3) rfl rfl (XS.aloadN X101.here hx rfl (hb hby d29_4) rfl rfl kk_)) ?_
  have g102 : n0 ≤ a101 := Nat.le_trans Z0 (Nat.le_of_eq g101.symm)
  have E103 : Exa Z h101 a "java/lang/StringBuilder" := (E0.ext E101)
  have F104 : Fld Z h101 a "java/lang/AbstractStringBuilder" "value" "[B" (.ref v) := (F0.ext E101)
  have F105 : Fld Z h101 a "java/lang/AbstractStringBuilder" "coder" "B" (.int (0 : Int32)) := (F1.ext E101)
  have F106 : Fld Z h101 a "java/lang/AbstractStringBuilder" "count" "I" (.int (37 : Int32)) := (F2.ext E101)
  have A107 : Arv Z h101 v kv .byte (70 : Int32) vs (.int 0) := (A0.ext E101)
  have ne108 : v ≠ a101 := Nat.ne_of_lt (Nat.lt_of_lt_of_le A0.lt (Nat.le_of_eq g101.symm))
  have O109 : Old Z n0 h101 := (OL.ext E101)
  have z110 : n0 ≤ h101.size := Nat.le_trans Z0 E101.1
  obtain ⟨v111, _, ⟨T111, L111, k111, n111⟩, -, X111, ⟨Lc111, hQ111, l111, y111, z111⟩, st111⟩ := X101.specialBack hx (y := y_29) rfl hown (mvT hZ (w_ hw 172 rfl)) (mvT hZ (w_ hw 173 rfl)) (mvT hZ (w_ hw 174 rfl)) (by decide) (backOf (W := 1) (rm_stb37 l Z a0 hw [] a101 a v kv (vs : List Value) G1 h101 n0 z110 A101 (D101 (Or.inr (w_ hw 33 rfl)) (ty := (.array .byte)) (by decide) : Fld Z h101 a101 "java/lang/String" "value" "[B" .null) (D101 (Or.inr (w_ hw 31 rfl)) (ty := .byte) (by decide) : Fld Z h101 a101 "java/lang/String" "coder" "B" (.int (0 : Int32))) g102 hl E103 F104 F105 F106 A107 ne108 S1 P1 O109) hZ (w_ hw 174 rfl) (w_ hw 7 rfl) (by decide) (by decide)) (g := (mkF m 5 #[.val (.ref a)] [(.ref a), (.ref a101), (.ref a101)])) rfl (by rw [hml]; rfl) (Steps.refl _) (a := a101) (argsL := [(.ref a)]) (rest := [(.ref a101)]) (lenOf pd_563 rfl) rfl (by show 2 * 0 + _ ≤ _; exact Nat.le_of_eq rfl) (hb hby d29_5) (fun _ _ => ⟨rfl, e101, (by decide : 1 + 1 ≤ _), (by decide : 4 + 37 ≤ _)⟩)
  dsimp only [Pt.U, Pt.locs, Pt.cells, Pt.slots] at X111 l111 y111 z111 st111 hQ111
  subst l111 y111 z111
  obtain ⟨t112, k113, rfl, Nq111, p111_0, p111_1, p111_2, p111_3, p111_4, p111_5⟩ := hQ111
  have N111_ := Fr.app N0 Nq111
  refine Fin.byS st111 ?_
  have kp114 : Keep h0 h101 [] := (Keep.refl h0 []).ext E101
  have kp115 : Keep h0 T111.heap [] := kp114.trans p111_0 (allS (Or.inr (Nat.le_trans (Nat.le_refl _) (Nat.le_of_eq g101.symm))) all0)
  have ne116 : a101 ≠ t112 := Nat.ne_of_lt (Nat.lt_of_lt_of_le A101.lt p111_1)
  show Fin _ _ _ _ _ _ _ (T111.setTop (mkF m 8 #[.val (.ref a)] [(.ref a101)]))
  exact Fin.ret (v := some (.ref a101)) X111 (fun h => by rw [Bd.returns] at h; cases h) Bd.notSynchronized (⟨a101, t112, k113, rfl, N111_, kp115, (Nat.le_trans (Nat.le_refl _) (Nat.le_of_eq g101.symm)), ne116, (Nat.le_trans E101.1 p111_1), p111_2, p111_3, p111_4, p111_5⟩) (by decide) (by decide) (fun fs hr => retA X111 hx Bd.returns rfl rfl (hb hby d29_8) hr)
abbrev y_31 : MethodName := (⟨"com/example/ermine/ermine/server/DatabaseSettings", "toString", "()Ljava/lang/String;"⟩ : MethodName)
theorem d30_0 : decode prog_33_method_3_code 0 = .ok (.new 37, 3) := by decide +kernel
theorem d30_3 : decode prog_33_method_3_code 3 = .ok (.dup, 1) := by decide +kernel
theorem d30_4 : decode prog_33_method_3_code 4 = .ok (.invokespecial 39, 3) := by decide +kernel
theorem d30_7 : decode prog_33_method_3_code 7 = .ok (.ldc 64, 2) := by decide +kernel
theorem pd_570 : parseMethodDescriptor "(Ljava/lang/String;)Ljava/lang/StringBuilder;" = some ⟨[(.object "java/lang/String")], some (.object "java/lang/StringBuilder")⟩ := by decide +kernel
theorem d30_9 : decode prog_33_method_3_code 9 = .ok (.invokevirtual 42, 3) := by decide +kernel
theorem d30_12 : decode prog_33_method_3_code 12 = .ok (.aload_n 0, 1) := by decide +kernel
theorem d30_13 : decode prog_33_method_3_code 13 = .ok (.getfield 7, 3) := by decide +kernel
theorem d30_16 : decode prog_33_method_3_code 16 = .ok (.invokevirtual 42, 3) := by decide +kernel
theorem d30_19 : decode prog_33_method_3_code 19 = .ok (.ldc 66, 2) := by decide +kernel
theorem d30_21 : decode prog_33_method_3_code 21 = .ok (.invokevirtual 42, 3) := by decide +kernel
theorem d30_24 : decode prog_33_method_3_code 24 = .ok (.aload_n 0, 1) := by decide +kernel
theorem d30_25 : decode prog_33_method_3_code 25 = .ok (.getfield 13, 3) := by decide +kernel
theorem d30_28 : decode prog_33_method_3_code 28 = .ok (.invokevirtual 42, 3) := by decide +kernel
theorem d30_31 : decode prog_33_method_3_code 31 = .ok (.ldc 68, 2) := by decide +kernel
theorem d30_33 : decode prog_33_method_3_code 33 = .ok (.invokevirtual 42, 3) := by decide +kernel
theorem pd_582 : parseMethodDescriptor "()Ljava/lang/String;" = some ⟨[], some (.object "java/lang/String")⟩ := by decide +kernel
theorem d30_36 : decode prog_33_method_3_code 36 = .ok (.invokevirtual 46, 3) := by decide +kernel
theorem d30_39 : decode prog_33_method_3_code 39 = .ok (.areturn, 1) := by decide +kernel
def Q_dts00 (Z : State) (d : Addr) (xu : Addr) (tu : Addr) (ku : ClassId) (cu : List Int32) (xv : Addr) (tv : Addr) (kv : ClassId) (cv : List Int32) (G1 : Int32) (h0 : Heap) (n0 : Nat) (vv_ : Option Value) (hh_ : Heap) (LL_ : List Loc) : Prop := ∃ (y : Addr), ∃ (t : Addr), ∃ (k : ClassId), vv_ = some (.ref y) ∧ Fr n0 LL_ ∧ Keep h0 hh_ [] ∧ h0.size ≤ y ∧ h0.size ≤ t ∧ Exa Z hh_ y "java/lang/String" ∧ Fld Z hh_ y "java/lang/String" "value" "[B" (.ref t) ∧ Fld Z hh_ y "java/lang/String" "coder" "B" (.int (0 : Int32)) ∧ Arv Z hh_ t k .byte (37 : Int32) (own_vs (own_D ++ cu ++ own_U ++ cv ++ own_E)) (.int 0)
set_option maxRecDepth 65536 in
set_option maxHeartbeats 40000000 in
theorem rm_dts00 (l : Launch) (Z : State) (a0 : Array Value) (hw : ∀ d ∈ tables_1, d.before a0 Z = true) (ws : List Jvm.Cond) (d : Addr) (xu : Addr) (tu : Addr) (ku : ClassId) (cu : List Int32) (xv : Addr) (tv : Addr) (kv : ClassId) (cv : List Int32) (G1 : Int32) (h0 : Heap) (n0 : Nat) (Z0 : n0 ≤ h0.size) (Ed : Exa Z h0 d "com/example/ermine/ermine/server/DatabaseSettings") (Furl : Fld Z h0 d "com/example/ermine/ermine/server/DatabaseSettings" "url" "Ljava/lang/String;" (.ref xu)) (Eu : Exa Z h0 xu "java/lang/String") (Vu : Fld Z h0 xu "java/lang/String" "value" "[B" (.ref tu)) (Cu : Fld Z h0 xu "java/lang/String" "coder" "B" (.int (0 : Int32))) (Au : Arv Z h0 tu ku .byte (4 : Int32) (own_vs cu) (.int 0)) (lu : cu.length = 4) (Fuser : Fld Z h0 d "com/example/ermine/ermine/server/DatabaseSettings" "user" "Ljava/lang/String;" (.ref xv)) (Ev : Exa Z h0 xv "java/lang/String") (Vv : Fld Z h0 xv "java/lang/String" "value" "[B" (.ref tv)) (Cv : Fld Z h0 xv "java/lang/String" "coder" "B" (.int (0 : Int32))) (Av : Arv Z h0 tv kv .byte (4 : Int32) (own_vs cv) (.int 0)) (lv : cv.length = 4) (S1 : Sta Z Z.heap "java/lang/String" "COMPACT_STRINGS" "Z" (.int G1)) (P1 : ¬ G1 = 0) (OL : Old Z n0 h0) :
    MetFree l y_31 (head1 (Jvm.Cond.code y_31 prog_33_method_3_code 1 (some (.object "java/lang/String")) :: ws) ({ frames := 6, cells := 12, slots := 293, locals := 91 } : Room)) (fun aa_ U => aa_ = #[(.ref d)] ∧ Z.Warmed39 U.vm ∧ U.heap = h0 ∧ CHv Z consts_1 U.vm h0) (fun _ _ _ _ _ => True) (fun _ U o U' => ∃ vv_ LL_, o = .returned vv_ ∧ Q_dts00 Z d xu tu ku cu xv tv kv cv G1 h0 n0 vv_ U'.heap LL_ ∧ CHr Z consts_1 U.vm U.heap U'.vm U'.heap ∧ ReturnedEndW U o U' LL_ 12 293) := by
  refine MetFree.of_bodySF (plainFor_of_name pn_com_example_ermine_ermine_server_DatabaseSettings) hisR ?_
  intro p e s m args below meth c s₁ Bd hml0 hP hK
  obtain ⟨rfl, hZ, hh, hC0⟩ := hP
  have hx := Bd.exec
  have hby := Bd.bytes
  have hml : c.maxLocals = 1 := hml0
  have hown : s.vm.findClass "com/example/ermine/ermine/server/DatabaseSettings" = some m.cls := findClass_of_methodNamed Bd.named
  have hnm := (name_of_methodNamed Bd.named Bd.method).1
  have X0 : Stand p l e ({ frames := 6, cells := 12, slots := 293, locals := 91 } : Room) (s.setVm s.vm) m #[(.ref d)] below meth c s₁ [] 0 0 := Stand.of_body Bd
  have e0 : s₁.heap = h0 := by rw [← hh, Bd.state]; rfl
  have N0 := Fr.nil n0
  have ef : entryFrame m #[(.ref d)] 1 = mkF m 0 #[.val (.ref d)] [] := by first | (simp [entryFrame, mkF, argsToLocals, Value.category]; done) | rfl
  have hS0 : s.Since s.vm h0.size := (State.WarmedH.refl s).since _
  have hk0 : h0.size ≤ h0.size := Nat.le_refl _
  have own_EW := own_EW0 hw
  have ch0 : CHr Z consts_1 s.vm h0 s.vm h0 := CHr.refl hC0
  refine FinH.start (Q := Q_dts00 Z d xu tu ku cu xv tv kv cv G1 h0 n0) ef ?_
  obtain ⟨T101, h101, X101, e101, E101, A101, D101, -, st101⟩ := newO X0 hx hZ hown (w_ hw 63 rfl) (w_ hw 64 rfl) (w_ hw 65 rfl) e0 (g := (mkF m 0 #[.val (.ref d)] [])) rfl (hb hby d30_0) (by decide) (by decide)
  obtain ⟨a101, g101⟩ : ∃ z, z = h0.size := ⟨_, rfl⟩
  rw [← g101] at A101 D101 st101
  refine FinH.by (fun tt_ kk_ => st101 tt_ kk_) ?_
  have ch102 : CHr Z consts_1 s.vm h0 s.vm h101 := ch0.trans (CHr.ext E101 ch0.1)
  refine FinH.by (fun tt_ kk_ => XS.dup X101.here hx rfl (hb hby d30_3) rfl rfl kk_) ?_
  have g103 : n0 ≤ a101 := Nat.le_trans Z0 (Nat.le_of_eq g101.symm)
  have O104 : Old Z n0 h101 := (OL.ext E101)
  have z105 : n0 ≤ h101.size := Nat.le_trans Z0 E101.1
  obtain ⟨v106, _, ⟨T106, L106, k106, n106⟩, -, X106, ⟨Lc106, hQ106, l106, y106, z106⟩, st106⟩ := X101.specialBack hx (y := y_7) rfl hown (mvT hZ (w_ hw 66 rfl)) (mvT hZ (w_ hw 67 rfl)) (mvT hZ (w_ hw 68 rfl)) (by decide) (backOf (W := 1) (rm_sbi l Z a0 hw [] a101 G1 h101 n0 z105 A101 (D101 (Or.inl (w_ hw 78 rfl)) (ty := (.array .byte)) (by decide) : Fld Z h101 a101 "java/lang/AbstractStringBuilder" "value" "[B" .null) (D101 (Or.inl (w_ hw 80 rfl)) (ty := .byte) (by decide) : Fld Z h101 a101 "java/lang/AbstractStringBuilder" "coder" "B" (.int (0 : Int32))) (D101 (Or.inl (w_ hw 105 rfl)) (ty := .int) (by decide) : Fld Z h101 a101 "java/lang/AbstractStringBuilder" "count" "I" (.int (0 : Int32))) g103 S1 P1 O104) hZ (w_ hw 68 rfl) (w_ hw 65 rfl) (by decide) (by decide)) (g := (mkF m 4 #[.val (.ref d)] [(.ref a101), (.ref a101)])) rfl (by rw [hml]; rfl) (Steps.refl _) (a := a101) (argsL := []) (rest := [(.ref a101)]) (lenOf pd_250 rfl) rfl (by show 2 * 0 + _ ≤ _; exact Nat.le_of_eq rfl) (hb hby d30_4) (fun _ _ => ⟨rfl, e101, (by decide : 1 + 1 ≤ _), (by decide : 4 + 16 ≤ _)⟩)
  dsimp only [Pt.U, Pt.locs, Pt.cells, Pt.slots] at X106 l106 y106 z106 st106 hQ106
  subst l106 y106 z106
  obtain ⟨v107, kv108, rfl, Nq106, p106_0, p106_1, p106_2, p106_3, p106_4, p106_5, p106_6⟩ := hQ106
  have N106_ := Fr.app N0 Nq106
  refine FinH.byS st106 ?_
  have ch109 : CHr Z consts_1 s.vm h0 s.vm T106.heap := ch102.trans (CHr.keep p106_0 (allS (Safe.exa hZ.alike A101 (by decide) (by decide)) all0) ch102.1)
  obtain ⟨a110, T110, h110, k110, b110, kk110, X110, e110, E110, hS110, hk110, hZ110, hown110, xE110, xC110, xV110, xA110, la110, lb110, hC110, hL110, hne110, st110⟩ := ldcCH X106 hx hZ hown (w_ hw 81 rfl) (fun d hd => hw d (own_strAtoms d hd)) rfl hS0 (Nat.le_trans hk0 (Nat.le_trans E101.1 p106_0.1)) own_EW (by decide) ch109.1 (vs := (own_vs own_D)) (z := (21 : Int32)) own_hD (by decide) own_zD (g := (mkF m 7 #[.val (.ref d)] [(.ref a101)])) rfl (hb hby d30_7) (n := 84) (by decide +kernel) (by decide) (by decide) (by decide)
  refine FinH.by (fun tt_ kk_ => st110 tt_ kk_) ?_
  have ch111 : CHr Z consts_1 s.vm h0 T110.vm h110 := ch109.trans hC110
  have E112 : Exa Z h110 a101 "java/lang/StringBuilder" := (p106_2.ext E110)
  have F113 : Fld Z h110 a101 "java/lang/AbstractStringBuilder" "value" "[B" (.ref v107) := (p106_3.ext E110)
  have F114 : Fld Z h110 a101 "java/lang/AbstractStringBuilder" "coder" "B" (.int (0 : Int32)) := (p106_4.ext E110)
  have F115 : Fld Z h110 a101 "java/lang/AbstractStringBuilder" "count" "I" (.int (0 : Int32)) := (p106_5.ext E110)
  have A116 : Arv Z h110 v107 kv108 .byte (16 : Int32) [] (.int 0) := (p106_6.ext E110)
  have ne117 : a101 ≠ a110 := (hne110 a101 (Safe.exa hZ110.alike E112 (by decide) (by decide))).1
  have ne118 : a101 ≠ b110 := (hne110 a101 (Safe.exa hZ110.alike E112 (by decide) (by decide))).2
  have O119 : Old Z n0 h110 := ((O104.keep p106_0 (allS g103 all0)).ext E110)
  have z120 : n0 ≤ h110.size := Nat.le_trans z105 (Nat.le_trans p106_0.1 E110.1)
  obtain ⟨cq121, kq121, qa121, qb121, qc121⟩ := isOf hZ110 e110 E112
  obtain ⟨v121, _, ⟨T121, L121, k121, n121⟩, -, X121, ⟨Lc121, hQ121, l121, y121, z121⟩, st121⟩ := X110.virtualBack hx (y := y_20) (z := y_20) hown110 (mvT hZ110 (w_ hw 84 rfl)) (mvT hZ110 (w_ hw 85 rfl)) (notFace_of_selects (args := #[]) (mvT hZ110 (w_ hw 87 rfl))) (mvT hZ110 (w_ hw 87 rfl)) (mvT hZ110 (w_ hw 86 rfl)) (by decide) (backOf (W := 0) (rm_sap0_21 l Z a0 hw [] a101 v107 kv108 ([] : List Value) a110 b110 kk110 ((own_vs own_D) : List Value) G1 h110 n0 z120 rfl (by first | rfl | (simp only [List.length_append, own_vl, lu, lv]; done) | (simp only [List.length_append, own_vl, lu, lv]; rfl)) E112 F113 F114 F115 A116 xE110 xV110 xC110 xA110 g103 (Ne.symm ne117) (Ne.symm ne118) S1 P1 O119) hZ110 (w_ hw 88 rfl) (w_ hw 65 rfl) (by decide) (by decide)) qa121 qc121 (g := (mkF m 9 #[.val (.ref d)] [(.ref a110), (.ref a101)])) rfl (by rw [hml]; rfl) (Steps.refl _) (argsL := [(.ref a110)]) (rest := []) (lenOf pd_570 rfl) rfl (by show 2 * 0 + _ ≤ _; exact Nat.le_of_eq rfl) (hb hby d30_9) (fun _ _ => ⟨rfl, e110, (by decide : 4 + 1 ≤ _), (by decide : 108 + 34 ≤ _)⟩)
  dsimp only [Pt.U, Pt.locs, Pt.cells, Pt.slots] at X121 l121 y121 z121 st121 hQ121
  subst l121 y121 z121
  obtain ⟨v122, k123, rfl, Nq121, p121_0, p121_1, p121_2, p121_3, p121_4, p121_5, p121_6⟩ := hQ121
  have N121_ := Fr.app N106_ Nq121
  refine FinH.byS st121 ?_
  have ch124 : CHr Z consts_1 s.vm h0 T110.vm T121.heap := ch111.trans (CHr.keep p121_0 (allS (Safe.exa hZ110.alike E112 (by decide) (by decide)) all0) ch111.1)
  refine FinH.by (fun tt_ kk_ => XS.aloadN X121.here hx rfl (hb hby d30_12) rfl rfl kk_) ?_
  have ne125 : d ≠ a101 := Nat.ne_of_lt (Nat.lt_of_lt_of_le Ed.lt (Nat.le_of_eq g101.symm))
  have F126 : Fld Z T121.heap d "com/example/ermine/ermine/server/DatabaseSettings" "url" "Ljava/lang/String;" (.ref xu) := ((((Furl.ext E101).keep p106_0 (ninS ne125 nin0)).ext E110).keep p121_0 (ninS ne125 nin0))
  obtain ⟨T127, X127, e127, st127⟩ := getF X121 hx hZ110 hown110 (host := "") (Or.inl (w_ hw 52 rfl)) Via.refl rfl F126 (g := (mkF m 13 #[.val (.ref d)] [(.ref d), (.ref a101)])) rfl rfl (hb hby d30_13)
  refine FinH.by (fun tt_ kk_ => st127 tt_ kk_) ?_
  have E128 : Exa Z T121.heap xu "java/lang/String" := ((((Eu.ext E101).keep p106_0).ext E110).keep p121_0)
  have ne129 : xu ≠ a101 := Nat.ne_of_lt (Nat.lt_of_lt_of_le Eu.lt (Nat.le_of_eq g101.symm))
  have F130 : Fld Z T121.heap xu "java/lang/String" "value" "[B" (.ref tu) := ((((Vu.ext E101).keep p106_0 (ninS ne129 nin0)).ext E110).keep p121_0 (ninS ne129 nin0))
  have F131 : Fld Z T121.heap xu "java/lang/String" "coder" "B" (.int (0 : Int32)) := ((((Cu.ext E101).keep p106_0 (ninS ne129 nin0)).ext E110).keep p121_0 (ninS ne129 nin0))
  have ne132 : tu ≠ a101 := Nat.ne_of_lt (Nat.lt_of_lt_of_le Au.lt (Nat.le_of_eq g101.symm))
  have A133 : Arv Z T121.heap tu ku .byte (4 : Int32) (own_vs cu) (.int 0) := ((((Au.ext E101).keep p106_0 (ninS ne132 nin0)).ext E110).keep p121_0 (ninS ne132 nin0))
  have g134 : n0 ≤ v122 := Nat.le_trans z120 p121_1
  have lt136 : a101 < h110.size := Nat.lt_of_lt_of_le A101.lt (Nat.le_trans p106_0.1 E110.1)
  have ne135 : a101 ≠ v122 := Nat.ne_of_lt (Nat.lt_of_lt_of_le lt136 p121_1)
  have O137 : Old Z n0 T121.heap := (O119.keep p121_0 (allS g103 all0))
  have z138 : n0 ≤ T121.heap.size := Nat.le_trans z120 p121_0.1
  obtain ⟨cq139, kq139, qa139, qb139, qc139⟩ := isOf hZ110 e127 p121_2
  obtain ⟨v139, _, ⟨T139, L139, k139, n139⟩, -, X139, ⟨Lc139, hQ139, l139, y139, z139⟩, st139⟩ := X127.virtualBack hx (y := y_20) (z := y_20) hown110 (mvT hZ110 (w_ hw 84 rfl)) (mvT hZ110 (w_ hw 85 rfl)) (notFace_of_selects (args := #[]) (mvT hZ110 (w_ hw 87 rfl))) (mvT hZ110 (w_ hw 87 rfl)) (mvT hZ110 (w_ hw 86 rfl)) (by decide) (backOf (W := 0) (rm_sap21_4 l Z a0 hw [] a101 v122 k123 ((([] : List Value) ++ ((own_vs own_D) : List Value)) : List Value) xu tu ku ((own_vs cu) : List Value) G1 T121.heap n0 z138 (by first | rfl | (simp only [List.length_append, own_vl, lu, lv]; done) | (simp only [List.length_append, own_vl, lu, lv]; rfl)) (by first | rfl | (simp only [List.length_append, own_vl, lu, lv]; done) | (simp only [List.length_append, own_vl, lu, lv]; rfl)) p121_2 p121_3 p121_4 p121_5 p121_6 E128 F130 F131 A133 g103 g134 ne135 S1 P1 O137) hZ110 (w_ hw 88 rfl) (w_ hw 65 rfl) (by decide) (by decide)) qa139 qc139 (g := (mkF m 16 #[.val (.ref d)] [(.ref xu), (.ref a101)])) rfl (by rw [hml]; rfl) (Steps.refl _) (argsL := [(.ref xu)]) (rest := []) (lenOf pd_570 rfl) rfl (by show 2 * 0 + _ ≤ _; exact Nat.le_of_eq rfl) (hb hby d30_16) (fun _ _ => ⟨rfl, e127, (by decide : 5 + 0 ≤ _), (by decide : 142 + 0 ≤ _)⟩)
  dsimp only [Pt.U, Pt.locs, Pt.cells, Pt.slots] at X139 l139 y139 z139 st139 hQ139
  subst l139 y139 z139
  obtain ⟨rfl, Nq139, p139_0, p139_1, p139_2, p139_3, p139_4, p139_5⟩ := hQ139
  have N139_ := Fr.app N121_ Nq139
  refine FinH.byS st139 ?_
  have sf141 : Safe Z consts_1 s.vm h101 a101 := (Safe.ext E101 ch0.1 (Safe.new (Nat.le_of_eq g101.symm)))
  have sf142 : Safe Z consts_1 s.vm T106.heap a101 := (Safe.keep p106_0 (allS sf141 all0) ch102.1 sf141)
  have sf143 : Safe Z consts_1 T110.vm h110 a101 := (CHr.safe hC110 (Nat.lt_of_lt_of_le A101.lt p106_0.1) sf142)
  have sf144 : Safe Z consts_1 T110.vm T121.heap v122 := (Safe.keep p121_0 (allS sf143 all0) ch111.1 (Safe.new p121_1))
  have ch140 : CHr Z consts_1 s.vm h0 T110.vm T139.heap := ch124.trans (CHr.keep p139_0 (allS (Safe.exa hZ110.alike p121_2 (by decide) (by decide)) (allS sf144 all0)) ch124.1)
  obtain ⟨a145, T145, h145, k145, b145, kk145, X145, e145, E145, hS145, hk145, hZ145, hown145, xE145, xC145, xV145, xA145, la145, lb145, hC145, hL145, hne145, st145⟩ := ldcCH X139 hx hZ110 hown110 (w_ hw 164 rfl) (fun d hd => hw d (own_strAtoms d hd)) rfl hS110 (Nat.le_trans hk110 (Nat.le_trans p121_0.1 p139_0.1)) own_EW (by decide) ch140.1 (vs := (own_vs own_U)) (z := (7 : Int32)) own_hU (by decide) own_zU (g := (mkF m 19 #[.val (.ref d)] [(.ref a101)])) rfl (hb hby d30_19) (n := 28) (by decide +kernel) (by decide) (by decide) (by decide)
  refine FinH.by (fun tt_ kk_ => st145 tt_ kk_) ?_
  have ch146 : CHr Z consts_1 s.vm h0 T145.vm h145 := ch140.trans hC145
  have E147 : Exa Z h145 a101 "java/lang/StringBuilder" := (p139_1.ext E145)
  have F148 : Fld Z h145 a101 "java/lang/AbstractStringBuilder" "value" "[B" (.ref v122) := (p139_2.ext E145)
  have F149 : Fld Z h145 a101 "java/lang/AbstractStringBuilder" "coder" "B" (.int (0 : Int32)) := (p139_3.ext E145)
  have F150 : Fld Z h145 a101 "java/lang/AbstractStringBuilder" "count" "I" (.int (25 : Int32)) := (p139_4.ext E145)
  have A151 : Arv Z h145 v122 k123 .byte (34 : Int32) (((([] : List Value) ++ ((own_vs own_D) : List Value)) : List Value) ++ ((own_vs cu) : List Value)) (.int 0) := (p139_5.ext E145)
  have O152 : Old Z n0 h145 := ((O137.keep p139_0 (allS g103 (allS g134 all0))).ext E145)
  have z153 : n0 ≤ h145.size := Nat.le_trans z138 (Nat.le_trans p139_0.1 E145.1)
  obtain ⟨cq154, kq154, qa154, qb154, qc154⟩ := isOf hZ145 e145 E147
  obtain ⟨v154, _, ⟨T154, L154, k154, n154⟩, -, X154, ⟨Lc154, hQ154, l154, y154, z154⟩, st154⟩ := X145.virtualBack hx (y := y_20) (z := y_20) hown145 (mvT hZ145 (w_ hw 84 rfl)) (mvT hZ145 (w_ hw 85 rfl)) (notFace_of_selects (args := #[]) (mvT hZ145 (w_ hw 87 rfl))) (mvT hZ145 (w_ hw 87 rfl)) (mvT hZ145 (w_ hw 86 rfl)) (by decide) (backOf (W := 0) (rm_sap25_7 l Z a0 hw [] a101 v122 k123 ((((([] : List Value) ++ ((own_vs own_D) : List Value)) : List Value) ++ ((own_vs cu) : List Value)) : List Value) a145 b145 kk145 ((own_vs own_U) : List Value) G1 h145 n0 z153 (by first | rfl | (simp only [List.length_append, own_vl, lu, lv]; done) | (simp only [List.length_append, own_vl, lu, lv]; rfl)) (by first | rfl | (simp only [List.length_append, own_vl, lu, lv]; done) | (simp only [List.length_append, own_vl, lu, lv]; rfl)) E147 F148 F149 F150 A151 xE145 xV145 xC145 xA145 g103 g134 ne135 S1 P1 O152) hZ145 (w_ hw 88 rfl) (w_ hw 65 rfl) (by decide) (by decide)) qa154 qc154 (g := (mkF m 21 #[.val (.ref d)] [(.ref a145), (.ref a101)])) rfl (by rw [hml]; rfl) (Steps.refl _) (argsL := [(.ref a145)]) (rest := []) (lenOf pd_570 rfl) rfl (by show 2 * 0 + _ ≤ _; exact Nat.le_of_eq rfl) (hb hby d30_21) (fun _ _ => ⟨rfl, e145, (by decide : 7 + 0 ≤ _), (by decide : 174 + 0 ≤ _)⟩)
  dsimp only [Pt.U, Pt.locs, Pt.cells, Pt.slots] at X154 l154 y154 z154 st154 hQ154
  subst l154 y154 z154
  obtain ⟨rfl, Nq154, p154_0, p154_1, p154_2, p154_3, p154_4, p154_5⟩ := hQ154
  have N154_ := Fr.app N139_ Nq154
  refine FinH.byS st154 ?_
  have sf156 : Safe Z consts_1 T110.vm T121.heap a101 := (Safe.keep p121_0 (allS sf143 all0) ch111.1 sf143)
  have sf157 : Safe Z consts_1 T110.vm T139.heap v122 := (Safe.keep p139_0 (allS sf156 (allS sf144 all0)) ch124.1 sf144)
  have sf158 : Safe Z consts_1 T145.vm h145 v122 := (CHr.safe hC145 (Nat.lt_of_lt_of_le p121_6.lt p139_0.1) sf157)
  have ch155 : CHr Z consts_1 s.vm h0 T145.vm T154.heap := ch146.trans (CHr.keep p154_0 (allS (Safe.exa hZ145.alike E147 (by decide) (by decide)) (allS sf158 all0)) ch146.1)
  refine FinH.by (fun tt_ kk_ => XS.aloadN X154.here hx rfl (hb hby d30_24) rfl rfl kk_) ?_
  have lt160 : d < h110.size := Nat.lt_of_lt_of_le Ed.lt (Nat.le_trans (Nat.le_trans E101.1 p106_0.1) E110.1)
  have ne159 : d ≠ v122 := Nat.ne_of_lt (Nat.lt_of_lt_of_le lt160 p121_1)
  have F161 : Fld Z T154.heap d "com/example/ermine/ermine/server/DatabaseSettings" "user" "Ljava/lang/String;" (.ref xv) := (((((((Fuser.ext E101).keep p106_0 (ninS ne125 nin0)).ext E110).keep p121_0 (ninS ne125 nin0)).keep p139_0 (ninS ne125 (ninS ne159 nin0))).ext E145).keep p154_0 (ninS ne125 (ninS ne159 nin0)))
  obtain ⟨T162, X162, e162, st162⟩ := getF X154 hx hZ145 hown145 (host := "") (Or.inl (w_ hw 54 rfl)) Via.refl rfl F161 (g := (mkF m 25 #[.val (.ref d)] [(.ref d), (.ref a101)])) rfl rfl (hb hby d30_25)
  refine FinH.by (fun tt_ kk_ => st162 tt_ kk_) ?_
  have E163 : Exa Z T154.heap xv "java/lang/String" := (((((((Ev.ext E101).keep p106_0).ext E110).keep p121_0).keep p139_0).ext E145).keep p154_0)
  have ne164 : xv ≠ a101 := Nat.ne_of_lt (Nat.lt_of_lt_of_le Ev.lt (Nat.le_of_eq g101.symm))
  have lt166 : xv < h110.size := Nat.lt_of_lt_of_le Ev.lt (Nat.le_trans (Nat.le_trans E101.1 p106_0.1) E110.1)
  have ne165 : xv ≠ v122 := Nat.ne_of_lt (Nat.lt_of_lt_of_le lt166 p121_1)
  have F167 : Fld Z T154.heap xv "java/lang/String" "value" "[B" (.ref tv) := (((((((Vv.ext E101).keep p106_0 (ninS ne164 nin0)).ext E110).keep p121_0 (ninS ne164 nin0)).keep p139_0 (ninS ne164 (ninS ne165 nin0))).ext E145).keep p154_0 (ninS ne164 (ninS ne165 nin0)))
  have F168 : Fld Z T154.heap xv "java/lang/String" "coder" "B" (.int (0 : Int32)) := (((((((Cv.ext E101).keep p106_0 (ninS ne164 nin0)).ext E110).keep p121_0 (ninS ne164 nin0)).keep p139_0 (ninS ne164 (ninS ne165 nin0))).ext E145).keep p154_0 (ninS ne164 (ninS ne165 nin0)))
  have ne169 : tv ≠ a101 := Nat.ne_of_lt (Nat.lt_of_lt_of_le Av.lt (Nat.le_of_eq g101.symm))
  have lt171 : tv < h110.size := Nat.lt_of_lt_of_le Av.lt (Nat.le_trans (Nat.le_trans E101.1 p106_0.1) E110.1)
  have ne170 : tv ≠ v122 := Nat.ne_of_lt (Nat.lt_of_lt_of_le lt171 p121_1)
  have A172 : Arv Z T154.heap tv kv .byte (4 : Int32) (own_vs cv) (.int 0) := (((((((Av.ext E101).keep p106_0 (ninS ne169 nin0)).ext E110).keep p121_0 (ninS ne169 nin0)).keep p139_0 (ninS ne169 (ninS ne170 nin0))).ext E145).keep p154_0 (ninS ne169 (ninS ne170 nin0)))
  have O173 : Old Z n0 T154.heap := (O152.keep p154_0 (allS g103 (allS g134 all0)))
  have z174 : n0 ≤ T154.heap.size := Nat.le_trans z153 p154_0.1
  obtain ⟨cq175, kq175, qa175, qb175, qc175⟩ := isOf hZ145 e162 p154_1
  obtain ⟨v175, _, ⟨T175, L175, k175, n175⟩, -, X175, ⟨Lc175, hQ175, l175, y175, z175⟩, st175⟩ := X162.virtualBack hx (y := y_20) (z := y_20) hown145 (mvT hZ145 (w_ hw 84 rfl)) (mvT hZ145 (w_ hw 85 rfl)) (notFace_of_selects (args := #[]) (mvT hZ145 (w_ hw 87 rfl))) (mvT hZ145 (w_ hw 87 rfl)) (mvT hZ145 (w_ hw 86 rfl)) (by decide) (backOf (W := 0) (rm_sap32_4 l Z a0 hw [] a101 v122 k123 ((((((([] : List Value) ++ ((own_vs own_D) : List Value)) : List Value) ++ ((own_vs cu) : List Value)) : List Value) ++ ((own_vs own_U) : List Value)) : List Value) xv tv kv ((own_vs cv) : List Value) G1 T154.heap n0 z174 (by first | rfl | (simp only [List.length_append, own_vl, lu, lv]; done) | (simp only [List.length_append, own_vl, lu, lv]; rfl)) (by first | rfl | (simp only [List.length_append, own_vl, lu, lv]; done) | (simp only [List.length_append, own_vl, lu, lv]; rfl)) p154_1 p154_2 p154_3 p154_4 p154_5 E163 F167 F168 A172 g103 ne164 ne169 S1 P1 O173) hZ145 (w_ hw 88 rfl) (w_ hw 65 rfl) (by decide) (by decide)) qa175 qc175 (g := (mkF m 28 #[.val (.ref d)] [(.ref xv), (.ref a101)])) rfl (by rw [hml]; rfl) (Steps.refl _) (argsL := [(.ref xv)]) (rest := []) (lenOf pd_570 rfl) rfl (by show 2 * 0 + _ ≤ _; exact Nat.le_of_eq rfl) (hb hby d30_28) (fun _ _ => ⟨rfl, e162, (by decide : 7 + 1 ≤ _), (by decide : 174 + 70 ≤ _)⟩)
  dsimp only [Pt.U, Pt.locs, Pt.cells, Pt.slots] at X175 l175 y175 z175 st175 hQ175
  subst l175 y175 z175
  obtain ⟨v176, k177, rfl, Nq175, p175_0, p175_1, p175_2, p175_3, p175_4, p175_5, p175_6⟩ := hQ175
  have N175_ := Fr.app N154_ Nq175
  refine FinH.byS st175 ?_
  have ch178 : CHr Z consts_1 s.vm h0 T145.vm T175.heap := ch155.trans (CHr.keep p175_0 (allS (Safe.exa hZ145.alike p154_1 (by decide) (by decide)) all0) ch155.1)
  obtain ⟨a179, T179, h179, k179, b179, kk179, X179, e179, E179, hS179, hk179, hZ179, hown179, xE179, xC179, xV179, xA179, la179, lb179, hC179, hL179, hne179, st179⟩ := ldcCH X175 hx hZ145 hown145 (w_ hw 165 rfl) (fun d hd => hw d (own_strAtoms d hd)) rfl hS145 (Nat.le_trans hk145 (Nat.le_trans p154_0.1 p175_0.1)) own_EW (by decide) ch178.1 (vs := (own_vs own_E)) (z := (1 : Int32)) own_hE (by decide) own_zE (g := (mkF m 31 #[.val (.ref d)] [(.ref a101)])) rfl (hb hby d30_31) (n := 4) (by decide +kernel) (by decide) (by decide) (by decide)
  refine FinH.by (fun tt_ kk_ => st179 tt_ kk_) ?_
  have ch180 : CHr Z consts_1 s.vm h0 T179.vm h179 := ch178.trans hC179
  have E181 : Exa Z h179 a101 "java/lang/StringBuilder" := (p175_2.ext E179)
  have F182 : Fld Z h179 a101 "java/lang/AbstractStringBuilder" "value" "[B" (.ref v176) := (p175_3.ext E179)
  have F183 : Fld Z h179 a101 "java/lang/AbstractStringBuilder" "coder" "B" (.int (0 : Int32)) := (p175_4.ext E179)
  have F184 : Fld Z h179 a101 "java/lang/AbstractStringBuilder" "count" "I" (.int (36 : Int32)) := (p175_5.ext E179)
  have A185 : Arv Z h179 v176 k177 .byte (70 : Int32) (((((((([] : List Value) ++ ((own_vs own_D) : List Value)) : List Value) ++ ((own_vs cu) : List Value)) : List Value) ++ ((own_vs own_U) : List Value)) : List Value) ++ ((own_vs cv) : List Value)) (.int 0) := (p175_6.ext E179)
  have g186 : n0 ≤ v176 := Nat.le_trans z174 p175_1
  have lt188 : a101 < T154.heap.size := Nat.lt_of_lt_of_le lt136 (Nat.le_trans (Nat.le_trans (Nat.le_trans p121_0.1 p139_0.1) E145.1) p154_0.1)
  have ne187 : a101 ≠ v176 := Nat.ne_of_lt (Nat.lt_of_lt_of_le lt188 p175_1)
  have O189 : Old Z n0 h179 := ((O173.keep p175_0 (allS g103 all0)).ext E179)
  have z190 : n0 ≤ h179.size := Nat.le_trans z174 (Nat.le_trans p175_0.1 E179.1)
  obtain ⟨cq191, kq191, qa191, qb191, qc191⟩ := isOf hZ179 e179 E181
  obtain ⟨v191, _, ⟨T191, L191, k191, n191⟩, -, X191, ⟨Lc191, hQ191, l191, y191, z191⟩, st191⟩ := X179.virtualBack hx (y := y_20) (z := y_20) hown179 (mvT hZ179 (w_ hw 84 rfl)) (mvT hZ179 (w_ hw 85 rfl)) (notFace_of_selects (args := #[]) (mvT hZ179 (w_ hw 87 rfl))) (mvT hZ179 (w_ hw 87 rfl)) (mvT hZ179 (w_ hw 86 rfl)) (by decide) (backOf (W := 0) (rm_sap36_1 l Z a0 hw [] a101 v176 k177 ((((((((([] : List Value) ++ ((own_vs own_D) : List Value)) : List Value) ++ ((own_vs cu) : List Value)) : List Value) ++ ((own_vs own_U) : List Value)) : List Value) ++ ((own_vs cv) : List Value)) : List Value) a179 b179 kk179 ((own_vs own_E) : List Value) G1 h179 n0 z190 (by first | rfl | (simp only [List.length_append, own_vl, lu, lv]; done) | (simp only [List.length_append, own_vl, lu, lv]; rfl)) (by first | rfl | (simp only [List.length_append, own_vl, lu, lv]; done) | (simp only [List.length_append, own_vl, lu, lv]; rfl)) E181 F182 F183 F184 A185 xE179 xV179 xC179 xA179 g103 g186 ne187 S1 P1 O189) hZ179 (w_ hw 88 rfl) (w_ hw 65 rfl) (by decide) (by decide)) qa191 qc191 (g := (mkF m 33 #[.val (.ref d)] [(.ref a179), (.ref a101)])) rfl (by rw [hml]; rfl) (Steps.refl _) (argsL := [(.ref a179)]) (rest := []) (lenOf pd_570 rfl) rfl (by show 2 * 0 + _ ≤ _; exact Nat.le_of_eq rfl) (hb hby d30_33) (fun _ _ => ⟨rfl, e179, (by decide : 10 + 0 ≤ _), (by decide : 252 + 0 ≤ _)⟩)
  dsimp only [Pt.U, Pt.locs, Pt.cells, Pt.slots] at X191 l191 y191 z191 st191 hQ191
  subst l191 y191 z191
  obtain ⟨rfl, Nq191, p191_0, p191_1, p191_2, p191_3, p191_4, p191_5⟩ := hQ191
  have N191_ := Fr.app N175_ Nq191
  refine FinH.byS st191 ?_
  have sf193 : Safe Z consts_1 T110.vm T139.heap a101 := (Safe.keep p139_0 (allS sf156 (allS sf144 all0)) ch124.1 sf156)
  have sf194 : Safe Z consts_1 T145.vm h145 a101 := (CHr.safe hC145 (Nat.lt_of_lt_of_le A101.lt (Nat.le_trans (Nat.le_trans (Nat.le_trans p106_0.1 E110.1) p121_0.1) p139_0.1)) sf193)
  have sf195 : Safe Z consts_1 T145.vm T154.heap a101 := (Safe.keep p154_0 (allS sf194 (allS sf158 all0)) ch146.1 sf194)
  have sf196 : Safe Z consts_1 T145.vm T175.heap v176 := (Safe.keep p175_0 (allS sf195 all0) ch155.1 (Safe.new p175_1))
  have sf197 : Safe Z consts_1 T179.vm h179 v176 := (CHr.safe hC179 p175_6.lt sf196)
  have ch192 : CHr Z consts_1 s.vm h0 T179.vm T191.heap := ch180.trans (CHr.keep p191_0 (allS (Safe.exa hZ179.alike E181 (by decide) (by decide)) (allS sf197 all0)) ch180.1)
  have O198 : Old Z n0 T191.heap := (O189.keep p191_0 (allS g103 (allS g186 all0)))
  have z199 : n0 ≤ T191.heap.size := Nat.le_trans z190 p191_0.1
  obtain ⟨cq200, kq200, qa200, qb200, qc200⟩ := isOf hZ179 rfl p191_1
  obtain ⟨v200, _, ⟨T200, L200, k200, n200⟩, -, X200, ⟨Lc200, hQ200, l200, y200, z200⟩, st200⟩ := X191.virtualBack hx (y := y_30) (z := y_30) hown179 (mvT hZ179 (w_ hw 166 rfl)) (mvT hZ179 (w_ hw 167 rfl)) (notFace_of_selects (args := #[]) (mvT hZ179 (w_ hw 169 rfl))) (mvT hZ179 (w_ hw 169 rfl)) (mvT hZ179 (w_ hw 168 rfl)) (by decide) (backOf (W := 0) (rm_tos37 l Z a0 hw [] a101 v176 k177 ((((((((((([] : List Value) ++ ((own_vs own_D) : List Value)) : List Value) ++ ((own_vs cu) : List Value)) : List Value) ++ ((own_vs own_U) : List Value)) : List Value) ++ ((own_vs cv) : List Value)) : List Value) ++ ((own_vs own_E) : List Value)) : List Value) G1 T191.heap n0 z199 (by first | rfl | (simp only [List.length_append, own_vl, lu, lv]; done) | (simp only [List.length_append, own_vl, lu, lv]; rfl)) p191_1 p191_2 p191_3 p191_4 p191_5 S1 P1 O198) hZ179 (w_ hw 170 rfl) (w_ hw 65 rfl) (by decide) (by decide)) qa200 qc200 (g := (mkF m 36 #[.val (.ref d)] [(.ref a101)])) rfl (by rw [hml]; rfl) (Steps.refl _) (argsL := []) (rest := []) (lenOf pd_582 rfl) rfl (by show 2 * 0 + _ ≤ _; exact Nat.le_of_eq rfl) (hb hby d30_36) (fun _ _ => ⟨rfl, rfl, (by decide : 10 + 2 ≤ _), (by decide : 252 + 41 ≤ _)⟩)
  dsimp only [Pt.U, Pt.locs, Pt.cells, Pt.slots] at X200 l200 y200 z200 st200 hQ200
  subst l200 y200 z200
  obtain ⟨x201, t202, k203, rfl, Nq200, p200_0, p200_1, p200_2, p200_3, p200_4, p200_5, p200_6, p200_7⟩ := hQ200
  have N200_ := Fr.app N191_ Nq200
  refine FinH.byS st200 ?_
  have ch204 : CHr Z consts_1 s.vm h0 T179.vm T200.heap := ch192.trans (CHr.keep p200_0 all0 ch192.1)
  have V205 : Arv Z T200.heap t202 k203 .byte (37 : Int32) (own_vs (own_D ++ cu ++ own_U ++ cv ++ own_E)) (.int 0) := by have q := p200_7; simp only [List.nil_append, ← own_va] at q; exact q
  have kp206 : Keep h0 h101 [] := (Keep.refl h0 []).ext E101
  have kp207 : Keep h0 T106.heap [] := kp206.trans p106_0 (allS (Or.inr (Nat.le_trans (Nat.le_refl _) (Nat.le_of_eq g101.symm))) all0)
  have kp208 : Keep h0 h110 [] := kp207.ext E110
  have kp209 : Keep h0 T121.heap [] := kp208.trans p121_0 (allS (Or.inr (Nat.le_trans (Nat.le_refl _) (Nat.le_of_eq g101.symm))) all0)
  have kp210 : Keep h0 T139.heap [] := kp209.trans p139_0 (allS (Or.inr (Nat.le_trans (Nat.le_refl _) (Nat.le_of_eq g101.symm))) (allS (Or.inr (Nat.le_trans (Nat.le_trans (Nat.le_trans E101.1 p106_0.1) E110.1) p121_1)) all0))
  have kp211 : Keep h0 h145 [] := kp210.ext E145
  have kp212 : Keep h0 T154.heap [] := kp211.trans p154_0 (allS (Or.inr (Nat.le_trans (Nat.le_refl _) (Nat.le_of_eq g101.symm))) (allS (Or.inr (Nat.le_trans (Nat.le_trans (Nat.le_trans E101.1 p106_0.1) E110.1) p121_1)) all0))
  have kp213 : Keep h0 T175.heap [] := kp212.trans p175_0 (allS (Or.inr (Nat.le_trans (Nat.le_refl _) (Nat.le_of_eq g101.symm))) all0)
  have kp214 : Keep h0 h179 [] := kp213.ext E179
  have kp215 : Keep h0 T191.heap [] := kp214.trans p191_0 (allS (Or.inr (Nat.le_trans (Nat.le_refl _) (Nat.le_of_eq g101.symm))) (allS (Or.inr (Nat.le_trans (Nat.le_trans (Nat.le_trans (Nat.le_trans (Nat.le_trans (Nat.le_trans (Nat.le_trans E101.1 p106_0.1) E110.1) p121_0.1) p139_0.1) E145.1) p154_0.1) p175_1)) all0))
  have kp216 : Keep h0 T200.heap [] := kp215.trans p200_0 all0
  show FinH _ _ _ _ _ _ _ _ _ (T200.setTop (mkF m 39 #[.val (.ref d)] [(.ref x201)]))
  exact FinH.ret (v := some (.ref x201)) X200 hS179 ((Nat.le_trans hk179 (Nat.le_trans p191_0.1 p200_0.1))) (fun h => by rw [Bd.returns] at h; cases h) Bd.notSynchronized (⟨x201, t202, k203, rfl, N200_, kp216, (Nat.le_trans (Nat.le_trans (Nat.le_trans (Nat.le_trans (Nat.le_trans (Nat.le_trans (Nat.le_trans (Nat.le_trans (Nat.le_trans (Nat.le_trans E101.1 p106_0.1) E110.1) p121_0.1) p139_0.1) E145.1) p154_0.1) p175_0.1) E179.1) p191_0.1) p200_1), (Nat.le_trans (Nat.le_trans (Nat.le_trans (Nat.le_trans (Nat.le_trans (Nat.le_trans (Nat.le_trans (Nat.le_trans (Nat.le_trans (Nat.le_trans E101.1 p106_0.1) E110.1) p121_0.1) p139_0.1) E145.1) p154_0.1) p175_0.1) E179.1) p191_0.1) p200_3), p200_4, p200_5, p200_6, V205⟩) (by rw [hh]; exact ch204.trans (CHv.at X200 hZ179 own_EW ch204.1)) (by decide) (by decide) (fun fs hr => retA X200 hx Bd.returns rfl rfl (hb hby d30_39) hr)
abbrev y_32 : MethodName := (⟨"java/lang/AbstractStringBuilder", "appendNull", "()Ljava/lang/AbstractStringBuilder;"⟩ : MethodName)
theorem d31_0 : decode jdk_68_method_26_code 0 = .ok (.aload_n 0, 1) := by decide +kernel
theorem d31_1 : decode jdk_68_method_26_code 1 = .ok (.aload_n 0, 1) := by decide +kernel
theorem d31_2 : decode jdk_68_method_26_code 2 = .ok (.getfield 79, 3) := by decide +kernel
theorem d31_5 : decode jdk_68_method_26_code 5 = .ok (.iconst 4, 1) := by decide +kernel
theorem d31_6 : decode jdk_68_method_26_code 6 = .ok (.iadd, 1) := by decide +kernel
theorem d31_7 : decode jdk_68_method_26_code 7 = .ok (.invokevirtual 100, 3) := by decide +kernel
theorem d31_10 : decode jdk_68_method_26_code 10 = .ok (.aload_n 0, 1) := by decide +kernel
theorem d31_11 : decode jdk_68_method_26_code 11 = .ok (.getfield 79, 3) := by decide +kernel
theorem d31_14 : decode jdk_68_method_26_code 14 = .ok (.istore_n 1, 1) := by decide +kernel
theorem d31_15 : decode jdk_68_method_26_code 15 = .ok (.aload_n 0, 1) := by decide +kernel
theorem d31_16 : decode jdk_68_method_26_code 16 = .ok (.getfield 15, 3) := by decide +kernel
theorem d31_19 : decode jdk_68_method_26_code 19 = .ok (.astore_n 2, 1) := by decide +kernel
theorem d31_20 : decode jdk_68_method_26_code 20 = .ok (.aload_n 0, 1) := by decide +kernel
theorem d31_21 : decode jdk_68_method_26_code 21 = .ok (.invokevirtual 83, 3) := by decide +kernel
theorem d31_24 : decode jdk_68_method_26_code 24 = .ok (.ifCond .eq 38, 3) := by decide +kernel
theorem d31_27 : decode jdk_68_method_26_code 27 = .ok (.aload_n 2, 1) := by decide +kernel
theorem d31_28 : decode jdk_68_method_26_code 28 = .ok (.iload_n 1, 1) := by decide +kernel
theorem d31_29 : decode jdk_68_method_26_code 29 = .ok (.iinc 1 1, 3) := by decide +kernel
theorem d31_32 : decode jdk_68_method_26_code 32 = .ok (.bipush 110, 2) := by decide +kernel
theorem d31_34 : decode jdk_68_method_26_code 34 = .ok (.bastore, 1) := by decide +kernel
theorem d31_35 : decode jdk_68_method_26_code 35 = .ok (.aload_n 2, 1) := by decide +kernel
theorem d31_36 : decode jdk_68_method_26_code 36 = .ok (.iload_n 1, 1) := by decide +kernel
theorem d31_37 : decode jdk_68_method_26_code 37 = .ok (.iinc 1 1, 3) := by decide +kernel
theorem d31_40 : decode jdk_68_method_26_code 40 = .ok (.bipush 117, 2) := by decide +kernel
theorem d31_42 : decode jdk_68_method_26_code 42 = .ok (.bastore, 1) := by decide +kernel
theorem d31_43 : decode jdk_68_method_26_code 43 = .ok (.aload_n 2, 1) := by decide +kernel
theorem d31_44 : decode jdk_68_method_26_code 44 = .ok (.iload_n 1, 1) := by decide +kernel
theorem d31_45 : decode jdk_68_method_26_code 45 = .ok (.iinc 1 1, 3) := by decide +kernel
theorem d31_48 : decode jdk_68_method_26_code 48 = .ok (.bipush 108, 2) := by decide +kernel
theorem d31_50 : decode jdk_68_method_26_code 50 = .ok (.bastore, 1) := by decide +kernel
theorem d31_51 : decode jdk_68_method_26_code 51 = .ok (.aload_n 2, 1) := by decide +kernel
theorem d31_52 : decode jdk_68_method_26_code 52 = .ok (.iload_n 1, 1) := by decide +kernel
theorem d31_53 : decode jdk_68_method_26_code 53 = .ok (.iinc 1 1, 3) := by decide +kernel
theorem d31_56 : decode jdk_68_method_26_code 56 = .ok (.bipush 108, 2) := by decide +kernel
theorem d31_58 : decode jdk_68_method_26_code 58 = .ok (.bastore, 1) := by decide +kernel
theorem d31_59 : decode jdk_68_method_26_code 59 = .ok (.goto 17, 3) := by decide +kernel
theorem d31_76 : decode jdk_68_method_26_code 76 = .ok (.aload_n 0, 1) := by decide +kernel
theorem d31_77 : decode jdk_68_method_26_code 77 = .ok (.iload_n 1, 1) := by decide +kernel
theorem d31_78 : decode jdk_68_method_26_code 78 = .ok (.putfield 79, 3) := by decide +kernel
theorem d31_81 : decode jdk_68_method_26_code 81 = .ok (.aload_n 0, 1) := by decide +kernel
theorem d31_82 : decode jdk_68_method_26_code 82 = .ok (.areturn, 1) := by decide +kernel
def Q_apn32 (Z : State) (a : Addr) (v : Addr) (kv : ClassId) (vs : List Value) (G1 : Int32) (h0 : Heap) (n0 : Nat) (vv_ : Option Value) (hh_ : Heap) (LL_ : List Loc) : Prop := ∃ (v2 : Addr), ∃ (k2 : ClassId), vv_ = some (.ref a) ∧ Fr n0 LL_ ∧ Keep h0 hh_ [a] ∧ h0.size ≤ v2 ∧ Exa Z hh_ a "java/lang/StringBuilder" ∧ Fld Z hh_ a "java/lang/AbstractStringBuilder" "value" "[B" (.ref v2) ∧ Fld Z hh_ a "java/lang/AbstractStringBuilder" "coder" "B" (.int (0 : Int32)) ∧ Fld Z hh_ a "java/lang/AbstractStringBuilder" "count" "I" (.int (36 : Int32)) ∧ Arv Z hh_ v2 k2 .byte (70 : Int32) (vs ++ own_vs own_N) (.int 0)
set_option maxRecDepth 65536 in
set_option maxHeartbeats 40000000 in
theorem rm_apn32 (l : Launch) (Z : State) (a0 : Array Value) (hw : ∀ d ∈ tables_1, d.before a0 Z = true) (ws : List Jvm.Cond) (a : Addr) (v : Addr) (kv : ClassId) (vs : List Value) (G1 : Int32) (h0 : Heap) (n0 : Nat) (Z0 : n0 ≤ h0.size) (hvd : vs.length = 32) (E0 : Exa Z h0 a "java/lang/StringBuilder") (F0 : Fld Z h0 a "java/lang/AbstractStringBuilder" "value" "[B" (.ref v)) (F1 : Fld Z h0 a "java/lang/AbstractStringBuilder" "coder" "B" (.int (0 : Int32))) (F2 : Fld Z h0 a "java/lang/AbstractStringBuilder" "count" "I" (.int (32 : Int32))) (A0 : Arv Z h0 v kv .byte (34 : Int32) vs (.int 0)) (ga : n0 ≤ a) (S1 : Sta Z Z.heap "java/lang/String" "COMPACT_STRINGS" "Z" (.int G1)) (P1 : ¬ G1 = 0) (OL : Old Z n0 h0) :
    MetFree l y_32 (head1 (Jvm.Cond.code y_32 jdk_68_method_26_code 3 (some (.object "java/lang/AbstractStringBuilder")) :: ws) ({ frames := 4, cells := 1, slots := 70, locals := 62 } : Room)) (fun aa_ U => aa_ = #[(.ref a)] ∧ Z.Warmed39 U.vm ∧ U.heap = h0) (fun _ _ _ _ _ => True) (fun _ U o U' => ∃ vv_ LL_, o = .returned vv_ ∧ Q_apn32 Z a v kv vs G1 h0 n0 vv_ U'.heap LL_ ∧ FrameEnd U o U' LL_ 1 70) := by
  refine MetFree.of_bodySF (plainFor_of_name pn_java_lang_AbstractStringBuilder) hisR ?_
  intro p e s m args below meth c s₁ Bd hml0 hP hK
  obtain ⟨rfl, hZ, hh⟩ := hP
  have hx := Bd.exec
  have hby := Bd.bytes
  have hml : c.maxLocals = 3 := hml0
  have hown : s.vm.findClass "java/lang/AbstractStringBuilder" = some m.cls := findClass_of_methodNamed Bd.named
  have hnm := (name_of_methodNamed Bd.named Bd.method).1
  have X0 : Stand p l e ({ frames := 4, cells := 1, slots := 70, locals := 62 } : Room) s m #[(.ref a)] below meth c s₁ [] 0 0 := Stand.of_body Bd
  have e0 : s₁.heap = h0 := by rw [← hh, Bd.state]; rfl
  have N0 := Fr.nil n0
  have ef : entryFrame m #[(.ref a)] 3 = mkF m 0 #[.val (.ref a), .unset, .unset] [] := by first | (simp [entryFrame, mkF, argsToLocals, Value.category]; done) | rfl
  refine Fin.start (Q := Q_apn32 Z a v kv vs G1 h0 n0) ef ?_
  refine Fin.by (fun tt_ kk_ => XS.aloadN X0.here hx rfl (hb hby d31_0) rfl rfl (XS.aloadN X0.here hx rfl (hb hby d31_1) rfl rfl kk_)) ?_
  obtain ⟨T101, X101, e101, st101⟩ := getF X0 hx hZ hown (host := "") (Or.inl (w_ hw 104 rfl)) Via.refl e0 F2 (g := (mkF m 2 #[.val (.ref a), .unset, .unset] [(.ref a), (.ref a)])) rfl rfl (hb hby d31_2)
  refine Fin.by (fun tt_ kk_ => st101 tt_ kk_) ?_
  refine Fin.by (fun tt_ kk_ => XS.iconst X101.here hx rfl (hb hby d31_5) (XS.iadd X101.here hx rfl (hb hby d31_6) rfl kk_)) ?_
  obtain ⟨cq102, qa102, qb102⟩ := E0.cell
  obtain ⟨v102, _, ⟨T102, L102, k102, n102⟩, -, X102, ⟨Lc102, hQ102, l102, y102, z102⟩, st102⟩ := X101.privateBack hx (y := y_13) hown (mvT hZ (w_ hw 106 rfl)) (mvT hZ (w_ hw 107 rfl)) (own_selpriv (z := y_13) (y := y_13) (mvT hZ (w_ hw 109 rfl)) rfl (Cond.privateMethod_at (mvP hZ (w_ hw 108 rfl) (args := #[]))) (mvT hZ (w_ hw 107 rfl)) (by decide)) (Cond.privateMethod_at (mvP hZ (w_ hw 108 rfl) (args := #[]))) (mvT hZ (w_ hw 110 rfl)) (by decide) (backOf (W := 0) (rm_eci34_36 l Z a0 hw [] a v kv (vs : List Value) (32 : Int32) h0 n0 Z0 (Nat.le_trans (Nat.le_of_eq hvd) (by decide)) E0 F0 F1 F2 A0 ga) hZ (w_ hw 110 rfl) (w_ hw 73 rfl) (by decide) (by decide)) (g := (mkF m 7 #[.val (.ref a), .unset, .unset] [(.int 36), (.ref a)])) rfl (by rw [hml]; rfl) (Steps.refl _) (a := a) (by rw [e101]; exact qa102) qb102 (argsL := [(.int 36)]) (rest := []) (lenOf pd_279 rfl) rfl (by show 2 * 0 + _ ≤ _; exact Nat.le_of_eq rfl) (hb hby d31_7) (fun _ _ => ⟨rfl, e101, (by decide : 0 + 1 ≤ _), (by decide : 0 + 70 ≤ _)⟩)
  dsimp only [Pt.U, Pt.locs, Pt.cells, Pt.slots] at X102 l102 y102 z102 st102 hQ102
  subst l102 y102 z102
  obtain ⟨t103, k104, rfl, Nq102, p102_0, p102_1, p102_2, p102_3, p102_4, p102_5, p102_6⟩ := hQ102
  have N102_ := Fr.app N0 Nq102
  refine Fin.byS st102 ?_
  refine Fin.by (fun tt_ kk_ => XS.aloadN X102.here hx rfl (hb hby d31_10) rfl rfl kk_) ?_
  obtain ⟨T105, X105, e105, st105⟩ := getF X102 hx hZ hown (host := "") (Or.inl (w_ hw 104 rfl)) Via.refl rfl p102_5 (g := (mkF m 11 #[.val (.ref a), .unset, .unset] [(.ref a)])) rfl rfl (hb hby d31_11)
  refine Fin.by (fun tt_ kk_ => st105 tt_ kk_) ?_
  refine Fin.by (fun tt_ kk_ => XS.istoreN X105.here hx rfl (hb hby d31_14) rfl (l' := #[.val (.ref a), .val (.int 32), .unset]) rfl (XS.aloadN X105.here hx rfl (hb hby d31_15) rfl rfl kk_)) ?_
  obtain ⟨T106, X106, e106, st106⟩ := getF X105 hx hZ hown (host := "") (Or.inl (w_ hw 77 rfl)) Via.refl e105 p102_3 (g := (mkF m 16 #[.val (.ref a), .val (.int 32), .unset] [(.ref a)])) rfl rfl (hb hby d31_16)
  refine Fin.by (fun tt_ kk_ => st106 tt_ kk_) ?_
  refine Fin.by (fun tt_ kk_ => XS.astoreN X106.here hx rfl (hb hby d31_19) rfl rfl (l' := #[.val (.ref a), .val (.int 32), .val (.ref t103)]) rfl (XS.aloadN X106.here hx rfl (hb hby d31_20) rfl rfl kk_)) ?_
  have O107 : Old Z n0 T102.heap := (OL.keep p102_0 (allS ga all0))
  have z108 : n0 ≤ T102.heap.size := Nat.le_trans Z0 p102_0.1
  obtain ⟨cq109, kq109, qa109, qb109, qc109⟩ := isOf hZ e106 p102_2
  obtain ⟨v109, _, ⟨T109, L109, k109, n109⟩, -, X109, ⟨Lc109, hQ109, l109, y109, z109⟩, st109⟩ := X106.virtualBack hx (y := y_26) (z := y_26) hown (mvT hZ (w_ hw 159 rfl)) (mvT hZ (w_ hw 160 rfl)) (notFace_of_selects (args := #[]) (mvT hZ (w_ hw 162 rfl))) (mvT hZ (w_ hw 162 rfl)) (mvT hZ (w_ hw 161 rfl)) (by decide) (backOf (W := 0) (rm_isl l Z a0 hw [] a G1 T102.heap n0 z108 p102_2 p102_4 S1 P1 O107) hZ (w_ hw 163 rfl) (w_ hw 73 rfl) (by decide) (by decide)) qa109 qc109 (g := (mkF m 21 #[.val (.ref a), .val (.int 32), .val (.ref t103)] [(.ref a)])) rfl (by rw [hml]; rfl) (Steps.refl _) (argsL := []) (rest := []) (lenOf pd_540 rfl) rfl (by show 2 * 0 + _ ≤ _; exact Nat.le_of_eq rfl) (hb hby d31_21) (fun _ _ => ⟨rfl, e106, (by decide : 1 + 0 ≤ _), (by decide : 70 + 0 ≤ _)⟩)
  dsimp only [Pt.U, Pt.locs, Pt.cells, Pt.slots] at X109 l109 y109 z109 st109 hQ109
  subst l109 y109 z109
  obtain ⟨rfl, Nq109, e109_⟩ := hQ109
  have N109_ := Fr.app N102_ Nq109
  refine Fin.byS st109 ?_
  have e109 := e109_
  show Fin _ _ _ _ _ _ _ (T109.setTop (mkF m 24 #[.val (.ref a), .val (.int 32), .val (.ref t103)] [(.int 1)]))
  refine Fin.by (fun tt_ kk_ => XS.ifNo X109.here hx rfl (hb hby d31_24) rfl ((if0 _ _).trans (feq (by decide : ¬ (1 : Int32) = (0 : Int32))).1) kk_) ?_
  refine Fin.by (fun tt_ kk_ => XS.aloadN X109.here hx rfl (hb hby d31_27) rfl rfl (XS.iloadN X109.here hx rfl (hb hby d31_28) rfl (XS.iinc X109.here hx rfl (hb hby d31_29) rfl (l' := #[.val (.ref a), .val (.int 33), .val (.ref t103)]) rfl (XS.bipush X109.here hx rfl (hb hby d31_32) kk_)))) ?_
  obtain ⟨cl110, Ar110, q110, S110, N110, H110, G110⟩ := id p102_6
  have hin110 : ¬ ((32 : Int32) < 0 ∨ cl110.slots.size ≤ (32 : Int32).toNatClampNeg) := inb_of S110 ⟨by decide, by decide⟩
  obtain ⟨T110, h110, X110, e110, W110, st110⟩ := stB X109 hx hZ e109 Ar110 (j := (32 : Int32)) hin110 (g := (mkF m 34 #[.val (.ref a), .val (.int 33), .val (.ref t103)] [(.int 110), (.int 32), (.ref t103)])) rfl rfl (hb hby d31_34)
  have V110 : Arv Z h110 t103 k104 .byte (70 : Int32) ((vs : List Value) ++ [(.int ((110 : Int32).toInt8.toInt32))]) (.int 0) := own_push Ar110 q110 S110 N110 H110 G110 (fits_nar_byte _) W110 (by simp only [List.length_append, hvd]; rfl)
  have g111 : n0 ≤ t103 := Nat.le_trans Z0 p102_1
  refine Fin.by (fun tt_ kk_ => st110 tt_ kk_) ?_
  have N110_ := Fr.snoc X110 N109_ g111
  refine Fin.by (fun tt_ kk_ => XS.aloadN X110.here hx rfl (hb hby d31_35) rfl rfl (XS.iloadN X110.here hx rfl (hb hby d31_36) rfl (XS.iinc X110.here hx rfl (hb hby d31_37) rfl (l' := #[.val (.ref a), .val (.int 34), .val (.ref t103)]) rfl (XS.bipush X110.here hx rfl (hb hby d31_40) kk_)))) ?_
  obtain ⟨cl112, Ar112, q112, S112, N112, H112, G112⟩ := id V110
  have hin112 : ¬ ((33 : Int32) < 0 ∨ cl112.slots.size ≤ (33 : Int32).toNatClampNeg) := inb_of S112 ⟨by decide, by decide⟩
  obtain ⟨T112, h112, X112, e112, W112, st112⟩ := stB X110 hx hZ e110 Ar112 (j := (33 : Int32)) hin112 (g := (mkF m 42 #[.val (.ref a), .val (.int 34), .val (.ref t103)] [(.int 117), (.int 33), (.ref t103)])) rfl rfl (hb hby d31_42)
  have V112 : Arv Z h112 t103 k104 .byte (70 : Int32) (((vs : List Value) ++ [(.int ((110 : Int32).toInt8.toInt32))]) ++ [(.int ((117 : Int32).toInt8.toInt32))]) (.int 0) := own_push Ar112 q112 S112 N112 H112 G112 (fits_nar_byte _) W112 (by simp only [List.length_append, hvd]; rfl)
  refine Fin.by (fun tt_ kk_ => st112 tt_ kk_) ?_
  have N112_ := Fr.snoc X112 N110_ g111
  refine Fin.by (fun tt_ kk_ => XS.aloadN X112.here hx rfl (hb hby d31_43) rfl rfl (XS.iloadN X112.here hx rfl (hb hby d31_44) rfl (XS.iinc X112.here hx rfl (hb hby d31_45) rfl (l' := #[.val (.ref a), .val (.int 35), .val (.ref t103)]) rfl (XS.bipush X112.here hx rfl (hb hby d31_48) kk_)))) ?_
  obtain ⟨cl113, Ar113, q113, S113, N113, H113, G113⟩ := id V112
  have hin113 : ¬ ((34 : Int32) < 0 ∨ cl113.slots.size ≤ (34 : Int32).toNatClampNeg) := inb_of S113 ⟨by decide, by decide⟩
  obtain ⟨T113, h113, X113, e113, W113, st113⟩ := stB X112 hx hZ e112 Ar113 (j := (34 : Int32)) hin113 (g := (mkF m 50 #[.val (.ref a), .val (.int 35), .val (.ref t103)] [(.int 108), (.int 34), (.ref t103)])) rfl rfl (hb hby d31_50)
  have V113 : Arv Z h113 t103 k104 .byte (70 : Int32) ((((vs : List Value) ++ [(.int ((110 : Int32).toInt8.toInt32))]) ++ [(.int ((117 : Int32).toInt8.toInt32))]) ++ [(.int ((108 : Int32).toInt8.toInt32))]) (.int 0) := own_push Ar113 q113 S113 N113 H113 G113 (fits_nar_byte _) W113 (by simp only [List.length_append, hvd]; rfl)
  refine Fin.by (fun tt_ kk_ => st113 tt_ kk_) ?_
  have N113_ := Fr.snoc X113 N112_ g111
  refine Fin.by (fun tt_ kk_ => XS.aloadN X113.here hx rfl (hb hby d31_51) rfl rfl (XS.iloadN X113.here hx rfl (hb hby d31_52) rfl (XS.iinc X113.here hx rfl (hb hby d31_53) rfl (l' := #[.val (.ref a), .val (.int 36), .val (.ref t103)]) rfl (XS.bipush X113.here hx rfl (hb hby d31_56) kk_)))) ?_
  obtain ⟨cl114, Ar114, q114, S114, N114, H114, G114⟩ := id V113
  have hin114 : ¬ ((35 : Int32) < 0 ∨ cl114.slots.size ≤ (35 : Int32).toNatClampNeg) := inb_of S114 ⟨by decide, by decide⟩
  obtain ⟨T114, h114, X114, e114, W114, st114⟩ := stB X113 hx hZ e113 Ar114 (j := (35 : Int32)) hin114 (g := (mkF m 58 #[.val (.ref a), .val (.int 36), .val (.ref t103)] [(.int 108), (.int 35), (.ref t103)])) rfl rfl (hb hby d31_58)
  have V114 : Arv Z h114 t103 k104 .byte (70 : Int32) (((((vs : List Value) ++ [(.int ((110 : Int32).toInt8.toInt32))]) ++ [(.int ((117 : Int32).toInt8.toInt32))]) ++ [(.int ((108 : Int32).toInt8.toInt32))]) ++ [(.int ((108 : Int32).toInt8.toInt32))]) (.int 0) := own_push Ar114 q114 S114 N114 H114 G114 (fits_nar_byte _) W114 (by simp only [List.length_append, hvd]; rfl)
  refine Fin.by (fun tt_ kk_ => st114 tt_ kk_) ?_
  have N114_ := Fr.snoc X114 N113_ g111
  have V115 : Arv Z h114 t103 k104 .byte (70 : Int32) (vs ++ own_vs own_N) (.int 0) := by have q := V114; simp only [List.append_assoc, List.cons_append, List.nil_append] at q; exact q
  refine Fin.by (fun tt_ kk_ => XS.goto X114.here hx rfl (pc0 := 59) (pc' := 76) rfl (hb hby d31_59) (by decide) (by decide) (XS.aloadN X114.here hx rfl (hb hby d31_76) rfl rfl (XS.iloadN X114.here hx rfl (hb hby d31_77) rfl kk_))) ?_
  have ne116 : a ≠ t103 := Nat.ne_of_lt (Nat.lt_of_lt_of_le E0.lt p102_1)
  have F117 : Fld Z h114 a "java/lang/AbstractStringBuilder" "count" "I" (.int (32 : Int32)) := ((((p102_5.other W110 (Or.inl ne116)).other W112 (Or.inl ne116)).other W113 (Or.inl ne116)).other W114 (Or.inl ne116))
  have E118 : Exa Z h114 a "java/lang/StringBuilder" := ((((p102_2.wr W110).wr W112).wr W113).wr W114)
  obtain ⟨T119, h119, X119, e119, W119, st119⟩ := putF X114 hx hZ hown (host := "") (Or.inl (w_ hw 104 rfl)) Via.refl e114 F117 E118 (Or.inl (w_ hw 105 rfl)) (w_ hw 64 rfl) (ty := .int) (by decide) rfl rfl (g := (mkF m 78 #[.val (.ref a), .val (.int 36), .val (.ref t103)] [(.int 36), (.ref a)])) rfl rfl (hb hby d31_78)
  refine Fin.by (fun tt_ kk_ => st119 tt_ kk_) ?_
  have N119_ := Fr.snoc X119 N114_ ga
  refine Fin.by (fun tt_ kk_ => XS.aloadN X119.here hx rfl (hb hby d31_81) rfl rfl kk_) ?_
  have kp120 : Keep h0 T102.heap [a] := (Keep.refl h0 [a]).trans p102_0 (allS (Or.inl (List.mem_of_getElem? (i := 0) rfl)) all0)
  have kp121 : Keep h0 h110 [a] := kp120.wr W110 (Or.inr (Nat.le_trans (Nat.le_refl _) p102_1))
  have kp122 : Keep h0 h112 [a] := kp121.wr W112 (Or.inr (Nat.le_trans (Nat.le_refl _) p102_1))
  have kp123 : Keep h0 h113 [a] := kp122.wr W113 (Or.inr (Nat.le_trans (Nat.le_refl _) p102_1))
  have kp124 : Keep h0 h114 [a] := kp123.wr W114 (Or.inr (Nat.le_trans (Nat.le_refl _) p102_1))
  have kp125 : Keep h0 h119 [a] := kp124.wr W119 (Or.inl (List.mem_of_getElem? (i := 0) rfl))
  have E126 : Exa Z h119 a "java/lang/StringBuilder" := (E118.wr W119)
  have F127 : Fld Z h119 a "java/lang/AbstractStringBuilder" "value" "[B" (.ref t103) := (((((p102_3.other W110 (Or.inl ne116)).other W112 (Or.inl ne116)).other W113 (Or.inl ne116)).other W114 (Or.inl ne116)).other W119 (Or.inr (slot_ne (Or.inl (w_ hw 78 rfl)) (Or.inl (w_ hw 105 rfl)) (by decide) (t := (.array .byte)) (t' := .int) (by decide) (by decide))))
  have F128 : Fld Z h119 a "java/lang/AbstractStringBuilder" "coder" "B" (.int (0 : Int32)) := (((((p102_4.other W110 (Or.inl ne116)).other W112 (Or.inl ne116)).other W113 (Or.inl ne116)).other W114 (Or.inl ne116)).other W119 (Or.inr (slot_ne (Or.inl (w_ hw 80 rfl)) (Or.inl (w_ hw 105 rfl)) (by decide) (t := .byte) (t' := .int) (by decide) (by decide))))
  have A129 : Arv Z h119 t103 k104 .byte (70 : Int32) (vs ++ own_vs own_N) (.int 0) := (V115.other W119 (Ne.symm ne116))
  show Fin _ _ _ _ _ _ _ (T119.setTop (mkF m 82 #[.val (.ref a), .val (.int 36), .val (.ref t103)] [(.ref a)]))
  exact Fin.ret (v := some (.ref a)) X119 (fun h => by rw [Bd.returns] at h; cases h) Bd.notSynchronized (by rw [e119]; exact ⟨t103, k104, rfl, N119_, kp125, (Nat.le_trans (Nat.le_refl _) p102_1), E126, F127, F128, (F117.same W119), A129⟩) (by decide) (by decide) (fun fs hr => retA X119 hx Bd.returns rfl rfl (hb hby d31_82) hr)
theorem d18_4 : decode jdk_68_method_22_code 4 = .ok (.aload_n 0, 1) := by decide +kernel
theorem pd_627 : parseMethodDescriptor "()Ljava/lang/AbstractStringBuilder;" = some ⟨[], some (.object "java/lang/AbstractStringBuilder")⟩ := by decide +kernel
theorem d18_5 : decode jdk_68_method_22_code 5 = .ok (.invokevirtual 204, 3) := by decide +kernel
theorem d18_8 : decode jdk_68_method_22_code 8 = .ok (.areturn, 1) := by decide +kernel
def Q_aan32 (Z : State) (a : Addr) (v : Addr) (kv : ClassId) (vs : List Value) (G1 : Int32) (h0 : Heap) (n0 : Nat) (vv_ : Option Value) (hh_ : Heap) (LL_ : List Loc) : Prop := ∃ (v2 : Addr), ∃ (k2 : ClassId), vv_ = some (.ref a) ∧ Fr n0 LL_ ∧ Keep h0 hh_ [a] ∧ h0.size ≤ v2 ∧ Exa Z hh_ a "java/lang/StringBuilder" ∧ Fld Z hh_ a "java/lang/AbstractStringBuilder" "value" "[B" (.ref v2) ∧ Fld Z hh_ a "java/lang/AbstractStringBuilder" "coder" "B" (.int (0 : Int32)) ∧ Fld Z hh_ a "java/lang/AbstractStringBuilder" "count" "I" (.int (36 : Int32)) ∧ Arv Z hh_ v2 k2 .byte (70 : Int32) (vs ++ own_vs own_N) (.int 0)
set_option maxRecDepth 65536 in
set_option maxHeartbeats 40000000 in
theorem rm_aan32 (l : Launch) (Z : State) (a0 : Array Value) (hw : ∀ d ∈ tables_1, d.before a0 Z = true) (ws : List Jvm.Cond) (a : Addr) (v : Addr) (kv : ClassId) (vs : List Value) (G1 : Int32) (h0 : Heap) (n0 : Nat) (Z0 : n0 ≤ h0.size) (hvd : vs.length = 32) (E0 : Exa Z h0 a "java/lang/StringBuilder") (F0 : Fld Z h0 a "java/lang/AbstractStringBuilder" "value" "[B" (.ref v)) (F1 : Fld Z h0 a "java/lang/AbstractStringBuilder" "coder" "B" (.int (0 : Int32))) (F2 : Fld Z h0 a "java/lang/AbstractStringBuilder" "count" "I" (.int (32 : Int32))) (A0 : Arv Z h0 v kv .byte (34 : Int32) vs (.int 0)) (ga : n0 ≤ a) (S1 : Sta Z Z.heap "java/lang/String" "COMPACT_STRINGS" "Z" (.int G1)) (P1 : ¬ G1 = 0) (OL : Old Z n0 h0) :
    MetFree l y_19 (head1 (Jvm.Cond.code y_19 jdk_68_method_22_code 3 (some (.object "java/lang/AbstractStringBuilder")) :: ws) ({ frames := 5, cells := 1, slots := 70, locals := 76 } : Room)) (fun aa_ U => aa_ = #[(.ref a), .null] ∧ Z.Warmed39 U.vm ∧ U.heap = h0) (fun _ _ _ _ _ => True) (fun _ U o U' => ∃ vv_ LL_, o = .returned vv_ ∧ Q_aan32 Z a v kv vs G1 h0 n0 vv_ U'.heap LL_ ∧ FrameEnd U o U' LL_ 1 70) := by
  refine MetFree.of_bodySF (plainFor_of_name pn_java_lang_AbstractStringBuilder) hisR ?_
  intro p e s m args below meth c s₁ Bd hml0 hP hK
  obtain ⟨rfl, hZ, hh⟩ := hP
  have hx := Bd.exec
  have hby := Bd.bytes
  have hml : c.maxLocals = 3 := hml0
  have hown : s.vm.findClass "java/lang/AbstractStringBuilder" = some m.cls := findClass_of_methodNamed Bd.named
  have hnm := (name_of_methodNamed Bd.named Bd.method).1
  have X0 : Stand p l e ({ frames := 5, cells := 1, slots := 70, locals := 76 } : Room) s m #[(.ref a), .null] below meth c s₁ [] 0 0 := Stand.of_body Bd
  have e0 : s₁.heap = h0 := by rw [← hh, Bd.state]; rfl
  have N0 := Fr.nil n0
  have ef : entryFrame m #[(.ref a), .null] 3 = mkF m 0 #[.val (.ref a), .val .null, .unset] [] := by first | (simp [entryFrame, mkF, argsToLocals, Value.category]; done) | rfl
  refine Fin.start (Q := Q_aan32 Z a v kv vs G1 h0 n0) ef ?_
  refine Fin.by (fun tt_ kk_ => XS.aloadN X0.here hx rfl (hb hby d18_0) rfl rfl kk_) ?_
  refine Fin.by (fun tt_ kk_ => XS.ifnonnullNo X0.here hx rfl (hb hby d18_1) rfl kk_) ?_
  refine Fin.by (fun tt_ kk_ => XS.aloadN X0.here hx rfl (hb hby d18_4) rfl rfl kk_) ?_
  obtain ⟨cq101, qa101, qb101⟩ := E0.cell
  obtain ⟨v101, _, ⟨T101, L101, k101, n101⟩, -, X101, ⟨Lc101, hQ101, l101, y101, z101⟩, st101⟩ := X0.privateBack hx (y := y_32) hown (mvT hZ (w_ hw 154 rfl)) (mvT hZ (w_ hw 155 rfl)) (own_selpriv (z := y_13) (y := y_32) (mvT hZ (w_ hw 109 rfl)) rfl (Cond.privateMethod_at (mvP hZ (w_ hw 156 rfl) (args := #[]))) (mvT hZ (w_ hw 155 rfl)) (by decide)) (Cond.privateMethod_at (mvP hZ (w_ hw 156 rfl) (args := #[]))) (mvT hZ (w_ hw 158 rfl)) (by decide) (backOf (W := 0) (rm_apn32 l Z a0 hw [] a v kv (vs : List Value) G1 h0 n0 Z0 hvd E0 F0 F1 F2 A0 ga S1 P1 OL) hZ (w_ hw 158 rfl) (w_ hw 73 rfl) (by decide) (by decide)) (g := (mkF m 5 #[.val (.ref a), .val .null, .unset] [(.ref a)])) rfl (by rw [hml]; rfl) (Steps.refl _) (a := a) (by rw [e0]; exact qa101) qb101 (argsL := []) (rest := []) (lenOf pd_627 rfl) rfl (by show 2 * 0 + _ ≤ _; exact Nat.le_of_eq rfl) (hb hby d18_5) (fun _ _ => ⟨rfl, e0, (by decide : 0 + 1 ≤ _), (by decide : 0 + 70 ≤ _)⟩)
  dsimp only [Pt.U, Pt.locs, Pt.cells, Pt.slots] at X101 l101 y101 z101 st101 hQ101
  subst l101 y101 z101
  obtain ⟨v102, k103, rfl, Nq101, p101_0, p101_1, p101_2, p101_3, p101_4, p101_5, p101_6⟩ := hQ101
  have N101_ := Fr.app N0 Nq101
  refine Fin.byS st101 ?_
  have kp104 : Keep h0 T101.heap [a] := (Keep.refl h0 [a]).trans p101_0 (allS (Or.inl (List.mem_of_getElem? (i := 0) rfl)) all0)
  show Fin _ _ _ _ _ _ _ (T101.setTop (mkF m 8 #[.val (.ref a), .val .null, .unset] [(.ref a)]))
  exact Fin.ret (v := some (.ref a)) X101 (fun h => by rw [Bd.returns] at h; cases h) Bd.notSynchronized (⟨v102, k103, rfl, N101_, kp104, (Nat.le_trans (Nat.le_refl _) p101_1), p101_2, p101_3, p101_4, p101_5, p101_6⟩) (by decide) (by decide) (fun fs hr => retA X101 hx Bd.returns rfl rfl (hb hby d18_8) hr)
def Q_san32 (Z : State) (a : Addr) (v : Addr) (kv : ClassId) (vs : List Value) (G1 : Int32) (h0 : Heap) (n0 : Nat) (vv_ : Option Value) (hh_ : Heap) (LL_ : List Loc) : Prop := ∃ (v2 : Addr), ∃ (k2 : ClassId), vv_ = some (.ref a) ∧ Fr n0 LL_ ∧ Keep h0 hh_ [a] ∧ h0.size ≤ v2 ∧ Exa Z hh_ a "java/lang/StringBuilder" ∧ Fld Z hh_ a "java/lang/AbstractStringBuilder" "value" "[B" (.ref v2) ∧ Fld Z hh_ a "java/lang/AbstractStringBuilder" "coder" "B" (.int (0 : Int32)) ∧ Fld Z hh_ a "java/lang/AbstractStringBuilder" "count" "I" (.int (36 : Int32)) ∧ Arv Z hh_ v2 k2 .byte (70 : Int32) (vs ++ own_vs own_N) (.int 0)
set_option maxRecDepth 65536 in
set_option maxHeartbeats 40000000 in
theorem rm_san32 (l : Launch) (Z : State) (a0 : Array Value) (hw : ∀ d ∈ tables_1, d.before a0 Z = true) (ws : List Jvm.Cond) (a : Addr) (v : Addr) (kv : ClassId) (vs : List Value) (G1 : Int32) (h0 : Heap) (n0 : Nat) (Z0 : n0 ≤ h0.size) (hvd : vs.length = 32) (E0 : Exa Z h0 a "java/lang/StringBuilder") (F0 : Fld Z h0 a "java/lang/AbstractStringBuilder" "value" "[B" (.ref v)) (F1 : Fld Z h0 a "java/lang/AbstractStringBuilder" "coder" "B" (.int (0 : Int32))) (F2 : Fld Z h0 a "java/lang/AbstractStringBuilder" "count" "I" (.int (32 : Int32))) (A0 : Arv Z h0 v kv .byte (34 : Int32) vs (.int 0)) (ga : n0 ≤ a) (S1 : Sta Z Z.heap "java/lang/String" "COMPACT_STRINGS" "Z" (.int G1)) (P1 : ¬ G1 = 0) (OL : Old Z n0 h0) :
    MetFree l y_20 (head1 (Jvm.Cond.code y_20 jdk_67_method_7_code 2 (some (.object "java/lang/StringBuilder")) :: ws) ({ frames := 6, cells := 1, slots := 70, locals := 90 } : Room)) (fun aa_ U => aa_ = #[(.ref a), .null] ∧ Z.Warmed39 U.vm ∧ U.heap = h0) (fun _ _ _ _ _ => True) (fun _ U o U' => ∃ vv_ LL_, o = .returned vv_ ∧ Q_san32 Z a v kv vs G1 h0 n0 vv_ U'.heap LL_ ∧ FrameEnd U o U' LL_ 1 70) := by
  refine MetFree.of_bodySF (plainFor_of_name pn_java_lang_StringBuilder) hisR ?_
  intro p e s m args below meth c s₁ Bd hml0 hP hK
  obtain ⟨rfl, hZ, hh⟩ := hP
  have hx := Bd.exec
  have hby := Bd.bytes
  have hml : c.maxLocals = 2 := hml0
  have hown : s.vm.findClass "java/lang/StringBuilder" = some m.cls := findClass_of_methodNamed Bd.named
  have hnm := (name_of_methodNamed Bd.named Bd.method).1
  have X0 : Stand p l e ({ frames := 6, cells := 1, slots := 70, locals := 90 } : Room) s m #[(.ref a), .null] below meth c s₁ [] 0 0 := Stand.of_body Bd
  have e0 : s₁.heap = h0 := by rw [← hh, Bd.state]; rfl
  have N0 := Fr.nil n0
  have ef : entryFrame m #[(.ref a), .null] 2 = mkF m 0 #[.val (.ref a), .val .null] [] := by first | (simp [entryFrame, mkF, argsToLocals, Value.category]; done) | rfl
  refine Fin.start (Q := Q_san32 Z a v kv vs G1 h0 n0) ef ?_
  refine Fin.by (fun tt_ kk_ => XS.aloadN X0.here hx rfl (hb hby d19_0) rfl rfl (XS.aloadN X0.here hx rfl (hb hby d19_1) rfl rfl kk_)) ?_
  obtain ⟨v101, _, ⟨T101, L101, k101, n101⟩, -, X101, ⟨Lc101, hQ101, l101, y101, z101⟩, st101⟩ := superBack X0 hx hZ (y := y_19) hown (w_ hw 89 rfl) (own_same (z := y_13) (y := y_19) (w_ hw 109 rfl) rfl (w_ hw 90 rfl) (by decide)) (w_ hw 90 rfl) (w_ hw 91 rfl) (by decide) (backOf (W := 0) (rm_aan32 l Z a0 hw [] a v kv (vs : List Value) G1 h0 n0 Z0 hvd E0 F0 F1 F2 A0 ga S1 P1 OL) hZ (w_ hw 93 rfl) (w_ hw 73 rfl) (by decide) (by decide)) e0 (Ins.self E0) (g := (mkF m 2 #[.val (.ref a), .val .null] [.null, (.ref a)])) rfl (by rw [hml]; rfl) (w_ hw 93 rfl) (argsL := [.null]) (rest := []) (lenOf pd_467 rfl) rfl (by show 2 * 0 + _ ≤ _; exact Nat.le_of_eq rfl) (hb hby d19_2) (fun _ _ => ⟨rfl, e0, (by decide : 0 + 1 ≤ _), (by decide : 0 + 70 ≤ _)⟩)
  dsimp only [Pt.U, Pt.locs, Pt.cells, Pt.slots] at X101 l101 y101 z101 st101 hQ101
  subst l101 y101 z101
  obtain ⟨v102, k103, rfl, Nq101, p101_0, p101_1, p101_2, p101_3, p101_4, p101_5, p101_6⟩ := hQ101
  have N101_ := Fr.app N0 Nq101
  refine Fin.byS st101 ?_
  refine Fin.by (fun tt_ kk_ => XS.pop X101.here hx rfl (hb hby d19_5) rfl rfl (XS.aloadN X101.here hx rfl (hb hby d19_6) rfl rfl kk_)) ?_
  have kp104 : Keep h0 T101.heap [a] := (Keep.refl h0 [a]).trans p101_0 (allS (Or.inl (List.mem_of_getElem? (i := 0) rfl)) all0)
  show Fin _ _ _ _ _ _ _ (T101.setTop (mkF m 7 #[.val (.ref a), .val .null] [(.ref a)]))
  exact Fin.ret (v := some (.ref a)) X101 (fun h => by rw [Bd.returns] at h; cases h) Bd.notSynchronized (⟨v102, k103, rfl, N101_, kp104, (Nat.le_trans (Nat.le_refl _) p101_1), p101_2, p101_3, p101_4, p101_5, p101_6⟩) (by decide) (by decide) (fun fs hr => retA X101 hx Bd.returns rfl rfl (hb hby d19_7) hr)
def Q_dts01 (Z : State) (d : Addr) (xu : Addr) (tu : Addr) (ku : ClassId) (cu : List Int32) (G1 : Int32) (h0 : Heap) (n0 : Nat) (vv_ : Option Value) (hh_ : Heap) (LL_ : List Loc) : Prop := ∃ (y : Addr), ∃ (t : Addr), ∃ (k : ClassId), vv_ = some (.ref y) ∧ Fr n0 LL_ ∧ Keep h0 hh_ [] ∧ h0.size ≤ y ∧ h0.size ≤ t ∧ Exa Z hh_ y "java/lang/String" ∧ Fld Z hh_ y "java/lang/String" "value" "[B" (.ref t) ∧ Fld Z hh_ y "java/lang/String" "coder" "B" (.int (0 : Int32)) ∧ Arv Z hh_ t k .byte (37 : Int32) (own_vs (own_D ++ cu ++ own_U ++ own_N ++ own_E)) (.int 0)
set_option maxRecDepth 65536 in
set_option maxHeartbeats 40000000 in
theorem rm_dts01 (l : Launch) (Z : State) (a0 : Array Value) (hw : ∀ d ∈ tables_1, d.before a0 Z = true) (ws : List Jvm.Cond) (d : Addr) (xu : Addr) (tu : Addr) (ku : ClassId) (cu : List Int32) (G1 : Int32) (h0 : Heap) (n0 : Nat) (Z0 : n0 ≤ h0.size) (Ed : Exa Z h0 d "com/example/ermine/ermine/server/DatabaseSettings") (Furl : Fld Z h0 d "com/example/ermine/ermine/server/DatabaseSettings" "url" "Ljava/lang/String;" (.ref xu)) (Eu : Exa Z h0 xu "java/lang/String") (Vu : Fld Z h0 xu "java/lang/String" "value" "[B" (.ref tu)) (Cu : Fld Z h0 xu "java/lang/String" "coder" "B" (.int (0 : Int32))) (Au : Arv Z h0 tu ku .byte (4 : Int32) (own_vs cu) (.int 0)) (lu : cu.length = 4) (Fuser : Fld Z h0 d "com/example/ermine/ermine/server/DatabaseSettings" "user" "Ljava/lang/String;" .null) (S1 : Sta Z Z.heap "java/lang/String" "COMPACT_STRINGS" "Z" (.int G1)) (P1 : ¬ G1 = 0) (OL : Old Z n0 h0) :
    MetFree l y_31 (head1 (Jvm.Cond.code y_31 prog_33_method_3_code 1 (some (.object "java/lang/String")) :: ws) ({ frames := 7, cells := 12, slots := 293, locals := 103 } : Room)) (fun aa_ U => aa_ = #[(.ref d)] ∧ Z.Warmed39 U.vm ∧ U.heap = h0 ∧ CHv Z consts_1 U.vm h0) (fun _ _ _ _ _ => True) (fun _ U o U' => ∃ vv_ LL_, o = .returned vv_ ∧ Q_dts01 Z d xu tu ku cu G1 h0 n0 vv_ U'.heap LL_ ∧ CHr Z consts_1 U.vm U.heap U'.vm U'.heap ∧ ReturnedEndW U o U' LL_ 12 293) := by
  refine MetFree.of_bodySF (plainFor_of_name pn_com_example_ermine_ermine_server_DatabaseSettings) hisR ?_
  intro p e s m args below meth c s₁ Bd hml0 hP hK
  obtain ⟨rfl, hZ, hh, hC0⟩ := hP
  have hx := Bd.exec
  have hby := Bd.bytes
  have hml : c.maxLocals = 1 := hml0
  have hown : s.vm.findClass "com/example/ermine/ermine/server/DatabaseSettings" = some m.cls := findClass_of_methodNamed Bd.named
  have hnm := (name_of_methodNamed Bd.named Bd.method).1
  have X0 : Stand p l e ({ frames := 7, cells := 12, slots := 293, locals := 103 } : Room) (s.setVm s.vm) m #[(.ref d)] below meth c s₁ [] 0 0 := Stand.of_body Bd
  have e0 : s₁.heap = h0 := by rw [← hh, Bd.state]; rfl
  have N0 := Fr.nil n0
  have ef : entryFrame m #[(.ref d)] 1 = mkF m 0 #[.val (.ref d)] [] := by first | (simp [entryFrame, mkF, argsToLocals, Value.category]; done) | rfl
  have hS0 : s.Since s.vm h0.size := (State.WarmedH.refl s).since _
  have hk0 : h0.size ≤ h0.size := Nat.le_refl _
  have own_EW := own_EW0 hw
  have ch0 : CHr Z consts_1 s.vm h0 s.vm h0 := CHr.refl hC0
  refine FinH.start (Q := Q_dts01 Z d xu tu ku cu G1 h0 n0) ef ?_
  obtain ⟨T101, h101, X101, e101, E101, A101, D101, -, st101⟩ := newO X0 hx hZ hown (w_ hw 63 rfl) (w_ hw 64 rfl) (w_ hw 65 rfl) e0 (g := (mkF m 0 #[.val (.ref d)] [])) rfl (hb hby d30_0) (by decide) (by decide)
  obtain ⟨a101, g101⟩ : ∃ z, z = h0.size := ⟨_, rfl⟩
  rw [← g101] at A101 D101 st101
  refine FinH.by (fun tt_ kk_ => st101 tt_ kk_) ?_
  have ch102 : CHr Z consts_1 s.vm h0 s.vm h101 := ch0.trans (CHr.ext E101 ch0.1)
  refine FinH.by (fun tt_ kk_ => XS.dup X101.here hx rfl (hb hby d30_3) rfl rfl kk_) ?_
  have g103 : n0 ≤ a101 := Nat.le_trans Z0 (Nat.le_of_eq g101.symm)
  have O104 : Old Z n0 h101 := (OL.ext E101)
  have z105 : n0 ≤ h101.size := Nat.le_trans Z0 E101.1
  obtain ⟨v106, _, ⟨T106, L106, k106, n106⟩, -, X106, ⟨Lc106, hQ106, l106, y106, z106⟩, st106⟩ := X101.specialBack hx (y := y_7) rfl hown (mvT hZ (w_ hw 66 rfl)) (mvT hZ (w_ hw 67 rfl)) (mvT hZ (w_ hw 68 rfl)) (by decide) (backOf (W := 1) (rm_sbi l Z a0 hw [] a101 G1 h101 n0 z105 A101 (D101 (Or.inl (w_ hw 78 rfl)) (ty := (.array .byte)) (by decide) : Fld Z h101 a101 "java/lang/AbstractStringBuilder" "value" "[B" .null) (D101 (Or.inl (w_ hw 80 rfl)) (ty := .byte) (by decide) : Fld Z h101 a101 "java/lang/AbstractStringBuilder" "coder" "B" (.int (0 : Int32))) (D101 (Or.inl (w_ hw 105 rfl)) (ty := .int) (by decide) : Fld Z h101 a101 "java/lang/AbstractStringBuilder" "count" "I" (.int (0 : Int32))) g103 S1 P1 O104) hZ (w_ hw 68 rfl) (w_ hw 65 rfl) (by decide) (by decide)) (g := (mkF m 4 #[.val (.ref d)] [(.ref a101), (.ref a101)])) rfl (by rw [hml]; rfl) (Steps.refl _) (a := a101) (argsL := []) (rest := [(.ref a101)]) (lenOf pd_250 rfl) rfl (by show 2 * 0 + _ ≤ _; exact Nat.le_of_eq rfl) (hb hby d30_4) (fun _ _ => ⟨rfl, e101, (by decide : 1 + 1 ≤ _), (by decide : 4 + 16 ≤ _)⟩)
  dsimp only [Pt.U, Pt.locs, Pt.cells, Pt.slots] at X106 l106 y106 z106 st106 hQ106
  subst l106 y106 z106
  obtain ⟨v107, kv108, rfl, Nq106, p106_0, p106_1, p106_2, p106_3, p106_4, p106_5, p106_6⟩ := hQ106
  have N106_ := Fr.app N0 Nq106
  refine FinH.byS st106 ?_
  have ch109 : CHr Z consts_1 s.vm h0 s.vm T106.heap := ch102.trans (CHr.keep p106_0 (allS (Safe.exa hZ.alike A101 (by decide) (by decide)) all0) ch102.1)
  obtain ⟨a110, T110, h110, k110, b110, kk110, X110, e110, E110, hS110, hk110, hZ110, hown110, xE110, xC110, xV110, xA110, la110, lb110, hC110, hL110, hne110, st110⟩ := ldcCH X106 hx hZ hown (w_ hw 81 rfl) (fun d hd => hw d (own_strAtoms d hd)) rfl hS0 (Nat.le_trans hk0 (Nat.le_trans E101.1 p106_0.1)) own_EW (by decide) ch109.1 (vs := (own_vs own_D)) (z := (21 : Int32)) own_hD (by decide) own_zD (g := (mkF m 7 #[.val (.ref d)] [(.ref a101)])) rfl (hb hby d30_7) (n := 84) (by decide +kernel) (by decide) (by decide) (by decide)
  refine FinH.by (fun tt_ kk_ => st110 tt_ kk_) ?_
  have ch111 : CHr Z consts_1 s.vm h0 T110.vm h110 := ch109.trans hC110
  have E112 : Exa Z h110 a101 "java/lang/StringBuilder" := (p106_2.ext E110)
  have F113 : Fld Z h110 a101 "java/lang/AbstractStringBuilder" "value" "[B" (.ref v107) := (p106_3.ext E110)
  have F114 : Fld Z h110 a101 "java/lang/AbstractStringBuilder" "coder" "B" (.int (0 : Int32)) := (p106_4.ext E110)
  have F115 : Fld Z h110 a101 "java/lang/AbstractStringBuilder" "count" "I" (.int (0 : Int32)) := (p106_5.ext E110)
  have A116 : Arv Z h110 v107 kv108 .byte (16 : Int32) [] (.int 0) := (p106_6.ext E110)
  have ne117 : a101 ≠ a110 := (hne110 a101 (Safe.exa hZ110.alike E112 (by decide) (by decide))).1
  have ne118 : a101 ≠ b110 := (hne110 a101 (Safe.exa hZ110.alike E112 (by decide) (by decide))).2
  have O119 : Old Z n0 h110 := ((O104.keep p106_0 (allS g103 all0)).ext E110)
  have z120 : n0 ≤ h110.size := Nat.le_trans z105 (Nat.le_trans p106_0.1 E110.1)
  obtain ⟨cq121, kq121, qa121, qb121, qc121⟩ := isOf hZ110 e110 E112
  obtain ⟨v121, _, ⟨T121, L121, k121, n121⟩, -, X121, ⟨Lc121, hQ121, l121, y121, z121⟩, st121⟩ := X110.virtualBack hx (y := y_20) (z := y_20) hown110 (mvT hZ110 (w_ hw 84 rfl)) (mvT hZ110 (w_ hw 85 rfl)) (notFace_of_selects (args := #[]) (mvT hZ110 (w_ hw 87 rfl))) (mvT hZ110 (w_ hw 87 rfl)) (mvT hZ110 (w_ hw 86 rfl)) (by decide) (backOf (W := 0) (rm_sap0_21 l Z a0 hw [] a101 v107 kv108 ([] : List Value) a110 b110 kk110 ((own_vs own_D) : List Value) G1 h110 n0 z120 rfl (by first | rfl | (simp only [List.length_append, own_vl, lu]; done) | (simp only [List.length_append, own_vl, lu]; rfl)) E112 F113 F114 F115 A116 xE110 xV110 xC110 xA110 g103 (Ne.symm ne117) (Ne.symm ne118) S1 P1 O119) hZ110 (w_ hw 88 rfl) (w_ hw 65 rfl) (by decide) (by decide)) qa121 qc121 (g := (mkF m 9 #[.val (.ref d)] [(.ref a110), (.ref a101)])) rfl (by rw [hml]; rfl) (Steps.refl _) (argsL := [(.ref a110)]) (rest := []) (lenOf pd_570 rfl) rfl (by show 2 * 0 + _ ≤ _; exact Nat.le_of_eq rfl) (hb hby d30_9) (fun _ _ => ⟨rfl, e110, (by decide : 4 + 1 ≤ _), (by decide : 108 + 34 ≤ _)⟩)
  dsimp only [Pt.U, Pt.locs, Pt.cells, Pt.slots] at X121 l121 y121 z121 st121 hQ121
  subst l121 y121 z121
  obtain ⟨v122, k123, rfl, Nq121, p121_0, p121_1, p121_2, p121_3, p121_4, p121_5, p121_6⟩ := hQ121
  have N121_ := Fr.app N106_ Nq121
  refine FinH.byS st121 ?_
  have ch124 : CHr Z consts_1 s.vm h0 T110.vm T121.heap := ch111.trans (CHr.keep p121_0 (allS (Safe.exa hZ110.alike E112 (by decide) (by decide)) all0) ch111.1)
  refine FinH.by (fun tt_ kk_ => XS.aloadN X121.here hx rfl (hb hby d30_12) rfl rfl kk_) ?_
  have ne125 : d ≠ a101 := Nat.ne_of_lt (Nat.lt_of_lt_of_le Ed.lt (Nat.le_of_eq g101.symm))
  have F126 : Fld Z T121.heap d "com/example/ermine/ermine/server/DatabaseSettings" "url" "Ljava/lang/String;" (.ref xu) := ((((Furl.ext E101).keep p106_0 (ninS ne125 nin0)).ext E110).keep p121_0 (ninS ne125 nin0))
  obtain ⟨T127, X127, e127, st127⟩ := getF X121 hx hZ110 hown110 (host := "") (Or.inl (w_ hw 52 rfl)) Via.refl rfl F126 (g := (mkF m 13 #[.val (.ref d)] [(.ref d), (.ref a101)])) rfl rfl (hb hby d30_13)
  refine FinH.by (fun tt_ kk_ => st127 tt_ kk_) ?_
  have E128 : Exa Z T121.heap xu "java/lang/String" := ((((Eu.ext E101).keep p106_0).ext E110).keep p121_0)
  have ne129 : xu ≠ a101 := Nat.ne_of_lt (Nat.lt_of_lt_of_le Eu.lt (Nat.le_of_eq g101.symm))
  have F130 : Fld Z T121.heap xu "java/lang/String" "value" "[B" (.ref tu) := ((((Vu.ext E101).keep p106_0 (ninS ne129 nin0)).ext E110).keep p121_0 (ninS ne129 nin0))
  have F131 : Fld Z T121.heap xu "java/lang/String" "coder" "B" (.int (0 : Int32)) := ((((Cu.ext E101).keep p106_0 (ninS ne129 nin0)).ext E110).keep p121_0 (ninS ne129 nin0))
  have ne132 : tu ≠ a101 := Nat.ne_of_lt (Nat.lt_of_lt_of_le Au.lt (Nat.le_of_eq g101.symm))
  have A133 : Arv Z T121.heap tu ku .byte (4 : Int32) (own_vs cu) (.int 0) := ((((Au.ext E101).keep p106_0 (ninS ne132 nin0)).ext E110).keep p121_0 (ninS ne132 nin0))
  have g134 : n0 ≤ v122 := Nat.le_trans z120 p121_1
  have lt136 : a101 < h110.size := Nat.lt_of_lt_of_le A101.lt (Nat.le_trans p106_0.1 E110.1)
  have ne135 : a101 ≠ v122 := Nat.ne_of_lt (Nat.lt_of_lt_of_le lt136 p121_1)
  have O137 : Old Z n0 T121.heap := (O119.keep p121_0 (allS g103 all0))
  have z138 : n0 ≤ T121.heap.size := Nat.le_trans z120 p121_0.1
  obtain ⟨cq139, kq139, qa139, qb139, qc139⟩ := isOf hZ110 e127 p121_2
  obtain ⟨v139, _, ⟨T139, L139, k139, n139⟩, -, X139, ⟨Lc139, hQ139, l139, y139, z139⟩, st139⟩ := X127.virtualBack hx (y := y_20) (z := y_20) hown110 (mvT hZ110 (w_ hw 84 rfl)) (mvT hZ110 (w_ hw 85 rfl)) (notFace_of_selects (args := #[]) (mvT hZ110 (w_ hw 87 rfl))) (mvT hZ110 (w_ hw 87 rfl)) (mvT hZ110 (w_ hw 86 rfl)) (by decide) (backOf (W := 0) (rm_sap21_4 l Z a0 hw [] a101 v122 k123 ((([] : List Value) ++ ((own_vs own_D) : List Value)) : List Value) xu tu ku ((own_vs cu) : List Value) G1 T121.heap n0 z138 (by first | rfl | (simp only [List.length_append, own_vl, lu]; done) | (simp only [List.length_append, own_vl, lu]; rfl)) (by first | rfl | (simp only [List.length_append, own_vl, lu]; done) | (simp only [List.length_append, own_vl, lu]; rfl)) p121_2 p121_3 p121_4 p121_5 p121_6 E128 F130 F131 A133 g103 g134 ne135 S1 P1 O137) hZ110 (w_ hw 88 rfl) (w_ hw 65 rfl) (by decide) (by decide)) qa139 qc139 (g := (mkF m 16 #[.val (.ref d)] [(.ref xu), (.ref a101)])) rfl (by rw [hml]; rfl) (Steps.refl _) (argsL := [(.ref xu)]) (rest := []) (lenOf pd_570 rfl) rfl (by show 2 * 0 + _ ≤ _; exact Nat.le_of_eq rfl) (hb hby d30_16) (fun _ _ => ⟨rfl, e127, (by decide : 5 + 0 ≤ _), (by decide : 142 + 0 ≤ _)⟩)
  dsimp only [Pt.U, Pt.locs, Pt.cells, Pt.slots] at X139 l139 y139 z139 st139 hQ139
  subst l139 y139 z139
  obtain ⟨rfl, Nq139, p139_0, p139_1, p139_2, p139_3, p139_4, p139_5⟩ := hQ139
  have N139_ := Fr.app N121_ Nq139
  refine FinH.byS st139 ?_
  have sf141 : Safe Z consts_1 s.vm h101 a101 := (Safe.ext E101 ch0.1 (Safe.new (Nat.le_of_eq g101.symm)))
  have sf142 : Safe Z consts_1 s.vm T106.heap a101 := (Safe.keep p106_0 (allS sf141 all0) ch102.1 sf141)
  have sf143 : Safe Z consts_1 T110.vm h110 a101 := (CHr.safe hC110 (Nat.lt_of_lt_of_le A101.lt p106_0.1) sf142)
  have sf144 : Safe Z consts_1 T110.vm T121.heap v122 := (Safe.keep p121_0 (allS sf143 all0) ch111.1 (Safe.new p121_1))
  have ch140 : CHr Z consts_1 s.vm h0 T110.vm T139.heap := ch124.trans (CHr.keep p139_0 (allS (Safe.exa hZ110.alike p121_2 (by decide) (by decide)) (allS sf144 all0)) ch124.1)
  obtain ⟨a145, T145, h145, k145, b145, kk145, X145, e145, E145, hS145, hk145, hZ145, hown145, xE145, xC145, xV145, xA145, la145, lb145, hC145, hL145, hne145, st145⟩ := ldcCH X139 hx hZ110 hown110 (w_ hw 164 rfl) (fun d hd => hw d (own_strAtoms d hd)) rfl hS110 (Nat.le_trans hk110 (Nat.le_trans p121_0.1 p139_0.1)) own_EW (by decide) ch140.1 (vs := (own_vs own_U)) (z := (7 : Int32)) own_hU (by decide) own_zU (g := (mkF m 19 #[.val (.ref d)] [(.ref a101)])) rfl (hb hby d30_19) (n := 28) (by decide +kernel) (by decide) (by decide) (by decide)
  refine FinH.by (fun tt_ kk_ => st145 tt_ kk_) ?_
  have ch146 : CHr Z consts_1 s.vm h0 T145.vm h145 := ch140.trans hC145
  have E147 : Exa Z h145 a101 "java/lang/StringBuilder" := (p139_1.ext E145)
  have F148 : Fld Z h145 a101 "java/lang/AbstractStringBuilder" "value" "[B" (.ref v122) := (p139_2.ext E145)
  have F149 : Fld Z h145 a101 "java/lang/AbstractStringBuilder" "coder" "B" (.int (0 : Int32)) := (p139_3.ext E145)
  have F150 : Fld Z h145 a101 "java/lang/AbstractStringBuilder" "count" "I" (.int (25 : Int32)) := (p139_4.ext E145)
  have A151 : Arv Z h145 v122 k123 .byte (34 : Int32) (((([] : List Value) ++ ((own_vs own_D) : List Value)) : List Value) ++ ((own_vs cu) : List Value)) (.int 0) := (p139_5.ext E145)
  have O152 : Old Z n0 h145 := ((O137.keep p139_0 (allS g103 (allS g134 all0))).ext E145)
  have z153 : n0 ≤ h145.size := Nat.le_trans z138 (Nat.le_trans p139_0.1 E145.1)
  obtain ⟨cq154, kq154, qa154, qb154, qc154⟩ := isOf hZ145 e145 E147
  obtain ⟨v154, _, ⟨T154, L154, k154, n154⟩, -, X154, ⟨Lc154, hQ154, l154, y154, z154⟩, st154⟩ := X145.virtualBack hx (y := y_20) (z := y_20) hown145 (mvT hZ145 (w_ hw 84 rfl)) (mvT hZ145 (w_ hw 85 rfl)) (notFace_of_selects (args := #[]) (mvT hZ145 (w_ hw 87 rfl))) (mvT hZ145 (w_ hw 87 rfl)) (mvT hZ145 (w_ hw 86 rfl)) (by decide) (backOf (W := 0) (rm_sap25_7 l Z a0 hw [] a101 v122 k123 ((((([] : List Value) ++ ((own_vs own_D) : List Value)) : List Value) ++ ((own_vs cu) : List Value)) : List Value) a145 b145 kk145 ((own_vs own_U) : List Value) G1 h145 n0 z153 (by first | rfl | (simp only [List.length_append, own_vl, lu]; done) | (simp only [List.length_append, own_vl, lu]; rfl)) (by first | rfl | (simp only [List.length_append, own_vl, lu]; done) | (simp only [List.length_append, own_vl, lu]; rfl)) E147 F148 F149 F150 A151 xE145 xV145 xC145 xA145 g103 g134 ne135 S1 P1 O152) hZ145 (w_ hw 88 rfl) (w_ hw 65 rfl) (by decide) (by decide)) qa154 qc154 (g := (mkF m 21 #[.val (.ref d)] [(.ref a145), (.ref a101)])) rfl (by rw [hml]; rfl) (Steps.refl _) (argsL := [(.ref a145)]) (rest := []) (lenOf pd_570 rfl) rfl (by show 2 * 0 + _ ≤ _; exact Nat.le_of_eq rfl) (hb hby d30_21) (fun _ _ => ⟨rfl, e145, (by decide : 7 + 0 ≤ _), (by decide : 174 + 0 ≤ _)⟩)
  dsimp only [Pt.U, Pt.locs, Pt.cells, Pt.slots] at X154 l154 y154 z154 st154 hQ154
  subst l154 y154 z154
  obtain ⟨rfl, Nq154, p154_0, p154_1, p154_2, p154_3, p154_4, p154_5⟩ := hQ154
  have N154_ := Fr.app N139_ Nq154
  refine FinH.byS st154 ?_
  have sf156 : Safe Z consts_1 T110.vm T121.heap a101 := (Safe.keep p121_0 (allS sf143 all0) ch111.1 sf143)
  have sf157 : Safe Z consts_1 T110.vm T139.heap v122 := (Safe.keep p139_0 (allS sf156 (allS sf144 all0)) ch124.1 sf144)
  have sf158 : Safe Z consts_1 T145.vm h145 v122 := (CHr.safe hC145 (Nat.lt_of_lt_of_le p121_6.lt p139_0.1) sf157)
  have ch155 : CHr Z consts_1 s.vm h0 T145.vm T154.heap := ch146.trans (CHr.keep p154_0 (allS (Safe.exa hZ145.alike E147 (by decide) (by decide)) (allS sf158 all0)) ch146.1)
  refine FinH.by (fun tt_ kk_ => XS.aloadN X154.here hx rfl (hb hby d30_24) rfl rfl kk_) ?_
  have lt160 : d < h110.size := Nat.lt_of_lt_of_le Ed.lt (Nat.le_trans (Nat.le_trans E101.1 p106_0.1) E110.1)
  have ne159 : d ≠ v122 := Nat.ne_of_lt (Nat.lt_of_lt_of_le lt160 p121_1)
  have F161 : Fld Z T154.heap d "com/example/ermine/ermine/server/DatabaseSettings" "user" "Ljava/lang/String;" .null := (((((((Fuser.ext E101).keep p106_0 (ninS ne125 nin0)).ext E110).keep p121_0 (ninS ne125 nin0)).keep p139_0 (ninS ne125 (ninS ne159 nin0))).ext E145).keep p154_0 (ninS ne125 (ninS ne159 nin0)))
  obtain ⟨T162, X162, e162, st162⟩ := getF X154 hx hZ145 hown145 (host := "") (Or.inl (w_ hw 54 rfl)) Via.refl rfl F161 (g := (mkF m 25 #[.val (.ref d)] [(.ref d), (.ref a101)])) rfl rfl (hb hby d30_25)
  refine FinH.by (fun tt_ kk_ => st162 tt_ kk_) ?_
  have O163 : Old Z n0 T154.heap := (O152.keep p154_0 (allS g103 (allS g134 all0)))
  have z164 : n0 ≤ T154.heap.size := Nat.le_trans z153 p154_0.1
  obtain ⟨cq165, kq165, qa165, qb165, qc165⟩ := isOf hZ145 e162 p154_1
  obtain ⟨v165, _, ⟨T165, L165, k165, n165⟩, -, X165, ⟨Lc165, hQ165, l165, y165, z165⟩, st165⟩ := X162.virtualBack hx (y := y_20) (z := y_20) hown145 (mvT hZ145 (w_ hw 84 rfl)) (mvT hZ145 (w_ hw 85 rfl)) (notFace_of_selects (args := #[]) (mvT hZ145 (w_ hw 87 rfl))) (mvT hZ145 (w_ hw 87 rfl)) (mvT hZ145 (w_ hw 86 rfl)) (by decide) (backOf (W := 0) (rm_san32 l Z a0 hw [] a101 v122 k123 ((((((([] : List Value) ++ ((own_vs own_D) : List Value)) : List Value) ++ ((own_vs cu) : List Value)) : List Value) ++ ((own_vs own_U) : List Value)) : List Value) G1 T154.heap n0 z164 (by first | rfl | (simp only [List.length_append, own_vl, lu]; done) | (simp only [List.length_append, own_vl, lu]; rfl)) p154_1 p154_2 p154_3 p154_4 p154_5 g103 S1 P1 O163) hZ145 (w_ hw 88 rfl) (w_ hw 65 rfl) (by decide) (by decide)) qa165 qc165 (g := (mkF m 28 #[.val (.ref d)] [.null, (.ref a101)])) rfl (by rw [hml]; rfl) (Steps.refl _) (argsL := [.null]) (rest := []) (lenOf pd_570 rfl) rfl (by show 2 * 0 + _ ≤ _; exact Nat.le_of_eq rfl) (hb hby d30_28) (fun _ _ => ⟨rfl, e162, (by decide : 7 + 1 ≤ _), (by decide : 174 + 70 ≤ _)⟩)
  dsimp only [Pt.U, Pt.locs, Pt.cells, Pt.slots] at X165 l165 y165 z165 st165 hQ165
  subst l165 y165 z165
  obtain ⟨v166, k167, rfl, Nq165, p165_0, p165_1, p165_2, p165_3, p165_4, p165_5, p165_6⟩ := hQ165
  have N165_ := Fr.app N154_ Nq165
  refine FinH.byS st165 ?_
  have ch168 : CHr Z consts_1 s.vm h0 T145.vm T165.heap := ch155.trans (CHr.keep p165_0 (allS (Safe.exa hZ145.alike p154_1 (by decide) (by decide)) all0) ch155.1)
  obtain ⟨a169, T169, h169, k169, b169, kk169, X169, e169, E169, hS169, hk169, hZ169, hown169, xE169, xC169, xV169, xA169, la169, lb169, hC169, hL169, hne169, st169⟩ := ldcCH X165 hx hZ145 hown145 (w_ hw 165 rfl) (fun d hd => hw d (own_strAtoms d hd)) rfl hS145 (Nat.le_trans hk145 (Nat.le_trans p154_0.1 p165_0.1)) own_EW (by decide) ch168.1 (vs := (own_vs own_E)) (z := (1 : Int32)) own_hE (by decide) own_zE (g := (mkF m 31 #[.val (.ref d)] [(.ref a101)])) rfl (hb hby d30_31) (n := 4) (by decide +kernel) (by decide) (by decide) (by decide)
  refine FinH.by (fun tt_ kk_ => st169 tt_ kk_) ?_
  have ch170 : CHr Z consts_1 s.vm h0 T169.vm h169 := ch168.trans hC169
  have E171 : Exa Z h169 a101 "java/lang/StringBuilder" := (p165_2.ext E169)
  have F172 : Fld Z h169 a101 "java/lang/AbstractStringBuilder" "value" "[B" (.ref v166) := (p165_3.ext E169)
  have F173 : Fld Z h169 a101 "java/lang/AbstractStringBuilder" "coder" "B" (.int (0 : Int32)) := (p165_4.ext E169)
  have F174 : Fld Z h169 a101 "java/lang/AbstractStringBuilder" "count" "I" (.int (36 : Int32)) := (p165_5.ext E169)
  have A175 : Arv Z h169 v166 k167 .byte (70 : Int32) (((((((([] : List Value) ++ ((own_vs own_D) : List Value)) : List Value) ++ ((own_vs cu) : List Value)) : List Value) ++ ((own_vs own_U) : List Value)) : List Value) ++ own_vs own_N) (.int 0) := (p165_6.ext E169)
  have g176 : n0 ≤ v166 := Nat.le_trans z164 p165_1
  have lt178 : a101 < T154.heap.size := Nat.lt_of_lt_of_le lt136 (Nat.le_trans (Nat.le_trans (Nat.le_trans p121_0.1 p139_0.1) E145.1) p154_0.1)
  have ne177 : a101 ≠ v166 := Nat.ne_of_lt (Nat.lt_of_lt_of_le lt178 p165_1)
  have O179 : Old Z n0 h169 := ((O163.keep p165_0 (allS g103 all0)).ext E169)
  have z180 : n0 ≤ h169.size := Nat.le_trans z164 (Nat.le_trans p165_0.1 E169.1)
  obtain ⟨cq181, kq181, qa181, qb181, qc181⟩ := isOf hZ169 e169 E171
  obtain ⟨v181, _, ⟨T181, L181, k181, n181⟩, -, X181, ⟨Lc181, hQ181, l181, y181, z181⟩, st181⟩ := X169.virtualBack hx (y := y_20) (z := y_20) hown169 (mvT hZ169 (w_ hw 84 rfl)) (mvT hZ169 (w_ hw 85 rfl)) (notFace_of_selects (args := #[]) (mvT hZ169 (w_ hw 87 rfl))) (mvT hZ169 (w_ hw 87 rfl)) (mvT hZ169 (w_ hw 86 rfl)) (by decide) (backOf (W := 0) (rm_sap36_1 l Z a0 hw [] a101 v166 k167 ((((((((([] : List Value) ++ ((own_vs own_D) : List Value)) : List Value) ++ ((own_vs cu) : List Value)) : List Value) ++ ((own_vs own_U) : List Value)) : List Value) ++ own_vs own_N) : List Value) a169 b169 kk169 ((own_vs own_E) : List Value) G1 h169 n0 z180 (by first | rfl | (simp only [List.length_append, own_vl, lu]; done) | (simp only [List.length_append, own_vl, lu]; rfl)) (by first | rfl | (simp only [List.length_append, own_vl, lu]; done) | (simp only [List.length_append, own_vl, lu]; rfl)) E171 F172 F173 F174 A175 xE169 xV169 xC169 xA169 g103 g176 ne177 S1 P1 O179) hZ169 (w_ hw 88 rfl) (w_ hw 65 rfl) (by decide) (by decide)) qa181 qc181 (g := (mkF m 33 #[.val (.ref d)] [(.ref a169), (.ref a101)])) rfl (by rw [hml]; rfl) (Steps.refl _) (argsL := [(.ref a169)]) (rest := []) (lenOf pd_570 rfl) rfl (by show 2 * 0 + _ ≤ _; exact Nat.le_of_eq rfl) (hb hby d30_33) (fun _ _ => ⟨rfl, e169, (by decide : 10 + 0 ≤ _), (by decide : 252 + 0 ≤ _)⟩)
  dsimp only [Pt.U, Pt.locs, Pt.cells, Pt.slots] at X181 l181 y181 z181 st181 hQ181
  subst l181 y181 z181
  obtain ⟨rfl, Nq181, p181_0, p181_1, p181_2, p181_3, p181_4, p181_5⟩ := hQ181
  have N181_ := Fr.app N165_ Nq181
  refine FinH.byS st181 ?_
  have sf183 : Safe Z consts_1 T110.vm T139.heap a101 := (Safe.keep p139_0 (allS sf156 (allS sf144 all0)) ch124.1 sf156)
  have sf184 : Safe Z consts_1 T145.vm h145 a101 := (CHr.safe hC145 (Nat.lt_of_lt_of_le A101.lt (Nat.le_trans (Nat.le_trans (Nat.le_trans p106_0.1 E110.1) p121_0.1) p139_0.1)) sf183)
  have sf185 : Safe Z consts_1 T145.vm T154.heap a101 := (Safe.keep p154_0 (allS sf184 (allS sf158 all0)) ch146.1 sf184)
  have sf186 : Safe Z consts_1 T145.vm T165.heap v166 := (Safe.keep p165_0 (allS sf185 all0) ch155.1 (Safe.new p165_1))
  have sf187 : Safe Z consts_1 T169.vm h169 v166 := (CHr.safe hC169 p165_6.lt sf186)
  have ch182 : CHr Z consts_1 s.vm h0 T169.vm T181.heap := ch170.trans (CHr.keep p181_0 (allS (Safe.exa hZ169.alike E171 (by decide) (by decide)) (allS sf187 all0)) ch170.1)
  have O188 : Old Z n0 T181.heap := (O179.keep p181_0 (allS g103 (allS g176 all0)))
  have z189 : n0 ≤ T181.heap.size := Nat.le_trans z180 p181_0.1
  obtain ⟨cq190, kq190, qa190, qb190, qc190⟩ := isOf hZ169 rfl p181_1
  obtain ⟨v190, _, ⟨T190, L190, k190, n190⟩, -, X190, ⟨Lc190, hQ190, l190, y190, z190⟩, st190⟩ := X181.virtualBack hx (y := y_30) (z := y_30) hown169 (mvT hZ169 (w_ hw 166 rfl)) (mvT hZ169 (w_ hw 167 rfl)) (notFace_of_selects (args := #[]) (mvT hZ169 (w_ hw 169 rfl))) (mvT hZ169 (w_ hw 169 rfl)) (mvT hZ169 (w_ hw 168 rfl)) (by decide) (backOf (W := 0) (rm_tos37 l Z a0 hw [] a101 v166 k167 ((((((((((([] : List Value) ++ ((own_vs own_D) : List Value)) : List Value) ++ ((own_vs cu) : List Value)) : List Value) ++ ((own_vs own_U) : List Value)) : List Value) ++ own_vs own_N) : List Value) ++ ((own_vs own_E) : List Value)) : List Value) G1 T181.heap n0 z189 (by first | rfl | (simp only [List.length_append, own_vl, lu]; done) | (simp only [List.length_append, own_vl, lu]; rfl)) p181_1 p181_2 p181_3 p181_4 p181_5 S1 P1 O188) hZ169 (w_ hw 170 rfl) (w_ hw 65 rfl) (by decide) (by decide)) qa190 qc190 (g := (mkF m 36 #[.val (.ref d)] [(.ref a101)])) rfl (by rw [hml]; rfl) (Steps.refl _) (argsL := []) (rest := []) (lenOf pd_582 rfl) rfl (by show 2 * 0 + _ ≤ _; exact Nat.le_of_eq rfl) (hb hby d30_36) (fun _ _ => ⟨rfl, rfl, (by decide : 10 + 2 ≤ _), (by decide : 252 + 41 ≤ _)⟩)
  dsimp only [Pt.U, Pt.locs, Pt.cells, Pt.slots] at X190 l190 y190 z190 st190 hQ190
  subst l190 y190 z190
  obtain ⟨x191, t192, k193, rfl, Nq190, p190_0, p190_1, p190_2, p190_3, p190_4, p190_5, p190_6, p190_7⟩ := hQ190
  have N190_ := Fr.app N181_ Nq190
  refine FinH.byS st190 ?_
  have ch194 : CHr Z consts_1 s.vm h0 T169.vm T190.heap := ch182.trans (CHr.keep p190_0 all0 ch182.1)
  have V195 : Arv Z T190.heap t192 k193 .byte (37 : Int32) (own_vs (own_D ++ cu ++ own_U ++ own_N ++ own_E)) (.int 0) := by have q := p190_7; simp only [List.nil_append, ← own_va] at q; exact q
  have kp196 : Keep h0 h101 [] := (Keep.refl h0 []).ext E101
  have kp197 : Keep h0 T106.heap [] := kp196.trans p106_0 (allS (Or.inr (Nat.le_trans (Nat.le_refl _) (Nat.le_of_eq g101.symm))) all0)
  have kp198 : Keep h0 h110 [] := kp197.ext E110
  have kp199 : Keep h0 T121.heap [] := kp198.trans p121_0 (allS (Or.inr (Nat.le_trans (Nat.le_refl _) (Nat.le_of_eq g101.symm))) all0)
  have kp200 : Keep h0 T139.heap [] := kp199.trans p139_0 (allS (Or.inr (Nat.le_trans (Nat.le_refl _) (Nat.le_of_eq g101.symm))) (allS (Or.inr (Nat.le_trans (Nat.le_trans (Nat.le_trans E101.1 p106_0.1) E110.1) p121_1)) all0))
  have kp201 : Keep h0 h145 [] := kp200.ext E145
  have kp202 : Keep h0 T154.heap [] := kp201.trans p154_0 (allS (Or.inr (Nat.le_trans (Nat.le_refl _) (Nat.le_of_eq g101.symm))) (allS (Or.inr (Nat.le_trans (Nat.le_trans (Nat.le_trans E101.1 p106_0.1) E110.1) p121_1)) all0))
  have kp203 : Keep h0 T165.heap [] := kp202.trans p165_0 (allS (Or.inr (Nat.le_trans (Nat.le_refl _) (Nat.le_of_eq g101.symm))) all0)
  have kp204 : Keep h0 h169 [] := kp203.ext E169
  have kp205 : Keep h0 T181.heap [] := kp204.trans p181_0 (allS (Or.inr (Nat.le_trans (Nat.le_refl _) (Nat.le_of_eq g101.symm))) (allS (Or.inr (Nat.le_trans (Nat.le_trans (Nat.le_trans (Nat.le_trans (Nat.le_trans (Nat.le_trans (Nat.le_trans E101.1 p106_0.1) E110.1) p121_0.1) p139_0.1) E145.1) p154_0.1) p165_1)) all0))
  have kp206 : Keep h0 T190.heap [] := kp205.trans p190_0 all0
  show FinH _ _ _ _ _ _ _ _ _ (T190.setTop (mkF m 39 #[.val (.ref d)] [(.ref x191)]))
  exact FinH.ret (v := some (.ref x191)) X190 hS169 ((Nat.le_trans hk169 (Nat.le_trans p181_0.1 p190_0.1))) (fun h => by rw [Bd.returns] at h; cases h) Bd.notSynchronized (⟨x191, t192, k193, rfl, N190_, kp206, (Nat.le_trans (Nat.le_trans (Nat.le_trans (Nat.le_trans (Nat.le_trans (Nat.le_trans (Nat.le_trans (Nat.le_trans (Nat.le_trans (Nat.le_trans E101.1 p106_0.1) E110.1) p121_0.1) p139_0.1) E145.1) p154_0.1) p165_0.1) E169.1) p181_0.1) p190_1), (Nat.le_trans (Nat.le_trans (Nat.le_trans (Nat.le_trans (Nat.le_trans (Nat.le_trans (Nat.le_trans (Nat.le_trans (Nat.le_trans (Nat.le_trans E101.1 p106_0.1) E110.1) p121_0.1) p139_0.1) E145.1) p154_0.1) p165_0.1) E169.1) p181_0.1) p190_3), p190_4, p190_5, p190_6, V195⟩) (by rw [hh]; exact ch194.trans (CHv.at X190 hZ169 own_EW ch194.1)) (by decide) (by decide) (fun fs hr => retA X190 hx Bd.returns rfl rfl (hb hby d30_39) hr)
def Q_apn21 (Z : State) (a : Addr) (v : Addr) (kv : ClassId) (vs : List Value) (G1 : Int32) (h0 : Heap) (n0 : Nat) (vv_ : Option Value) (hh_ : Heap) (LL_ : List Loc) : Prop := vv_ = some (.ref a) ∧ Fr n0 LL_ ∧ Keep h0 hh_ [a, v] ∧ Exa Z hh_ a "java/lang/StringBuilder" ∧ Fld Z hh_ a "java/lang/AbstractStringBuilder" "value" "[B" (.ref v) ∧ Fld Z hh_ a "java/lang/AbstractStringBuilder" "coder" "B" (.int (0 : Int32)) ∧ Fld Z hh_ a "java/lang/AbstractStringBuilder" "count" "I" (.int (25 : Int32)) ∧ Arv Z hh_ v kv .byte (34 : Int32) (vs ++ own_vs own_N) (.int 0)
set_option maxRecDepth 65536 in
set_option maxHeartbeats 40000000 in
theorem rm_apn21 (l : Launch) (Z : State) (a0 : Array Value) (hw : ∀ d ∈ tables_1, d.before a0 Z = true) (ws : List Jvm.Cond) (a : Addr) (v : Addr) (kv : ClassId) (vs : List Value) (G1 : Int32) (h0 : Heap) (n0 : Nat) (Z0 : n0 ≤ h0.size) (hvd : vs.length = 21) (E0 : Exa Z h0 a "java/lang/StringBuilder") (F0 : Fld Z h0 a "java/lang/AbstractStringBuilder" "value" "[B" (.ref v)) (F1 : Fld Z h0 a "java/lang/AbstractStringBuilder" "coder" "B" (.int (0 : Int32))) (F2 : Fld Z h0 a "java/lang/AbstractStringBuilder" "count" "I" (.int (21 : Int32))) (A0 : Arv Z h0 v kv .byte (34 : Int32) vs (.int 0)) (ga : n0 ≤ a) (gv : n0 ≤ v) (na : a ≠ v) (S1 : Sta Z Z.heap "java/lang/String" "COMPACT_STRINGS" "Z" (.int G1)) (P1 : ¬ G1 = 0) (OL : Old Z n0 h0) :
    MetFree l y_32 (head1 (Jvm.Cond.code y_32 jdk_68_method_26_code 3 (some (.object "java/lang/AbstractStringBuilder")) :: ws) ({ frames := 1, cells := 0, slots := 0, locals := 14 } : Room)) (fun aa_ U => aa_ = #[(.ref a)] ∧ Z.Warmed39 U.vm ∧ U.heap = h0) (fun _ _ _ _ _ => True) (fun _ U o U' => ∃ vv_ LL_, o = .returned vv_ ∧ Q_apn21 Z a v kv vs G1 h0 n0 vv_ U'.heap LL_ ∧ FrameEnd U o U' LL_ 0 0) := by
  refine MetFree.of_bodySF (plainFor_of_name pn_java_lang_AbstractStringBuilder) hisR ?_
  intro p e s m args below meth c s₁ Bd hml0 hP hK
  obtain ⟨rfl, hZ, hh⟩ := hP
  have hx := Bd.exec
  have hby := Bd.bytes
  have hml : c.maxLocals = 3 := hml0
  have hown : s.vm.findClass "java/lang/AbstractStringBuilder" = some m.cls := findClass_of_methodNamed Bd.named
  have hnm := (name_of_methodNamed Bd.named Bd.method).1
  have X0 : Stand p l e ({ frames := 1, cells := 0, slots := 0, locals := 14 } : Room) s m #[(.ref a)] below meth c s₁ [] 0 0 := Stand.of_body Bd
  have e0 : s₁.heap = h0 := by rw [← hh, Bd.state]; rfl
  have N0 := Fr.nil n0
  have ef : entryFrame m #[(.ref a)] 3 = mkF m 0 #[.val (.ref a), .unset, .unset] [] := by first | (simp [entryFrame, mkF, argsToLocals, Value.category]; done) | rfl
  refine Fin.start (Q := Q_apn21 Z a v kv vs G1 h0 n0) ef ?_
  refine Fin.by (fun tt_ kk_ => XS.aloadN X0.here hx rfl (hb hby d31_0) rfl rfl (XS.aloadN X0.here hx rfl (hb hby d31_1) rfl rfl kk_)) ?_
  obtain ⟨T101, X101, e101, st101⟩ := getF X0 hx hZ hown (host := "") (Or.inl (w_ hw 104 rfl)) Via.refl e0 F2 (g := (mkF m 2 #[.val (.ref a), .unset, .unset] [(.ref a), (.ref a)])) rfl rfl (hb hby d31_2)
  refine Fin.by (fun tt_ kk_ => st101 tt_ kk_) ?_
  refine Fin.by (fun tt_ kk_ => XS.iconst X101.here hx rfl (hb hby d31_5) (XS.iadd X101.here hx rfl (hb hby d31_6) rfl kk_)) ?_
  obtain ⟨cq102, qa102, qb102⟩ := E0.cell
  obtain ⟨v102, _, ⟨T102, L102, k102, n102⟩, -, X102, ⟨Lc102, hQ102, l102, y102, z102⟩, st102⟩ := X101.privateBack hx (y := y_13) hown (mvT hZ (w_ hw 106 rfl)) (mvT hZ (w_ hw 107 rfl)) (own_selpriv (z := y_13) (y := y_13) (mvT hZ (w_ hw 109 rfl)) rfl (Cond.privateMethod_at (mvP hZ (w_ hw 108 rfl) (args := #[]))) (mvT hZ (w_ hw 107 rfl)) (by decide)) (Cond.privateMethod_at (mvP hZ (w_ hw 108 rfl) (args := #[]))) (mvT hZ (w_ hw 110 rfl)) (by decide) (backOf (W := 0) (rm_eci34_25 l Z a0 hw [] a v kv (vs : List Value) h0 n0 Z0 E0 F0 F1 A0) hZ (w_ hw 110 rfl) (w_ hw 73 rfl) (by decide) (by decide)) (g := (mkF m 7 #[.val (.ref a), .unset, .unset] [(.int 25), (.ref a)])) rfl (by rw [hml]; rfl) (Steps.refl _) (a := a) (by rw [e101]; exact qa102) qb102 (argsL := [(.int 25)]) (rest := []) (lenOf pd_279 rfl) rfl (by show 2 * 0 + _ ≤ _; exact Nat.le_of_eq rfl) (hb hby d31_7) (fun _ _ => ⟨rfl, e101, (by decide : 0 + 0 ≤ _), (by decide : 0 + 0 ≤ _)⟩)
  dsimp only [Pt.U, Pt.locs, Pt.cells, Pt.slots] at X102 l102 y102 z102 st102 hQ102
  subst l102 y102 z102
  obtain ⟨rfl, Nq102, e102_⟩ := hQ102
  have N102_ := Fr.app N0 Nq102
  refine Fin.byS st102 ?_
  have e102 := e102_
  refine Fin.by (fun tt_ kk_ => XS.aloadN X102.here hx rfl (hb hby d31_10) rfl rfl kk_) ?_
  obtain ⟨T103, X103, e103, st103⟩ := getF X102 hx hZ hown (host := "") (Or.inl (w_ hw 104 rfl)) Via.refl e102 F2 (g := (mkF m 11 #[.val (.ref a), .unset, .unset] [(.ref a)])) rfl rfl (hb hby d31_11)
  refine Fin.by (fun tt_ kk_ => st103 tt_ kk_) ?_
  refine Fin.by (fun tt_ kk_ => XS.istoreN X103.here hx rfl (hb hby d31_14) rfl (l' := #[.val (.ref a), .val (.int 21), .unset]) rfl (XS.aloadN X103.here hx rfl (hb hby d31_15) rfl rfl kk_)) ?_
  obtain ⟨T104, X104, e104, st104⟩ := getF X103 hx hZ hown (host := "") (Or.inl (w_ hw 77 rfl)) Via.refl e103 F0 (g := (mkF m 16 #[.val (.ref a), .val (.int 21), .unset] [(.ref a)])) rfl rfl (hb hby d31_16)
  refine Fin.by (fun tt_ kk_ => st104 tt_ kk_) ?_
  refine Fin.by (fun tt_ kk_ => XS.astoreN X104.here hx rfl (hb hby d31_19) rfl rfl (l' := #[.val (.ref a), .val (.int 21), .val (.ref v)]) rfl (XS.aloadN X104.here hx rfl (hb hby d31_20) rfl rfl kk_)) ?_
  obtain ⟨cq105, kq105, qa105, qb105, qc105⟩ := isOf hZ e104 E0
  obtain ⟨v105, _, ⟨T105, L105, k105, n105⟩, -, X105, ⟨Lc105, hQ105, l105, y105, z105⟩, st105⟩ := X104.virtualBack hx (y := y_26) (z := y_26) hown (mvT hZ (w_ hw 159 rfl)) (mvT hZ (w_ hw 160 rfl)) (notFace_of_selects (args := #[]) (mvT hZ (w_ hw 162 rfl))) (mvT hZ (w_ hw 162 rfl)) (mvT hZ (w_ hw 161 rfl)) (by decide) (backOf (W := 0) (rm_isl l Z a0 hw [] a G1 h0 n0 Z0 E0 F1 S1 P1 OL) hZ (w_ hw 163 rfl) (w_ hw 73 rfl) (by decide) (by decide)) qa105 qc105 (g := (mkF m 21 #[.val (.ref a), .val (.int 21), .val (.ref v)] [(.ref a)])) rfl (by rw [hml]; rfl) (Steps.refl _) (argsL := []) (rest := []) (lenOf pd_540 rfl) rfl (by show 2 * 0 + _ ≤ _; exact Nat.le_of_eq rfl) (hb hby d31_21) (fun _ _ => ⟨rfl, e104, (by decide : 0 + 0 ≤ _), (by decide : 0 + 0 ≤ _)⟩)
  dsimp only [Pt.U, Pt.locs, Pt.cells, Pt.slots] at X105 l105 y105 z105 st105 hQ105
  subst l105 y105 z105
  obtain ⟨rfl, Nq105, e105_⟩ := hQ105
  have N105_ := Fr.app N102_ Nq105
  refine Fin.byS st105 ?_
  have e105 := e105_
  show Fin _ _ _ _ _ _ _ (T105.setTop (mkF m 24 #[.val (.ref a), .val (.int 21), .val (.ref v)] [(.int 1)]))
  refine Fin.by (fun tt_ kk_ => XS.ifNo X105.here hx rfl (hb hby d31_24) rfl ((if0 _ _).trans (feq (by decide : ¬ (1 : Int32) = (0 : Int32))).1) kk_) ?_
  refine Fin.by (fun tt_ kk_ => XS.aloadN X105.here hx rfl (hb hby d31_27) rfl rfl (XS.iloadN X105.here hx rfl (hb hby d31_28) rfl (XS.iinc X105.here hx rfl (hb hby d31_29) rfl (l' := #[.val (.ref a), .val (.int 22), .val (.ref v)]) rfl (XS.bipush X105.here hx rfl (hb hby d31_32) kk_)))) ?_
  obtain ⟨cl106, Ar106, q106, S106, N106, H106, G106⟩ := id A0
  have hin106 : ¬ ((21 : Int32) < 0 ∨ cl106.slots.size ≤ (21 : Int32).toNatClampNeg) := inb_of S106 ⟨by decide, by decide⟩
  obtain ⟨T106, h106, X106, e106, W106, st106⟩ := stB X105 hx hZ e105 Ar106 (j := (21 : Int32)) hin106 (g := (mkF m 34 #[.val (.ref a), .val (.int 22), .val (.ref v)] [(.int 110), (.int 21), (.ref v)])) rfl rfl (hb hby d31_34)
  have V106 : Arv Z h106 v kv .byte (34 : Int32) (vs ++ [(.int ((110 : Int32).toInt8.toInt32))]) (.int 0) := own_push Ar106 q106 S106 N106 H106 G106 (fits_nar_byte _) W106 (by simp only [List.length_append, hvd]; rfl)
  refine Fin.by (fun tt_ kk_ => st106 tt_ kk_) ?_
  have N106_ := Fr.snoc X106 N105_ gv
  refine Fin.by (fun tt_ kk_ => XS.aloadN X106.here hx rfl (hb hby d31_35) rfl rfl (XS.iloadN X106.here hx rfl (hb hby d31_36) rfl (XS.iinc X106.here hx rfl (hb hby d31_37) rfl (l' := #[.val (.ref a), .val (.int 23), .val (.ref v)]) rfl (XS.bipush X106.here hx rfl (hb hby d31_40) kk_)))) ?_
  obtain ⟨cl107, Ar107, q107, S107, N107, H107, G107⟩ := id V106
  have hin107 : ¬ ((22 : Int32) < 0 ∨ cl107.slots.size ≤ (22 : Int32).toNatClampNeg) := inb_of S107 ⟨by decide, by decide⟩
  obtain ⟨T107, h107, X107, e107, W107, st107⟩ := stB X106 hx hZ e106 Ar107 (j := (22 : Int32)) hin107 (g := (mkF m 42 #[.val (.ref a), .val (.int 23), .val (.ref v)] [(.int 117), (.int 22), (.ref v)])) rfl rfl (hb hby d31_42)
  have V107 : Arv Z h107 v kv .byte (34 : Int32) ((vs ++ [(.int ((110 : Int32).toInt8.toInt32))]) ++ [(.int ((117 : Int32).toInt8.toInt32))]) (.int 0) := own_push Ar107 q107 S107 N107 H107 G107 (fits_nar_byte _) W107 (by simp only [List.length_append, hvd]; rfl)
  refine Fin.by (fun tt_ kk_ => st107 tt_ kk_) ?_
  have N107_ := Fr.snoc X107 N106_ gv
  refine Fin.by (fun tt_ kk_ => XS.aloadN X107.here hx rfl (hb hby d31_43) rfl rfl (XS.iloadN X107.here hx rfl (hb hby d31_44) rfl (XS.iinc X107.here hx rfl (hb hby d31_45) rfl (l' := #[.val (.ref a), .val (.int 24), .val (.ref v)]) rfl (XS.bipush X107.here hx rfl (hb hby d31_48) kk_)))) ?_
  obtain ⟨cl108, Ar108, q108, S108, N108, H108, G108⟩ := id V107
  have hin108 : ¬ ((23 : Int32) < 0 ∨ cl108.slots.size ≤ (23 : Int32).toNatClampNeg) := inb_of S108 ⟨by decide, by decide⟩
  obtain ⟨T108, h108, X108, e108, W108, st108⟩ := stB X107 hx hZ e107 Ar108 (j := (23 : Int32)) hin108 (g := (mkF m 50 #[.val (.ref a), .val (.int 24), .val (.ref v)] [(.int 108), (.int 23), (.ref v)])) rfl rfl (hb hby d31_50)
  have V108 : Arv Z h108 v kv .byte (34 : Int32) (((vs ++ [(.int ((110 : Int32).toInt8.toInt32))]) ++ [(.int ((117 : Int32).toInt8.toInt32))]) ++ [(.int ((108 : Int32).toInt8.toInt32))]) (.int 0) := own_push Ar108 q108 S108 N108 H108 G108 (fits_nar_byte _) W108 (by simp only [List.length_append, hvd]; rfl)
  refine Fin.by (fun tt_ kk_ => st108 tt_ kk_) ?_
  have N108_ := Fr.snoc X108 N107_ gv
  refine Fin.by (fun tt_ kk_ => XS.aloadN X108.here hx rfl (hb hby d31_51) rfl rfl (XS.iloadN X108.here hx rfl (hb hby d31_52) rfl (XS.iinc X108.here hx rfl (hb hby d31_53) rfl (l' := #[.val (.ref a), .val (.int 25), .val (.ref v)]) rfl (XS.bipush X108.here hx rfl (hb hby d31_56) kk_)))) ?_
  obtain ⟨cl109, Ar109, q109, S109, N109, H109, G109⟩ := id V108
  have hin109 : ¬ ((24 : Int32) < 0 ∨ cl109.slots.size ≤ (24 : Int32).toNatClampNeg) := inb_of S109 ⟨by decide, by decide⟩
  obtain ⟨T109, h109, X109, e109, W109, st109⟩ := stB X108 hx hZ e108 Ar109 (j := (24 : Int32)) hin109 (g := (mkF m 58 #[.val (.ref a), .val (.int 25), .val (.ref v)] [(.int 108), (.int 24), (.ref v)])) rfl rfl (hb hby d31_58)
  have V109 : Arv Z h109 v kv .byte (34 : Int32) ((((vs ++ [(.int ((110 : Int32).toInt8.toInt32))]) ++ [(.int ((117 : Int32).toInt8.toInt32))]) ++ [(.int ((108 : Int32).toInt8.toInt32))]) ++ [(.int ((108 : Int32).toInt8.toInt32))]) (.int 0) := own_push Ar109 q109 S109 N109 H109 G109 (fits_nar_byte _) W109 (by simp only [List.length_append, hvd]; rfl)
  refine Fin.by (fun tt_ kk_ => st109 tt_ kk_) ?_
  have N109_ := Fr.snoc X109 N108_ gv
  have V110 : Arv Z h109 v kv .byte (34 : Int32) (vs ++ own_vs own_N) (.int 0) := by have q := V109; simp only [List.append_assoc, List.cons_append, List.nil_append] at q; exact q
  refine Fin.by (fun tt_ kk_ => XS.goto X109.here hx rfl (pc0 := 59) (pc' := 76) rfl (hb hby d31_59) (by decide) (by decide) (XS.aloadN X109.here hx rfl (hb hby d31_76) rfl rfl (XS.iloadN X109.here hx rfl (hb hby d31_77) rfl kk_))) ?_
  have F111 : Fld Z h109 a "java/lang/AbstractStringBuilder" "count" "I" (.int (21 : Int32)) := ((((F2.other W106 (Or.inl na)).other W107 (Or.inl na)).other W108 (Or.inl na)).other W109 (Or.inl na))
  have E112 : Exa Z h109 a "java/lang/StringBuilder" := ((((E0.wr W106).wr W107).wr W108).wr W109)
  obtain ⟨T113, h113, X113, e113, W113, st113⟩ := putF X109 hx hZ hown (host := "") (Or.inl (w_ hw 104 rfl)) Via.refl e109 F111 E112 (Or.inl (w_ hw 105 rfl)) (w_ hw 64 rfl) (ty := .int) (by decide) rfl rfl (g := (mkF m 78 #[.val (.ref a), .val (.int 25), .val (.ref v)] [(.int 25), (.ref a)])) rfl rfl (hb hby d31_78)
  refine Fin.by (fun tt_ kk_ => st113 tt_ kk_) ?_
  have N113_ := Fr.snoc X113 N109_ ga
  refine Fin.by (fun tt_ kk_ => XS.aloadN X113.here hx rfl (hb hby d31_81) rfl rfl kk_) ?_
  have kp114 : Keep h0 h106 [a, v] := (Keep.refl h0 [a, v]).wr W106 (Or.inl (List.mem_of_getElem? (i := 1) rfl))
  have kp115 : Keep h0 h107 [a, v] := kp114.wr W107 (Or.inl (List.mem_of_getElem? (i := 1) rfl))
  have kp116 : Keep h0 h108 [a, v] := kp115.wr W108 (Or.inl (List.mem_of_getElem? (i := 1) rfl))
  have kp117 : Keep h0 h109 [a, v] := kp116.wr W109 (Or.inl (List.mem_of_getElem? (i := 1) rfl))
  have kp118 : Keep h0 h113 [a, v] := kp117.wr W113 (Or.inl (List.mem_of_getElem? (i := 0) rfl))
  have E119 : Exa Z h113 a "java/lang/StringBuilder" := (E112.wr W113)
  have F120 : Fld Z h113 a "java/lang/AbstractStringBuilder" "value" "[B" (.ref v) := (((((F0.other W106 (Or.inl na)).other W107 (Or.inl na)).other W108 (Or.inl na)).other W109 (Or.inl na)).other W113 (Or.inr (slot_ne (Or.inl (w_ hw 78 rfl)) (Or.inl (w_ hw 105 rfl)) (by decide) (t := (.array .byte)) (t' := .int) (by decide) (by decide))))
  have F121 : Fld Z h113 a "java/lang/AbstractStringBuilder" "coder" "B" (.int (0 : Int32)) := (((((F1.other W106 (Or.inl na)).other W107 (Or.inl na)).other W108 (Or.inl na)).other W109 (Or.inl na)).other W113 (Or.inr (slot_ne (Or.inl (w_ hw 80 rfl)) (Or.inl (w_ hw 105 rfl)) (by decide) (t := .byte) (t' := .int) (by decide) (by decide))))
  have A122 : Arv Z h113 v kv .byte (34 : Int32) (vs ++ own_vs own_N) (.int 0) := (V110.other W113 (Ne.symm na))
  show Fin _ _ _ _ _ _ _ (T113.setTop (mkF m 82 #[.val (.ref a), .val (.int 25), .val (.ref v)] [(.ref a)]))
  exact Fin.ret (v := some (.ref a)) X113 (fun h => by rw [Bd.returns] at h; cases h) Bd.notSynchronized (by rw [e113]; exact ⟨rfl, N113_, kp118, E119, F120, F121, (F111.same W113), A122⟩) (by decide) (by decide) (fun fs hr => retA X113 hx Bd.returns rfl rfl (hb hby d31_82) hr)
def Q_aan21 (Z : State) (a : Addr) (v : Addr) (kv : ClassId) (vs : List Value) (G1 : Int32) (h0 : Heap) (n0 : Nat) (vv_ : Option Value) (hh_ : Heap) (LL_ : List Loc) : Prop := vv_ = some (.ref a) ∧ Fr n0 LL_ ∧ Keep h0 hh_ [a, v] ∧ Exa Z hh_ a "java/lang/StringBuilder" ∧ Fld Z hh_ a "java/lang/AbstractStringBuilder" "value" "[B" (.ref v) ∧ Fld Z hh_ a "java/lang/AbstractStringBuilder" "coder" "B" (.int (0 : Int32)) ∧ Fld Z hh_ a "java/lang/AbstractStringBuilder" "count" "I" (.int (25 : Int32)) ∧ Arv Z hh_ v kv .byte (34 : Int32) (vs ++ own_vs own_N) (.int 0)
set_option maxRecDepth 65536 in
set_option maxHeartbeats 40000000 in
theorem rm_aan21 (l : Launch) (Z : State) (a0 : Array Value) (hw : ∀ d ∈ tables_1, d.before a0 Z = true) (ws : List Jvm.Cond) (a : Addr) (v : Addr) (kv : ClassId) (vs : List Value) (G1 : Int32) (h0 : Heap) (n0 : Nat) (Z0 : n0 ≤ h0.size) (hvd : vs.length = 21) (E0 : Exa Z h0 a "java/lang/StringBuilder") (F0 : Fld Z h0 a "java/lang/AbstractStringBuilder" "value" "[B" (.ref v)) (F1 : Fld Z h0 a "java/lang/AbstractStringBuilder" "coder" "B" (.int (0 : Int32))) (F2 : Fld Z h0 a "java/lang/AbstractStringBuilder" "count" "I" (.int (21 : Int32))) (A0 : Arv Z h0 v kv .byte (34 : Int32) vs (.int 0)) (ga : n0 ≤ a) (gv : n0 ≤ v) (na : a ≠ v) (S1 : Sta Z Z.heap "java/lang/String" "COMPACT_STRINGS" "Z" (.int G1)) (P1 : ¬ G1 = 0) (OL : Old Z n0 h0) :
    MetFree l y_19 (head1 (Jvm.Cond.code y_19 jdk_68_method_22_code 3 (some (.object "java/lang/AbstractStringBuilder")) :: ws) ({ frames := 2, cells := 0, slots := 0, locals := 28 } : Room)) (fun aa_ U => aa_ = #[(.ref a), .null] ∧ Z.Warmed39 U.vm ∧ U.heap = h0) (fun _ _ _ _ _ => True) (fun _ U o U' => ∃ vv_ LL_, o = .returned vv_ ∧ Q_aan21 Z a v kv vs G1 h0 n0 vv_ U'.heap LL_ ∧ FrameEnd U o U' LL_ 0 0) := by
  refine MetFree.of_bodySF (plainFor_of_name pn_java_lang_AbstractStringBuilder) hisR ?_
  intro p e s m args below meth c s₁ Bd hml0 hP hK
  obtain ⟨rfl, hZ, hh⟩ := hP
  have hx := Bd.exec
  have hby := Bd.bytes
  have hml : c.maxLocals = 3 := hml0
  have hown : s.vm.findClass "java/lang/AbstractStringBuilder" = some m.cls := findClass_of_methodNamed Bd.named
  have hnm := (name_of_methodNamed Bd.named Bd.method).1
  have X0 : Stand p l e ({ frames := 2, cells := 0, slots := 0, locals := 28 } : Room) s m #[(.ref a), .null] below meth c s₁ [] 0 0 := Stand.of_body Bd
  have e0 : s₁.heap = h0 := by rw [← hh, Bd.state]; rfl
  have N0 := Fr.nil n0
  have ef : entryFrame m #[(.ref a), .null] 3 = mkF m 0 #[.val (.ref a), .val .null, .unset] [] := by first | (simp [entryFrame, mkF, argsToLocals, Value.category]; done) | rfl
  refine Fin.start (Q := Q_aan21 Z a v kv vs G1 h0 n0) ef ?_
  refine Fin.by (fun tt_ kk_ => XS.aloadN X0.here hx rfl (hb hby d18_0) rfl rfl kk_) ?_
  refine Fin.by (fun tt_ kk_ => XS.ifnonnullNo X0.here hx rfl (hb hby d18_1) rfl kk_) ?_
  refine Fin.by (fun tt_ kk_ => XS.aloadN X0.here hx rfl (hb hby d18_4) rfl rfl kk_) ?_
  obtain ⟨cq101, qa101, qb101⟩ := E0.cell
  obtain ⟨v101, _, ⟨T101, L101, k101, n101⟩, -, X101, ⟨Lc101, hQ101, l101, y101, z101⟩, st101⟩ := X0.privateBack hx (y := y_32) hown (mvT hZ (w_ hw 154 rfl)) (mvT hZ (w_ hw 155 rfl)) (own_selpriv (z := y_13) (y := y_32) (mvT hZ (w_ hw 109 rfl)) rfl (Cond.privateMethod_at (mvP hZ (w_ hw 156 rfl) (args := #[]))) (mvT hZ (w_ hw 155 rfl)) (by decide)) (Cond.privateMethod_at (mvP hZ (w_ hw 156 rfl) (args := #[]))) (mvT hZ (w_ hw 158 rfl)) (by decide) (backOf (W := 0) (rm_apn21 l Z a0 hw [] a v kv (vs : List Value) G1 h0 n0 Z0 hvd E0 F0 F1 F2 A0 ga gv na S1 P1 OL) hZ (w_ hw 158 rfl) (w_ hw 73 rfl) (by decide) (by decide)) (g := (mkF m 5 #[.val (.ref a), .val .null, .unset] [(.ref a)])) rfl (by rw [hml]; rfl) (Steps.refl _) (a := a) (by rw [e0]; exact qa101) qb101 (argsL := []) (rest := []) (lenOf pd_627 rfl) rfl (by show 2 * 0 + _ ≤ _; exact Nat.le_of_eq rfl) (hb hby d18_5) (fun _ _ => ⟨rfl, e0, (by decide : 0 + 0 ≤ _), (by decide : 0 + 0 ≤ _)⟩)
  dsimp only [Pt.U, Pt.locs, Pt.cells, Pt.slots] at X101 l101 y101 z101 st101 hQ101
  subst l101 y101 z101
  obtain ⟨rfl, Nq101, p101_0, p101_1, p101_2, p101_3, p101_4, p101_5⟩ := hQ101
  have N101_ := Fr.app N0 Nq101
  refine Fin.byS st101 ?_
  have kp102 : Keep h0 T101.heap [a, v] := (Keep.refl h0 [a, v]).trans p101_0 (allS (Or.inl (List.mem_of_getElem? (i := 0) rfl)) (allS (Or.inl (List.mem_of_getElem? (i := 1) rfl)) all0))
  show Fin _ _ _ _ _ _ _ (T101.setTop (mkF m 8 #[.val (.ref a), .val .null, .unset] [(.ref a)]))
  exact Fin.ret (v := some (.ref a)) X101 (fun h => by rw [Bd.returns] at h; cases h) Bd.notSynchronized (⟨rfl, N101_, kp102, p101_1, p101_2, p101_3, p101_4, p101_5⟩) (by decide) (by decide) (fun fs hr => retA X101 hx Bd.returns rfl rfl (hb hby d18_8) hr)
def Q_san21 (Z : State) (a : Addr) (v : Addr) (kv : ClassId) (vs : List Value) (G1 : Int32) (h0 : Heap) (n0 : Nat) (vv_ : Option Value) (hh_ : Heap) (LL_ : List Loc) : Prop := vv_ = some (.ref a) ∧ Fr n0 LL_ ∧ Keep h0 hh_ [a, v] ∧ Exa Z hh_ a "java/lang/StringBuilder" ∧ Fld Z hh_ a "java/lang/AbstractStringBuilder" "value" "[B" (.ref v) ∧ Fld Z hh_ a "java/lang/AbstractStringBuilder" "coder" "B" (.int (0 : Int32)) ∧ Fld Z hh_ a "java/lang/AbstractStringBuilder" "count" "I" (.int (25 : Int32)) ∧ Arv Z hh_ v kv .byte (34 : Int32) (vs ++ own_vs own_N) (.int 0)
set_option maxRecDepth 65536 in
set_option maxHeartbeats 40000000 in
theorem rm_san21 (l : Launch) (Z : State) (a0 : Array Value) (hw : ∀ d ∈ tables_1, d.before a0 Z = true) (ws : List Jvm.Cond) (a : Addr) (v : Addr) (kv : ClassId) (vs : List Value) (G1 : Int32) (h0 : Heap) (n0 : Nat) (Z0 : n0 ≤ h0.size) (hvd : vs.length = 21) (E0 : Exa Z h0 a "java/lang/StringBuilder") (F0 : Fld Z h0 a "java/lang/AbstractStringBuilder" "value" "[B" (.ref v)) (F1 : Fld Z h0 a "java/lang/AbstractStringBuilder" "coder" "B" (.int (0 : Int32))) (F2 : Fld Z h0 a "java/lang/AbstractStringBuilder" "count" "I" (.int (21 : Int32))) (A0 : Arv Z h0 v kv .byte (34 : Int32) vs (.int 0)) (ga : n0 ≤ a) (gv : n0 ≤ v) (na : a ≠ v) (S1 : Sta Z Z.heap "java/lang/String" "COMPACT_STRINGS" "Z" (.int G1)) (P1 : ¬ G1 = 0) (OL : Old Z n0 h0) :
    MetFree l y_20 (head1 (Jvm.Cond.code y_20 jdk_67_method_7_code 2 (some (.object "java/lang/StringBuilder")) :: ws) ({ frames := 3, cells := 0, slots := 0, locals := 42 } : Room)) (fun aa_ U => aa_ = #[(.ref a), .null] ∧ Z.Warmed39 U.vm ∧ U.heap = h0) (fun _ _ _ _ _ => True) (fun _ U o U' => ∃ vv_ LL_, o = .returned vv_ ∧ Q_san21 Z a v kv vs G1 h0 n0 vv_ U'.heap LL_ ∧ FrameEnd U o U' LL_ 0 0) := by
  refine MetFree.of_bodySF (plainFor_of_name pn_java_lang_StringBuilder) hisR ?_
  intro p e s m args below meth c s₁ Bd hml0 hP hK
  obtain ⟨rfl, hZ, hh⟩ := hP
  have hx := Bd.exec
  have hby := Bd.bytes
  have hml : c.maxLocals = 2 := hml0
  have hown : s.vm.findClass "java/lang/StringBuilder" = some m.cls := findClass_of_methodNamed Bd.named
  have hnm := (name_of_methodNamed Bd.named Bd.method).1
  have X0 : Stand p l e ({ frames := 3, cells := 0, slots := 0, locals := 42 } : Room) s m #[(.ref a), .null] below meth c s₁ [] 0 0 := Stand.of_body Bd
  have e0 : s₁.heap = h0 := by rw [← hh, Bd.state]; rfl
  have N0 := Fr.nil n0
  have ef : entryFrame m #[(.ref a), .null] 2 = mkF m 0 #[.val (.ref a), .val .null] [] := by first | (simp [entryFrame, mkF, argsToLocals, Value.category]; done) | rfl
  refine Fin.start (Q := Q_san21 Z a v kv vs G1 h0 n0) ef ?_
  refine Fin.by (fun tt_ kk_ => XS.aloadN X0.here hx rfl (hb hby d19_0) rfl rfl (XS.aloadN X0.here hx rfl (hb hby d19_1) rfl rfl kk_)) ?_
  obtain ⟨v101, _, ⟨T101, L101, k101, n101⟩, -, X101, ⟨Lc101, hQ101, l101, y101, z101⟩, st101⟩ := superBack X0 hx hZ (y := y_19) hown (w_ hw 89 rfl) (own_same (z := y_13) (y := y_19) (w_ hw 109 rfl) rfl (w_ hw 90 rfl) (by decide)) (w_ hw 90 rfl) (w_ hw 91 rfl) (by decide) (backOf (W := 0) (rm_aan21 l Z a0 hw [] a v kv (vs : List Value) G1 h0 n0 Z0 hvd E0 F0 F1 F2 A0 ga gv na S1 P1 OL) hZ (w_ hw 93 rfl) (w_ hw 73 rfl) (by decide) (by decide)) e0 (Ins.self E0) (g := (mkF m 2 #[.val (.ref a), .val .null] [.null, (.ref a)])) rfl (by rw [hml]; rfl) (w_ hw 93 rfl) (argsL := [.null]) (rest := []) (lenOf pd_467 rfl) rfl (by show 2 * 0 + _ ≤ _; exact Nat.le_of_eq rfl) (hb hby d19_2) (fun _ _ => ⟨rfl, e0, (by decide : 0 + 0 ≤ _), (by decide : 0 + 0 ≤ _)⟩)
  dsimp only [Pt.U, Pt.locs, Pt.cells, Pt.slots] at X101 l101 y101 z101 st101 hQ101
  subst l101 y101 z101
  obtain ⟨rfl, Nq101, p101_0, p101_1, p101_2, p101_3, p101_4, p101_5⟩ := hQ101
  have N101_ := Fr.app N0 Nq101
  refine Fin.byS st101 ?_
  refine Fin.by (fun tt_ kk_ => XS.pop X101.here hx rfl (hb hby d19_5) rfl rfl (XS.aloadN X101.here hx rfl (hb hby d19_6) rfl rfl kk_)) ?_
  have kp102 : Keep h0 T101.heap [a, v] := (Keep.refl h0 [a, v]).trans p101_0 (allS (Or.inl (List.mem_of_getElem? (i := 0) rfl)) (allS (Or.inl (List.mem_of_getElem? (i := 1) rfl)) all0))
  show Fin _ _ _ _ _ _ _ (T101.setTop (mkF m 7 #[.val (.ref a), .val .null] [(.ref a)]))
  exact Fin.ret (v := some (.ref a)) X101 (fun h => by rw [Bd.returns] at h; cases h) Bd.notSynchronized (⟨rfl, N101_, kp102, p101_1, p101_2, p101_3, p101_4, p101_5⟩) (by decide) (by decide) (fun fs hr => retA X101 hx Bd.returns rfl rfl (hb hby d19_7) hr)
def Q_dts10 (Z : State) (d : Addr) (xv : Addr) (tv : Addr) (kv : ClassId) (cv : List Int32) (G1 : Int32) (h0 : Heap) (n0 : Nat) (vv_ : Option Value) (hh_ : Heap) (LL_ : List Loc) : Prop := ∃ (y : Addr), ∃ (t : Addr), ∃ (k : ClassId), vv_ = some (.ref y) ∧ Fr n0 LL_ ∧ Keep h0 hh_ [] ∧ h0.size ≤ y ∧ h0.size ≤ t ∧ Exa Z hh_ y "java/lang/String" ∧ Fld Z hh_ y "java/lang/String" "value" "[B" (.ref t) ∧ Fld Z hh_ y "java/lang/String" "coder" "B" (.int (0 : Int32)) ∧ Arv Z hh_ t k .byte (37 : Int32) (own_vs (own_D ++ own_N ++ own_U ++ cv ++ own_E)) (.int 0)
set_option maxRecDepth 65536 in
set_option maxHeartbeats 40000000 in
theorem rm_dts10 (l : Launch) (Z : State) (a0 : Array Value) (hw : ∀ d ∈ tables_1, d.before a0 Z = true) (ws : List Jvm.Cond) (d : Addr) (xv : Addr) (tv : Addr) (kv : ClassId) (cv : List Int32) (G1 : Int32) (h0 : Heap) (n0 : Nat) (Z0 : n0 ≤ h0.size) (Ed : Exa Z h0 d "com/example/ermine/ermine/server/DatabaseSettings") (Furl : Fld Z h0 d "com/example/ermine/ermine/server/DatabaseSettings" "url" "Ljava/lang/String;" .null) (Fuser : Fld Z h0 d "com/example/ermine/ermine/server/DatabaseSettings" "user" "Ljava/lang/String;" (.ref xv)) (Ev : Exa Z h0 xv "java/lang/String") (Vv : Fld Z h0 xv "java/lang/String" "value" "[B" (.ref tv)) (Cv : Fld Z h0 xv "java/lang/String" "coder" "B" (.int (0 : Int32))) (Av : Arv Z h0 tv kv .byte (4 : Int32) (own_vs cv) (.int 0)) (lv : cv.length = 4) (S1 : Sta Z Z.heap "java/lang/String" "COMPACT_STRINGS" "Z" (.int G1)) (P1 : ¬ G1 = 0) (OL : Old Z n0 h0) :
    MetFree l y_31 (head1 (Jvm.Cond.code y_31 prog_33_method_3_code 1 (some (.object "java/lang/String")) :: ws) ({ frames := 6, cells := 12, slots := 293, locals := 91 } : Room)) (fun aa_ U => aa_ = #[(.ref d)] ∧ Z.Warmed39 U.vm ∧ U.heap = h0 ∧ CHv Z consts_1 U.vm h0) (fun _ _ _ _ _ => True) (fun _ U o U' => ∃ vv_ LL_, o = .returned vv_ ∧ Q_dts10 Z d xv tv kv cv G1 h0 n0 vv_ U'.heap LL_ ∧ CHr Z consts_1 U.vm U.heap U'.vm U'.heap ∧ ReturnedEndW U o U' LL_ 12 293) := by
  refine MetFree.of_bodySF (plainFor_of_name pn_com_example_ermine_ermine_server_DatabaseSettings) hisR ?_
  intro p e s m args below meth c s₁ Bd hml0 hP hK
  obtain ⟨rfl, hZ, hh, hC0⟩ := hP
  have hx := Bd.exec
  have hby := Bd.bytes
  have hml : c.maxLocals = 1 := hml0
  have hown : s.vm.findClass "com/example/ermine/ermine/server/DatabaseSettings" = some m.cls := findClass_of_methodNamed Bd.named
  have hnm := (name_of_methodNamed Bd.named Bd.method).1
  have X0 : Stand p l e ({ frames := 6, cells := 12, slots := 293, locals := 91 } : Room) (s.setVm s.vm) m #[(.ref d)] below meth c s₁ [] 0 0 := Stand.of_body Bd
  have e0 : s₁.heap = h0 := by rw [← hh, Bd.state]; rfl
  have N0 := Fr.nil n0
  have ef : entryFrame m #[(.ref d)] 1 = mkF m 0 #[.val (.ref d)] [] := by first | (simp [entryFrame, mkF, argsToLocals, Value.category]; done) | rfl
  have hS0 : s.Since s.vm h0.size := (State.WarmedH.refl s).since _
  have hk0 : h0.size ≤ h0.size := Nat.le_refl _
  have own_EW := own_EW0 hw
  have ch0 : CHr Z consts_1 s.vm h0 s.vm h0 := CHr.refl hC0
  refine FinH.start (Q := Q_dts10 Z d xv tv kv cv G1 h0 n0) ef ?_
  obtain ⟨T101, h101, X101, e101, E101, A101, D101, -, st101⟩ := newO X0 hx hZ hown (w_ hw 63 rfl) (w_ hw 64 rfl) (w_ hw 65 rfl) e0 (g := (mkF m 0 #[.val (.ref d)] [])) rfl (hb hby d30_0) (by decide) (by decide)
  obtain ⟨a101, g101⟩ : ∃ z, z = h0.size := ⟨_, rfl⟩
  rw [← g101] at A101 D101 st101
  refine FinH.by (fun tt_ kk_ => st101 tt_ kk_) ?_
  have ch102 : CHr Z consts_1 s.vm h0 s.vm h101 := ch0.trans (CHr.ext E101 ch0.1)
  refine FinH.by (fun tt_ kk_ => XS.dup X101.here hx rfl (hb hby d30_3) rfl rfl kk_) ?_
  have g103 : n0 ≤ a101 := Nat.le_trans Z0 (Nat.le_of_eq g101.symm)
  have O104 : Old Z n0 h101 := (OL.ext E101)
  have z105 : n0 ≤ h101.size := Nat.le_trans Z0 E101.1
  obtain ⟨v106, _, ⟨T106, L106, k106, n106⟩, -, X106, ⟨Lc106, hQ106, l106, y106, z106⟩, st106⟩ := X101.specialBack hx (y := y_7) rfl hown (mvT hZ (w_ hw 66 rfl)) (mvT hZ (w_ hw 67 rfl)) (mvT hZ (w_ hw 68 rfl)) (by decide) (backOf (W := 1) (rm_sbi l Z a0 hw [] a101 G1 h101 n0 z105 A101 (D101 (Or.inl (w_ hw 78 rfl)) (ty := (.array .byte)) (by decide) : Fld Z h101 a101 "java/lang/AbstractStringBuilder" "value" "[B" .null) (D101 (Or.inl (w_ hw 80 rfl)) (ty := .byte) (by decide) : Fld Z h101 a101 "java/lang/AbstractStringBuilder" "coder" "B" (.int (0 : Int32))) (D101 (Or.inl (w_ hw 105 rfl)) (ty := .int) (by decide) : Fld Z h101 a101 "java/lang/AbstractStringBuilder" "count" "I" (.int (0 : Int32))) g103 S1 P1 O104) hZ (w_ hw 68 rfl) (w_ hw 65 rfl) (by decide) (by decide)) (g := (mkF m 4 #[.val (.ref d)] [(.ref a101), (.ref a101)])) rfl (by rw [hml]; rfl) (Steps.refl _) (a := a101) (argsL := []) (rest := [(.ref a101)]) (lenOf pd_250 rfl) rfl (by show 2 * 0 + _ ≤ _; exact Nat.le_of_eq rfl) (hb hby d30_4) (fun _ _ => ⟨rfl, e101, (by decide : 1 + 1 ≤ _), (by decide : 4 + 16 ≤ _)⟩)
  dsimp only [Pt.U, Pt.locs, Pt.cells, Pt.slots] at X106 l106 y106 z106 st106 hQ106
  subst l106 y106 z106
  obtain ⟨v107, kv108, rfl, Nq106, p106_0, p106_1, p106_2, p106_3, p106_4, p106_5, p106_6⟩ := hQ106
  have N106_ := Fr.app N0 Nq106
  refine FinH.byS st106 ?_
  have ch109 : CHr Z consts_1 s.vm h0 s.vm T106.heap := ch102.trans (CHr.keep p106_0 (allS (Safe.exa hZ.alike A101 (by decide) (by decide)) all0) ch102.1)
  obtain ⟨a110, T110, h110, k110, b110, kk110, X110, e110, E110, hS110, hk110, hZ110, hown110, xE110, xC110, xV110, xA110, la110, lb110, hC110, hL110, hne110, st110⟩ := ldcCH X106 hx hZ hown (w_ hw 81 rfl) (fun d hd => hw d (own_strAtoms d hd)) rfl hS0 (Nat.le_trans hk0 (Nat.le_trans E101.1 p106_0.1)) own_EW (by decide) ch109.1 (vs := (own_vs own_D)) (z := (21 : Int32)) own_hD (by decide) own_zD (g := (mkF m 7 #[.val (.ref d)] [(.ref a101)])) rfl (hb hby d30_7) (n := 84) (by decide +kernel) (by decide) (by decide) (by decide)
  refine FinH.by (fun tt_ kk_ => st110 tt_ kk_) ?_
  have ch111 : CHr Z consts_1 s.vm h0 T110.vm h110 := ch109.trans hC110
  have E112 : Exa Z h110 a101 "java/lang/StringBuilder" := (p106_2.ext E110)
  have F113 : Fld Z h110 a101 "java/lang/AbstractStringBuilder" "value" "[B" (.ref v107) := (p106_3.ext E110)
  have F114 : Fld Z h110 a101 "java/lang/AbstractStringBuilder" "coder" "B" (.int (0 : Int32)) := (p106_4.ext E110)
  have F115 : Fld Z h110 a101 "java/lang/AbstractStringBuilder" "count" "I" (.int (0 : Int32)) := (p106_5.ext E110)
  have A116 : Arv Z h110 v107 kv108 .byte (16 : Int32) [] (.int 0) := (p106_6.ext E110)
  have ne117 : a101 ≠ a110 := (hne110 a101 (Safe.exa hZ110.alike E112 (by decide) (by decide))).1
  have ne118 : a101 ≠ b110 := (hne110 a101 (Safe.exa hZ110.alike E112 (by decide) (by decide))).2
  have O119 : Old Z n0 h110 := ((O104.keep p106_0 (allS g103 all0)).ext E110)
  have z120 : n0 ≤ h110.size := Nat.le_trans z105 (Nat.le_trans p106_0.1 E110.1)
  obtain ⟨cq121, kq121, qa121, qb121, qc121⟩ := isOf hZ110 e110 E112
  obtain ⟨v121, _, ⟨T121, L121, k121, n121⟩, -, X121, ⟨Lc121, hQ121, l121, y121, z121⟩, st121⟩ := X110.virtualBack hx (y := y_20) (z := y_20) hown110 (mvT hZ110 (w_ hw 84 rfl)) (mvT hZ110 (w_ hw 85 rfl)) (notFace_of_selects (args := #[]) (mvT hZ110 (w_ hw 87 rfl))) (mvT hZ110 (w_ hw 87 rfl)) (mvT hZ110 (w_ hw 86 rfl)) (by decide) (backOf (W := 0) (rm_sap0_21 l Z a0 hw [] a101 v107 kv108 ([] : List Value) a110 b110 kk110 ((own_vs own_D) : List Value) G1 h110 n0 z120 rfl (by first | rfl | (simp only [List.length_append, own_vl, lv]; done) | (simp only [List.length_append, own_vl, lv]; rfl)) E112 F113 F114 F115 A116 xE110 xV110 xC110 xA110 g103 (Ne.symm ne117) (Ne.symm ne118) S1 P1 O119) hZ110 (w_ hw 88 rfl) (w_ hw 65 rfl) (by decide) (by decide)) qa121 qc121 (g := (mkF m 9 #[.val (.ref d)] [(.ref a110), (.ref a101)])) rfl (by rw [hml]; rfl) (Steps.refl _) (argsL := [(.ref a110)]) (rest := []) (lenOf pd_570 rfl) rfl (by show 2 * 0 + _ ≤ _; exact Nat.le_of_eq rfl) (hb hby d30_9) (fun _ _ => ⟨rfl, e110, (by decide : 4 + 1 ≤ _), (by decide : 108 + 34 ≤ _)⟩)
  dsimp only [Pt.U, Pt.locs, Pt.cells, Pt.slots] at X121 l121 y121 z121 st121 hQ121
  subst l121 y121 z121
  obtain ⟨v122, k123, rfl, Nq121, p121_0, p121_1, p121_2, p121_3, p121_4, p121_5, p121_6⟩ := hQ121
  have N121_ := Fr.app N106_ Nq121
  refine FinH.byS st121 ?_
  have ch124 : CHr Z consts_1 s.vm h0 T110.vm T121.heap := ch111.trans (CHr.keep p121_0 (allS (Safe.exa hZ110.alike E112 (by decide) (by decide)) all0) ch111.1)
  refine FinH.by (fun tt_ kk_ => XS.aloadN X121.here hx rfl (hb hby d30_12) rfl rfl kk_) ?_
  have ne125 : d ≠ a101 := Nat.ne_of_lt (Nat.lt_of_lt_of_le Ed.lt (Nat.le_of_eq g101.symm))
  have F126 : Fld Z T121.heap d "com/example/ermine/ermine/server/DatabaseSettings" "url" "Ljava/lang/String;" .null := ((((Furl.ext E101).keep p106_0 (ninS ne125 nin0)).ext E110).keep p121_0 (ninS ne125 nin0))
  obtain ⟨T127, X127, e127, st127⟩ := getF X121 hx hZ110 hown110 (host := "") (Or.inl (w_ hw 52 rfl)) Via.refl rfl F126 (g := (mkF m 13 #[.val (.ref d)] [(.ref d), (.ref a101)])) rfl rfl (hb hby d30_13)
  refine FinH.by (fun tt_ kk_ => st127 tt_ kk_) ?_
  have g128 : n0 ≤ v122 := Nat.le_trans z120 p121_1
  have lt130 : a101 < h110.size := Nat.lt_of_lt_of_le A101.lt (Nat.le_trans p106_0.1 E110.1)
  have ne129 : a101 ≠ v122 := Nat.ne_of_lt (Nat.lt_of_lt_of_le lt130 p121_1)
  have O131 : Old Z n0 T121.heap := (O119.keep p121_0 (allS g103 all0))
  have z132 : n0 ≤ T121.heap.size := Nat.le_trans z120 p121_0.1
  obtain ⟨cq133, kq133, qa133, qb133, qc133⟩ := isOf hZ110 e127 p121_2
  obtain ⟨v133, _, ⟨T133, L133, k133, n133⟩, -, X133, ⟨Lc133, hQ133, l133, y133, z133⟩, st133⟩ := X127.virtualBack hx (y := y_20) (z := y_20) hown110 (mvT hZ110 (w_ hw 84 rfl)) (mvT hZ110 (w_ hw 85 rfl)) (notFace_of_selects (args := #[]) (mvT hZ110 (w_ hw 87 rfl))) (mvT hZ110 (w_ hw 87 rfl)) (mvT hZ110 (w_ hw 86 rfl)) (by decide) (backOf (W := 0) (rm_san21 l Z a0 hw [] a101 v122 k123 ((([] : List Value) ++ ((own_vs own_D) : List Value)) : List Value) G1 T121.heap n0 z132 (by first | rfl | (simp only [List.length_append, own_vl, lv]; done) | (simp only [List.length_append, own_vl, lv]; rfl)) p121_2 p121_3 p121_4 p121_5 p121_6 g103 g128 ne129 S1 P1 O131) hZ110 (w_ hw 88 rfl) (w_ hw 65 rfl) (by decide) (by decide)) qa133 qc133 (g := (mkF m 16 #[.val (.ref d)] [.null, (.ref a101)])) rfl (by rw [hml]; rfl) (Steps.refl _) (argsL := [.null]) (rest := []) (lenOf pd_570 rfl) rfl (by show 2 * 0 + _ ≤ _; exact Nat.le_of_eq rfl) (hb hby d30_16) (fun _ _ => ⟨rfl, e127, (by decide : 5 + 0 ≤ _), (by decide : 142 + 0 ≤ _)⟩)
  dsimp only [Pt.U, Pt.locs, Pt.cells, Pt.slots] at X133 l133 y133 z133 st133 hQ133
  subst l133 y133 z133
  obtain ⟨rfl, Nq133, p133_0, p133_1, p133_2, p133_3, p133_4, p133_5⟩ := hQ133
  have N133_ := Fr.app N121_ Nq133
  refine FinH.byS st133 ?_
  have sf135 : Safe Z consts_1 s.vm h101 a101 := (Safe.ext E101 ch0.1 (Safe.new (Nat.le_of_eq g101.symm)))
  have sf136 : Safe Z consts_1 s.vm T106.heap a101 := (Safe.keep p106_0 (allS sf135 all0) ch102.1 sf135)
  have sf137 : Safe Z consts_1 T110.vm h110 a101 := (CHr.safe hC110 (Nat.lt_of_lt_of_le A101.lt p106_0.1) sf136)
  have sf138 : Safe Z consts_1 T110.vm T121.heap v122 := (Safe.keep p121_0 (allS sf137 all0) ch111.1 (Safe.new p121_1))
  have ch134 : CHr Z consts_1 s.vm h0 T110.vm T133.heap := ch124.trans (CHr.keep p133_0 (allS (Safe.exa hZ110.alike p121_2 (by decide) (by decide)) (allS sf138 all0)) ch124.1)
  obtain ⟨a139, T139, h139, k139, b139, kk139, X139, e139, E139, hS139, hk139, hZ139, hown139, xE139, xC139, xV139, xA139, la139, lb139, hC139, hL139, hne139, st139⟩ := ldcCH X133 hx hZ110 hown110 (w_ hw 164 rfl) (fun d hd => hw d (own_strAtoms d hd)) rfl hS110 (Nat.le_trans hk110 (Nat.le_trans p121_0.1 p133_0.1)) own_EW (by decide) ch134.1 (vs := (own_vs own_U)) (z := (7 : Int32)) own_hU (by decide) own_zU (g := (mkF m 19 #[.val (.ref d)] [(.ref a101)])) rfl (hb hby d30_19) (n := 28) (by decide +kernel) (by decide) (by decide) (by decide)
  refine FinH.by (fun tt_ kk_ => st139 tt_ kk_) ?_
  have ch140 : CHr Z consts_1 s.vm h0 T139.vm h139 := ch134.trans hC139
  have E141 : Exa Z h139 a101 "java/lang/StringBuilder" := (p133_1.ext E139)
  have F142 : Fld Z h139 a101 "java/lang/AbstractStringBuilder" "value" "[B" (.ref v122) := (p133_2.ext E139)
  have F143 : Fld Z h139 a101 "java/lang/AbstractStringBuilder" "coder" "B" (.int (0 : Int32)) := (p133_3.ext E139)
  have F144 : Fld Z h139 a101 "java/lang/AbstractStringBuilder" "count" "I" (.int (25 : Int32)) := (p133_4.ext E139)
  have A145 : Arv Z h139 v122 k123 .byte (34 : Int32) (((([] : List Value) ++ ((own_vs own_D) : List Value)) : List Value) ++ own_vs own_N) (.int 0) := (p133_5.ext E139)
  have O146 : Old Z n0 h139 := ((O131.keep p133_0 (allS g103 (allS g128 all0))).ext E139)
  have z147 : n0 ≤ h139.size := Nat.le_trans z132 (Nat.le_trans p133_0.1 E139.1)
  obtain ⟨cq148, kq148, qa148, qb148, qc148⟩ := isOf hZ139 e139 E141
  obtain ⟨v148, _, ⟨T148, L148, k148, n148⟩, -, X148, ⟨Lc148, hQ148, l148, y148, z148⟩, st148⟩ := X139.virtualBack hx (y := y_20) (z := y_20) hown139 (mvT hZ139 (w_ hw 84 rfl)) (mvT hZ139 (w_ hw 85 rfl)) (notFace_of_selects (args := #[]) (mvT hZ139 (w_ hw 87 rfl))) (mvT hZ139 (w_ hw 87 rfl)) (mvT hZ139 (w_ hw 86 rfl)) (by decide) (backOf (W := 0) (rm_sap25_7 l Z a0 hw [] a101 v122 k123 ((((([] : List Value) ++ ((own_vs own_D) : List Value)) : List Value) ++ own_vs own_N) : List Value) a139 b139 kk139 ((own_vs own_U) : List Value) G1 h139 n0 z147 (by first | rfl | (simp only [List.length_append, own_vl, lv]; done) | (simp only [List.length_append, own_vl, lv]; rfl)) (by first | rfl | (simp only [List.length_append, own_vl, lv]; done) | (simp only [List.length_append, own_vl, lv]; rfl)) E141 F142 F143 F144 A145 xE139 xV139 xC139 xA139 g103 g128 ne129 S1 P1 O146) hZ139 (w_ hw 88 rfl) (w_ hw 65 rfl) (by decide) (by decide)) qa148 qc148 (g := (mkF m 21 #[.val (.ref d)] [(.ref a139), (.ref a101)])) rfl (by rw [hml]; rfl) (Steps.refl _) (argsL := [(.ref a139)]) (rest := []) (lenOf pd_570 rfl) rfl (by show 2 * 0 + _ ≤ _; exact Nat.le_of_eq rfl) (hb hby d30_21) (fun _ _ => ⟨rfl, e139, (by decide : 7 + 0 ≤ _), (by decide : 174 + 0 ≤ _)⟩)
  dsimp only [Pt.U, Pt.locs, Pt.cells, Pt.slots] at X148 l148 y148 z148 st148 hQ148
  subst l148 y148 z148
  obtain ⟨rfl, Nq148, p148_0, p148_1, p148_2, p148_3, p148_4, p148_5⟩ := hQ148
  have N148_ := Fr.app N133_ Nq148
  refine FinH.byS st148 ?_
  have sf150 : Safe Z consts_1 T110.vm T121.heap a101 := (Safe.keep p121_0 (allS sf137 all0) ch111.1 sf137)
  have sf151 : Safe Z consts_1 T110.vm T133.heap v122 := (Safe.keep p133_0 (allS sf150 (allS sf138 all0)) ch124.1 sf138)
  have sf152 : Safe Z consts_1 T139.vm h139 v122 := (CHr.safe hC139 (Nat.lt_of_lt_of_le p121_6.lt p133_0.1) sf151)
  have ch149 : CHr Z consts_1 s.vm h0 T139.vm T148.heap := ch140.trans (CHr.keep p148_0 (allS (Safe.exa hZ139.alike E141 (by decide) (by decide)) (allS sf152 all0)) ch140.1)
  refine FinH.by (fun tt_ kk_ => XS.aloadN X148.here hx rfl (hb hby d30_24) rfl rfl kk_) ?_
  have lt154 : d < h110.size := Nat.lt_of_lt_of_le Ed.lt (Nat.le_trans (Nat.le_trans E101.1 p106_0.1) E110.1)
  have ne153 : d ≠ v122 := Nat.ne_of_lt (Nat.lt_of_lt_of_le lt154 p121_1)
  have F155 : Fld Z T148.heap d "com/example/ermine/ermine/server/DatabaseSettings" "user" "Ljava/lang/String;" (.ref xv) := (((((((Fuser.ext E101).keep p106_0 (ninS ne125 nin0)).ext E110).keep p121_0 (ninS ne125 nin0)).keep p133_0 (ninS ne125 (ninS ne153 nin0))).ext E139).keep p148_0 (ninS ne125 (ninS ne153 nin0)))
  obtain ⟨T156, X156, e156, st156⟩ := getF X148 hx hZ139 hown139 (host := "") (Or.inl (w_ hw 54 rfl)) Via.refl rfl F155 (g := (mkF m 25 #[.val (.ref d)] [(.ref d), (.ref a101)])) rfl rfl (hb hby d30_25)
  refine FinH.by (fun tt_ kk_ => st156 tt_ kk_) ?_
  have E157 : Exa Z T148.heap xv "java/lang/String" := (((((((Ev.ext E101).keep p106_0).ext E110).keep p121_0).keep p133_0).ext E139).keep p148_0)
  have ne158 : xv ≠ a101 := Nat.ne_of_lt (Nat.lt_of_lt_of_le Ev.lt (Nat.le_of_eq g101.symm))
  have lt160 : xv < h110.size := Nat.lt_of_lt_of_le Ev.lt (Nat.le_trans (Nat.le_trans E101.1 p106_0.1) E110.1)
  have ne159 : xv ≠ v122 := Nat.ne_of_lt (Nat.lt_of_lt_of_le lt160 p121_1)
  have F161 : Fld Z T148.heap xv "java/lang/String" "value" "[B" (.ref tv) := (((((((Vv.ext E101).keep p106_0 (ninS ne158 nin0)).ext E110).keep p121_0 (ninS ne158 nin0)).keep p133_0 (ninS ne158 (ninS ne159 nin0))).ext E139).keep p148_0 (ninS ne158 (ninS ne159 nin0)))
  have F162 : Fld Z T148.heap xv "java/lang/String" "coder" "B" (.int (0 : Int32)) := (((((((Cv.ext E101).keep p106_0 (ninS ne158 nin0)).ext E110).keep p121_0 (ninS ne158 nin0)).keep p133_0 (ninS ne158 (ninS ne159 nin0))).ext E139).keep p148_0 (ninS ne158 (ninS ne159 nin0)))
  have ne163 : tv ≠ a101 := Nat.ne_of_lt (Nat.lt_of_lt_of_le Av.lt (Nat.le_of_eq g101.symm))
  have lt165 : tv < h110.size := Nat.lt_of_lt_of_le Av.lt (Nat.le_trans (Nat.le_trans E101.1 p106_0.1) E110.1)
  have ne164 : tv ≠ v122 := Nat.ne_of_lt (Nat.lt_of_lt_of_le lt165 p121_1)
  have A166 : Arv Z T148.heap tv kv .byte (4 : Int32) (own_vs cv) (.int 0) := (((((((Av.ext E101).keep p106_0 (ninS ne163 nin0)).ext E110).keep p121_0 (ninS ne163 nin0)).keep p133_0 (ninS ne163 (ninS ne164 nin0))).ext E139).keep p148_0 (ninS ne163 (ninS ne164 nin0)))
  have O167 : Old Z n0 T148.heap := (O146.keep p148_0 (allS g103 (allS g128 all0)))
  have z168 : n0 ≤ T148.heap.size := Nat.le_trans z147 p148_0.1
  obtain ⟨cq169, kq169, qa169, qb169, qc169⟩ := isOf hZ139 e156 p148_1
  obtain ⟨v169, _, ⟨T169, L169, k169, n169⟩, -, X169, ⟨Lc169, hQ169, l169, y169, z169⟩, st169⟩ := X156.virtualBack hx (y := y_20) (z := y_20) hown139 (mvT hZ139 (w_ hw 84 rfl)) (mvT hZ139 (w_ hw 85 rfl)) (notFace_of_selects (args := #[]) (mvT hZ139 (w_ hw 87 rfl))) (mvT hZ139 (w_ hw 87 rfl)) (mvT hZ139 (w_ hw 86 rfl)) (by decide) (backOf (W := 0) (rm_sap32_4 l Z a0 hw [] a101 v122 k123 ((((((([] : List Value) ++ ((own_vs own_D) : List Value)) : List Value) ++ own_vs own_N) : List Value) ++ ((own_vs own_U) : List Value)) : List Value) xv tv kv ((own_vs cv) : List Value) G1 T148.heap n0 z168 (by first | rfl | (simp only [List.length_append, own_vl, lv]; done) | (simp only [List.length_append, own_vl, lv]; rfl)) (by first | rfl | (simp only [List.length_append, own_vl, lv]; done) | (simp only [List.length_append, own_vl, lv]; rfl)) p148_1 p148_2 p148_3 p148_4 p148_5 E157 F161 F162 A166 g103 ne158 ne163 S1 P1 O167) hZ139 (w_ hw 88 rfl) (w_ hw 65 rfl) (by decide) (by decide)) qa169 qc169 (g := (mkF m 28 #[.val (.ref d)] [(.ref xv), (.ref a101)])) rfl (by rw [hml]; rfl) (Steps.refl _) (argsL := [(.ref xv)]) (rest := []) (lenOf pd_570 rfl) rfl (by show 2 * 0 + _ ≤ _; exact Nat.le_of_eq rfl) (hb hby d30_28) (fun _ _ => ⟨rfl, e156, (by decide : 7 + 1 ≤ _), (by decide : 174 + 70 ≤ _)⟩)
  dsimp only [Pt.U, Pt.locs, Pt.cells, Pt.slots] at X169 l169 y169 z169 st169 hQ169
  subst l169 y169 z169
  obtain ⟨v170, k171, rfl, Nq169, p169_0, p169_1, p169_2, p169_3, p169_4, p169_5, p169_6⟩ := hQ169
  have N169_ := Fr.app N148_ Nq169
  refine FinH.byS st169 ?_
  have ch172 : CHr Z consts_1 s.vm h0 T139.vm T169.heap := ch149.trans (CHr.keep p169_0 (allS (Safe.exa hZ139.alike p148_1 (by decide) (by decide)) all0) ch149.1)
  obtain ⟨a173, T173, h173, k173, b173, kk173, X173, e173, E173, hS173, hk173, hZ173, hown173, xE173, xC173, xV173, xA173, la173, lb173, hC173, hL173, hne173, st173⟩ := ldcCH X169 hx hZ139 hown139 (w_ hw 165 rfl) (fun d hd => hw d (own_strAtoms d hd)) rfl hS139 (Nat.le_trans hk139 (Nat.le_trans p148_0.1 p169_0.1)) own_EW (by decide) ch172.1 (vs := (own_vs own_E)) (z := (1 : Int32)) own_hE (by decide) own_zE (g := (mkF m 31 #[.val (.ref d)] [(.ref a101)])) rfl (hb hby d30_31) (n := 4) (by decide +kernel) (by decide) (by decide) (by decide)
  refine FinH.by (fun tt_ kk_ => st173 tt_ kk_) ?_
  have ch174 : CHr Z consts_1 s.vm h0 T173.vm h173 := ch172.trans hC173
  have E175 : Exa Z h173 a101 "java/lang/StringBuilder" := (p169_2.ext E173)
  have F176 : Fld Z h173 a101 "java/lang/AbstractStringBuilder" "value" "[B" (.ref v170) := (p169_3.ext E173)
  have F177 : Fld Z h173 a101 "java/lang/AbstractStringBuilder" "coder" "B" (.int (0 : Int32)) := (p169_4.ext E173)
  have F178 : Fld Z h173 a101 "java/lang/AbstractStringBuilder" "count" "I" (.int (36 : Int32)) := (p169_5.ext E173)
  have A179 : Arv Z h173 v170 k171 .byte (70 : Int32) (((((((([] : List Value) ++ ((own_vs own_D) : List Value)) : List Value) ++ own_vs own_N) : List Value) ++ ((own_vs own_U) : List Value)) : List Value) ++ ((own_vs cv) : List Value)) (.int 0) := (p169_6.ext E173)
  have g180 : n0 ≤ v170 := Nat.le_trans z168 p169_1
  have lt182 : a101 < T148.heap.size := Nat.lt_of_lt_of_le lt130 (Nat.le_trans (Nat.le_trans (Nat.le_trans p121_0.1 p133_0.1) E139.1) p148_0.1)
  have ne181 : a101 ≠ v170 := Nat.ne_of_lt (Nat.lt_of_lt_of_le lt182 p169_1)
  have O183 : Old Z n0 h173 := ((O167.keep p169_0 (allS g103 all0)).ext E173)
  have z184 : n0 ≤ h173.size := Nat.le_trans z168 (Nat.le_trans p169_0.1 E173.1)
  obtain ⟨cq185, kq185, qa185, qb185, qc185⟩ := isOf hZ173 e173 E175
  obtain ⟨v185, _, ⟨T185, L185, k185, n185⟩, -, X185, ⟨Lc185, hQ185, l185, y185, z185⟩, st185⟩ := X173.virtualBack hx (y := y_20) (z := y_20) hown173 (mvT hZ173 (w_ hw 84 rfl)) (mvT hZ173 (w_ hw 85 rfl)) (notFace_of_selects (args := #[]) (mvT hZ173 (w_ hw 87 rfl))) (mvT hZ173 (w_ hw 87 rfl)) (mvT hZ173 (w_ hw 86 rfl)) (by decide) (backOf (W := 0) (rm_sap36_1 l Z a0 hw [] a101 v170 k171 ((((((((([] : List Value) ++ ((own_vs own_D) : List Value)) : List Value) ++ own_vs own_N) : List Value) ++ ((own_vs own_U) : List Value)) : List Value) ++ ((own_vs cv) : List Value)) : List Value) a173 b173 kk173 ((own_vs own_E) : List Value) G1 h173 n0 z184 (by first | rfl | (simp only [List.length_append, own_vl, lv]; done) | (simp only [List.length_append, own_vl, lv]; rfl)) (by first | rfl | (simp only [List.length_append, own_vl, lv]; done) | (simp only [List.length_append, own_vl, lv]; rfl)) E175 F176 F177 F178 A179 xE173 xV173 xC173 xA173 g103 g180 ne181 S1 P1 O183) hZ173 (w_ hw 88 rfl) (w_ hw 65 rfl) (by decide) (by decide)) qa185 qc185 (g := (mkF m 33 #[.val (.ref d)] [(.ref a173), (.ref a101)])) rfl (by rw [hml]; rfl) (Steps.refl _) (argsL := [(.ref a173)]) (rest := []) (lenOf pd_570 rfl) rfl (by show 2 * 0 + _ ≤ _; exact Nat.le_of_eq rfl) (hb hby d30_33) (fun _ _ => ⟨rfl, e173, (by decide : 10 + 0 ≤ _), (by decide : 252 + 0 ≤ _)⟩)
  dsimp only [Pt.U, Pt.locs, Pt.cells, Pt.slots] at X185 l185 y185 z185 st185 hQ185
  subst l185 y185 z185
  obtain ⟨rfl, Nq185, p185_0, p185_1, p185_2, p185_3, p185_4, p185_5⟩ := hQ185
  have N185_ := Fr.app N169_ Nq185
  refine FinH.byS st185 ?_
  have sf187 : Safe Z consts_1 T110.vm T133.heap a101 := (Safe.keep p133_0 (allS sf150 (allS sf138 all0)) ch124.1 sf150)
  have sf188 : Safe Z consts_1 T139.vm h139 a101 := (CHr.safe hC139 (Nat.lt_of_lt_of_le A101.lt (Nat.le_trans (Nat.le_trans (Nat.le_trans p106_0.1 E110.1) p121_0.1) p133_0.1)) sf187)
  have sf189 : Safe Z consts_1 T139.vm T148.heap a101 := (Safe.keep p148_0 (allS sf188 (allS sf152 all0)) ch140.1 sf188)
  have sf190 : Safe Z consts_1 T139.vm T169.heap v170 := (Safe.keep p169_0 (allS sf189 all0) ch149.1 (Safe.new p169_1))
  have sf191 : Safe Z consts_1 T173.vm h173 v170 := (CHr.safe hC173 p169_6.lt sf190)
  have ch186 : CHr Z consts_1 s.vm h0 T173.vm T185.heap := ch174.trans (CHr.keep p185_0 (allS (Safe.exa hZ173.alike E175 (by decide) (by decide)) (allS sf191 all0)) ch174.1)
  have O192 : Old Z n0 T185.heap := (O183.keep p185_0 (allS g103 (allS g180 all0)))
  have z193 : n0 ≤ T185.heap.size := Nat.le_trans z184 p185_0.1
  obtain ⟨cq194, kq194, qa194, qb194, qc194⟩ := isOf hZ173 rfl p185_1
  obtain ⟨v194, _, ⟨T194, L194, k194, n194⟩, -, X194, ⟨Lc194, hQ194, l194, y194, z194⟩, st194⟩ := X185.virtualBack hx (y := y_30) (z := y_30) hown173 (mvT hZ173 (w_ hw 166 rfl)) (mvT hZ173 (w_ hw 167 rfl)) (notFace_of_selects (args := #[]) (mvT hZ173 (w_ hw 169 rfl))) (mvT hZ173 (w_ hw 169 rfl)) (mvT hZ173 (w_ hw 168 rfl)) (by decide) (backOf (W := 0) (rm_tos37 l Z a0 hw [] a101 v170 k171 ((((((((((([] : List Value) ++ ((own_vs own_D) : List Value)) : List Value) ++ own_vs own_N) : List Value) ++ ((own_vs own_U) : List Value)) : List Value) ++ ((own_vs cv) : List Value)) : List Value) ++ ((own_vs own_E) : List Value)) : List Value) G1 T185.heap n0 z193 (by first | rfl | (simp only [List.length_append, own_vl, lv]; done) | (simp only [List.length_append, own_vl, lv]; rfl)) p185_1 p185_2 p185_3 p185_4 p185_5 S1 P1 O192) hZ173 (w_ hw 170 rfl) (w_ hw 65 rfl) (by decide) (by decide)) qa194 qc194 (g := (mkF m 36 #[.val (.ref d)] [(.ref a101)])) rfl (by rw [hml]; rfl) (Steps.refl _) (argsL := []) (rest := []) (lenOf pd_582 rfl) rfl (by show 2 * 0 + _ ≤ _; exact Nat.le_of_eq rfl) (hb hby d30_36) (fun _ _ => ⟨rfl, rfl, (by decide : 10 + 2 ≤ _), (by decide : 252 + 41 ≤ _)⟩)
  dsimp only [Pt.U, Pt.locs, Pt.cells, Pt.slots] at X194 l194 y194 z194 st194 hQ194
  subst l194 y194 z194
  obtain ⟨x195, t196, k197, rfl, Nq194, p194_0, p194_1, p194_2, p194_3, p194_4, p194_5, p194_6, p194_7⟩ := hQ194
  have N194_ := Fr.app N185_ Nq194
  refine FinH.byS st194 ?_
  have ch198 : CHr Z consts_1 s.vm h0 T173.vm T194.heap := ch186.trans (CHr.keep p194_0 all0 ch186.1)
  have V199 : Arv Z T194.heap t196 k197 .byte (37 : Int32) (own_vs (own_D ++ own_N ++ own_U ++ cv ++ own_E)) (.int 0) := by have q := p194_7; simp only [List.nil_append, ← own_va] at q; exact q
  have kp200 : Keep h0 h101 [] := (Keep.refl h0 []).ext E101
  have kp201 : Keep h0 T106.heap [] := kp200.trans p106_0 (allS (Or.inr (Nat.le_trans (Nat.le_refl _) (Nat.le_of_eq g101.symm))) all0)
  have kp202 : Keep h0 h110 [] := kp201.ext E110
  have kp203 : Keep h0 T121.heap [] := kp202.trans p121_0 (allS (Or.inr (Nat.le_trans (Nat.le_refl _) (Nat.le_of_eq g101.symm))) all0)
  have kp204 : Keep h0 T133.heap [] := kp203.trans p133_0 (allS (Or.inr (Nat.le_trans (Nat.le_refl _) (Nat.le_of_eq g101.symm))) (allS (Or.inr (Nat.le_trans (Nat.le_trans (Nat.le_trans E101.1 p106_0.1) E110.1) p121_1)) all0))
  have kp205 : Keep h0 h139 [] := kp204.ext E139
  have kp206 : Keep h0 T148.heap [] := kp205.trans p148_0 (allS (Or.inr (Nat.le_trans (Nat.le_refl _) (Nat.le_of_eq g101.symm))) (allS (Or.inr (Nat.le_trans (Nat.le_trans (Nat.le_trans E101.1 p106_0.1) E110.1) p121_1)) all0))
  have kp207 : Keep h0 T169.heap [] := kp206.trans p169_0 (allS (Or.inr (Nat.le_trans (Nat.le_refl _) (Nat.le_of_eq g101.symm))) all0)
  have kp208 : Keep h0 h173 [] := kp207.ext E173
  have kp209 : Keep h0 T185.heap [] := kp208.trans p185_0 (allS (Or.inr (Nat.le_trans (Nat.le_refl _) (Nat.le_of_eq g101.symm))) (allS (Or.inr (Nat.le_trans (Nat.le_trans (Nat.le_trans (Nat.le_trans (Nat.le_trans (Nat.le_trans (Nat.le_trans E101.1 p106_0.1) E110.1) p121_0.1) p133_0.1) E139.1) p148_0.1) p169_1)) all0))
  have kp210 : Keep h0 T194.heap [] := kp209.trans p194_0 all0
  show FinH _ _ _ _ _ _ _ _ _ (T194.setTop (mkF m 39 #[.val (.ref d)] [(.ref x195)]))
  exact FinH.ret (v := some (.ref x195)) X194 hS173 ((Nat.le_trans hk173 (Nat.le_trans p185_0.1 p194_0.1))) (fun h => by rw [Bd.returns] at h; cases h) Bd.notSynchronized (⟨x195, t196, k197, rfl, N194_, kp210, (Nat.le_trans (Nat.le_trans (Nat.le_trans (Nat.le_trans (Nat.le_trans (Nat.le_trans (Nat.le_trans (Nat.le_trans (Nat.le_trans (Nat.le_trans E101.1 p106_0.1) E110.1) p121_0.1) p133_0.1) E139.1) p148_0.1) p169_0.1) E173.1) p185_0.1) p194_1), (Nat.le_trans (Nat.le_trans (Nat.le_trans (Nat.le_trans (Nat.le_trans (Nat.le_trans (Nat.le_trans (Nat.le_trans (Nat.le_trans (Nat.le_trans E101.1 p106_0.1) E110.1) p121_0.1) p133_0.1) E139.1) p148_0.1) p169_0.1) E173.1) p185_0.1) p194_3), p194_4, p194_5, p194_6, V199⟩) (by rw [hh]; exact ch198.trans (CHv.at X194 hZ173 own_EW ch198.1)) (by decide) (by decide) (fun fs hr => retA X194 hx Bd.returns rfl rfl (hb hby d30_39) hr)
def Q_dts11 (Z : State) (d : Addr) (G1 : Int32) (h0 : Heap) (n0 : Nat) (vv_ : Option Value) (hh_ : Heap) (LL_ : List Loc) : Prop := ∃ (y : Addr), ∃ (t : Addr), ∃ (k : ClassId), vv_ = some (.ref y) ∧ Fr n0 LL_ ∧ Keep h0 hh_ [] ∧ h0.size ≤ y ∧ h0.size ≤ t ∧ Exa Z hh_ y "java/lang/String" ∧ Fld Z hh_ y "java/lang/String" "value" "[B" (.ref t) ∧ Fld Z hh_ y "java/lang/String" "coder" "B" (.int (0 : Int32)) ∧ Arv Z hh_ t k .byte (37 : Int32) (own_vs (own_D ++ own_N ++ own_U ++ own_N ++ own_E)) (.int 0)
set_option maxRecDepth 65536 in
set_option maxHeartbeats 40000000 in
theorem rm_dts11 (l : Launch) (Z : State) (a0 : Array Value) (hw : ∀ d ∈ tables_1, d.before a0 Z = true) (ws : List Jvm.Cond) (d : Addr) (G1 : Int32) (h0 : Heap) (n0 : Nat) (Z0 : n0 ≤ h0.size) (Ed : Exa Z h0 d "com/example/ermine/ermine/server/DatabaseSettings") (Furl : Fld Z h0 d "com/example/ermine/ermine/server/DatabaseSettings" "url" "Ljava/lang/String;" .null) (Fuser : Fld Z h0 d "com/example/ermine/ermine/server/DatabaseSettings" "user" "Ljava/lang/String;" .null) (S1 : Sta Z Z.heap "java/lang/String" "COMPACT_STRINGS" "Z" (.int G1)) (P1 : ¬ G1 = 0) (OL : Old Z n0 h0) :
    MetFree l y_31 (head1 (Jvm.Cond.code y_31 prog_33_method_3_code 1 (some (.object "java/lang/String")) :: ws) ({ frames := 7, cells := 12, slots := 293, locals := 103 } : Room)) (fun aa_ U => aa_ = #[(.ref d)] ∧ Z.Warmed39 U.vm ∧ U.heap = h0 ∧ CHv Z consts_1 U.vm h0) (fun _ _ _ _ _ => True) (fun _ U o U' => ∃ vv_ LL_, o = .returned vv_ ∧ Q_dts11 Z d G1 h0 n0 vv_ U'.heap LL_ ∧ CHr Z consts_1 U.vm U.heap U'.vm U'.heap ∧ ReturnedEndW U o U' LL_ 12 293) := by
  refine MetFree.of_bodySF (plainFor_of_name pn_com_example_ermine_ermine_server_DatabaseSettings) hisR ?_
  intro p e s m args below meth c s₁ Bd hml0 hP hK
  obtain ⟨rfl, hZ, hh, hC0⟩ := hP
  have hx := Bd.exec
  have hby := Bd.bytes
  have hml : c.maxLocals = 1 := hml0
  have hown : s.vm.findClass "com/example/ermine/ermine/server/DatabaseSettings" = some m.cls := findClass_of_methodNamed Bd.named
  have hnm := (name_of_methodNamed Bd.named Bd.method).1
  have X0 : Stand p l e ({ frames := 7, cells := 12, slots := 293, locals := 103 } : Room) (s.setVm s.vm) m #[(.ref d)] below meth c s₁ [] 0 0 := Stand.of_body Bd
  have e0 : s₁.heap = h0 := by rw [← hh, Bd.state]; rfl
  have N0 := Fr.nil n0
  have ef : entryFrame m #[(.ref d)] 1 = mkF m 0 #[.val (.ref d)] [] := by first | (simp [entryFrame, mkF, argsToLocals, Value.category]; done) | rfl
  have hS0 : s.Since s.vm h0.size := (State.WarmedH.refl s).since _
  have hk0 : h0.size ≤ h0.size := Nat.le_refl _
  have own_EW := own_EW0 hw
  have ch0 : CHr Z consts_1 s.vm h0 s.vm h0 := CHr.refl hC0
  refine FinH.start (Q := Q_dts11 Z d G1 h0 n0) ef ?_
  obtain ⟨T101, h101, X101, e101, E101, A101, D101, -, st101⟩ := newO X0 hx hZ hown (w_ hw 63 rfl) (w_ hw 64 rfl) (w_ hw 65 rfl) e0 (g := (mkF m 0 #[.val (.ref d)] [])) rfl (hb hby d30_0) (by decide) (by decide)
  obtain ⟨a101, g101⟩ : ∃ z, z = h0.size := ⟨_, rfl⟩
  rw [← g101] at A101 D101 st101
  refine FinH.by (fun tt_ kk_ => st101 tt_ kk_) ?_
  have ch102 : CHr Z consts_1 s.vm h0 s.vm h101 := ch0.trans (CHr.ext E101 ch0.1)
  refine FinH.by (fun tt_ kk_ => XS.dup X101.here hx rfl (hb hby d30_3) rfl rfl kk_) ?_
  have g103 : n0 ≤ a101 := Nat.le_trans Z0 (Nat.le_of_eq g101.symm)
  have O104 : Old Z n0 h101 := (OL.ext E101)
  have z105 : n0 ≤ h101.size := Nat.le_trans Z0 E101.1
  obtain ⟨v106, _, ⟨T106, L106, k106, n106⟩, -, X106, ⟨Lc106, hQ106, l106, y106, z106⟩, st106⟩ := X101.specialBack hx (y := y_7) rfl hown (mvT hZ (w_ hw 66 rfl)) (mvT hZ (w_ hw 67 rfl)) (mvT hZ (w_ hw 68 rfl)) (by decide) (backOf (W := 1) (rm_sbi l Z a0 hw [] a101 G1 h101 n0 z105 A101 (D101 (Or.inl (w_ hw 78 rfl)) (ty := (.array .byte)) (by decide) : Fld Z h101 a101 "java/lang/AbstractStringBuilder" "value" "[B" .null) (D101 (Or.inl (w_ hw 80 rfl)) (ty := .byte) (by decide) : Fld Z h101 a101 "java/lang/AbstractStringBuilder" "coder" "B" (.int (0 : Int32))) (D101 (Or.inl (w_ hw 105 rfl)) (ty := .int) (by decide) : Fld Z h101 a101 "java/lang/AbstractStringBuilder" "count" "I" (.int (0 : Int32))) g103 S1 P1 O104) hZ (w_ hw 68 rfl) (w_ hw 65 rfl) (by decide) (by decide)) (g := (mkF m 4 #[.val (.ref d)] [(.ref a101), (.ref a101)])) rfl (by rw [hml]; rfl) (Steps.refl _) (a := a101) (argsL := []) (rest := [(.ref a101)]) (lenOf pd_250 rfl) rfl (by show 2 * 0 + _ ≤ _; exact Nat.le_of_eq rfl) (hb hby d30_4) (fun _ _ => ⟨rfl, e101, (by decide : 1 + 1 ≤ _), (by decide : 4 + 16 ≤ _)⟩)
  dsimp only [Pt.U, Pt.locs, Pt.cells, Pt.slots] at X106 l106 y106 z106 st106 hQ106
  subst l106 y106 z106
  obtain ⟨v107, kv108, rfl, Nq106, p106_0, p106_1, p106_2, p106_3, p106_4, p106_5, p106_6⟩ := hQ106
  have N106_ := Fr.app N0 Nq106
  refine FinH.byS st106 ?_
  have ch109 : CHr Z consts_1 s.vm h0 s.vm T106.heap := ch102.trans (CHr.keep p106_0 (allS (Safe.exa hZ.alike A101 (by decide) (by decide)) all0) ch102.1)
  obtain ⟨a110, T110, h110, k110, b110, kk110, X110, e110, E110, hS110, hk110, hZ110, hown110, xE110, xC110, xV110, xA110, la110, lb110, hC110, hL110, hne110, st110⟩ := ldcCH X106 hx hZ hown (w_ hw 81 rfl) (fun d hd => hw d (own_strAtoms d hd)) rfl hS0 (Nat.le_trans hk0 (Nat.le_trans E101.1 p106_0.1)) own_EW (by decide) ch109.1 (vs := (own_vs own_D)) (z := (21 : Int32)) own_hD (by decide) own_zD (g := (mkF m 7 #[.val (.ref d)] [(.ref a101)])) rfl (hb hby d30_7) (n := 84) (by decide +kernel) (by decide) (by decide) (by decide)
  refine FinH.by (fun tt_ kk_ => st110 tt_ kk_) ?_
  have ch111 : CHr Z consts_1 s.vm h0 T110.vm h110 := ch109.trans hC110
  have E112 : Exa Z h110 a101 "java/lang/StringBuilder" := (p106_2.ext E110)
  have F113 : Fld Z h110 a101 "java/lang/AbstractStringBuilder" "value" "[B" (.ref v107) := (p106_3.ext E110)
  have F114 : Fld Z h110 a101 "java/lang/AbstractStringBuilder" "coder" "B" (.int (0 : Int32)) := (p106_4.ext E110)
  have F115 : Fld Z h110 a101 "java/lang/AbstractStringBuilder" "count" "I" (.int (0 : Int32)) := (p106_5.ext E110)
  have A116 : Arv Z h110 v107 kv108 .byte (16 : Int32) [] (.int 0) := (p106_6.ext E110)
  have ne117 : a101 ≠ a110 := (hne110 a101 (Safe.exa hZ110.alike E112 (by decide) (by decide))).1
  have ne118 : a101 ≠ b110 := (hne110 a101 (Safe.exa hZ110.alike E112 (by decide) (by decide))).2
  have O119 : Old Z n0 h110 := ((O104.keep p106_0 (allS g103 all0)).ext E110)
  have z120 : n0 ≤ h110.size := Nat.le_trans z105 (Nat.le_trans p106_0.1 E110.1)
  obtain ⟨cq121, kq121, qa121, qb121, qc121⟩ := isOf hZ110 e110 E112
  obtain ⟨v121, _, ⟨T121, L121, k121, n121⟩, -, X121, ⟨Lc121, hQ121, l121, y121, z121⟩, st121⟩ := X110.virtualBack hx (y := y_20) (z := y_20) hown110 (mvT hZ110 (w_ hw 84 rfl)) (mvT hZ110 (w_ hw 85 rfl)) (notFace_of_selects (args := #[]) (mvT hZ110 (w_ hw 87 rfl))) (mvT hZ110 (w_ hw 87 rfl)) (mvT hZ110 (w_ hw 86 rfl)) (by decide) (backOf (W := 0) (rm_sap0_21 l Z a0 hw [] a101 v107 kv108 ([] : List Value) a110 b110 kk110 ((own_vs own_D) : List Value) G1 h110 n0 z120 rfl (by first | rfl | (simp only [List.length_append, own_vl]; done) | (simp only [List.length_append, own_vl]; rfl)) E112 F113 F114 F115 A116 xE110 xV110 xC110 xA110 g103 (Ne.symm ne117) (Ne.symm ne118) S1 P1 O119) hZ110 (w_ hw 88 rfl) (w_ hw 65 rfl) (by decide) (by decide)) qa121 qc121 (g := (mkF m 9 #[.val (.ref d)] [(.ref a110), (.ref a101)])) rfl (by rw [hml]; rfl) (Steps.refl _) (argsL := [(.ref a110)]) (rest := []) (lenOf pd_570 rfl) rfl (by show 2 * 0 + _ ≤ _; exact Nat.le_of_eq rfl) (hb hby d30_9) (fun _ _ => ⟨rfl, e110, (by decide : 4 + 1 ≤ _), (by decide : 108 + 34 ≤ _)⟩)
  dsimp only [Pt.U, Pt.locs, Pt.cells, Pt.slots] at X121 l121 y121 z121 st121 hQ121
  subst l121 y121 z121
  obtain ⟨v122, k123, rfl, Nq121, p121_0, p121_1, p121_2, p121_3, p121_4, p121_5, p121_6⟩ := hQ121
  have N121_ := Fr.app N106_ Nq121
  refine FinH.byS st121 ?_
  have ch124 : CHr Z consts_1 s.vm h0 T110.vm T121.heap := ch111.trans (CHr.keep p121_0 (allS (Safe.exa hZ110.alike E112 (by decide) (by decide)) all0) ch111.1)
  refine FinH.by (fun tt_ kk_ => XS.aloadN X121.here hx rfl (hb hby d30_12) rfl rfl kk_) ?_
  have ne125 : d ≠ a101 := Nat.ne_of_lt (Nat.lt_of_lt_of_le Ed.lt (Nat.le_of_eq g101.symm))
  have F126 : Fld Z T121.heap d "com/example/ermine/ermine/server/DatabaseSettings" "url" "Ljava/lang/String;" .null := ((((Furl.ext E101).keep p106_0 (ninS ne125 nin0)).ext E110).keep p121_0 (ninS ne125 nin0))
  obtain ⟨T127, X127, e127, st127⟩ := getF X121 hx hZ110 hown110 (host := "") (Or.inl (w_ hw 52 rfl)) Via.refl rfl F126 (g := (mkF m 13 #[.val (.ref d)] [(.ref d), (.ref a101)])) rfl rfl (hb hby d30_13)
  refine FinH.by (fun tt_ kk_ => st127 tt_ kk_) ?_
  have g128 : n0 ≤ v122 := Nat.le_trans z120 p121_1
  have lt130 : a101 < h110.size := Nat.lt_of_lt_of_le A101.lt (Nat.le_trans p106_0.1 E110.1)
  have ne129 : a101 ≠ v122 := Nat.ne_of_lt (Nat.lt_of_lt_of_le lt130 p121_1)
  have O131 : Old Z n0 T121.heap := (O119.keep p121_0 (allS g103 all0))
  have z132 : n0 ≤ T121.heap.size := Nat.le_trans z120 p121_0.1
  obtain ⟨cq133, kq133, qa133, qb133, qc133⟩ := isOf hZ110 e127 p121_2
  obtain ⟨v133, _, ⟨T133, L133, k133, n133⟩, -, X133, ⟨Lc133, hQ133, l133, y133, z133⟩, st133⟩ := X127.virtualBack hx (y := y_20) (z := y_20) hown110 (mvT hZ110 (w_ hw 84 rfl)) (mvT hZ110 (w_ hw 85 rfl)) (notFace_of_selects (args := #[]) (mvT hZ110 (w_ hw 87 rfl))) (mvT hZ110 (w_ hw 87 rfl)) (mvT hZ110 (w_ hw 86 rfl)) (by decide) (backOf (W := 0) (rm_san21 l Z a0 hw [] a101 v122 k123 ((([] : List Value) ++ ((own_vs own_D) : List Value)) : List Value) G1 T121.heap n0 z132 (by first | rfl | (simp only [List.length_append, own_vl]; done) | (simp only [List.length_append, own_vl]; rfl)) p121_2 p121_3 p121_4 p121_5 p121_6 g103 g128 ne129 S1 P1 O131) hZ110 (w_ hw 88 rfl) (w_ hw 65 rfl) (by decide) (by decide)) qa133 qc133 (g := (mkF m 16 #[.val (.ref d)] [.null, (.ref a101)])) rfl (by rw [hml]; rfl) (Steps.refl _) (argsL := [.null]) (rest := []) (lenOf pd_570 rfl) rfl (by show 2 * 0 + _ ≤ _; exact Nat.le_of_eq rfl) (hb hby d30_16) (fun _ _ => ⟨rfl, e127, (by decide : 5 + 0 ≤ _), (by decide : 142 + 0 ≤ _)⟩)
  dsimp only [Pt.U, Pt.locs, Pt.cells, Pt.slots] at X133 l133 y133 z133 st133 hQ133
  subst l133 y133 z133
  obtain ⟨rfl, Nq133, p133_0, p133_1, p133_2, p133_3, p133_4, p133_5⟩ := hQ133
  have N133_ := Fr.app N121_ Nq133
  refine FinH.byS st133 ?_
  have sf135 : Safe Z consts_1 s.vm h101 a101 := (Safe.ext E101 ch0.1 (Safe.new (Nat.le_of_eq g101.symm)))
  have sf136 : Safe Z consts_1 s.vm T106.heap a101 := (Safe.keep p106_0 (allS sf135 all0) ch102.1 sf135)
  have sf137 : Safe Z consts_1 T110.vm h110 a101 := (CHr.safe hC110 (Nat.lt_of_lt_of_le A101.lt p106_0.1) sf136)
  have sf138 : Safe Z consts_1 T110.vm T121.heap v122 := (Safe.keep p121_0 (allS sf137 all0) ch111.1 (Safe.new p121_1))
  have ch134 : CHr Z consts_1 s.vm h0 T110.vm T133.heap := ch124.trans (CHr.keep p133_0 (allS (Safe.exa hZ110.alike p121_2 (by decide) (by decide)) (allS sf138 all0)) ch124.1)
  obtain ⟨a139, T139, h139, k139, b139, kk139, X139, e139, E139, hS139, hk139, hZ139, hown139, xE139, xC139, xV139, xA139, la139, lb139, hC139, hL139, hne139, st139⟩ := ldcCH X133 hx hZ110 hown110 (w_ hw 164 rfl) (fun d hd => hw d (own_strAtoms d hd)) rfl hS110 (Nat.le_trans hk110 (Nat.le_trans p121_0.1 p133_0.1)) own_EW (by decide) ch134.1 (vs := (own_vs own_U)) (z := (7 : Int32)) own_hU (by decide) own_zU (g := (mkF m 19 #[.val (.ref d)] [(.ref a101)])) rfl (hb hby d30_19) (n := 28) (by decide +kernel) (by decide) (by decide) (by decide)
  refine FinH.by (fun tt_ kk_ => st139 tt_ kk_) ?_
  have ch140 : CHr Z consts_1 s.vm h0 T139.vm h139 := ch134.trans hC139
  have E141 : Exa Z h139 a101 "java/lang/StringBuilder" := (p133_1.ext E139)
  have F142 : Fld Z h139 a101 "java/lang/AbstractStringBuilder" "value" "[B" (.ref v122) := (p133_2.ext E139)
  have F143 : Fld Z h139 a101 "java/lang/AbstractStringBuilder" "coder" "B" (.int (0 : Int32)) := (p133_3.ext E139)
  have F144 : Fld Z h139 a101 "java/lang/AbstractStringBuilder" "count" "I" (.int (25 : Int32)) := (p133_4.ext E139)
  have A145 : Arv Z h139 v122 k123 .byte (34 : Int32) (((([] : List Value) ++ ((own_vs own_D) : List Value)) : List Value) ++ own_vs own_N) (.int 0) := (p133_5.ext E139)
  have O146 : Old Z n0 h139 := ((O131.keep p133_0 (allS g103 (allS g128 all0))).ext E139)
  have z147 : n0 ≤ h139.size := Nat.le_trans z132 (Nat.le_trans p133_0.1 E139.1)
  obtain ⟨cq148, kq148, qa148, qb148, qc148⟩ := isOf hZ139 e139 E141
  obtain ⟨v148, _, ⟨T148, L148, k148, n148⟩, -, X148, ⟨Lc148, hQ148, l148, y148, z148⟩, st148⟩ := X139.virtualBack hx (y := y_20) (z := y_20) hown139 (mvT hZ139 (w_ hw 84 rfl)) (mvT hZ139 (w_ hw 85 rfl)) (notFace_of_selects (args := #[]) (mvT hZ139 (w_ hw 87 rfl))) (mvT hZ139 (w_ hw 87 rfl)) (mvT hZ139 (w_ hw 86 rfl)) (by decide) (backOf (W := 0) (rm_sap25_7 l Z a0 hw [] a101 v122 k123 ((((([] : List Value) ++ ((own_vs own_D) : List Value)) : List Value) ++ own_vs own_N) : List Value) a139 b139 kk139 ((own_vs own_U) : List Value) G1 h139 n0 z147 (by first | rfl | (simp only [List.length_append, own_vl]; done) | (simp only [List.length_append, own_vl]; rfl)) (by first | rfl | (simp only [List.length_append, own_vl]; done) | (simp only [List.length_append, own_vl]; rfl)) E141 F142 F143 F144 A145 xE139 xV139 xC139 xA139 g103 g128 ne129 S1 P1 O146) hZ139 (w_ hw 88 rfl) (w_ hw 65 rfl) (by decide) (by decide)) qa148 qc148 (g := (mkF m 21 #[.val (.ref d)] [(.ref a139), (.ref a101)])) rfl (by rw [hml]; rfl) (Steps.refl _) (argsL := [(.ref a139)]) (rest := []) (lenOf pd_570 rfl) rfl (by show 2 * 0 + _ ≤ _; exact Nat.le_of_eq rfl) (hb hby d30_21) (fun _ _ => ⟨rfl, e139, (by decide : 7 + 0 ≤ _), (by decide : 174 + 0 ≤ _)⟩)
  dsimp only [Pt.U, Pt.locs, Pt.cells, Pt.slots] at X148 l148 y148 z148 st148 hQ148
  subst l148 y148 z148
  obtain ⟨rfl, Nq148, p148_0, p148_1, p148_2, p148_3, p148_4, p148_5⟩ := hQ148
  have N148_ := Fr.app N133_ Nq148
  refine FinH.byS st148 ?_
  have sf150 : Safe Z consts_1 T110.vm T121.heap a101 := (Safe.keep p121_0 (allS sf137 all0) ch111.1 sf137)
  have sf151 : Safe Z consts_1 T110.vm T133.heap v122 := (Safe.keep p133_0 (allS sf150 (allS sf138 all0)) ch124.1 sf138)
  have sf152 : Safe Z consts_1 T139.vm h139 v122 := (CHr.safe hC139 (Nat.lt_of_lt_of_le p121_6.lt p133_0.1) sf151)
  have ch149 : CHr Z consts_1 s.vm h0 T139.vm T148.heap := ch140.trans (CHr.keep p148_0 (allS (Safe.exa hZ139.alike E141 (by decide) (by decide)) (allS sf152 all0)) ch140.1)
  refine FinH.by (fun tt_ kk_ => XS.aloadN X148.here hx rfl (hb hby d30_24) rfl rfl kk_) ?_
  have lt154 : d < h110.size := Nat.lt_of_lt_of_le Ed.lt (Nat.le_trans (Nat.le_trans E101.1 p106_0.1) E110.1)
  have ne153 : d ≠ v122 := Nat.ne_of_lt (Nat.lt_of_lt_of_le lt154 p121_1)
  have F155 : Fld Z T148.heap d "com/example/ermine/ermine/server/DatabaseSettings" "user" "Ljava/lang/String;" .null := (((((((Fuser.ext E101).keep p106_0 (ninS ne125 nin0)).ext E110).keep p121_0 (ninS ne125 nin0)).keep p133_0 (ninS ne125 (ninS ne153 nin0))).ext E139).keep p148_0 (ninS ne125 (ninS ne153 nin0)))
  obtain ⟨T156, X156, e156, st156⟩ := getF X148 hx hZ139 hown139 (host := "") (Or.inl (w_ hw 54 rfl)) Via.refl rfl F155 (g := (mkF m 25 #[.val (.ref d)] [(.ref d), (.ref a101)])) rfl rfl (hb hby d30_25)
  refine FinH.by (fun tt_ kk_ => st156 tt_ kk_) ?_
  have O157 : Old Z n0 T148.heap := (O146.keep p148_0 (allS g103 (allS g128 all0)))
  have z158 : n0 ≤ T148.heap.size := Nat.le_trans z147 p148_0.1
  obtain ⟨cq159, kq159, qa159, qb159, qc159⟩ := isOf hZ139 e156 p148_1
  obtain ⟨v159, _, ⟨T159, L159, k159, n159⟩, -, X159, ⟨Lc159, hQ159, l159, y159, z159⟩, st159⟩ := X156.virtualBack hx (y := y_20) (z := y_20) hown139 (mvT hZ139 (w_ hw 84 rfl)) (mvT hZ139 (w_ hw 85 rfl)) (notFace_of_selects (args := #[]) (mvT hZ139 (w_ hw 87 rfl))) (mvT hZ139 (w_ hw 87 rfl)) (mvT hZ139 (w_ hw 86 rfl)) (by decide) (backOf (W := 0) (rm_san32 l Z a0 hw [] a101 v122 k123 ((((((([] : List Value) ++ ((own_vs own_D) : List Value)) : List Value) ++ own_vs own_N) : List Value) ++ ((own_vs own_U) : List Value)) : List Value) G1 T148.heap n0 z158 (by first | rfl | (simp only [List.length_append, own_vl]; done) | (simp only [List.length_append, own_vl]; rfl)) p148_1 p148_2 p148_3 p148_4 p148_5 g103 S1 P1 O157) hZ139 (w_ hw 88 rfl) (w_ hw 65 rfl) (by decide) (by decide)) qa159 qc159 (g := (mkF m 28 #[.val (.ref d)] [.null, (.ref a101)])) rfl (by rw [hml]; rfl) (Steps.refl _) (argsL := [.null]) (rest := []) (lenOf pd_570 rfl) rfl (by show 2 * 0 + _ ≤ _; exact Nat.le_of_eq rfl) (hb hby d30_28) (fun _ _ => ⟨rfl, e156, (by decide : 7 + 1 ≤ _), (by decide : 174 + 70 ≤ _)⟩)
  dsimp only [Pt.U, Pt.locs, Pt.cells, Pt.slots] at X159 l159 y159 z159 st159 hQ159
  subst l159 y159 z159
  obtain ⟨v160, k161, rfl, Nq159, p159_0, p159_1, p159_2, p159_3, p159_4, p159_5, p159_6⟩ := hQ159
  have N159_ := Fr.app N148_ Nq159
  refine FinH.byS st159 ?_
  have ch162 : CHr Z consts_1 s.vm h0 T139.vm T159.heap := ch149.trans (CHr.keep p159_0 (allS (Safe.exa hZ139.alike p148_1 (by decide) (by decide)) all0) ch149.1)
  obtain ⟨a163, T163, h163, k163, b163, kk163, X163, e163, E163, hS163, hk163, hZ163, hown163, xE163, xC163, xV163, xA163, la163, lb163, hC163, hL163, hne163, st163⟩ := ldcCH X159 hx hZ139 hown139 (w_ hw 165 rfl) (fun d hd => hw d (own_strAtoms d hd)) rfl hS139 (Nat.le_trans hk139 (Nat.le_trans p148_0.1 p159_0.1)) own_EW (by decide) ch162.1 (vs := (own_vs own_E)) (z := (1 : Int32)) own_hE (by decide) own_zE (g := (mkF m 31 #[.val (.ref d)] [(.ref a101)])) rfl (hb hby d30_31) (n := 4) (by decide +kernel) (by decide) (by decide) (by decide)
  refine FinH.by (fun tt_ kk_ => st163 tt_ kk_) ?_
  have ch164 : CHr Z consts_1 s.vm h0 T163.vm h163 := ch162.trans hC163
  have E165 : Exa Z h163 a101 "java/lang/StringBuilder" := (p159_2.ext E163)
  have F166 : Fld Z h163 a101 "java/lang/AbstractStringBuilder" "value" "[B" (.ref v160) := (p159_3.ext E163)
  have F167 : Fld Z h163 a101 "java/lang/AbstractStringBuilder" "coder" "B" (.int (0 : Int32)) := (p159_4.ext E163)
  have F168 : Fld Z h163 a101 "java/lang/AbstractStringBuilder" "count" "I" (.int (36 : Int32)) := (p159_5.ext E163)
  have A169 : Arv Z h163 v160 k161 .byte (70 : Int32) (((((((([] : List Value) ++ ((own_vs own_D) : List Value)) : List Value) ++ own_vs own_N) : List Value) ++ ((own_vs own_U) : List Value)) : List Value) ++ own_vs own_N) (.int 0) := (p159_6.ext E163)
  have g170 : n0 ≤ v160 := Nat.le_trans z158 p159_1
  have lt172 : a101 < T148.heap.size := Nat.lt_of_lt_of_le lt130 (Nat.le_trans (Nat.le_trans (Nat.le_trans p121_0.1 p133_0.1) E139.1) p148_0.1)
  have ne171 : a101 ≠ v160 := Nat.ne_of_lt (Nat.lt_of_lt_of_le lt172 p159_1)
  have O173 : Old Z n0 h163 := ((O157.keep p159_0 (allS g103 all0)).ext E163)
  have z174 : n0 ≤ h163.size := Nat.le_trans z158 (Nat.le_trans p159_0.1 E163.1)
  obtain ⟨cq175, kq175, qa175, qb175, qc175⟩ := isOf hZ163 e163 E165
  obtain ⟨v175, _, ⟨T175, L175, k175, n175⟩, -, X175, ⟨Lc175, hQ175, l175, y175, z175⟩, st175⟩ := X163.virtualBack hx (y := y_20) (z := y_20) hown163 (mvT hZ163 (w_ hw 84 rfl)) (mvT hZ163 (w_ hw 85 rfl)) (notFace_of_selects (args := #[]) (mvT hZ163 (w_ hw 87 rfl))) (mvT hZ163 (w_ hw 87 rfl)) (mvT hZ163 (w_ hw 86 rfl)) (by decide) (backOf (W := 0) (rm_sap36_1 l Z a0 hw [] a101 v160 k161 ((((((((([] : List Value) ++ ((own_vs own_D) : List Value)) : List Value) ++ own_vs own_N) : List Value) ++ ((own_vs own_U) : List Value)) : List Value) ++ own_vs own_N) : List Value) a163 b163 kk163 ((own_vs own_E) : List Value) G1 h163 n0 z174 (by first | rfl | (simp only [List.length_append, own_vl]; done) | (simp only [List.length_append, own_vl]; rfl)) (by first | rfl | (simp only [List.length_append, own_vl]; done) | (simp only [List.length_append, own_vl]; rfl)) E165 F166 F167 F168 A169 xE163 xV163 xC163 xA163 g103 g170 ne171 S1 P1 O173) hZ163 (w_ hw 88 rfl) (w_ hw 65 rfl) (by decide) (by decide)) qa175 qc175 (g := (mkF m 33 #[.val (.ref d)] [(.ref a163), (.ref a101)])) rfl (by rw [hml]; rfl) (Steps.refl _) (argsL := [(.ref a163)]) (rest := []) (lenOf pd_570 rfl) rfl (by show 2 * 0 + _ ≤ _; exact Nat.le_of_eq rfl) (hb hby d30_33) (fun _ _ => ⟨rfl, e163, (by decide : 10 + 0 ≤ _), (by decide : 252 + 0 ≤ _)⟩)
  dsimp only [Pt.U, Pt.locs, Pt.cells, Pt.slots] at X175 l175 y175 z175 st175 hQ175
  subst l175 y175 z175
  obtain ⟨rfl, Nq175, p175_0, p175_1, p175_2, p175_3, p175_4, p175_5⟩ := hQ175
  have N175_ := Fr.app N159_ Nq175
  refine FinH.byS st175 ?_
  have sf177 : Safe Z consts_1 T110.vm T133.heap a101 := (Safe.keep p133_0 (allS sf150 (allS sf138 all0)) ch124.1 sf150)
  have sf178 : Safe Z consts_1 T139.vm h139 a101 := (CHr.safe hC139 (Nat.lt_of_lt_of_le A101.lt (Nat.le_trans (Nat.le_trans (Nat.le_trans p106_0.1 E110.1) p121_0.1) p133_0.1)) sf177)
  have sf179 : Safe Z consts_1 T139.vm T148.heap a101 := (Safe.keep p148_0 (allS sf178 (allS sf152 all0)) ch140.1 sf178)
  have sf180 : Safe Z consts_1 T139.vm T159.heap v160 := (Safe.keep p159_0 (allS sf179 all0) ch149.1 (Safe.new p159_1))
  have sf181 : Safe Z consts_1 T163.vm h163 v160 := (CHr.safe hC163 p159_6.lt sf180)
  have ch176 : CHr Z consts_1 s.vm h0 T163.vm T175.heap := ch164.trans (CHr.keep p175_0 (allS (Safe.exa hZ163.alike E165 (by decide) (by decide)) (allS sf181 all0)) ch164.1)
  have O182 : Old Z n0 T175.heap := (O173.keep p175_0 (allS g103 (allS g170 all0)))
  have z183 : n0 ≤ T175.heap.size := Nat.le_trans z174 p175_0.1
  obtain ⟨cq184, kq184, qa184, qb184, qc184⟩ := isOf hZ163 rfl p175_1
  obtain ⟨v184, _, ⟨T184, L184, k184, n184⟩, -, X184, ⟨Lc184, hQ184, l184, y184, z184⟩, st184⟩ := X175.virtualBack hx (y := y_30) (z := y_30) hown163 (mvT hZ163 (w_ hw 166 rfl)) (mvT hZ163 (w_ hw 167 rfl)) (notFace_of_selects (args := #[]) (mvT hZ163 (w_ hw 169 rfl))) (mvT hZ163 (w_ hw 169 rfl)) (mvT hZ163 (w_ hw 168 rfl)) (by decide) (backOf (W := 0) (rm_tos37 l Z a0 hw [] a101 v160 k161 ((((((((((([] : List Value) ++ ((own_vs own_D) : List Value)) : List Value) ++ own_vs own_N) : List Value) ++ ((own_vs own_U) : List Value)) : List Value) ++ own_vs own_N) : List Value) ++ ((own_vs own_E) : List Value)) : List Value) G1 T175.heap n0 z183 (by first | rfl | (simp only [List.length_append, own_vl]; done) | (simp only [List.length_append, own_vl]; rfl)) p175_1 p175_2 p175_3 p175_4 p175_5 S1 P1 O182) hZ163 (w_ hw 170 rfl) (w_ hw 65 rfl) (by decide) (by decide)) qa184 qc184 (g := (mkF m 36 #[.val (.ref d)] [(.ref a101)])) rfl (by rw [hml]; rfl) (Steps.refl _) (argsL := []) (rest := []) (lenOf pd_582 rfl) rfl (by show 2 * 0 + _ ≤ _; exact Nat.le_of_eq rfl) (hb hby d30_36) (fun _ _ => ⟨rfl, rfl, (by decide : 10 + 2 ≤ _), (by decide : 252 + 41 ≤ _)⟩)
  dsimp only [Pt.U, Pt.locs, Pt.cells, Pt.slots] at X184 l184 y184 z184 st184 hQ184
  subst l184 y184 z184
  obtain ⟨x185, t186, k187, rfl, Nq184, p184_0, p184_1, p184_2, p184_3, p184_4, p184_5, p184_6, p184_7⟩ := hQ184
  have N184_ := Fr.app N175_ Nq184
  refine FinH.byS st184 ?_
  have ch188 : CHr Z consts_1 s.vm h0 T163.vm T184.heap := ch176.trans (CHr.keep p184_0 all0 ch176.1)
  have V189 : Arv Z T184.heap t186 k187 .byte (37 : Int32) (own_vs (own_D ++ own_N ++ own_U ++ own_N ++ own_E)) (.int 0) := by have q := p184_7; simp only [List.nil_append, ← own_va] at q; exact q
  have kp190 : Keep h0 h101 [] := (Keep.refl h0 []).ext E101
  have kp191 : Keep h0 T106.heap [] := kp190.trans p106_0 (allS (Or.inr (Nat.le_trans (Nat.le_refl _) (Nat.le_of_eq g101.symm))) all0)
  have kp192 : Keep h0 h110 [] := kp191.ext E110
  have kp193 : Keep h0 T121.heap [] := kp192.trans p121_0 (allS (Or.inr (Nat.le_trans (Nat.le_refl _) (Nat.le_of_eq g101.symm))) all0)
  have kp194 : Keep h0 T133.heap [] := kp193.trans p133_0 (allS (Or.inr (Nat.le_trans (Nat.le_refl _) (Nat.le_of_eq g101.symm))) (allS (Or.inr (Nat.le_trans (Nat.le_trans (Nat.le_trans E101.1 p106_0.1) E110.1) p121_1)) all0))
  have kp195 : Keep h0 h139 [] := kp194.ext E139
  have kp196 : Keep h0 T148.heap [] := kp195.trans p148_0 (allS (Or.inr (Nat.le_trans (Nat.le_refl _) (Nat.le_of_eq g101.symm))) (allS (Or.inr (Nat.le_trans (Nat.le_trans (Nat.le_trans E101.1 p106_0.1) E110.1) p121_1)) all0))
  have kp197 : Keep h0 T159.heap [] := kp196.trans p159_0 (allS (Or.inr (Nat.le_trans (Nat.le_refl _) (Nat.le_of_eq g101.symm))) all0)
  have kp198 : Keep h0 h163 [] := kp197.ext E163
  have kp199 : Keep h0 T175.heap [] := kp198.trans p175_0 (allS (Or.inr (Nat.le_trans (Nat.le_refl _) (Nat.le_of_eq g101.symm))) (allS (Or.inr (Nat.le_trans (Nat.le_trans (Nat.le_trans (Nat.le_trans (Nat.le_trans (Nat.le_trans (Nat.le_trans E101.1 p106_0.1) E110.1) p121_0.1) p133_0.1) E139.1) p148_0.1) p159_1)) all0))
  have kp200 : Keep h0 T184.heap [] := kp199.trans p184_0 all0
  show FinH _ _ _ _ _ _ _ _ _ (T184.setTop (mkF m 39 #[.val (.ref d)] [(.ref x185)]))
  exact FinH.ret (v := some (.ref x185)) X184 hS163 ((Nat.le_trans hk163 (Nat.le_trans p175_0.1 p184_0.1))) (fun h => by rw [Bd.returns] at h; cases h) Bd.notSynchronized (⟨x185, t186, k187, rfl, N184_, kp200, (Nat.le_trans (Nat.le_trans (Nat.le_trans (Nat.le_trans (Nat.le_trans (Nat.le_trans (Nat.le_trans (Nat.le_trans (Nat.le_trans (Nat.le_trans E101.1 p106_0.1) E110.1) p121_0.1) p133_0.1) E139.1) p148_0.1) p159_0.1) E163.1) p175_0.1) p184_1), (Nat.le_trans (Nat.le_trans (Nat.le_trans (Nat.le_trans (Nat.le_trans (Nat.le_trans (Nat.le_trans (Nat.le_trans (Nat.le_trans (Nat.le_trans E101.1 p106_0.1) E110.1) p121_0.1) p133_0.1) E139.1) p148_0.1) p159_0.1) E163.1) p175_0.1) p184_3), p184_4, p184_5, p184_6, V189⟩) (by rw [hh]; exact ch188.trans (CHv.at X184 hZ163 own_EW ch188.1)) (by decide) (by decide) (fun fs hr => retA X184 hx Bd.returns rfl rfl (hb hby d30_39) hr)
abbrev y_33 : MethodName := (⟨"java/lang/String", "equals", "(Ljava/lang/Object;)Z"⟩ : MethodName)
theorem pd_630 : parseMethodDescriptor "(I)Ljava/lang/String;" = some ⟨[.int], some (.object "java/lang/String")⟩ := by decide +kernel
theorem pd_631 : parseMethodDescriptor "(ZIZI)Ljava/lang/String;" = some ⟨[.boolean, .int, .boolean, .int], some (.object "java/lang/String")⟩ := by decide +kernel
theorem pd_632 : parseMethodDescriptor "(Ljava/lang/String;Ljava/lang/String;Ljava/lang/String;)V" = some ⟨[(.object "java/lang/String"), (.object "java/lang/String"), (.object "java/lang/String")], none⟩ := by decide +kernel
theorem pd_633 : parseMethodDescriptor "(Ljava/lang/Object;)Z" = some ⟨[(.object "java/lang/Object")], some .boolean⟩ := by decide +kernel
def Q_law (Z : State) (a : Int32) (b : Int32) (d : Int32) (fl : Int32) (G1 : Int32) (h0 : Heap) (n0 : Nat) (vv_ : Option Value) (hh_ : Heap) (LL_ : List Loc) : Prop := vv_ = some (.int (1 : Int32)) ∧ Fr n0 LL_
set_option maxRecDepth 65536 in
set_option maxHeartbeats 40000000 in
theorem rm_law (l : Launch) (Z : State) (a0 : Array Value) (hw : ∀ d ∈ tables_1, d.before a0 Z = true) (ws : List Jvm.Cond) (a : Int32) (b : Int32) (d : Int32) (fl : Int32) (G1 : Int32) (h0 : Heap) (n0 : Nat) (Z0 : n0 ≤ h0.size) (S1 : Sta Z Z.heap "java/lang/String" "COMPACT_STRINGS" "Z" (.int G1)) (P1 : ¬ G1 = 0) (OL : Old Z n0 h0) :
    MetFree l x (head1 (Jvm.Cond.code x code maxLocals ret :: ws) room_1) (fun aa_ U => aa_ = #[(.int a), (.int b), (.int d), (.int fl)] ∧ Z.Warmed39 U.vm ∧ U.heap = h0 ∧ CHv Z consts_1 U.vm h0) (fun _ _ _ _ _ => True) (fun _ U o U' => ∃ vv_ LL_, o = .returned vv_ ∧ Q_law Z a b d fl G1 h0 n0 vv_ U'.heap LL_ ∧ CHr Z consts_1 U.vm U.heap U'.vm U'.heap ∧ ReturnedEndW U o U' LL_ 56 3712) := by
  refine MetFree.of_bodySF (plainFor_of_name pn_com_example_ermine_ermine_server_DatabaseSettingsToStringPinLaw) hisR ?_
  intro p e s m args below meth c s₁ Bd hml0 hP hK
  obtain ⟨rfl, hZ, hh, hC0⟩ := hP
  have hx := Bd.exec
  have hby := Bd.bytes
  have hml : c.maxLocals = 13 := hml0
  have hown : s.vm.findClass "com/example/ermine/ermine/server/DatabaseSettingsToStringPinLaw" = some m.cls := findClass_of_methodNamed Bd.named
  have hnm := (name_of_methodNamed Bd.named Bd.method).1
  have X0 : Stand p l e room_1 (s.setVm s.vm) m #[(.int a), (.int b), (.int d), (.int fl)] below meth c s₁ [] 0 0 := Stand.of_body Bd
  have e0 : s₁.heap = h0 := by rw [← hh, Bd.state]; rfl
  have N0 := Fr.nil n0
  have ef : entryFrame m #[(.int a), (.int b), (.int d), (.int fl)] maxLocals = mkF m 0 #[.val (.int a), .val (.int b), .val (.int d), .val (.int fl), .unset, .unset, .unset, .unset, .unset, .unset, .unset, .unset, .unset] [] := by first | (simp [entryFrame, mkF, argsToLocals, Value.category, maxLocals]; done) | rfl
  have hS0 : s.Since s.vm h0.size := (State.WarmedH.refl s).since _
  have hk0 : h0.size ≤ h0.size := Nat.le_refl _
  have own_EW := own_EW0 hw
  have ch0 : CHr Z consts_1 s.vm h0 s.vm h0 := CHr.refl hC0
  refine FinH.start (Q := Q_law Z a b d fl G1 h0 n0) ef ?_
  refine FinH.by (fun tt_ kk_ => XS.iloadN X0.here hx rfl (hb hby at_0) rfl (XS.iconst X0.here hx rfl (hb hby at_1) (XS.iand X0.here hx rfl (hb hby at_2) rfl kk_))) ?_
  show FinH _ _ _ _ _ _ _ _ _ (s₁.setTop (mkF m 3 #[.val (.int a), .val (.int b), .val (.int d), .val (.int fl), .unset, .unset, .unset, .unset, .unset, .unset, .unset, .unset, .unset] [(.int (fl &&& 1))]))
  by_cases f0 : (fl &&& (1 : Int32)) = (0 : Int32)
  · refine FinH.by (fun tt_ kk_ => XS.ifYes X0.here hx rfl (pc0 := 3) (pc' := 10) rfl (hb hby at_3) rfl ((if0 _ _).trans (teq f0).1) (by decide) (by decide) kk_) ?_
    refine FinH.by (fun tt_ kk_ => XS.iconst X0.here hx rfl (hb hby at_10) (XS.istore X0.here hx rfl (hb hby at_11) rfl (l' := #[.val (.int a), .val (.int b), .val (.int d), .val (.int fl), .val (.int 0), .unset, .unset, .unset, .unset, .unset, .unset, .unset, .unset]) rfl (XS.iloadN X0.here hx rfl (hb hby at_13) rfl (XS.iconst X0.here hx rfl (hb hby at_14) (XS.iand X0.here hx rfl (hb hby at_15) rfl kk_))))) ?_
    show FinH _ _ _ _ _ _ _ _ _ (s₁.setTop (mkF m 16 #[.val (.int a), .val (.int b), .val (.int d), .val (.int fl), .val (.int 0), .unset, .unset, .unset, .unset, .unset, .unset, .unset, .unset] [(.int (fl &&& 2))]))
    by_cases f1 : (fl &&& (2 : Int32)) = (0 : Int32)
    · refine FinH.by (fun tt_ kk_ => XS.ifYes X0.here hx rfl (pc0 := 16) (pc' := 23) rfl (hb hby at_16) rfl ((if0 _ _).trans (teq f1).1) (by decide) (by decide) kk_) ?_
      refine FinH.by (fun tt_ kk_ => XS.iconst X0.here hx rfl (hb hby at_23) (XS.istore X0.here hx rfl (hb hby at_24) rfl (l' := #[.val (.int a), .val (.int b), .val (.int d), .val (.int fl), .val (.int 0), .val (.int 0), .unset, .unset, .unset, .unset, .unset, .unset, .unset]) rfl (XS.iloadN X0.here hx rfl (hb hby at_26) rfl (XS.iconst X0.here hx rfl (hb hby at_27) (XS.iand X0.here hx rfl (hb hby at_28) rfl kk_))))) ?_
      have Jp : ∀ (pf : Int32), FinH p e below Z consts_1 s (Q_law Z a b d fl G1 h0 n0) 56 3712 (s₁.setTop (mkF m 39 #[.val (.int a), .val (.int b), .val (.int d), .val (.int fl), .val (.int (0 : Int32)), .val (.int (0 : Int32)), .val (.int pf), .unset, .unset, .unset, .unset, .unset, .unset] [])) := by
        intro pf
        refine FinH.by (fun tt_ kk_ => XS.iload X0.here hx rfl (hb hby at_39) rfl kk_) ?_
        show FinH _ _ _ _ _ _ _ _ _ (s₁.setTop (mkF m 41 #[.val (.int a), .val (.int b), .val (.int d), .val (.int fl), .val (.int 0), .val (.int 0), .val (.int pf), .unset, .unset, .unset, .unset, .unset, .unset] [(.int 0)]))
        refine FinH.by (fun tt_ kk_ => XS.ifYes X0.here hx rfl (pc0 := 41) (pc' := 48) rfl (hb hby at_41) rfl ((if0 _ _).trans (teq (by decide : (0 : Int32) = (0 : Int32))).1) (by decide) (by decide) kk_) ?_
        refine FinH.by (fun tt_ kk_ => XS.iloadN X0.here hx rfl (hb hby at_48) rfl kk_) ?_
        obtain ⟨v101, _, ⟨T101, L101, k101, n101⟩, -, X101, ⟨Lc101, hQ101, l101, y101, z101⟩, st101⟩ := Jvm.LawKit.callS X0 hx (y := y_1) hown (mvT hZ (w_ hw 0 rfl)) (mvT hZ (w_ hw 1 rfl)) (mvT hZ (w_ hw 2 rfl)) (mvT hZ (w_ hw 3 rfl)) (by decide) (backOf (W := 0) (rm_four l Z a0 hw [] a G1 h0 n0 Z0 S1 P1 OL) hZ (w_ hw 3 rfl) (w_ hw 2 rfl) (by decide) (by decide)) (g := (mkF m 49 #[.val (.int a), .val (.int b), .val (.int d), .val (.int fl), .val (.int 0), .val (.int 0), .val (.int pf), .unset, .unset, .unset, .unset, .unset, .unset] [(.int a)])) rfl (by rw [hml]; rfl) (argsL := [(.int a)]) (rest := []) (lenOf pd_630 rfl) rfl (by show 2 * 0 + _ ≤ _; exact Nat.le_of_eq rfl) (hb hby at_49) (fun _ _ => ⟨rfl, e0, (by decide : 0 + 3 ≤ _), (by decide : 0 + 12 ≤ _)⟩)
        dsimp only [Pt.U, Pt.locs, Pt.cells, Pt.slots] at X101 l101 y101 z101 st101 hQ101
        subst l101 y101 z101
        obtain ⟨y102, t103, k104, rfl, Nq101, p101_0, p101_1, p101_2, p101_3, p101_4, p101_5, p101_6, p101_7⟩ := hQ101
        have N101_ := Fr.app N0 Nq101
        refine FinH.by (fun tt_ kk_ => st101 tt_ kk_) ?_
        have ch105 : CHr Z consts_1 s.vm h0 s.vm T101.heap := ch0.trans (CHr.keep p101_0 all0 ch0.1)
        refine FinH.by (fun tt_ kk_ => XS.astore X101.here hx rfl (hb hby at_52) rfl rfl (l' := #[.val (.int a), .val (.int b), .val (.int d), .val (.int fl), .val (.int 0), .val (.int 0), .val (.int pf), .val (.ref y102), .unset, .unset, .unset, .unset, .unset]) rfl (XS.iload X101.here hx rfl (hb hby at_54) rfl kk_)) ?_
        show FinH _ _ _ _ _ _ _ _ _ (T101.setTop (mkF m 56 #[.val (.int a), .val (.int b), .val (.int d), .val (.int fl), .val (.int 0), .val (.int 0), .val (.int pf), .val (.ref y102), .unset, .unset, .unset, .unset, .unset] [(.int 0)]))
        refine FinH.by (fun tt_ kk_ => XS.ifYes X101.here hx rfl (pc0 := 56) (pc' := 63) rfl (hb hby at_56) rfl ((if0 _ _).trans (teq (by decide : (0 : Int32) = (0 : Int32))).1) (by decide) (by decide) kk_) ?_
        refine FinH.by (fun tt_ kk_ => XS.iloadN X101.here hx rfl (hb hby at_63) rfl kk_) ?_
        have O106 : Old Z n0 T101.heap := (OL.keep p101_0 all0)
        have z107 : n0 ≤ T101.heap.size := Nat.le_trans Z0 p101_0.1
        obtain ⟨v108, _, ⟨T108, L108, k108, n108⟩, -, X108, ⟨Lc108, hQ108, l108, y108, z108⟩, st108⟩ := Jvm.LawKit.callS X101 hx (y := y_1) hown (mvT hZ (w_ hw 0 rfl)) (mvT hZ (w_ hw 1 rfl)) (mvT hZ (w_ hw 2 rfl)) (mvT hZ (w_ hw 3 rfl)) (by decide) (backOf (W := 0) (rm_four l Z a0 hw [] b G1 T101.heap n0 z107 S1 P1 O106) hZ (w_ hw 3 rfl) (w_ hw 2 rfl) (by decide) (by decide)) (g := (mkF m 64 #[.val (.int a), .val (.int b), .val (.int d), .val (.int fl), .val (.int 0), .val (.int 0), .val (.int pf), .val (.ref y102), .unset, .unset, .unset, .unset, .unset] [(.int b)])) rfl (by rw [hml]; rfl) (argsL := [(.int b)]) (rest := []) (lenOf pd_630 rfl) rfl (by show 2 * 0 + _ ≤ _; exact Nat.le_of_eq rfl) (hb hby at_64) (fun _ _ => ⟨rfl, rfl, (by decide : 3 + 3 ≤ _), (by decide : 12 + 12 ≤ _)⟩)
        dsimp only [Pt.U, Pt.locs, Pt.cells, Pt.slots] at X108 l108 y108 z108 st108 hQ108
        subst l108 y108 z108
        obtain ⟨y109, t110, k111, rfl, Nq108, p108_0, p108_1, p108_2, p108_3, p108_4, p108_5, p108_6, p108_7⟩ := hQ108
        have N108_ := Fr.app N101_ Nq108
        refine FinH.by (fun tt_ kk_ => st108 tt_ kk_) ?_
        have ch112 : CHr Z consts_1 s.vm h0 s.vm T108.heap := ch105.trans (CHr.keep p108_0 all0 ch105.1)
        refine FinH.by (fun tt_ kk_ => XS.astore X108.here hx rfl (hb hby at_67) rfl rfl (l' := #[.val (.int a), .val (.int b), .val (.int d), .val (.int fl), .val (.int 0), .val (.int 0), .val (.int pf), .val (.ref y102), .val (.ref y109), .unset, .unset, .unset, .unset]) rfl (XS.iload X108.here hx rfl (hb hby at_69) rfl kk_)) ?_
        have Jq : ∀ (T113 : State) (h114 : Heap) (lc115 : List Loc) (V120 : Vm) (k121 : Nat) (pv : Value), Stand p l e room_1 (s.setVm V120) m #[(.int a), (.int b), (.int d), (.int fl)] below meth c T113 lc115 9 36 → T113.heap = h114 → Fr n0 lc115 → Keep T108.heap h114 [] → s.Since V120 k121 → k121 ≤ h114.size → Z.Warmed39 (s.setVm V120).vm → (s.setVm V120).vm.findClass "com/example/ermine/ermine/server/DatabaseSettingsToStringPinLaw" = some m.cls → CHr Z consts_1 s.vm T108.heap V120 h114 → (pv.isRef = true) → FinH p e below Z consts_1 s (Q_law Z a b d fl G1 h0 n0) 56 3712 (T113.setTop (mkF m 84 #[.val (.int a), .val (.int b), .val (.int d), .val (.int fl), .val (.int (0 : Int32)), .val (.int (0 : Int32)), .val (.int pf), .val (.ref y102), .val (.ref y109), .val pv, .unset, .unset, .unset] [])) := by
          intro T113 h114 lc115 V120 k121 pv X116 e117 N118 K119 hS122 hk123 hZ124 hown125 hC126 hpv
          have ch127 : CHr Z consts_1 s.vm h0 V120 h114 := ch112.trans hC126
          refine FinH.by (fun tt_ kk_ => XS.iload X116.here hx rfl (hb hby at_84) rfl (XS.iloadN X116.here hx rfl (hb hby at_86) rfl (XS.iload X116.here hx rfl (hb hby at_87) rfl (XS.iloadN X116.here hx rfl (hb hby at_89) rfl kk_)))) ?_
          have O136 : Old Z n0 h114 := ((O106.keep p108_0 all0).keep K119 all0)
          have z137 : n0 ≤ h114.size := Nat.le_trans z107 (Nat.le_trans p108_0.1 K119.1)
          obtain ⟨v138, _, ⟨T138, L138, k138, n138⟩, -, X138, ⟨Lc138, hQ138, l138, y138, z138⟩, st138⟩ := Jvm.LawKit.callS X116 hx (y := y_3) hown125 (mvT hZ124 (w_ hw 34 rfl)) (mvT hZ124 (w_ hw 35 rfl)) (mvT hZ124 (w_ hw 2 rfl)) (mvT hZ124 (w_ hw 36 rfl)) (by decide) (backOf (W := 0) (rm_exp l Z a0 hw [] (0 : Int32) a (0 : Int32) b G1 h114 n0 z137 S1 P1 O136) hZ124 (w_ hw 36 rfl) (w_ hw 2 rfl) (by decide) (by decide)) (g := (mkF m 90 #[.val (.int a), .val (.int b), .val (.int d), .val (.int fl), .val (.int 0), .val (.int 0), .val (.int pf), .val (.ref y102), .val (.ref y109), .val pv, .unset, .unset, .unset] [(.int b), (.int 0), (.int a), (.int 0)])) rfl (by rw [hml]; rfl) (argsL := [(.int 0), (.int a), (.int 0), (.int b)]) (rest := []) (lenOf pd_631 rfl) rfl (by show 2 * 0 + _ ≤ _; exact Nat.le_of_eq rfl) (hb hby at_90) (fun _ _ => ⟨rfl, e117, (by decide : 9 + 3 ≤ _), (by decide : 36 + 78 ≤ _)⟩)
          dsimp only [Pt.U, Pt.locs, Pt.cells, Pt.slots] at X138 l138 y138 z138 st138 hQ138
          subst l138 y138 z138
          obtain ⟨y139, t140, k141, rfl, Nq138, p138_0, p138_1, p138_2, p138_3, p138_4, p138_5, p138_6, p138_7⟩ := hQ138
          have N138_ := Fr.app N118 Nq138
          refine FinH.by (fun tt_ kk_ => st138 tt_ kk_) ?_
          have ch142 : CHr Z consts_1 s.vm h0 V120 T138.heap := ch127.trans (CHr.keep p138_0 all0 ch127.1)
          refine FinH.by (fun tt_ kk_ => XS.astore X138.here hx rfl (hb hby at_93) rfl rfl (l' := #[.val (.int a), .val (.int b), .val (.int d), .val (.int fl), .val (.int 0), .val (.int 0), .val (.int pf), .val (.ref y102), .val (.ref y109), .val pv, .val (.ref y139), .unset, .unset]) rfl kk_) ?_
          obtain ⟨T143, h143, X143, e143, E143, A143, D143, -, st143⟩ := newO X138 hx hZ124 hown125 (w_ hw 40 rfl) (w_ hw 41 rfl) (w_ hw 42 rfl) rfl (g := (mkF m 95 #[.val (.int a), .val (.int b), .val (.int d), .val (.int fl), .val (.int 0), .val (.int 0), .val (.int pf), .val (.ref y102), .val (.ref y109), .val pv, .val (.ref y139), .unset, .unset] [])) rfl (hb hby at_95) (by decide) (by decide)
          obtain ⟨a143, g143⟩ : ∃ z, z = T138.heap.size := ⟨_, rfl⟩
          rw [← g143] at A143 D143 st143
          refine FinH.by (fun tt_ kk_ => st143 tt_ kk_) ?_
          have ch144 : CHr Z consts_1 s.vm h0 V120 h143 := ch142.trans (CHr.ext E143 ch142.1)
          refine FinH.by (fun tt_ kk_ => XS.dup X143.here hx rfl (hb hby at_98) rfl rfl (XS.aload X143.here hx rfl (hb hby at_99) rfl rfl (XS.aload X143.here hx rfl (hb hby at_101) rfl rfl (XS.aload X143.here hx rfl (hb hby at_103) rfl hpv kk_)))) ?_
          have z146 : n0 ≤ T138.heap.size := Nat.le_trans z137 p138_0.1
          have g145 : n0 ≤ a143 := Nat.le_trans z146 (Nat.le_of_eq g143.symm)
          have z147 : n0 ≤ h143.size := Nat.le_trans z137 (Nat.le_trans p138_0.1 E143.1)
          obtain ⟨v148, _, ⟨T148, L148, k148, n148⟩, -, X148, ⟨Lc148, hQ148, l148, y148, z148⟩, st148⟩ := X143.specialBack hx (y := y_5) rfl hown125 (mvT hZ124 (w_ hw 43 rfl)) (mvT hZ124 (w_ hw 44 rfl)) (mvT hZ124 (w_ hw 45 rfl)) (by decide) (backOf (W := 1) (rm_dsi l Z a0 hw [] a143 (Value.ref y102) (Value.ref y109) pv h143 n0 z147 A143 (D143 (Or.inr (w_ hw 53 rfl)) (ty := (.object "java/lang/String")) (by decide) : Fld Z h143 a143 "com/example/ermine/ermine/server/DatabaseSettings" "url" "Ljava/lang/String;" .null) (D143 (Or.inr (w_ hw 55 rfl)) (ty := (.object "java/lang/String")) (by decide) : Fld Z h143 a143 "com/example/ermine/ermine/server/DatabaseSettings" "user" "Ljava/lang/String;" .null) (D143 (Or.inr (w_ hw 57 rfl)) (ty := (.object "java/lang/String")) (by decide) : Fld Z h143 a143 "com/example/ermine/ermine/server/DatabaseSettings" "password" "Ljava/lang/String;" .null) rfl rfl hpv g145) hZ124 (w_ hw 45 rfl) (w_ hw 42 rfl) (by decide) (by decide)) (g := (mkF m 105 #[.val (.int a), .val (.int b), .val (.int d), .val (.int fl), .val (.int 0), .val (.int 0), .val (.int pf), .val (.ref y102), .val (.ref y109), .val pv, .val (.ref y139), .unset, .unset] [pv, (.ref y109), (.ref y102), (.ref a143), (.ref a143)])) rfl (by rw [hml]; rfl) (Steps.refl _) (a := a143) (argsL := [(.ref y102), (.ref y109), pv]) (rest := [(.ref a143)]) (lenOf pd_632 rfl) rfl (by show 2 * 0 + _ ≤ _; exact Nat.le_of_eq rfl) (hb hby at_105) (fun _ _ => ⟨rfl, e143, (by decide : 13 + 0 ≤ _), (by decide : 117 + 0 ≤ _)⟩)
          dsimp only [Pt.U, Pt.locs, Pt.cells, Pt.slots] at X148 l148 y148 z148 st148 hQ148
          subst l148 y148 z148
          obtain ⟨rfl, Nq148, p148_0, p148_1, p148_2, p148_3, p148_4⟩ := hQ148
          have N148_ := Fr.app N138_ Nq148
          refine FinH.byS st148 ?_
          have ch149 : CHr Z consts_1 s.vm h0 V120 T148.heap := ch144.trans (CHr.keep p148_0 (allS (Safe.exa hZ124.alike A143 (by decide) (by decide)) all0) ch144.1)
          refine FinH.by (fun tt_ kk_ => XS.astore X148.here hx rfl (hb hby at_108) rfl rfl (l' := #[.val (.int a), .val (.int b), .val (.int d), .val (.int fl), .val (.int 0), .val (.int 0), .val (.int pf), .val (.ref y102), .val (.ref y109), .val pv, .val (.ref y139), .val (.ref a143), .unset]) rfl (XS.aload X148.here hx rfl (hb hby at_110) rfl rfl kk_)) ?_
          have E150 : Exa Z T148.heap y102 "java/lang/String" := (((((p101_4.keep p108_0).keep K119).keep p138_0).ext E143).keep p148_0)
          have lt152 : y102 < T138.heap.size := Nat.lt_of_lt_of_le p101_4.lt (Nat.le_trans (Nat.le_trans p108_0.1 K119.1) p138_0.1)
          have ne151 : y102 ≠ a143 := Nat.ne_of_lt (Nat.lt_of_lt_of_le lt152 (Nat.le_of_eq g143.symm))
          have F153 : Fld Z T148.heap y102 "java/lang/String" "value" "[B" (.ref t103) := (((((p101_5.keep p108_0 nin0).keep K119 nin0).keep p138_0 nin0).ext E143).keep p148_0 (ninS ne151 nin0))
          have F154 : Fld Z T148.heap y102 "java/lang/String" "coder" "B" (.int (0 : Int32)) := (((((p101_6.keep p108_0 nin0).keep K119 nin0).keep p138_0 nin0).ext E143).keep p148_0 (ninS ne151 nin0))
          have lt156 : t103 < T138.heap.size := Nat.lt_of_lt_of_le p101_7.lt (Nat.le_trans (Nat.le_trans p108_0.1 K119.1) p138_0.1)
          have ne155 : t103 ≠ a143 := Nat.ne_of_lt (Nat.lt_of_lt_of_le lt156 (Nat.le_of_eq g143.symm))
          have A157 : Arv Z T148.heap t103 k104 .byte (4 : Int32) (own_vs (own_4 a)) (.int 0) := (((((p101_7.keep p108_0 nin0).keep K119 nin0).keep p138_0 nin0).ext E143).keep p148_0 (ninS ne155 nin0))
          have E158 : Exa Z T148.heap y109 "java/lang/String" := ((((p108_4.keep K119).keep p138_0).ext E143).keep p148_0)
          have lt160 : y109 < T138.heap.size := Nat.lt_of_lt_of_le p108_4.lt (Nat.le_trans K119.1 p138_0.1)
          have ne159 : y109 ≠ a143 := Nat.ne_of_lt (Nat.lt_of_lt_of_le lt160 (Nat.le_of_eq g143.symm))
          have F161 : Fld Z T148.heap y109 "java/lang/String" "value" "[B" (.ref t110) := ((((p108_5.keep K119 nin0).keep p138_0 nin0).ext E143).keep p148_0 (ninS ne159 nin0))
          have F162 : Fld Z T148.heap y109 "java/lang/String" "coder" "B" (.int (0 : Int32)) := ((((p108_6.keep K119 nin0).keep p138_0 nin0).ext E143).keep p148_0 (ninS ne159 nin0))
          have lt164 : t110 < T138.heap.size := Nat.lt_of_lt_of_le p108_7.lt (Nat.le_trans K119.1 p138_0.1)
          have ne163 : t110 ≠ a143 := Nat.ne_of_lt (Nat.lt_of_lt_of_le lt164 (Nat.le_of_eq g143.symm))
          have A165 : Arv Z T148.heap t110 k111 .byte (4 : Int32) (own_vs (own_4 b)) (.int 0) := ((((p108_7.keep K119 nin0).keep p138_0 nin0).ext E143).keep p148_0 (ninS ne163 nin0))
          have O166 : Old Z n0 T148.heap := (((O136.keep p138_0 all0).ext E143).keep p148_0 (allS g145 all0))
          have z167 : n0 ≤ T148.heap.size := Nat.le_trans z147 p148_0.1
          obtain ⟨cq168, kq168, qa168, qb168, qc168⟩ := isOf hZ124 rfl p148_1
          obtain ⟨v168, _, ⟨T168, L168, k168, n168⟩, -, X168, hS168, hg168, ⟨Lc168, hQ168, l168, y168, z168, hC168⟩, st168⟩ := X148.virtualBackS hx (y := y_31) (z := y_31) hown125 (mvT hZ124 (w_ hw 58 rfl)) (mvT hZ124 (w_ hw 59 rfl)) (notFace_of_selects (args := #[]) (mvT hZ124 (w_ hw 61 rfl))) (mvT hZ124 (w_ hw 61 rfl)) (mvT hZ124 (w_ hw 60 rfl)) (by decide) (backOfSH (W := 0) (rm_dts00 l Z a0 hw [] a143 y102 t103 k104 (own_4 a) y109 t110 k111 (own_4 b) G1 T148.heap n0 z167 p148_1 p148_2 E150 F153 F154 A157 rfl p148_3 E158 F161 F162 A165 rfl S1 P1 O166) hZ124 (w_ hw 62 rfl) (w_ hw 42 rfl) (by decide) (by decide) own_EW ch149.1) qa168 qc168 (g := (mkF m 112 #[.val (.int a), .val (.int b), .val (.int d), .val (.int fl), .val (.int 0), .val (.int 0), .val (.int pf), .val (.ref y102), .val (.ref y109), .val pv, .val (.ref y139), .val (.ref a143), .unset] [(.ref a143)])) rfl (by rw [hml]; rfl) (Steps.refl _) (argsL := []) (rest := []) (lenOf pd_582 rfl) rfl (by show 2 * 0 + _ ≤ _; exact Nat.le_of_eq rfl) (hb hby at_112) (fun _ _ => ⟨rfl, rfl, (by decide : 13 + 12 ≤ _), (by decide : 117 + 293 ≤ _)⟩)
          dsimp only [Pt.U, Pt.locs, Pt.cells, Pt.slots] at X168 l168 y168 z168 st168 hQ168 hS168 hg168 hC168
          subst l168 y168 z168
          obtain ⟨y169, t170, k171, rfl, Nq168, p168_0, p168_1, p168_2, p168_3, p168_4, p168_5, p168_6⟩ := hQ168
          have N168_ := Fr.app N148_ Nq168
          refine FinH.byS st168 ?_
          obtain ⟨X168w, hS168w, hZ168, hown168⟩ := rebS hS122 ((Nat.le_trans hk123 (Nat.le_trans (Nat.le_trans p138_0.1 E143.1) p148_0.1))) X168 hS168 hg168 hZ124 hown125
          have ch172 : CHr Z consts_1 s.vm h0 T168.vm T168.heap := ch149.trans hC168
          refine FinH.by (fun tt_ kk_ => XS.astore X168w.here hx rfl (hb hby at_115) rfl rfl (l' := #[.val (.int a), .val (.int b), .val (.int d), .val (.int fl), .val (.int 0), .val (.int 0), .val (.int pf), .val (.ref y102), .val (.ref y109), .val pv, .val (.ref y139), .val (.ref a143), .val (.ref y169)]) rfl (XS.aload X168w.here hx rfl (hb hby at_117) rfl rfl kk_)) ?_
          refine FinH.by (fun tt_ kk_ => XS.ifnullNo X168w.here hx rfl (hb hby at_119) rfl kk_) ?_
          refine FinH.by (fun tt_ kk_ => XS.aload X168w.here hx rfl (hb hby at_122) rfl rfl (XS.aload X168w.here hx rfl (hb hby at_124) rfl rfl kk_)) ?_
          have hpx : ∀ c ∈ (own_D ++ own_4 a ++ own_U ++ own_4 b ++ own_E), ¬ c < 0 ∧ ¬ (255 : Int32) < c := own_app (own_app (own_app (own_app own_kD (own_h4 a)) own_kU) (own_h4 b)) own_kE
          have hpw : ∀ c ∈ (own_D ++ own_p 0 a ++ own_U ++ own_p 0 b ++ own_E), ¬ c < 0 ∧ ¬ (255 : Int32) < c := own_app (own_app (own_app (own_app own_kD (own_hp _ _)) own_kU) (own_hp _ _)) own_kE
          have E173 : Exa Z T168.heap y139 "java/lang/String" := (((p138_4.ext E143).keep p148_0).keep p168_0)
          have ne174 : y139 ≠ a143 := Nat.ne_of_lt (Nat.lt_of_lt_of_le p138_4.lt (Nat.le_of_eq g143.symm))
          have F175 : Fld Z T168.heap y139 "java/lang/String" "value" "[B" (.ref t140) := (((p138_5.ext E143).keep p148_0 (ninS ne174 nin0)).keep p168_0 nin0)
          have F176 : Fld Z T168.heap y139 "java/lang/String" "coder" "B" (.int (0 : Int32)) := (((p138_6.ext E143).keep p148_0 (ninS ne174 nin0)).keep p168_0 nin0)
          have ne177 : t140 ≠ a143 := Nat.ne_of_lt (Nat.lt_of_lt_of_le p138_7.lt (Nat.le_of_eq g143.symm))
          have A178 : Arv Z T168.heap t140 k141 .byte (37 : Int32) (own_vs (own_D ++ own_p (0 : Int32) a ++ own_U ++ own_p (0 : Int32) b ++ own_E)) (.int 0) := (((p138_7.ext E143).keep p148_0 (ninS ne177 nin0)).keep p168_0 nin0)
          have O179 : Old Z n0 T168.heap := (O166.keep p168_0 all0)
          obtain ⟨cq180, kq180, qa180, qb180, qc180⟩ := isOf hZ168 rfl E173
          obtain ⟨v180, _, ⟨T180, L180, k180, n180⟩, -, X180, ⟨Lc180, hQ180, l180, y180, z180⟩, st180⟩ := X168w.virtualBack hx (y := y_33) (z := y_33) hown168 (mvT hZ168 (w_ hw 201 rfl)) (mvT hZ168 (w_ hw 202 rfl)) (notFace_of_selects (args := #[]) (mvT hZ168 (w_ hw 204 rfl))) (mvT hZ168 (w_ hw 204 rfl)) (mvT hZ168 (w_ hw 203 rfl)) (by decide) (StrChars.Road.eqW (W := 0) hZ168 (fun d hd => hw d (own_wordsEq d hd)) (kI := 4) (w_ hw 6 rfl) E173 F175 F176 A178 (StrChars.Road.codOf (cs := (own_D ++ own_p 0 a ++ own_U ++ own_p 0 b ++ own_E)) (n := 37) rfl (fun c hc => (hpw c hc).2)) (own_up hpw) (Nat.le_of_ble_eq_true rfl) p168_3 p168_4 p168_5 p168_6 (StrChars.Road.codOf (cs := (own_D ++ own_4 a ++ own_U ++ own_4 b ++ own_E)) (n := 37) rfl (fun c hc => (hpx c hc).2)) (own_up hpx) (Nat.le_of_ble_eq_true rfl) (S1.ext O179.2) P1 (by decide) (by decide)) qa180 qc180 (g := (mkF m 126 #[.val (.int a), .val (.int b), .val (.int d), .val (.int fl), .val (.int 0), .val (.int 0), .val (.int pf), .val (.ref y102), .val (.ref y109), .val pv, .val (.ref y139), .val (.ref a143), .val (.ref y169)] [(.ref y169), (.ref y139)])) rfl (by rw [hml]; rfl) (Steps.refl _) (argsL := [(.ref y169)]) (rest := []) (lenOf pd_633 rfl) rfl (by show 2 * 0 + _ ≤ _; exact Nat.le_of_eq rfl) (hb hby at_126) (fun _ _ => ⟨rfl, rfl, (by decide : 25 + 0 ≤ _), (by decide : 410 + 0 ≤ _)⟩)
          dsimp only [Pt.U, Pt.locs, Pt.cells, Pt.slots] at X180 l180 y180 z180 st180 hQ180
          subst l180 y180 z180
          obtain ⟨hv180, hL180, e180⟩ := hQ180
          subst hL180
          have N180_ := Fr.app N168_ (Fr.nil n0)
          obtain rfl : v180 = some (.int (1 : Int32)) := hv180.elim (fun q => q.1) (fun q => absurd (by simp only [own_p0]) q.2)
          refine FinH.byS st180 ?_
          show FinH _ _ _ _ _ _ _ _ _ (T180.setTop (mkF m 129 #[.val (.int a), .val (.int b), .val (.int d), .val (.int fl), .val (.int 0), .val (.int 0), .val (.int pf), .val (.ref y102), .val (.ref y109), .val pv, .val (.ref y139), .val (.ref a143), .val (.ref y169)] [(.int 1)]))
          refine FinH.by (fun tt_ kk_ => XS.ifNo X180.here hx rfl (hb hby at_129) rfl ((if0 _ _).trans (feq (by decide : ¬ (1 : Int32) = (0 : Int32))).1) kk_) ?_
          refine FinH.by (fun tt_ kk_ => XS.iconst X180.here hx rfl (hb hby at_132) (XS.goto X180.here hx rfl (pc0 := 133) (pc' := 137) rfl (hb hby at_133) (by decide) (by decide) kk_)) ?_
          show FinH _ _ _ _ _ _ _ _ _ (T180.setTop (mkF m 137 #[.val (.int a), .val (.int b), .val (.int d), .val (.int fl), .val (.int 0), .val (.int 0), .val (.int pf), .val (.ref y102), .val (.ref y109), .val pv, .val (.ref y139), .val (.ref a143), .val (.ref y169)] [(.int 1)]))
          exact FinH.ret (v := some (.int (nar .boolean (1 : Int32)))) X180 hS168w (by rw [e180]; exact (Nat.le_refl _)) (fun h => by rw [Bd.returns] at h; cases h) Bd.notSynchronized (by rw [e180]; exact ⟨rfl, N180_⟩) (by rw [hh, e180]; exact ch172.trans (CHv.at X180 hZ168 own_EW ch172.1)) (by decide) (by decide) (fun fs hr => retN X180 hx (t := .boolean) Bd.returns (by simp) (hb hby at_137) hr)
        show FinH _ _ _ _ _ _ _ _ _ (T108.setTop (mkF m 71 #[.val (.int a), .val (.int b), .val (.int d), .val (.int fl), .val (.int 0), .val (.int 0), .val (.int pf), .val (.ref y102), .val (.ref y109), .unset, .unset, .unset, .unset] [(.int pf)]))
        by_cases hpf : pf = (0 : Int32)
        · refine FinH.by (fun tt_ kk_ => XS.ifYes X108.here hx rfl (pc0 := 71) (pc' := 78) rfl (hb hby at_71) rfl ((if0 _ _).trans (teq hpf).1) (by decide) (by decide) kk_) ?_
          refine FinH.by (fun tt_ kk_ => XS.iloadN X108.here hx rfl (hb hby at_78) rfl kk_) ?_
          have O128 : Old Z n0 T108.heap := (O106.keep p108_0 all0)
          have z129 : n0 ≤ T108.heap.size := Nat.le_trans z107 p108_0.1
          obtain ⟨v130, _, ⟨T130, L130, k130, n130⟩, -, X130, ⟨Lc130, hQ130, l130, y130, z130⟩, st130⟩ := Jvm.LawKit.callS X108 hx (y := y_1) hown (mvT hZ (w_ hw 0 rfl)) (mvT hZ (w_ hw 1 rfl)) (mvT hZ (w_ hw 2 rfl)) (mvT hZ (w_ hw 3 rfl)) (by decide) (backOf (W := 0) (rm_four l Z a0 hw [] d G1 T108.heap n0 z129 S1 P1 O128) hZ (w_ hw 3 rfl) (w_ hw 2 rfl) (by decide) (by decide)) (g := (mkF m 79 #[.val (.int a), .val (.int b), .val (.int d), .val (.int fl), .val (.int 0), .val (.int 0), .val (.int pf), .val (.ref y102), .val (.ref y109), .unset, .unset, .unset, .unset] [(.int d)])) rfl (by rw [hml]; rfl) (argsL := [(.int d)]) (rest := []) (lenOf pd_630 rfl) rfl (by show 2 * 0 + _ ≤ _; exact Nat.le_of_eq rfl) (hb hby at_79) (fun _ _ => ⟨rfl, rfl, (by decide : 6 + 3 ≤ _), (by decide : 24 + 12 ≤ _)⟩)
          dsimp only [Pt.U, Pt.locs, Pt.cells, Pt.slots] at X130 l130 y130 z130 st130 hQ130
          subst l130 y130 z130
          obtain ⟨y131, t132, k133, rfl, Nq130, p130_0, p130_1, p130_2, p130_3, p130_4, p130_5, p130_6, p130_7⟩ := hQ130
          have N130_ := Fr.app N108_ Nq130
          refine FinH.by (fun tt_ kk_ => st130 tt_ kk_) ?_
          have ch134 : CHr Z consts_1 s.vm h0 s.vm T130.heap := ch112.trans (CHr.keep p130_0 all0 ch112.1)
          refine FinH.by (fun tt_ kk_ => XS.astore X130.here hx rfl (hb hby at_82) rfl rfl (l' := #[.val (.int a), .val (.int b), .val (.int d), .val (.int fl), .val (.int 0), .val (.int 0), .val (.int pf), .val (.ref y102), .val (.ref y109), .val (.ref y131), .unset, .unset, .unset]) rfl kk_) ?_
          show FinH _ _ _ _ _ _ _ _ _ (T130.setTop (mkF m 84 #[.val (.int a), .val (.int b), .val (.int d), .val (.int fl), .val (.int 0), .val (.int 0), .val (.int pf), .val (.ref y102), .val (.ref y109), .val (.ref y131), .unset, .unset, .unset] []))
          have kp135 : Keep T108.heap T130.heap [] := (Keep.refl T108.heap []).trans p130_0 all0
          exact Jq T130 T130.heap _ s.vm _ (.ref y131) X130 rfl N130_ kp135 hS0 (Nat.le_trans hk0 (Nat.le_trans (Nat.le_trans p101_0.1 p108_0.1) p130_0.1)) hZ hown (CHr.keep p130_0 all0 ch112.1) rfl
        · refine FinH.by (fun tt_ kk_ => XS.ifNo X108.here hx rfl (hb hby at_71) rfl ((if0 _ _).trans (feq hpf).1) kk_) ?_
          refine FinH.by (fun tt_ kk_ => XS.aconstNull X108.here hx rfl (hb hby at_74) (XS.goto X108.here hx rfl (pc0 := 75) (pc' := 82) rfl (hb hby at_75) (by decide) (by decide) (XS.astore X108.here hx rfl (hb hby at_82) rfl rfl (l' := #[.val (.int a), .val (.int b), .val (.int d), .val (.int fl), .val (.int 0), .val (.int 0), .val (.int pf), .val (.ref y102), .val (.ref y109), .val .null, .unset, .unset, .unset]) rfl kk_))) ?_
          show FinH _ _ _ _ _ _ _ _ _ (T108.setTop (mkF m 84 #[.val (.int a), .val (.int b), .val (.int d), .val (.int fl), .val (.int 0), .val (.int 0), .val (.int pf), .val (.ref y102), .val (.ref y109), .val .null, .unset, .unset, .unset] []))
          exact Jq T108 T108.heap _ s.vm _ .null (X108.more (by decide) (by decide)) rfl N108_ (Keep.refl T108.heap []) hS0 (Nat.le_trans hk0 (Nat.le_trans p101_0.1 p108_0.1)) hZ hown (CHr.refl ch112.1) rfl
      show FinH _ _ _ _ _ _ _ _ _ (s₁.setTop (mkF m 29 #[.val (.int a), .val (.int b), .val (.int d), .val (.int fl), .val (.int 0), .val (.int 0), .unset, .unset, .unset, .unset, .unset, .unset, .unset] [(.int (fl &&& 4))]))
      by_cases f2 : (fl &&& (4 : Int32)) = (0 : Int32)
      · refine FinH.by (fun tt_ kk_ => XS.ifYes X0.here hx rfl (pc0 := 29) (pc' := 36) rfl (hb hby at_29) rfl ((if0 _ _).trans (teq f2).1) (by decide) (by decide) kk_) ?_
        refine FinH.by (fun tt_ kk_ => XS.iconst X0.here hx rfl (hb hby at_36) (XS.istore X0.here hx rfl (hb hby at_37) rfl (l' := #[.val (.int a), .val (.int b), .val (.int d), .val (.int fl), .val (.int 0), .val (.int 0), .val (.int 0), .unset, .unset, .unset, .unset, .unset, .unset]) rfl kk_)) ?_
        show FinH _ _ _ _ _ _ _ _ _ (s₁.setTop (mkF m 39 #[.val (.int a), .val (.int b), .val (.int d), .val (.int fl), .val (.int 0), .val (.int 0), .val (.int 0), .unset, .unset, .unset, .unset, .unset, .unset] []))
        exact Jp (0 : Int32)
      · refine FinH.by (fun tt_ kk_ => XS.ifNo X0.here hx rfl (hb hby at_29) rfl ((if0 _ _).trans (feq f2).1) kk_) ?_
        refine FinH.by (fun tt_ kk_ => XS.iconst X0.here hx rfl (hb hby at_32) (XS.goto X0.here hx rfl (pc0 := 33) (pc' := 37) rfl (hb hby at_33) (by decide) (by decide) (XS.istore X0.here hx rfl (hb hby at_37) rfl (l' := #[.val (.int a), .val (.int b), .val (.int d), .val (.int fl), .val (.int 0), .val (.int 0), .val (.int 1), .unset, .unset, .unset, .unset, .unset, .unset]) rfl kk_))) ?_
        show FinH _ _ _ _ _ _ _ _ _ (s₁.setTop (mkF m 39 #[.val (.int a), .val (.int b), .val (.int d), .val (.int fl), .val (.int 0), .val (.int 0), .val (.int 1), .unset, .unset, .unset, .unset, .unset, .unset] []))
        exact Jp (1 : Int32)
    · refine FinH.by (fun tt_ kk_ => XS.ifNo X0.here hx rfl (hb hby at_16) rfl ((if0 _ _).trans (feq f1).1) kk_) ?_
      refine FinH.by (fun tt_ kk_ => XS.iconst X0.here hx rfl (hb hby at_19) (XS.goto X0.here hx rfl (pc0 := 20) (pc' := 24) rfl (hb hby at_20) (by decide) (by decide) (XS.istore X0.here hx rfl (hb hby at_24) rfl (l' := #[.val (.int a), .val (.int b), .val (.int d), .val (.int fl), .val (.int 0), .val (.int 1), .unset, .unset, .unset, .unset, .unset, .unset, .unset]) rfl (XS.iloadN X0.here hx rfl (hb hby at_26) rfl (XS.iconst X0.here hx rfl (hb hby at_27) (XS.iand X0.here hx rfl (hb hby at_28) rfl kk_)))))) ?_
      have Jp : ∀ (pf : Int32), FinH p e below Z consts_1 s (Q_law Z a b d fl G1 h0 n0) 56 3712 (s₁.setTop (mkF m 39 #[.val (.int a), .val (.int b), .val (.int d), .val (.int fl), .val (.int (0 : Int32)), .val (.int (1 : Int32)), .val (.int pf), .unset, .unset, .unset, .unset, .unset, .unset] [])) := by
        intro pf
        refine FinH.by (fun tt_ kk_ => XS.iload X0.here hx rfl (hb hby at_39) rfl kk_) ?_
        show FinH _ _ _ _ _ _ _ _ _ (s₁.setTop (mkF m 41 #[.val (.int a), .val (.int b), .val (.int d), .val (.int fl), .val (.int 0), .val (.int 1), .val (.int pf), .unset, .unset, .unset, .unset, .unset, .unset] [(.int 0)]))
        refine FinH.by (fun tt_ kk_ => XS.ifYes X0.here hx rfl (pc0 := 41) (pc' := 48) rfl (hb hby at_41) rfl ((if0 _ _).trans (teq (by decide : (0 : Int32) = (0 : Int32))).1) (by decide) (by decide) kk_) ?_
        refine FinH.by (fun tt_ kk_ => XS.iloadN X0.here hx rfl (hb hby at_48) rfl kk_) ?_
        obtain ⟨v181, _, ⟨T181, L181, k181, n181⟩, -, X181, ⟨Lc181, hQ181, l181, y181, z181⟩, st181⟩ := Jvm.LawKit.callS X0 hx (y := y_1) hown (mvT hZ (w_ hw 0 rfl)) (mvT hZ (w_ hw 1 rfl)) (mvT hZ (w_ hw 2 rfl)) (mvT hZ (w_ hw 3 rfl)) (by decide) (backOf (W := 0) (rm_four l Z a0 hw [] a G1 h0 n0 Z0 S1 P1 OL) hZ (w_ hw 3 rfl) (w_ hw 2 rfl) (by decide) (by decide)) (g := (mkF m 49 #[.val (.int a), .val (.int b), .val (.int d), .val (.int fl), .val (.int 0), .val (.int 1), .val (.int pf), .unset, .unset, .unset, .unset, .unset, .unset] [(.int a)])) rfl (by rw [hml]; rfl) (argsL := [(.int a)]) (rest := []) (lenOf pd_630 rfl) rfl (by show 2 * 0 + _ ≤ _; exact Nat.le_of_eq rfl) (hb hby at_49) (fun _ _ => ⟨rfl, e0, (by decide : 0 + 3 ≤ _), (by decide : 0 + 12 ≤ _)⟩)
        dsimp only [Pt.U, Pt.locs, Pt.cells, Pt.slots] at X181 l181 y181 z181 st181 hQ181
        subst l181 y181 z181
        obtain ⟨y182, t183, k184, rfl, Nq181, p181_0, p181_1, p181_2, p181_3, p181_4, p181_5, p181_6, p181_7⟩ := hQ181
        have N181_ := Fr.app N0 Nq181
        refine FinH.by (fun tt_ kk_ => st181 tt_ kk_) ?_
        have ch185 : CHr Z consts_1 s.vm h0 s.vm T181.heap := ch0.trans (CHr.keep p181_0 all0 ch0.1)
        refine FinH.by (fun tt_ kk_ => XS.astore X181.here hx rfl (hb hby at_52) rfl rfl (l' := #[.val (.int a), .val (.int b), .val (.int d), .val (.int fl), .val (.int 0), .val (.int 1), .val (.int pf), .val (.ref y182), .unset, .unset, .unset, .unset, .unset]) rfl (XS.iload X181.here hx rfl (hb hby at_54) rfl kk_)) ?_
        show FinH _ _ _ _ _ _ _ _ _ (T181.setTop (mkF m 56 #[.val (.int a), .val (.int b), .val (.int d), .val (.int fl), .val (.int 0), .val (.int 1), .val (.int pf), .val (.ref y182), .unset, .unset, .unset, .unset, .unset] [(.int 1)]))
        refine FinH.by (fun tt_ kk_ => XS.ifNo X181.here hx rfl (hb hby at_56) rfl ((if0 _ _).trans (feq (by decide : ¬ (1 : Int32) = (0 : Int32))).1) kk_) ?_
        refine FinH.by (fun tt_ kk_ => XS.aconstNull X181.here hx rfl (hb hby at_59) (XS.goto X181.here hx rfl (pc0 := 60) (pc' := 67) rfl (hb hby at_60) (by decide) (by decide) (XS.astore X181.here hx rfl (hb hby at_67) rfl rfl (l' := #[.val (.int a), .val (.int b), .val (.int d), .val (.int fl), .val (.int 0), .val (.int 1), .val (.int pf), .val (.ref y182), .val .null, .unset, .unset, .unset, .unset]) rfl (XS.iload X181.here hx rfl (hb hby at_69) rfl kk_)))) ?_
        have Jq : ∀ (T186 : State) (h187 : Heap) (lc188 : List Loc) (V193 : Vm) (k194 : Nat) (pv : Value), Stand p l e room_1 (s.setVm V193) m #[(.int a), (.int b), (.int d), (.int fl)] below meth c T186 lc188 6 24 → T186.heap = h187 → Fr n0 lc188 → Keep T181.heap h187 [] → s.Since V193 k194 → k194 ≤ h187.size → Z.Warmed39 (s.setVm V193).vm → (s.setVm V193).vm.findClass "com/example/ermine/ermine/server/DatabaseSettingsToStringPinLaw" = some m.cls → CHr Z consts_1 s.vm T181.heap V193 h187 → (pv.isRef = true) → FinH p e below Z consts_1 s (Q_law Z a b d fl G1 h0 n0) 56 3712 (T186.setTop (mkF m 84 #[.val (.int a), .val (.int b), .val (.int d), .val (.int fl), .val (.int (0 : Int32)), .val (.int (1 : Int32)), .val (.int pf), .val (.ref y182), .val .null, .val pv, .unset, .unset, .unset] [])) := by
          intro T186 h187 lc188 V193 k194 pv X189 e190 N191 K192 hS195 hk196 hZ197 hown198 hC199 hpv
          have ch200 : CHr Z consts_1 s.vm h0 V193 h187 := ch185.trans hC199
          refine FinH.by (fun tt_ kk_ => XS.iload X189.here hx rfl (hb hby at_84) rfl (XS.iloadN X189.here hx rfl (hb hby at_86) rfl (XS.iload X189.here hx rfl (hb hby at_87) rfl (XS.iloadN X189.here hx rfl (hb hby at_89) rfl kk_)))) ?_
          have O209 : Old Z n0 h187 := ((OL.keep p181_0 all0).keep K192 all0)
          have z210 : n0 ≤ h187.size := Nat.le_trans Z0 (Nat.le_trans p181_0.1 K192.1)
          obtain ⟨v211, _, ⟨T211, L211, k211, n211⟩, -, X211, ⟨Lc211, hQ211, l211, y211, z211⟩, st211⟩ := Jvm.LawKit.callS X189 hx (y := y_3) hown198 (mvT hZ197 (w_ hw 34 rfl)) (mvT hZ197 (w_ hw 35 rfl)) (mvT hZ197 (w_ hw 2 rfl)) (mvT hZ197 (w_ hw 36 rfl)) (by decide) (backOf (W := 0) (rm_exp l Z a0 hw [] (0 : Int32) a (1 : Int32) b G1 h187 n0 z210 S1 P1 O209) hZ197 (w_ hw 36 rfl) (w_ hw 2 rfl) (by decide) (by decide)) (g := (mkF m 90 #[.val (.int a), .val (.int b), .val (.int d), .val (.int fl), .val (.int 0), .val (.int 1), .val (.int pf), .val (.ref y182), .val .null, .val pv, .unset, .unset, .unset] [(.int b), (.int 1), (.int a), (.int 0)])) rfl (by rw [hml]; rfl) (argsL := [(.int 0), (.int a), (.int 1), (.int b)]) (rest := []) (lenOf pd_631 rfl) rfl (by show 2 * 0 + _ ≤ _; exact Nat.le_of_eq rfl) (hb hby at_90) (fun _ _ => ⟨rfl, e190, (by decide : 6 + 3 ≤ _), (by decide : 24 + 78 ≤ _)⟩)
          dsimp only [Pt.U, Pt.locs, Pt.cells, Pt.slots] at X211 l211 y211 z211 st211 hQ211
          subst l211 y211 z211
          obtain ⟨y212, t213, k214, rfl, Nq211, p211_0, p211_1, p211_2, p211_3, p211_4, p211_5, p211_6, p211_7⟩ := hQ211
          have N211_ := Fr.app N191 Nq211
          refine FinH.by (fun tt_ kk_ => st211 tt_ kk_) ?_
          have ch215 : CHr Z consts_1 s.vm h0 V193 T211.heap := ch200.trans (CHr.keep p211_0 all0 ch200.1)
          refine FinH.by (fun tt_ kk_ => XS.astore X211.here hx rfl (hb hby at_93) rfl rfl (l' := #[.val (.int a), .val (.int b), .val (.int d), .val (.int fl), .val (.int 0), .val (.int 1), .val (.int pf), .val (.ref y182), .val .null, .val pv, .val (.ref y212), .unset, .unset]) rfl kk_) ?_
          obtain ⟨T216, h216, X216, e216, E216, A216, D216, -, st216⟩ := newO X211 hx hZ197 hown198 (w_ hw 40 rfl) (w_ hw 41 rfl) (w_ hw 42 rfl) rfl (g := (mkF m 95 #[.val (.int a), .val (.int b), .val (.int d), .val (.int fl), .val (.int 0), .val (.int 1), .val (.int pf), .val (.ref y182), .val .null, .val pv, .val (.ref y212), .unset, .unset] [])) rfl (hb hby at_95) (by decide) (by decide)
          obtain ⟨a216, g216⟩ : ∃ z, z = T211.heap.size := ⟨_, rfl⟩
          rw [← g216] at A216 D216 st216
          refine FinH.by (fun tt_ kk_ => st216 tt_ kk_) ?_
          have ch217 : CHr Z consts_1 s.vm h0 V193 h216 := ch215.trans (CHr.ext E216 ch215.1)
          refine FinH.by (fun tt_ kk_ => XS.dup X216.here hx rfl (hb hby at_98) rfl rfl (XS.aload X216.here hx rfl (hb hby at_99) rfl rfl (XS.aload X216.here hx rfl (hb hby at_101) rfl rfl (XS.aload X216.here hx rfl (hb hby at_103) rfl hpv kk_)))) ?_
          have z219 : n0 ≤ T211.heap.size := Nat.le_trans z210 p211_0.1
          have g218 : n0 ≤ a216 := Nat.le_trans z219 (Nat.le_of_eq g216.symm)
          have z220 : n0 ≤ h216.size := Nat.le_trans z210 (Nat.le_trans p211_0.1 E216.1)
          obtain ⟨v221, _, ⟨T221, L221, k221, n221⟩, -, X221, ⟨Lc221, hQ221, l221, y221, z221⟩, st221⟩ := X216.specialBack hx (y := y_5) rfl hown198 (mvT hZ197 (w_ hw 43 rfl)) (mvT hZ197 (w_ hw 44 rfl)) (mvT hZ197 (w_ hw 45 rfl)) (by decide) (backOf (W := 1) (rm_dsi l Z a0 hw [] a216 (Value.ref y182) Value.null pv h216 n0 z220 A216 (D216 (Or.inr (w_ hw 53 rfl)) (ty := (.object "java/lang/String")) (by decide) : Fld Z h216 a216 "com/example/ermine/ermine/server/DatabaseSettings" "url" "Ljava/lang/String;" .null) (D216 (Or.inr (w_ hw 55 rfl)) (ty := (.object "java/lang/String")) (by decide) : Fld Z h216 a216 "com/example/ermine/ermine/server/DatabaseSettings" "user" "Ljava/lang/String;" .null) (D216 (Or.inr (w_ hw 57 rfl)) (ty := (.object "java/lang/String")) (by decide) : Fld Z h216 a216 "com/example/ermine/ermine/server/DatabaseSettings" "password" "Ljava/lang/String;" .null) rfl rfl hpv g218) hZ197 (w_ hw 45 rfl) (w_ hw 42 rfl) (by decide) (by decide)) (g := (mkF m 105 #[.val (.int a), .val (.int b), .val (.int d), .val (.int fl), .val (.int 0), .val (.int 1), .val (.int pf), .val (.ref y182), .val .null, .val pv, .val (.ref y212), .unset, .unset] [pv, .null, (.ref y182), (.ref a216), (.ref a216)])) rfl (by rw [hml]; rfl) (Steps.refl _) (a := a216) (argsL := [(.ref y182), .null, pv]) (rest := [(.ref a216)]) (lenOf pd_632 rfl) rfl (by show 2 * 0 + _ ≤ _; exact Nat.le_of_eq rfl) (hb hby at_105) (fun _ _ => ⟨rfl, e216, (by decide : 10 + 0 ≤ _), (by decide : 105 + 0 ≤ _)⟩)
          dsimp only [Pt.U, Pt.locs, Pt.cells, Pt.slots] at X221 l221 y221 z221 st221 hQ221
          subst l221 y221 z221
          obtain ⟨rfl, Nq221, p221_0, p221_1, p221_2, p221_3, p221_4⟩ := hQ221
          have N221_ := Fr.app N211_ Nq221
          refine FinH.byS st221 ?_
          have ch222 : CHr Z consts_1 s.vm h0 V193 T221.heap := ch217.trans (CHr.keep p221_0 (allS (Safe.exa hZ197.alike A216 (by decide) (by decide)) all0) ch217.1)
          refine FinH.by (fun tt_ kk_ => XS.astore X221.here hx rfl (hb hby at_108) rfl rfl (l' := #[.val (.int a), .val (.int b), .val (.int d), .val (.int fl), .val (.int 0), .val (.int 1), .val (.int pf), .val (.ref y182), .val .null, .val pv, .val (.ref y212), .val (.ref a216), .unset]) rfl (XS.aload X221.here hx rfl (hb hby at_110) rfl rfl kk_)) ?_
          have E223 : Exa Z T221.heap y182 "java/lang/String" := ((((p181_4.keep K192).keep p211_0).ext E216).keep p221_0)
          have lt225 : y182 < T211.heap.size := Nat.lt_of_lt_of_le p181_4.lt (Nat.le_trans K192.1 p211_0.1)
          have ne224 : y182 ≠ a216 := Nat.ne_of_lt (Nat.lt_of_lt_of_le lt225 (Nat.le_of_eq g216.symm))
          have F226 : Fld Z T221.heap y182 "java/lang/String" "value" "[B" (.ref t183) := ((((p181_5.keep K192 nin0).keep p211_0 nin0).ext E216).keep p221_0 (ninS ne224 nin0))
          have F227 : Fld Z T221.heap y182 "java/lang/String" "coder" "B" (.int (0 : Int32)) := ((((p181_6.keep K192 nin0).keep p211_0 nin0).ext E216).keep p221_0 (ninS ne224 nin0))
          have lt229 : t183 < T211.heap.size := Nat.lt_of_lt_of_le p181_7.lt (Nat.le_trans K192.1 p211_0.1)
          have ne228 : t183 ≠ a216 := Nat.ne_of_lt (Nat.lt_of_lt_of_le lt229 (Nat.le_of_eq g216.symm))
          have A230 : Arv Z T221.heap t183 k184 .byte (4 : Int32) (own_vs (own_4 a)) (.int 0) := ((((p181_7.keep K192 nin0).keep p211_0 nin0).ext E216).keep p221_0 (ninS ne228 nin0))
          have O231 : Old Z n0 T221.heap := (((O209.keep p211_0 all0).ext E216).keep p221_0 (allS g218 all0))
          have z232 : n0 ≤ T221.heap.size := Nat.le_trans z220 p221_0.1
          obtain ⟨cq233, kq233, qa233, qb233, qc233⟩ := isOf hZ197 rfl p221_1
          obtain ⟨v233, _, ⟨T233, L233, k233, n233⟩, -, X233, hS233, hg233, ⟨Lc233, hQ233, l233, y233, z233, hC233⟩, st233⟩ := X221.virtualBackS hx (y := y_31) (z := y_31) hown198 (mvT hZ197 (w_ hw 58 rfl)) (mvT hZ197 (w_ hw 59 rfl)) (notFace_of_selects (args := #[]) (mvT hZ197 (w_ hw 61 rfl))) (mvT hZ197 (w_ hw 61 rfl)) (mvT hZ197 (w_ hw 60 rfl)) (by decide) (backOfSH (W := 0) (rm_dts01 l Z a0 hw [] a216 y182 t183 k184 (own_4 a) G1 T221.heap n0 z232 p221_1 p221_2 E223 F226 F227 A230 rfl p221_3 S1 P1 O231) hZ197 (w_ hw 62 rfl) (w_ hw 42 rfl) (by decide) (by decide) own_EW ch222.1) qa233 qc233 (g := (mkF m 112 #[.val (.int a), .val (.int b), .val (.int d), .val (.int fl), .val (.int 0), .val (.int 1), .val (.int pf), .val (.ref y182), .val .null, .val pv, .val (.ref y212), .val (.ref a216), .unset] [(.ref a216)])) rfl (by rw [hml]; rfl) (Steps.refl _) (argsL := []) (rest := []) (lenOf pd_582 rfl) rfl (by show 2 * 0 + _ ≤ _; exact Nat.le_of_eq rfl) (hb hby at_112) (fun _ _ => ⟨rfl, rfl, (by decide : 10 + 12 ≤ _), (by decide : 105 + 293 ≤ _)⟩)
          dsimp only [Pt.U, Pt.locs, Pt.cells, Pt.slots] at X233 l233 y233 z233 st233 hQ233 hS233 hg233 hC233
          subst l233 y233 z233
          obtain ⟨y234, t235, k236, rfl, Nq233, p233_0, p233_1, p233_2, p233_3, p233_4, p233_5, p233_6⟩ := hQ233
          have N233_ := Fr.app N221_ Nq233
          refine FinH.byS st233 ?_
          obtain ⟨X233w, hS233w, hZ233, hown233⟩ := rebS hS195 ((Nat.le_trans hk196 (Nat.le_trans (Nat.le_trans p211_0.1 E216.1) p221_0.1))) X233 hS233 hg233 hZ197 hown198
          have ch237 : CHr Z consts_1 s.vm h0 T233.vm T233.heap := ch222.trans hC233
          refine FinH.by (fun tt_ kk_ => XS.astore X233w.here hx rfl (hb hby at_115) rfl rfl (l' := #[.val (.int a), .val (.int b), .val (.int d), .val (.int fl), .val (.int 0), .val (.int 1), .val (.int pf), .val (.ref y182), .val .null, .val pv, .val (.ref y212), .val (.ref a216), .val (.ref y234)]) rfl (XS.aload X233w.here hx rfl (hb hby at_117) rfl rfl kk_)) ?_
          refine FinH.by (fun tt_ kk_ => XS.ifnullNo X233w.here hx rfl (hb hby at_119) rfl kk_) ?_
          refine FinH.by (fun tt_ kk_ => XS.aload X233w.here hx rfl (hb hby at_122) rfl rfl (XS.aload X233w.here hx rfl (hb hby at_124) rfl rfl kk_)) ?_
          have hpx : ∀ c ∈ (own_D ++ own_4 a ++ own_U ++ own_N ++ own_E), ¬ c < 0 ∧ ¬ (255 : Int32) < c := own_app (own_app (own_app (own_app own_kD (own_h4 a)) own_kU) own_hN) own_kE
          have hpw : ∀ c ∈ (own_D ++ own_p 0 a ++ own_U ++ own_p 1 b ++ own_E), ¬ c < 0 ∧ ¬ (255 : Int32) < c := own_app (own_app (own_app (own_app own_kD (own_hp _ _)) own_kU) (own_hp _ _)) own_kE
          have E238 : Exa Z T233.heap y212 "java/lang/String" := (((p211_4.ext E216).keep p221_0).keep p233_0)
          have ne239 : y212 ≠ a216 := Nat.ne_of_lt (Nat.lt_of_lt_of_le p211_4.lt (Nat.le_of_eq g216.symm))
          have F240 : Fld Z T233.heap y212 "java/lang/String" "value" "[B" (.ref t213) := (((p211_5.ext E216).keep p221_0 (ninS ne239 nin0)).keep p233_0 nin0)
          have F241 : Fld Z T233.heap y212 "java/lang/String" "coder" "B" (.int (0 : Int32)) := (((p211_6.ext E216).keep p221_0 (ninS ne239 nin0)).keep p233_0 nin0)
          have ne242 : t213 ≠ a216 := Nat.ne_of_lt (Nat.lt_of_lt_of_le p211_7.lt (Nat.le_of_eq g216.symm))
          have A243 : Arv Z T233.heap t213 k214 .byte (37 : Int32) (own_vs (own_D ++ own_p (0 : Int32) a ++ own_U ++ own_p (1 : Int32) b ++ own_E)) (.int 0) := (((p211_7.ext E216).keep p221_0 (ninS ne242 nin0)).keep p233_0 nin0)
          have O244 : Old Z n0 T233.heap := (O231.keep p233_0 all0)
          obtain ⟨cq245, kq245, qa245, qb245, qc245⟩ := isOf hZ233 rfl E238
          obtain ⟨v245, _, ⟨T245, L245, k245, n245⟩, -, X245, ⟨Lc245, hQ245, l245, y245, z245⟩, st245⟩ := X233w.virtualBack hx (y := y_33) (z := y_33) hown233 (mvT hZ233 (w_ hw 201 rfl)) (mvT hZ233 (w_ hw 202 rfl)) (notFace_of_selects (args := #[]) (mvT hZ233 (w_ hw 204 rfl))) (mvT hZ233 (w_ hw 204 rfl)) (mvT hZ233 (w_ hw 203 rfl)) (by decide) (StrChars.Road.eqW (W := 0) hZ233 (fun d hd => hw d (own_wordsEq d hd)) (kI := 4) (w_ hw 6 rfl) E238 F240 F241 A243 (StrChars.Road.codOf (cs := (own_D ++ own_p 0 a ++ own_U ++ own_p 1 b ++ own_E)) (n := 37) rfl (fun c hc => (hpw c hc).2)) (own_up hpw) (Nat.le_of_ble_eq_true rfl) p233_3 p233_4 p233_5 p233_6 (StrChars.Road.codOf (cs := (own_D ++ own_4 a ++ own_U ++ own_N ++ own_E)) (n := 37) rfl (fun c hc => (hpx c hc).2)) (own_up hpx) (Nat.le_of_ble_eq_true rfl) (S1.ext O244.2) P1 (by decide) (by decide)) qa245 qc245 (g := (mkF m 126 #[.val (.int a), .val (.int b), .val (.int d), .val (.int fl), .val (.int 0), .val (.int 1), .val (.int pf), .val (.ref y182), .val .null, .val pv, .val (.ref y212), .val (.ref a216), .val (.ref y234)] [(.ref y234), (.ref y212)])) rfl (by rw [hml]; rfl) (Steps.refl _) (argsL := [(.ref y234)]) (rest := []) (lenOf pd_633 rfl) rfl (by show 2 * 0 + _ ≤ _; exact Nat.le_of_eq rfl) (hb hby at_126) (fun _ _ => ⟨rfl, rfl, (by decide : 22 + 0 ≤ _), (by decide : 398 + 0 ≤ _)⟩)
          dsimp only [Pt.U, Pt.locs, Pt.cells, Pt.slots] at X245 l245 y245 z245 st245 hQ245
          subst l245 y245 z245
          obtain ⟨hv245, hL245, e245⟩ := hQ245
          subst hL245
          have N245_ := Fr.app N233_ (Fr.nil n0)
          obtain rfl : v245 = some (.int (1 : Int32)) := hv245.elim (fun q => q.1) (fun q => absurd (by rw [own_p0, own_p1]) q.2)
          refine FinH.byS st245 ?_
          show FinH _ _ _ _ _ _ _ _ _ (T245.setTop (mkF m 129 #[.val (.int a), .val (.int b), .val (.int d), .val (.int fl), .val (.int 0), .val (.int 1), .val (.int pf), .val (.ref y182), .val .null, .val pv, .val (.ref y212), .val (.ref a216), .val (.ref y234)] [(.int 1)]))
          refine FinH.by (fun tt_ kk_ => XS.ifNo X245.here hx rfl (hb hby at_129) rfl ((if0 _ _).trans (feq (by decide : ¬ (1 : Int32) = (0 : Int32))).1) kk_) ?_
          refine FinH.by (fun tt_ kk_ => XS.iconst X245.here hx rfl (hb hby at_132) (XS.goto X245.here hx rfl (pc0 := 133) (pc' := 137) rfl (hb hby at_133) (by decide) (by decide) kk_)) ?_
          show FinH _ _ _ _ _ _ _ _ _ (T245.setTop (mkF m 137 #[.val (.int a), .val (.int b), .val (.int d), .val (.int fl), .val (.int 0), .val (.int 1), .val (.int pf), .val (.ref y182), .val .null, .val pv, .val (.ref y212), .val (.ref a216), .val (.ref y234)] [(.int 1)]))
          exact FinH.ret (v := some (.int (nar .boolean (1 : Int32)))) X245 hS233w (by rw [e245]; exact (Nat.le_refl _)) (fun h => by rw [Bd.returns] at h; cases h) Bd.notSynchronized (by rw [e245]; exact ⟨rfl, N245_⟩) (by rw [hh, e245]; exact ch237.trans (CHv.at X245 hZ233 own_EW ch237.1)) (by decide) (by decide) (fun fs hr => retN X245 hx (t := .boolean) Bd.returns (by simp) (hb hby at_137) hr)
        show FinH _ _ _ _ _ _ _ _ _ (T181.setTop (mkF m 71 #[.val (.int a), .val (.int b), .val (.int d), .val (.int fl), .val (.int 0), .val (.int 1), .val (.int pf), .val (.ref y182), .val .null, .unset, .unset, .unset, .unset] [(.int pf)]))
        by_cases hpf : pf = (0 : Int32)
        · refine FinH.by (fun tt_ kk_ => XS.ifYes X181.here hx rfl (pc0 := 71) (pc' := 78) rfl (hb hby at_71) rfl ((if0 _ _).trans (teq hpf).1) (by decide) (by decide) kk_) ?_
          refine FinH.by (fun tt_ kk_ => XS.iloadN X181.here hx rfl (hb hby at_78) rfl kk_) ?_
          have O201 : Old Z n0 T181.heap := (OL.keep p181_0 all0)
          have z202 : n0 ≤ T181.heap.size := Nat.le_trans Z0 p181_0.1
          obtain ⟨v203, _, ⟨T203, L203, k203, n203⟩, -, X203, ⟨Lc203, hQ203, l203, y203, z203⟩, st203⟩ := Jvm.LawKit.callS X181 hx (y := y_1) hown (mvT hZ (w_ hw 0 rfl)) (mvT hZ (w_ hw 1 rfl)) (mvT hZ (w_ hw 2 rfl)) (mvT hZ (w_ hw 3 rfl)) (by decide) (backOf (W := 0) (rm_four l Z a0 hw [] d G1 T181.heap n0 z202 S1 P1 O201) hZ (w_ hw 3 rfl) (w_ hw 2 rfl) (by decide) (by decide)) (g := (mkF m 79 #[.val (.int a), .val (.int b), .val (.int d), .val (.int fl), .val (.int 0), .val (.int 1), .val (.int pf), .val (.ref y182), .val .null, .unset, .unset, .unset, .unset] [(.int d)])) rfl (by rw [hml]; rfl) (argsL := [(.int d)]) (rest := []) (lenOf pd_630 rfl) rfl (by show 2 * 0 + _ ≤ _; exact Nat.le_of_eq rfl) (hb hby at_79) (fun _ _ => ⟨rfl, rfl, (by decide : 3 + 3 ≤ _), (by decide : 12 + 12 ≤ _)⟩)
          dsimp only [Pt.U, Pt.locs, Pt.cells, Pt.slots] at X203 l203 y203 z203 st203 hQ203
          subst l203 y203 z203
          obtain ⟨y204, t205, k206, rfl, Nq203, p203_0, p203_1, p203_2, p203_3, p203_4, p203_5, p203_6, p203_7⟩ := hQ203
          have N203_ := Fr.app N181_ Nq203
          refine FinH.by (fun tt_ kk_ => st203 tt_ kk_) ?_
          have ch207 : CHr Z consts_1 s.vm h0 s.vm T203.heap := ch185.trans (CHr.keep p203_0 all0 ch185.1)
          refine FinH.by (fun tt_ kk_ => XS.astore X203.here hx rfl (hb hby at_82) rfl rfl (l' := #[.val (.int a), .val (.int b), .val (.int d), .val (.int fl), .val (.int 0), .val (.int 1), .val (.int pf), .val (.ref y182), .val .null, .val (.ref y204), .unset, .unset, .unset]) rfl kk_) ?_
          show FinH _ _ _ _ _ _ _ _ _ (T203.setTop (mkF m 84 #[.val (.int a), .val (.int b), .val (.int d), .val (.int fl), .val (.int 0), .val (.int 1), .val (.int pf), .val (.ref y182), .val .null, .val (.ref y204), .unset, .unset, .unset] []))
          have kp208 : Keep T181.heap T203.heap [] := (Keep.refl T181.heap []).trans p203_0 all0
          exact Jq T203 T203.heap _ s.vm _ (.ref y204) X203 rfl N203_ kp208 hS0 (Nat.le_trans hk0 (Nat.le_trans p181_0.1 p203_0.1)) hZ hown (CHr.keep p203_0 all0 ch185.1) rfl
        · refine FinH.by (fun tt_ kk_ => XS.ifNo X181.here hx rfl (hb hby at_71) rfl ((if0 _ _).trans (feq hpf).1) kk_) ?_
          refine FinH.by (fun tt_ kk_ => XS.aconstNull X181.here hx rfl (hb hby at_74) (XS.goto X181.here hx rfl (pc0 := 75) (pc' := 82) rfl (hb hby at_75) (by decide) (by decide) (XS.astore X181.here hx rfl (hb hby at_82) rfl rfl (l' := #[.val (.int a), .val (.int b), .val (.int d), .val (.int fl), .val (.int 0), .val (.int 1), .val (.int pf), .val (.ref y182), .val .null, .val .null, .unset, .unset, .unset]) rfl kk_))) ?_
          show FinH _ _ _ _ _ _ _ _ _ (T181.setTop (mkF m 84 #[.val (.int a), .val (.int b), .val (.int d), .val (.int fl), .val (.int 0), .val (.int 1), .val (.int pf), .val (.ref y182), .val .null, .val .null, .unset, .unset, .unset] []))
          exact Jq T181 T181.heap _ s.vm _ .null (X181.more (by decide) (by decide)) rfl N181_ (Keep.refl T181.heap []) hS0 (Nat.le_trans hk0 p181_0.1) hZ hown (CHr.refl ch185.1) rfl
      show FinH _ _ _ _ _ _ _ _ _ (s₁.setTop (mkF m 29 #[.val (.int a), .val (.int b), .val (.int d), .val (.int fl), .val (.int 0), .val (.int 1), .unset, .unset, .unset, .unset, .unset, .unset, .unset] [(.int (fl &&& 4))]))
      by_cases f2 : (fl &&& (4 : Int32)) = (0 : Int32)
      · refine FinH.by (fun tt_ kk_ => XS.ifYes X0.here hx rfl (pc0 := 29) (pc' := 36) rfl (hb hby at_29) rfl ((if0 _ _).trans (teq f2).1) (by decide) (by decide) kk_) ?_
        refine FinH.by (fun tt_ kk_ => XS.iconst X0.here hx rfl (hb hby at_36) (XS.istore X0.here hx rfl (hb hby at_37) rfl (l' := #[.val (.int a), .val (.int b), .val (.int d), .val (.int fl), .val (.int 0), .val (.int 1), .val (.int 0), .unset, .unset, .unset, .unset, .unset, .unset]) rfl kk_)) ?_
        show FinH _ _ _ _ _ _ _ _ _ (s₁.setTop (mkF m 39 #[.val (.int a), .val (.int b), .val (.int d), .val (.int fl), .val (.int 0), .val (.int 1), .val (.int 0), .unset, .unset, .unset, .unset, .unset, .unset] []))
        exact Jp (0 : Int32)
      · refine FinH.by (fun tt_ kk_ => XS.ifNo X0.here hx rfl (hb hby at_29) rfl ((if0 _ _).trans (feq f2).1) kk_) ?_
        refine FinH.by (fun tt_ kk_ => XS.iconst X0.here hx rfl (hb hby at_32) (XS.goto X0.here hx rfl (pc0 := 33) (pc' := 37) rfl (hb hby at_33) (by decide) (by decide) (XS.istore X0.here hx rfl (hb hby at_37) rfl (l' := #[.val (.int a), .val (.int b), .val (.int d), .val (.int fl), .val (.int 0), .val (.int 1), .val (.int 1), .unset, .unset, .unset, .unset, .unset, .unset]) rfl kk_))) ?_
        show FinH _ _ _ _ _ _ _ _ _ (s₁.setTop (mkF m 39 #[.val (.int a), .val (.int b), .val (.int d), .val (.int fl), .val (.int 0), .val (.int 1), .val (.int 1), .unset, .unset, .unset, .unset, .unset, .unset] []))
        exact Jp (1 : Int32)
  · refine FinH.by (fun tt_ kk_ => XS.ifNo X0.here hx rfl (hb hby at_3) rfl ((if0 _ _).trans (feq f0).1) kk_) ?_
    refine FinH.by (fun tt_ kk_ => XS.iconst X0.here hx rfl (hb hby at_6) (XS.goto X0.here hx rfl (pc0 := 7) (pc' := 11) rfl (hb hby at_7) (by decide) (by decide) (XS.istore X0.here hx rfl (hb hby at_11) rfl (l' := #[.val (.int a), .val (.int b), .val (.int d), .val (.int fl), .val (.int 1), .unset, .unset, .unset, .unset, .unset, .unset, .unset, .unset]) rfl (XS.iloadN X0.here hx rfl (hb hby at_13) rfl (XS.iconst X0.here hx rfl (hb hby at_14) (XS.iand X0.here hx rfl (hb hby at_15) rfl kk_)))))) ?_
    show FinH _ _ _ _ _ _ _ _ _ (s₁.setTop (mkF m 16 #[.val (.int a), .val (.int b), .val (.int d), .val (.int fl), .val (.int 1), .unset, .unset, .unset, .unset, .unset, .unset, .unset, .unset] [(.int (fl &&& 2))]))
    by_cases f1 : (fl &&& (2 : Int32)) = (0 : Int32)
    · refine FinH.by (fun tt_ kk_ => XS.ifYes X0.here hx rfl (pc0 := 16) (pc' := 23) rfl (hb hby at_16) rfl ((if0 _ _).trans (teq f1).1) (by decide) (by decide) kk_) ?_
      refine FinH.by (fun tt_ kk_ => XS.iconst X0.here hx rfl (hb hby at_23) (XS.istore X0.here hx rfl (hb hby at_24) rfl (l' := #[.val (.int a), .val (.int b), .val (.int d), .val (.int fl), .val (.int 1), .val (.int 0), .unset, .unset, .unset, .unset, .unset, .unset, .unset]) rfl (XS.iloadN X0.here hx rfl (hb hby at_26) rfl (XS.iconst X0.here hx rfl (hb hby at_27) (XS.iand X0.here hx rfl (hb hby at_28) rfl kk_))))) ?_
      have Jp : ∀ (pf : Int32), FinH p e below Z consts_1 s (Q_law Z a b d fl G1 h0 n0) 56 3712 (s₁.setTop (mkF m 39 #[.val (.int a), .val (.int b), .val (.int d), .val (.int fl), .val (.int (1 : Int32)), .val (.int (0 : Int32)), .val (.int pf), .unset, .unset, .unset, .unset, .unset, .unset] [])) := by
        intro pf
        refine FinH.by (fun tt_ kk_ => XS.iload X0.here hx rfl (hb hby at_39) rfl kk_) ?_
        show FinH _ _ _ _ _ _ _ _ _ (s₁.setTop (mkF m 41 #[.val (.int a), .val (.int b), .val (.int d), .val (.int fl), .val (.int 1), .val (.int 0), .val (.int pf), .unset, .unset, .unset, .unset, .unset, .unset] [(.int 1)]))
        refine FinH.by (fun tt_ kk_ => XS.ifNo X0.here hx rfl (hb hby at_41) rfl ((if0 _ _).trans (feq (by decide : ¬ (1 : Int32) = (0 : Int32))).1) kk_) ?_
        refine FinH.by (fun tt_ kk_ => XS.aconstNull X0.here hx rfl (hb hby at_44) (XS.goto X0.here hx rfl (pc0 := 45) (pc' := 52) rfl (hb hby at_45) (by decide) (by decide) (XS.astore X0.here hx rfl (hb hby at_52) rfl rfl (l' := #[.val (.int a), .val (.int b), .val (.int d), .val (.int fl), .val (.int 1), .val (.int 0), .val (.int pf), .val .null, .unset, .unset, .unset, .unset, .unset]) rfl (XS.iload X0.here hx rfl (hb hby at_54) rfl kk_)))) ?_
        show FinH _ _ _ _ _ _ _ _ _ (s₁.setTop (mkF m 56 #[.val (.int a), .val (.int b), .val (.int d), .val (.int fl), .val (.int 1), .val (.int 0), .val (.int pf), .val .null, .unset, .unset, .unset, .unset, .unset] [(.int 0)]))
        refine FinH.by (fun tt_ kk_ => XS.ifYes X0.here hx rfl (pc0 := 56) (pc' := 63) rfl (hb hby at_56) rfl ((if0 _ _).trans (teq (by decide : (0 : Int32) = (0 : Int32))).1) (by decide) (by decide) kk_) ?_
        refine FinH.by (fun tt_ kk_ => XS.iloadN X0.here hx rfl (hb hby at_63) rfl kk_) ?_
        obtain ⟨v246, _, ⟨T246, L246, k246, n246⟩, -, X246, ⟨Lc246, hQ246, l246, y246, z246⟩, st246⟩ := Jvm.LawKit.callS X0 hx (y := y_1) hown (mvT hZ (w_ hw 0 rfl)) (mvT hZ (w_ hw 1 rfl)) (mvT hZ (w_ hw 2 rfl)) (mvT hZ (w_ hw 3 rfl)) (by decide) (backOf (W := 0) (rm_four l Z a0 hw [] b G1 h0 n0 Z0 S1 P1 OL) hZ (w_ hw 3 rfl) (w_ hw 2 rfl) (by decide) (by decide)) (g := (mkF m 64 #[.val (.int a), .val (.int b), .val (.int d), .val (.int fl), .val (.int 1), .val (.int 0), .val (.int pf), .val .null, .unset, .unset, .unset, .unset, .unset] [(.int b)])) rfl (by rw [hml]; rfl) (argsL := [(.int b)]) (rest := []) (lenOf pd_630 rfl) rfl (by show 2 * 0 + _ ≤ _; exact Nat.le_of_eq rfl) (hb hby at_64) (fun _ _ => ⟨rfl, e0, (by decide : 0 + 3 ≤ _), (by decide : 0 + 12 ≤ _)⟩)
        dsimp only [Pt.U, Pt.locs, Pt.cells, Pt.slots] at X246 l246 y246 z246 st246 hQ246
        subst l246 y246 z246
        obtain ⟨y247, t248, k249, rfl, Nq246, p246_0, p246_1, p246_2, p246_3, p246_4, p246_5, p246_6, p246_7⟩ := hQ246
        have N246_ := Fr.app N0 Nq246
        refine FinH.by (fun tt_ kk_ => st246 tt_ kk_) ?_
        have ch250 : CHr Z consts_1 s.vm h0 s.vm T246.heap := ch0.trans (CHr.keep p246_0 all0 ch0.1)
        refine FinH.by (fun tt_ kk_ => XS.astore X246.here hx rfl (hb hby at_67) rfl rfl (l' := #[.val (.int a), .val (.int b), .val (.int d), .val (.int fl), .val (.int 1), .val (.int 0), .val (.int pf), .val .null, .val (.ref y247), .unset, .unset, .unset, .unset]) rfl (XS.iload X246.here hx rfl (hb hby at_69) rfl kk_)) ?_
        have Jq : ∀ (T251 : State) (h252 : Heap) (lc253 : List Loc) (V258 : Vm) (k259 : Nat) (pv : Value), Stand p l e room_1 (s.setVm V258) m #[(.int a), (.int b), (.int d), (.int fl)] below meth c T251 lc253 6 24 → T251.heap = h252 → Fr n0 lc253 → Keep T246.heap h252 [] → s.Since V258 k259 → k259 ≤ h252.size → Z.Warmed39 (s.setVm V258).vm → (s.setVm V258).vm.findClass "com/example/ermine/ermine/server/DatabaseSettingsToStringPinLaw" = some m.cls → CHr Z consts_1 s.vm T246.heap V258 h252 → (pv.isRef = true) → FinH p e below Z consts_1 s (Q_law Z a b d fl G1 h0 n0) 56 3712 (T251.setTop (mkF m 84 #[.val (.int a), .val (.int b), .val (.int d), .val (.int fl), .val (.int (1 : Int32)), .val (.int (0 : Int32)), .val (.int pf), .val .null, .val (.ref y247), .val pv, .unset, .unset, .unset] [])) := by
          intro T251 h252 lc253 V258 k259 pv X254 e255 N256 K257 hS260 hk261 hZ262 hown263 hC264 hpv
          have ch265 : CHr Z consts_1 s.vm h0 V258 h252 := ch250.trans hC264
          refine FinH.by (fun tt_ kk_ => XS.iload X254.here hx rfl (hb hby at_84) rfl (XS.iloadN X254.here hx rfl (hb hby at_86) rfl (XS.iload X254.here hx rfl (hb hby at_87) rfl (XS.iloadN X254.here hx rfl (hb hby at_89) rfl kk_)))) ?_
          have O274 : Old Z n0 h252 := ((OL.keep p246_0 all0).keep K257 all0)
          have z275 : n0 ≤ h252.size := Nat.le_trans Z0 (Nat.le_trans p246_0.1 K257.1)
          obtain ⟨v276, _, ⟨T276, L276, k276, n276⟩, -, X276, ⟨Lc276, hQ276, l276, y276, z276⟩, st276⟩ := Jvm.LawKit.callS X254 hx (y := y_3) hown263 (mvT hZ262 (w_ hw 34 rfl)) (mvT hZ262 (w_ hw 35 rfl)) (mvT hZ262 (w_ hw 2 rfl)) (mvT hZ262 (w_ hw 36 rfl)) (by decide) (backOf (W := 0) (rm_exp l Z a0 hw [] (1 : Int32) a (0 : Int32) b G1 h252 n0 z275 S1 P1 O274) hZ262 (w_ hw 36 rfl) (w_ hw 2 rfl) (by decide) (by decide)) (g := (mkF m 90 #[.val (.int a), .val (.int b), .val (.int d), .val (.int fl), .val (.int 1), .val (.int 0), .val (.int pf), .val .null, .val (.ref y247), .val pv, .unset, .unset, .unset] [(.int b), (.int 0), (.int a), (.int 1)])) rfl (by rw [hml]; rfl) (argsL := [(.int 1), (.int a), (.int 0), (.int b)]) (rest := []) (lenOf pd_631 rfl) rfl (by show 2 * 0 + _ ≤ _; exact Nat.le_of_eq rfl) (hb hby at_90) (fun _ _ => ⟨rfl, e255, (by decide : 6 + 3 ≤ _), (by decide : 24 + 78 ≤ _)⟩)
          dsimp only [Pt.U, Pt.locs, Pt.cells, Pt.slots] at X276 l276 y276 z276 st276 hQ276
          subst l276 y276 z276
          obtain ⟨y277, t278, k279, rfl, Nq276, p276_0, p276_1, p276_2, p276_3, p276_4, p276_5, p276_6, p276_7⟩ := hQ276
          have N276_ := Fr.app N256 Nq276
          refine FinH.by (fun tt_ kk_ => st276 tt_ kk_) ?_
          have ch280 : CHr Z consts_1 s.vm h0 V258 T276.heap := ch265.trans (CHr.keep p276_0 all0 ch265.1)
          refine FinH.by (fun tt_ kk_ => XS.astore X276.here hx rfl (hb hby at_93) rfl rfl (l' := #[.val (.int a), .val (.int b), .val (.int d), .val (.int fl), .val (.int 1), .val (.int 0), .val (.int pf), .val .null, .val (.ref y247), .val pv, .val (.ref y277), .unset, .unset]) rfl kk_) ?_
          obtain ⟨T281, h281, X281, e281, E281, A281, D281, -, st281⟩ := newO X276 hx hZ262 hown263 (w_ hw 40 rfl) (w_ hw 41 rfl) (w_ hw 42 rfl) rfl (g := (mkF m 95 #[.val (.int a), .val (.int b), .val (.int d), .val (.int fl), .val (.int 1), .val (.int 0), .val (.int pf), .val .null, .val (.ref y247), .val pv, .val (.ref y277), .unset, .unset] [])) rfl (hb hby at_95) (by decide) (by decide)
          obtain ⟨a281, g281⟩ : ∃ z, z = T276.heap.size := ⟨_, rfl⟩
          rw [← g281] at A281 D281 st281
          refine FinH.by (fun tt_ kk_ => st281 tt_ kk_) ?_
          have ch282 : CHr Z consts_1 s.vm h0 V258 h281 := ch280.trans (CHr.ext E281 ch280.1)
          refine FinH.by (fun tt_ kk_ => XS.dup X281.here hx rfl (hb hby at_98) rfl rfl (XS.aload X281.here hx rfl (hb hby at_99) rfl rfl (XS.aload X281.here hx rfl (hb hby at_101) rfl rfl (XS.aload X281.here hx rfl (hb hby at_103) rfl hpv kk_)))) ?_
          have z284 : n0 ≤ T276.heap.size := Nat.le_trans z275 p276_0.1
          have g283 : n0 ≤ a281 := Nat.le_trans z284 (Nat.le_of_eq g281.symm)
          have z285 : n0 ≤ h281.size := Nat.le_trans z275 (Nat.le_trans p276_0.1 E281.1)
          obtain ⟨v286, _, ⟨T286, L286, k286, n286⟩, -, X286, ⟨Lc286, hQ286, l286, y286, z286⟩, st286⟩ := X281.specialBack hx (y := y_5) rfl hown263 (mvT hZ262 (w_ hw 43 rfl)) (mvT hZ262 (w_ hw 44 rfl)) (mvT hZ262 (w_ hw 45 rfl)) (by decide) (backOf (W := 1) (rm_dsi l Z a0 hw [] a281 Value.null (Value.ref y247) pv h281 n0 z285 A281 (D281 (Or.inr (w_ hw 53 rfl)) (ty := (.object "java/lang/String")) (by decide) : Fld Z h281 a281 "com/example/ermine/ermine/server/DatabaseSettings" "url" "Ljava/lang/String;" .null) (D281 (Or.inr (w_ hw 55 rfl)) (ty := (.object "java/lang/String")) (by decide) : Fld Z h281 a281 "com/example/ermine/ermine/server/DatabaseSettings" "user" "Ljava/lang/String;" .null) (D281 (Or.inr (w_ hw 57 rfl)) (ty := (.object "java/lang/String")) (by decide) : Fld Z h281 a281 "com/example/ermine/ermine/server/DatabaseSettings" "password" "Ljava/lang/String;" .null) rfl rfl hpv g283) hZ262 (w_ hw 45 rfl) (w_ hw 42 rfl) (by decide) (by decide)) (g := (mkF m 105 #[.val (.int a), .val (.int b), .val (.int d), .val (.int fl), .val (.int 1), .val (.int 0), .val (.int pf), .val .null, .val (.ref y247), .val pv, .val (.ref y277), .unset, .unset] [pv, (.ref y247), .null, (.ref a281), (.ref a281)])) rfl (by rw [hml]; rfl) (Steps.refl _) (a := a281) (argsL := [.null, (.ref y247), pv]) (rest := [(.ref a281)]) (lenOf pd_632 rfl) rfl (by show 2 * 0 + _ ≤ _; exact Nat.le_of_eq rfl) (hb hby at_105) (fun _ _ => ⟨rfl, e281, (by decide : 10 + 0 ≤ _), (by decide : 105 + 0 ≤ _)⟩)
          dsimp only [Pt.U, Pt.locs, Pt.cells, Pt.slots] at X286 l286 y286 z286 st286 hQ286
          subst l286 y286 z286
          obtain ⟨rfl, Nq286, p286_0, p286_1, p286_2, p286_3, p286_4⟩ := hQ286
          have N286_ := Fr.app N276_ Nq286
          refine FinH.byS st286 ?_
          have ch287 : CHr Z consts_1 s.vm h0 V258 T286.heap := ch282.trans (CHr.keep p286_0 (allS (Safe.exa hZ262.alike A281 (by decide) (by decide)) all0) ch282.1)
          refine FinH.by (fun tt_ kk_ => XS.astore X286.here hx rfl (hb hby at_108) rfl rfl (l' := #[.val (.int a), .val (.int b), .val (.int d), .val (.int fl), .val (.int 1), .val (.int 0), .val (.int pf), .val .null, .val (.ref y247), .val pv, .val (.ref y277), .val (.ref a281), .unset]) rfl (XS.aload X286.here hx rfl (hb hby at_110) rfl rfl kk_)) ?_
          have E288 : Exa Z T286.heap y247 "java/lang/String" := ((((p246_4.keep K257).keep p276_0).ext E281).keep p286_0)
          have lt290 : y247 < T276.heap.size := Nat.lt_of_lt_of_le p246_4.lt (Nat.le_trans K257.1 p276_0.1)
          have ne289 : y247 ≠ a281 := Nat.ne_of_lt (Nat.lt_of_lt_of_le lt290 (Nat.le_of_eq g281.symm))
          have F291 : Fld Z T286.heap y247 "java/lang/String" "value" "[B" (.ref t248) := ((((p246_5.keep K257 nin0).keep p276_0 nin0).ext E281).keep p286_0 (ninS ne289 nin0))
          have F292 : Fld Z T286.heap y247 "java/lang/String" "coder" "B" (.int (0 : Int32)) := ((((p246_6.keep K257 nin0).keep p276_0 nin0).ext E281).keep p286_0 (ninS ne289 nin0))
          have lt294 : t248 < T276.heap.size := Nat.lt_of_lt_of_le p246_7.lt (Nat.le_trans K257.1 p276_0.1)
          have ne293 : t248 ≠ a281 := Nat.ne_of_lt (Nat.lt_of_lt_of_le lt294 (Nat.le_of_eq g281.symm))
          have A295 : Arv Z T286.heap t248 k249 .byte (4 : Int32) (own_vs (own_4 b)) (.int 0) := ((((p246_7.keep K257 nin0).keep p276_0 nin0).ext E281).keep p286_0 (ninS ne293 nin0))
          have O296 : Old Z n0 T286.heap := (((O274.keep p276_0 all0).ext E281).keep p286_0 (allS g283 all0))
          have z297 : n0 ≤ T286.heap.size := Nat.le_trans z285 p286_0.1
          obtain ⟨cq298, kq298, qa298, qb298, qc298⟩ := isOf hZ262 rfl p286_1
          obtain ⟨v298, _, ⟨T298, L298, k298, n298⟩, -, X298, hS298, hg298, ⟨Lc298, hQ298, l298, y298, z298, hC298⟩, st298⟩ := X286.virtualBackS hx (y := y_31) (z := y_31) hown263 (mvT hZ262 (w_ hw 58 rfl)) (mvT hZ262 (w_ hw 59 rfl)) (notFace_of_selects (args := #[]) (mvT hZ262 (w_ hw 61 rfl))) (mvT hZ262 (w_ hw 61 rfl)) (mvT hZ262 (w_ hw 60 rfl)) (by decide) (backOfSH (W := 0) (rm_dts10 l Z a0 hw [] a281 y247 t248 k249 (own_4 b) G1 T286.heap n0 z297 p286_1 p286_2 p286_3 E288 F291 F292 A295 rfl S1 P1 O296) hZ262 (w_ hw 62 rfl) (w_ hw 42 rfl) (by decide) (by decide) own_EW ch287.1) qa298 qc298 (g := (mkF m 112 #[.val (.int a), .val (.int b), .val (.int d), .val (.int fl), .val (.int 1), .val (.int 0), .val (.int pf), .val .null, .val (.ref y247), .val pv, .val (.ref y277), .val (.ref a281), .unset] [(.ref a281)])) rfl (by rw [hml]; rfl) (Steps.refl _) (argsL := []) (rest := []) (lenOf pd_582 rfl) rfl (by show 2 * 0 + _ ≤ _; exact Nat.le_of_eq rfl) (hb hby at_112) (fun _ _ => ⟨rfl, rfl, (by decide : 10 + 12 ≤ _), (by decide : 105 + 293 ≤ _)⟩)
          dsimp only [Pt.U, Pt.locs, Pt.cells, Pt.slots] at X298 l298 y298 z298 st298 hQ298 hS298 hg298 hC298
          subst l298 y298 z298
          obtain ⟨y299, t300, k301, rfl, Nq298, p298_0, p298_1, p298_2, p298_3, p298_4, p298_5, p298_6⟩ := hQ298
          have N298_ := Fr.app N286_ Nq298
          refine FinH.byS st298 ?_
          obtain ⟨X298w, hS298w, hZ298, hown298⟩ := rebS hS260 ((Nat.le_trans hk261 (Nat.le_trans (Nat.le_trans p276_0.1 E281.1) p286_0.1))) X298 hS298 hg298 hZ262 hown263
          have ch302 : CHr Z consts_1 s.vm h0 T298.vm T298.heap := ch287.trans hC298
          refine FinH.by (fun tt_ kk_ => XS.astore X298w.here hx rfl (hb hby at_115) rfl rfl (l' := #[.val (.int a), .val (.int b), .val (.int d), .val (.int fl), .val (.int 1), .val (.int 0), .val (.int pf), .val .null, .val (.ref y247), .val pv, .val (.ref y277), .val (.ref a281), .val (.ref y299)]) rfl (XS.aload X298w.here hx rfl (hb hby at_117) rfl rfl kk_)) ?_
          refine FinH.by (fun tt_ kk_ => XS.ifnullNo X298w.here hx rfl (hb hby at_119) rfl kk_) ?_
          refine FinH.by (fun tt_ kk_ => XS.aload X298w.here hx rfl (hb hby at_122) rfl rfl (XS.aload X298w.here hx rfl (hb hby at_124) rfl rfl kk_)) ?_
          have hpx : ∀ c ∈ (own_D ++ own_N ++ own_U ++ own_4 b ++ own_E), ¬ c < 0 ∧ ¬ (255 : Int32) < c := own_app (own_app (own_app (own_app own_kD own_hN) own_kU) (own_h4 b)) own_kE
          have hpw : ∀ c ∈ (own_D ++ own_p 1 a ++ own_U ++ own_p 0 b ++ own_E), ¬ c < 0 ∧ ¬ (255 : Int32) < c := own_app (own_app (own_app (own_app own_kD (own_hp _ _)) own_kU) (own_hp _ _)) own_kE
          have E303 : Exa Z T298.heap y277 "java/lang/String" := (((p276_4.ext E281).keep p286_0).keep p298_0)
          have ne304 : y277 ≠ a281 := Nat.ne_of_lt (Nat.lt_of_lt_of_le p276_4.lt (Nat.le_of_eq g281.symm))
          have F305 : Fld Z T298.heap y277 "java/lang/String" "value" "[B" (.ref t278) := (((p276_5.ext E281).keep p286_0 (ninS ne304 nin0)).keep p298_0 nin0)
          have F306 : Fld Z T298.heap y277 "java/lang/String" "coder" "B" (.int (0 : Int32)) := (((p276_6.ext E281).keep p286_0 (ninS ne304 nin0)).keep p298_0 nin0)
          have ne307 : t278 ≠ a281 := Nat.ne_of_lt (Nat.lt_of_lt_of_le p276_7.lt (Nat.le_of_eq g281.symm))
          have A308 : Arv Z T298.heap t278 k279 .byte (37 : Int32) (own_vs (own_D ++ own_p (1 : Int32) a ++ own_U ++ own_p (0 : Int32) b ++ own_E)) (.int 0) := (((p276_7.ext E281).keep p286_0 (ninS ne307 nin0)).keep p298_0 nin0)
          have O309 : Old Z n0 T298.heap := (O296.keep p298_0 all0)
          obtain ⟨cq310, kq310, qa310, qb310, qc310⟩ := isOf hZ298 rfl E303
          obtain ⟨v310, _, ⟨T310, L310, k310, n310⟩, -, X310, ⟨Lc310, hQ310, l310, y310, z310⟩, st310⟩ := X298w.virtualBack hx (y := y_33) (z := y_33) hown298 (mvT hZ298 (w_ hw 201 rfl)) (mvT hZ298 (w_ hw 202 rfl)) (notFace_of_selects (args := #[]) (mvT hZ298 (w_ hw 204 rfl))) (mvT hZ298 (w_ hw 204 rfl)) (mvT hZ298 (w_ hw 203 rfl)) (by decide) (StrChars.Road.eqW (W := 0) hZ298 (fun d hd => hw d (own_wordsEq d hd)) (kI := 4) (w_ hw 6 rfl) E303 F305 F306 A308 (StrChars.Road.codOf (cs := (own_D ++ own_p 1 a ++ own_U ++ own_p 0 b ++ own_E)) (n := 37) rfl (fun c hc => (hpw c hc).2)) (own_up hpw) (Nat.le_of_ble_eq_true rfl) p298_3 p298_4 p298_5 p298_6 (StrChars.Road.codOf (cs := (own_D ++ own_N ++ own_U ++ own_4 b ++ own_E)) (n := 37) rfl (fun c hc => (hpx c hc).2)) (own_up hpx) (Nat.le_of_ble_eq_true rfl) (S1.ext O309.2) P1 (by decide) (by decide)) qa310 qc310 (g := (mkF m 126 #[.val (.int a), .val (.int b), .val (.int d), .val (.int fl), .val (.int 1), .val (.int 0), .val (.int pf), .val .null, .val (.ref y247), .val pv, .val (.ref y277), .val (.ref a281), .val (.ref y299)] [(.ref y299), (.ref y277)])) rfl (by rw [hml]; rfl) (Steps.refl _) (argsL := [(.ref y299)]) (rest := []) (lenOf pd_633 rfl) rfl (by show 2 * 0 + _ ≤ _; exact Nat.le_of_eq rfl) (hb hby at_126) (fun _ _ => ⟨rfl, rfl, (by decide : 22 + 0 ≤ _), (by decide : 398 + 0 ≤ _)⟩)
          dsimp only [Pt.U, Pt.locs, Pt.cells, Pt.slots] at X310 l310 y310 z310 st310 hQ310
          subst l310 y310 z310
          obtain ⟨hv310, hL310, e310⟩ := hQ310
          subst hL310
          have N310_ := Fr.app N298_ (Fr.nil n0)
          obtain rfl : v310 = some (.int (1 : Int32)) := hv310.elim (fun q => q.1) (fun q => absurd (by rw [own_p1, own_p0]) q.2)
          refine FinH.byS st310 ?_
          show FinH _ _ _ _ _ _ _ _ _ (T310.setTop (mkF m 129 #[.val (.int a), .val (.int b), .val (.int d), .val (.int fl), .val (.int 1), .val (.int 0), .val (.int pf), .val .null, .val (.ref y247), .val pv, .val (.ref y277), .val (.ref a281), .val (.ref y299)] [(.int 1)]))
          refine FinH.by (fun tt_ kk_ => XS.ifNo X310.here hx rfl (hb hby at_129) rfl ((if0 _ _).trans (feq (by decide : ¬ (1 : Int32) = (0 : Int32))).1) kk_) ?_
          refine FinH.by (fun tt_ kk_ => XS.iconst X310.here hx rfl (hb hby at_132) (XS.goto X310.here hx rfl (pc0 := 133) (pc' := 137) rfl (hb hby at_133) (by decide) (by decide) kk_)) ?_
          show FinH _ _ _ _ _ _ _ _ _ (T310.setTop (mkF m 137 #[.val (.int a), .val (.int b), .val (.int d), .val (.int fl), .val (.int 1), .val (.int 0), .val (.int pf), .val .null, .val (.ref y247), .val pv, .val (.ref y277), .val (.ref a281), .val (.ref y299)] [(.int 1)]))
          exact FinH.ret (v := some (.int (nar .boolean (1 : Int32)))) X310 hS298w (by rw [e310]; exact (Nat.le_refl _)) (fun h => by rw [Bd.returns] at h; cases h) Bd.notSynchronized (by rw [e310]; exact ⟨rfl, N310_⟩) (by rw [hh, e310]; exact ch302.trans (CHv.at X310 hZ298 own_EW ch302.1)) (by decide) (by decide) (fun fs hr => retN X310 hx (t := .boolean) Bd.returns (by simp) (hb hby at_137) hr)
        show FinH _ _ _ _ _ _ _ _ _ (T246.setTop (mkF m 71 #[.val (.int a), .val (.int b), .val (.int d), .val (.int fl), .val (.int 1), .val (.int 0), .val (.int pf), .val .null, .val (.ref y247), .unset, .unset, .unset, .unset] [(.int pf)]))
        by_cases hpf : pf = (0 : Int32)
        · refine FinH.by (fun tt_ kk_ => XS.ifYes X246.here hx rfl (pc0 := 71) (pc' := 78) rfl (hb hby at_71) rfl ((if0 _ _).trans (teq hpf).1) (by decide) (by decide) kk_) ?_
          refine FinH.by (fun tt_ kk_ => XS.iloadN X246.here hx rfl (hb hby at_78) rfl kk_) ?_
          have O266 : Old Z n0 T246.heap := (OL.keep p246_0 all0)
          have z267 : n0 ≤ T246.heap.size := Nat.le_trans Z0 p246_0.1
          obtain ⟨v268, _, ⟨T268, L268, k268, n268⟩, -, X268, ⟨Lc268, hQ268, l268, y268, z268⟩, st268⟩ := Jvm.LawKit.callS X246 hx (y := y_1) hown (mvT hZ (w_ hw 0 rfl)) (mvT hZ (w_ hw 1 rfl)) (mvT hZ (w_ hw 2 rfl)) (mvT hZ (w_ hw 3 rfl)) (by decide) (backOf (W := 0) (rm_four l Z a0 hw [] d G1 T246.heap n0 z267 S1 P1 O266) hZ (w_ hw 3 rfl) (w_ hw 2 rfl) (by decide) (by decide)) (g := (mkF m 79 #[.val (.int a), .val (.int b), .val (.int d), .val (.int fl), .val (.int 1), .val (.int 0), .val (.int pf), .val .null, .val (.ref y247), .unset, .unset, .unset, .unset] [(.int d)])) rfl (by rw [hml]; rfl) (argsL := [(.int d)]) (rest := []) (lenOf pd_630 rfl) rfl (by show 2 * 0 + _ ≤ _; exact Nat.le_of_eq rfl) (hb hby at_79) (fun _ _ => ⟨rfl, rfl, (by decide : 3 + 3 ≤ _), (by decide : 12 + 12 ≤ _)⟩)
          dsimp only [Pt.U, Pt.locs, Pt.cells, Pt.slots] at X268 l268 y268 z268 st268 hQ268
          subst l268 y268 z268
          obtain ⟨y269, t270, k271, rfl, Nq268, p268_0, p268_1, p268_2, p268_3, p268_4, p268_5, p268_6, p268_7⟩ := hQ268
          have N268_ := Fr.app N246_ Nq268
          refine FinH.by (fun tt_ kk_ => st268 tt_ kk_) ?_
          have ch272 : CHr Z consts_1 s.vm h0 s.vm T268.heap := ch250.trans (CHr.keep p268_0 all0 ch250.1)
          refine FinH.by (fun tt_ kk_ => XS.astore X268.here hx rfl (hb hby at_82) rfl rfl (l' := #[.val (.int a), .val (.int b), .val (.int d), .val (.int fl), .val (.int 1), .val (.int 0), .val (.int pf), .val .null, .val (.ref y247), .val (.ref y269), .unset, .unset, .unset]) rfl kk_) ?_
          show FinH _ _ _ _ _ _ _ _ _ (T268.setTop (mkF m 84 #[.val (.int a), .val (.int b), .val (.int d), .val (.int fl), .val (.int 1), .val (.int 0), .val (.int pf), .val .null, .val (.ref y247), .val (.ref y269), .unset, .unset, .unset] []))
          have kp273 : Keep T246.heap T268.heap [] := (Keep.refl T246.heap []).trans p268_0 all0
          exact Jq T268 T268.heap _ s.vm _ (.ref y269) X268 rfl N268_ kp273 hS0 (Nat.le_trans hk0 (Nat.le_trans p246_0.1 p268_0.1)) hZ hown (CHr.keep p268_0 all0 ch250.1) rfl
        · refine FinH.by (fun tt_ kk_ => XS.ifNo X246.here hx rfl (hb hby at_71) rfl ((if0 _ _).trans (feq hpf).1) kk_) ?_
          refine FinH.by (fun tt_ kk_ => XS.aconstNull X246.here hx rfl (hb hby at_74) (XS.goto X246.here hx rfl (pc0 := 75) (pc' := 82) rfl (hb hby at_75) (by decide) (by decide) (XS.astore X246.here hx rfl (hb hby at_82) rfl rfl (l' := #[.val (.int a), .val (.int b), .val (.int d), .val (.int fl), .val (.int 1), .val (.int 0), .val (.int pf), .val .null, .val (.ref y247), .val .null, .unset, .unset, .unset]) rfl kk_))) ?_
          show FinH _ _ _ _ _ _ _ _ _ (T246.setTop (mkF m 84 #[.val (.int a), .val (.int b), .val (.int d), .val (.int fl), .val (.int 1), .val (.int 0), .val (.int pf), .val .null, .val (.ref y247), .val .null, .unset, .unset, .unset] []))
          exact Jq T246 T246.heap _ s.vm _ .null (X246.more (by decide) (by decide)) rfl N246_ (Keep.refl T246.heap []) hS0 (Nat.le_trans hk0 p246_0.1) hZ hown (CHr.refl ch250.1) rfl
      show FinH _ _ _ _ _ _ _ _ _ (s₁.setTop (mkF m 29 #[.val (.int a), .val (.int b), .val (.int d), .val (.int fl), .val (.int 1), .val (.int 0), .unset, .unset, .unset, .unset, .unset, .unset, .unset] [(.int (fl &&& 4))]))
      by_cases f2 : (fl &&& (4 : Int32)) = (0 : Int32)
      · refine FinH.by (fun tt_ kk_ => XS.ifYes X0.here hx rfl (pc0 := 29) (pc' := 36) rfl (hb hby at_29) rfl ((if0 _ _).trans (teq f2).1) (by decide) (by decide) kk_) ?_
        refine FinH.by (fun tt_ kk_ => XS.iconst X0.here hx rfl (hb hby at_36) (XS.istore X0.here hx rfl (hb hby at_37) rfl (l' := #[.val (.int a), .val (.int b), .val (.int d), .val (.int fl), .val (.int 1), .val (.int 0), .val (.int 0), .unset, .unset, .unset, .unset, .unset, .unset]) rfl kk_)) ?_
        show FinH _ _ _ _ _ _ _ _ _ (s₁.setTop (mkF m 39 #[.val (.int a), .val (.int b), .val (.int d), .val (.int fl), .val (.int 1), .val (.int 0), .val (.int 0), .unset, .unset, .unset, .unset, .unset, .unset] []))
        exact Jp (0 : Int32)
      · refine FinH.by (fun tt_ kk_ => XS.ifNo X0.here hx rfl (hb hby at_29) rfl ((if0 _ _).trans (feq f2).1) kk_) ?_
        refine FinH.by (fun tt_ kk_ => XS.iconst X0.here hx rfl (hb hby at_32) (XS.goto X0.here hx rfl (pc0 := 33) (pc' := 37) rfl (hb hby at_33) (by decide) (by decide) (XS.istore X0.here hx rfl (hb hby at_37) rfl (l' := #[.val (.int a), .val (.int b), .val (.int d), .val (.int fl), .val (.int 1), .val (.int 0), .val (.int 1), .unset, .unset, .unset, .unset, .unset, .unset]) rfl kk_))) ?_
        show FinH _ _ _ _ _ _ _ _ _ (s₁.setTop (mkF m 39 #[.val (.int a), .val (.int b), .val (.int d), .val (.int fl), .val (.int 1), .val (.int 0), .val (.int 1), .unset, .unset, .unset, .unset, .unset, .unset] []))
        exact Jp (1 : Int32)
    · refine FinH.by (fun tt_ kk_ => XS.ifNo X0.here hx rfl (hb hby at_16) rfl ((if0 _ _).trans (feq f1).1) kk_) ?_
      refine FinH.by (fun tt_ kk_ => XS.iconst X0.here hx rfl (hb hby at_19) (XS.goto X0.here hx rfl (pc0 := 20) (pc' := 24) rfl (hb hby at_20) (by decide) (by decide) (XS.istore X0.here hx rfl (hb hby at_24) rfl (l' := #[.val (.int a), .val (.int b), .val (.int d), .val (.int fl), .val (.int 1), .val (.int 1), .unset, .unset, .unset, .unset, .unset, .unset, .unset]) rfl (XS.iloadN X0.here hx rfl (hb hby at_26) rfl (XS.iconst X0.here hx rfl (hb hby at_27) (XS.iand X0.here hx rfl (hb hby at_28) rfl kk_)))))) ?_
      have Jp : ∀ (pf : Int32), FinH p e below Z consts_1 s (Q_law Z a b d fl G1 h0 n0) 56 3712 (s₁.setTop (mkF m 39 #[.val (.int a), .val (.int b), .val (.int d), .val (.int fl), .val (.int (1 : Int32)), .val (.int (1 : Int32)), .val (.int pf), .unset, .unset, .unset, .unset, .unset, .unset] [])) := by
        intro pf
        refine FinH.by (fun tt_ kk_ => XS.iload X0.here hx rfl (hb hby at_39) rfl kk_) ?_
        show FinH _ _ _ _ _ _ _ _ _ (s₁.setTop (mkF m 41 #[.val (.int a), .val (.int b), .val (.int d), .val (.int fl), .val (.int 1), .val (.int 1), .val (.int pf), .unset, .unset, .unset, .unset, .unset, .unset] [(.int 1)]))
        refine FinH.by (fun tt_ kk_ => XS.ifNo X0.here hx rfl (hb hby at_41) rfl ((if0 _ _).trans (feq (by decide : ¬ (1 : Int32) = (0 : Int32))).1) kk_) ?_
        refine FinH.by (fun tt_ kk_ => XS.aconstNull X0.here hx rfl (hb hby at_44) (XS.goto X0.here hx rfl (pc0 := 45) (pc' := 52) rfl (hb hby at_45) (by decide) (by decide) (XS.astore X0.here hx rfl (hb hby at_52) rfl rfl (l' := #[.val (.int a), .val (.int b), .val (.int d), .val (.int fl), .val (.int 1), .val (.int 1), .val (.int pf), .val .null, .unset, .unset, .unset, .unset, .unset]) rfl (XS.iload X0.here hx rfl (hb hby at_54) rfl kk_)))) ?_
        show FinH _ _ _ _ _ _ _ _ _ (s₁.setTop (mkF m 56 #[.val (.int a), .val (.int b), .val (.int d), .val (.int fl), .val (.int 1), .val (.int 1), .val (.int pf), .val .null, .unset, .unset, .unset, .unset, .unset] [(.int 1)]))
        refine FinH.by (fun tt_ kk_ => XS.ifNo X0.here hx rfl (hb hby at_56) rfl ((if0 _ _).trans (feq (by decide : ¬ (1 : Int32) = (0 : Int32))).1) kk_) ?_
        refine FinH.by (fun tt_ kk_ => XS.aconstNull X0.here hx rfl (hb hby at_59) (XS.goto X0.here hx rfl (pc0 := 60) (pc' := 67) rfl (hb hby at_60) (by decide) (by decide) (XS.astore X0.here hx rfl (hb hby at_67) rfl rfl (l' := #[.val (.int a), .val (.int b), .val (.int d), .val (.int fl), .val (.int 1), .val (.int 1), .val (.int pf), .val .null, .val .null, .unset, .unset, .unset, .unset]) rfl (XS.iload X0.here hx rfl (hb hby at_69) rfl kk_)))) ?_
        have Jq : ∀ (T311 : State) (h312 : Heap) (lc313 : List Loc) (V318 : Vm) (k319 : Nat) (pv : Value), Stand p l e room_1 (s.setVm V318) m #[(.int a), (.int b), (.int d), (.int fl)] below meth c T311 lc313 3 12 → T311.heap = h312 → Fr n0 lc313 → Keep h0 h312 [] → s.Since V318 k319 → k319 ≤ h312.size → Z.Warmed39 (s.setVm V318).vm → (s.setVm V318).vm.findClass "com/example/ermine/ermine/server/DatabaseSettingsToStringPinLaw" = some m.cls → CHr Z consts_1 s.vm h0 V318 h312 → (pv.isRef = true) → FinH p e below Z consts_1 s (Q_law Z a b d fl G1 h0 n0) 56 3712 (T311.setTop (mkF m 84 #[.val (.int a), .val (.int b), .val (.int d), .val (.int fl), .val (.int (1 : Int32)), .val (.int (1 : Int32)), .val (.int pf), .val .null, .val .null, .val pv, .unset, .unset, .unset] [])) := by
          intro T311 h312 lc313 V318 k319 pv X314 e315 N316 K317 hS320 hk321 hZ322 hown323 hC324 hpv
          have ch325 : CHr Z consts_1 s.vm h0 V318 h312 := ch0.trans hC324
          refine FinH.by (fun tt_ kk_ => XS.iload X314.here hx rfl (hb hby at_84) rfl (XS.iloadN X314.here hx rfl (hb hby at_86) rfl (XS.iload X314.here hx rfl (hb hby at_87) rfl (XS.iloadN X314.here hx rfl (hb hby at_89) rfl kk_)))) ?_
          have O332 : Old Z n0 h312 := (OL.keep K317 all0)
          have z333 : n0 ≤ h312.size := Nat.le_trans Z0 K317.1
          obtain ⟨v334, _, ⟨T334, L334, k334, n334⟩, -, X334, ⟨Lc334, hQ334, l334, y334, z334⟩, st334⟩ := Jvm.LawKit.callS X314 hx (y := y_3) hown323 (mvT hZ322 (w_ hw 34 rfl)) (mvT hZ322 (w_ hw 35 rfl)) (mvT hZ322 (w_ hw 2 rfl)) (mvT hZ322 (w_ hw 36 rfl)) (by decide) (backOf (W := 0) (rm_exp l Z a0 hw [] (1 : Int32) a (1 : Int32) b G1 h312 n0 z333 S1 P1 O332) hZ322 (w_ hw 36 rfl) (w_ hw 2 rfl) (by decide) (by decide)) (g := (mkF m 90 #[.val (.int a), .val (.int b), .val (.int d), .val (.int fl), .val (.int 1), .val (.int 1), .val (.int pf), .val .null, .val .null, .val pv, .unset, .unset, .unset] [(.int b), (.int 1), (.int a), (.int 1)])) rfl (by rw [hml]; rfl) (argsL := [(.int 1), (.int a), (.int 1), (.int b)]) (rest := []) (lenOf pd_631 rfl) rfl (by show 2 * 0 + _ ≤ _; exact Nat.le_of_eq rfl) (hb hby at_90) (fun _ _ => ⟨rfl, e315, (by decide : 3 + 3 ≤ _), (by decide : 12 + 78 ≤ _)⟩)
          dsimp only [Pt.U, Pt.locs, Pt.cells, Pt.slots] at X334 l334 y334 z334 st334 hQ334
          subst l334 y334 z334
          obtain ⟨y335, t336, k337, rfl, Nq334, p334_0, p334_1, p334_2, p334_3, p334_4, p334_5, p334_6, p334_7⟩ := hQ334
          have N334_ := Fr.app N316 Nq334
          refine FinH.by (fun tt_ kk_ => st334 tt_ kk_) ?_
          have ch338 : CHr Z consts_1 s.vm h0 V318 T334.heap := ch325.trans (CHr.keep p334_0 all0 ch325.1)
          refine FinH.by (fun tt_ kk_ => XS.astore X334.here hx rfl (hb hby at_93) rfl rfl (l' := #[.val (.int a), .val (.int b), .val (.int d), .val (.int fl), .val (.int 1), .val (.int 1), .val (.int pf), .val .null, .val .null, .val pv, .val (.ref y335), .unset, .unset]) rfl kk_) ?_
          obtain ⟨T339, h339, X339, e339, E339, A339, D339, -, st339⟩ := newO X334 hx hZ322 hown323 (w_ hw 40 rfl) (w_ hw 41 rfl) (w_ hw 42 rfl) rfl (g := (mkF m 95 #[.val (.int a), .val (.int b), .val (.int d), .val (.int fl), .val (.int 1), .val (.int 1), .val (.int pf), .val .null, .val .null, .val pv, .val (.ref y335), .unset, .unset] [])) rfl (hb hby at_95) (by decide) (by decide)
          obtain ⟨a339, g339⟩ : ∃ z, z = T334.heap.size := ⟨_, rfl⟩
          rw [← g339] at A339 D339 st339
          refine FinH.by (fun tt_ kk_ => st339 tt_ kk_) ?_
          have ch340 : CHr Z consts_1 s.vm h0 V318 h339 := ch338.trans (CHr.ext E339 ch338.1)
          refine FinH.by (fun tt_ kk_ => XS.dup X339.here hx rfl (hb hby at_98) rfl rfl (XS.aload X339.here hx rfl (hb hby at_99) rfl rfl (XS.aload X339.here hx rfl (hb hby at_101) rfl rfl (XS.aload X339.here hx rfl (hb hby at_103) rfl hpv kk_)))) ?_
          have z342 : n0 ≤ T334.heap.size := Nat.le_trans z333 p334_0.1
          have g341 : n0 ≤ a339 := Nat.le_trans z342 (Nat.le_of_eq g339.symm)
          have z343 : n0 ≤ h339.size := Nat.le_trans z333 (Nat.le_trans p334_0.1 E339.1)
          obtain ⟨v344, _, ⟨T344, L344, k344, n344⟩, -, X344, ⟨Lc344, hQ344, l344, y344, z344⟩, st344⟩ := X339.specialBack hx (y := y_5) rfl hown323 (mvT hZ322 (w_ hw 43 rfl)) (mvT hZ322 (w_ hw 44 rfl)) (mvT hZ322 (w_ hw 45 rfl)) (by decide) (backOf (W := 1) (rm_dsi l Z a0 hw [] a339 Value.null Value.null pv h339 n0 z343 A339 (D339 (Or.inr (w_ hw 53 rfl)) (ty := (.object "java/lang/String")) (by decide) : Fld Z h339 a339 "com/example/ermine/ermine/server/DatabaseSettings" "url" "Ljava/lang/String;" .null) (D339 (Or.inr (w_ hw 55 rfl)) (ty := (.object "java/lang/String")) (by decide) : Fld Z h339 a339 "com/example/ermine/ermine/server/DatabaseSettings" "user" "Ljava/lang/String;" .null) (D339 (Or.inr (w_ hw 57 rfl)) (ty := (.object "java/lang/String")) (by decide) : Fld Z h339 a339 "com/example/ermine/ermine/server/DatabaseSettings" "password" "Ljava/lang/String;" .null) rfl rfl hpv g341) hZ322 (w_ hw 45 rfl) (w_ hw 42 rfl) (by decide) (by decide)) (g := (mkF m 105 #[.val (.int a), .val (.int b), .val (.int d), .val (.int fl), .val (.int 1), .val (.int 1), .val (.int pf), .val .null, .val .null, .val pv, .val (.ref y335), .unset, .unset] [pv, .null, .null, (.ref a339), (.ref a339)])) rfl (by rw [hml]; rfl) (Steps.refl _) (a := a339) (argsL := [.null, .null, pv]) (rest := [(.ref a339)]) (lenOf pd_632 rfl) rfl (by show 2 * 0 + _ ≤ _; exact Nat.le_of_eq rfl) (hb hby at_105) (fun _ _ => ⟨rfl, e339, (by decide : 7 + 0 ≤ _), (by decide : 93 + 0 ≤ _)⟩)
          dsimp only [Pt.U, Pt.locs, Pt.cells, Pt.slots] at X344 l344 y344 z344 st344 hQ344
          subst l344 y344 z344
          obtain ⟨rfl, Nq344, p344_0, p344_1, p344_2, p344_3, p344_4⟩ := hQ344
          have N344_ := Fr.app N334_ Nq344
          refine FinH.byS st344 ?_
          have ch345 : CHr Z consts_1 s.vm h0 V318 T344.heap := ch340.trans (CHr.keep p344_0 (allS (Safe.exa hZ322.alike A339 (by decide) (by decide)) all0) ch340.1)
          refine FinH.by (fun tt_ kk_ => XS.astore X344.here hx rfl (hb hby at_108) rfl rfl (l' := #[.val (.int a), .val (.int b), .val (.int d), .val (.int fl), .val (.int 1), .val (.int 1), .val (.int pf), .val .null, .val .null, .val pv, .val (.ref y335), .val (.ref a339), .unset]) rfl (XS.aload X344.here hx rfl (hb hby at_110) rfl rfl kk_)) ?_
          have O346 : Old Z n0 T344.heap := (((O332.keep p334_0 all0).ext E339).keep p344_0 (allS g341 all0))
          have z347 : n0 ≤ T344.heap.size := Nat.le_trans z343 p344_0.1
          obtain ⟨cq348, kq348, qa348, qb348, qc348⟩ := isOf hZ322 rfl p344_1
          obtain ⟨v348, _, ⟨T348, L348, k348, n348⟩, -, X348, hS348, hg348, ⟨Lc348, hQ348, l348, y348, z348, hC348⟩, st348⟩ := X344.virtualBackS hx (y := y_31) (z := y_31) hown323 (mvT hZ322 (w_ hw 58 rfl)) (mvT hZ322 (w_ hw 59 rfl)) (notFace_of_selects (args := #[]) (mvT hZ322 (w_ hw 61 rfl))) (mvT hZ322 (w_ hw 61 rfl)) (mvT hZ322 (w_ hw 60 rfl)) (by decide) (backOfSH (W := 0) (rm_dts11 l Z a0 hw [] a339 G1 T344.heap n0 z347 p344_1 p344_2 p344_3 S1 P1 O346) hZ322 (w_ hw 62 rfl) (w_ hw 42 rfl) (by decide) (by decide) own_EW ch345.1) qa348 qc348 (g := (mkF m 112 #[.val (.int a), .val (.int b), .val (.int d), .val (.int fl), .val (.int 1), .val (.int 1), .val (.int pf), .val .null, .val .null, .val pv, .val (.ref y335), .val (.ref a339), .unset] [(.ref a339)])) rfl (by rw [hml]; rfl) (Steps.refl _) (argsL := []) (rest := []) (lenOf pd_582 rfl) rfl (by show 2 * 0 + _ ≤ _; exact Nat.le_of_eq rfl) (hb hby at_112) (fun _ _ => ⟨rfl, rfl, (by decide : 7 + 12 ≤ _), (by decide : 93 + 293 ≤ _)⟩)
          dsimp only [Pt.U, Pt.locs, Pt.cells, Pt.slots] at X348 l348 y348 z348 st348 hQ348 hS348 hg348 hC348
          subst l348 y348 z348
          obtain ⟨y349, t350, k351, rfl, Nq348, p348_0, p348_1, p348_2, p348_3, p348_4, p348_5, p348_6⟩ := hQ348
          have N348_ := Fr.app N344_ Nq348
          refine FinH.byS st348 ?_
          obtain ⟨X348w, hS348w, hZ348, hown348⟩ := rebS hS320 ((Nat.le_trans hk321 (Nat.le_trans (Nat.le_trans p334_0.1 E339.1) p344_0.1))) X348 hS348 hg348 hZ322 hown323
          have ch352 : CHr Z consts_1 s.vm h0 T348.vm T348.heap := ch345.trans hC348
          refine FinH.by (fun tt_ kk_ => XS.astore X348w.here hx rfl (hb hby at_115) rfl rfl (l' := #[.val (.int a), .val (.int b), .val (.int d), .val (.int fl), .val (.int 1), .val (.int 1), .val (.int pf), .val .null, .val .null, .val pv, .val (.ref y335), .val (.ref a339), .val (.ref y349)]) rfl (XS.aload X348w.here hx rfl (hb hby at_117) rfl rfl kk_)) ?_
          refine FinH.by (fun tt_ kk_ => XS.ifnullNo X348w.here hx rfl (hb hby at_119) rfl kk_) ?_
          refine FinH.by (fun tt_ kk_ => XS.aload X348w.here hx rfl (hb hby at_122) rfl rfl (XS.aload X348w.here hx rfl (hb hby at_124) rfl rfl kk_)) ?_
          have hpx : ∀ c ∈ (own_D ++ own_N ++ own_U ++ own_N ++ own_E), ¬ c < 0 ∧ ¬ (255 : Int32) < c := own_app (own_app (own_app (own_app own_kD own_hN) own_kU) own_hN) own_kE
          have hpw : ∀ c ∈ (own_D ++ own_p 1 a ++ own_U ++ own_p 1 b ++ own_E), ¬ c < 0 ∧ ¬ (255 : Int32) < c := own_app (own_app (own_app (own_app own_kD (own_hp _ _)) own_kU) (own_hp _ _)) own_kE
          have E353 : Exa Z T348.heap y335 "java/lang/String" := (((p334_4.ext E339).keep p344_0).keep p348_0)
          have ne354 : y335 ≠ a339 := Nat.ne_of_lt (Nat.lt_of_lt_of_le p334_4.lt (Nat.le_of_eq g339.symm))
          have F355 : Fld Z T348.heap y335 "java/lang/String" "value" "[B" (.ref t336) := (((p334_5.ext E339).keep p344_0 (ninS ne354 nin0)).keep p348_0 nin0)
          have F356 : Fld Z T348.heap y335 "java/lang/String" "coder" "B" (.int (0 : Int32)) := (((p334_6.ext E339).keep p344_0 (ninS ne354 nin0)).keep p348_0 nin0)
          have ne357 : t336 ≠ a339 := Nat.ne_of_lt (Nat.lt_of_lt_of_le p334_7.lt (Nat.le_of_eq g339.symm))
          have A358 : Arv Z T348.heap t336 k337 .byte (37 : Int32) (own_vs (own_D ++ own_p (1 : Int32) a ++ own_U ++ own_p (1 : Int32) b ++ own_E)) (.int 0) := (((p334_7.ext E339).keep p344_0 (ninS ne357 nin0)).keep p348_0 nin0)
          have O359 : Old Z n0 T348.heap := (O346.keep p348_0 all0)
          obtain ⟨cq360, kq360, qa360, qb360, qc360⟩ := isOf hZ348 rfl E353
          obtain ⟨v360, _, ⟨T360, L360, k360, n360⟩, -, X360, ⟨Lc360, hQ360, l360, y360, z360⟩, st360⟩ := X348w.virtualBack hx (y := y_33) (z := y_33) hown348 (mvT hZ348 (w_ hw 201 rfl)) (mvT hZ348 (w_ hw 202 rfl)) (notFace_of_selects (args := #[]) (mvT hZ348 (w_ hw 204 rfl))) (mvT hZ348 (w_ hw 204 rfl)) (mvT hZ348 (w_ hw 203 rfl)) (by decide) (StrChars.Road.eqW (W := 0) hZ348 (fun d hd => hw d (own_wordsEq d hd)) (kI := 4) (w_ hw 6 rfl) E353 F355 F356 A358 (StrChars.Road.codOf (cs := (own_D ++ own_p 1 a ++ own_U ++ own_p 1 b ++ own_E)) (n := 37) rfl (fun c hc => (hpw c hc).2)) (own_up hpw) (Nat.le_of_ble_eq_true rfl) p348_3 p348_4 p348_5 p348_6 (StrChars.Road.codOf (cs := (own_D ++ own_N ++ own_U ++ own_N ++ own_E)) (n := 37) rfl (fun c hc => (hpx c hc).2)) (own_up hpx) (Nat.le_of_ble_eq_true rfl) (S1.ext O359.2) P1 (by decide) (by decide)) qa360 qc360 (g := (mkF m 126 #[.val (.int a), .val (.int b), .val (.int d), .val (.int fl), .val (.int 1), .val (.int 1), .val (.int pf), .val .null, .val .null, .val pv, .val (.ref y335), .val (.ref a339), .val (.ref y349)] [(.ref y349), (.ref y335)])) rfl (by rw [hml]; rfl) (Steps.refl _) (argsL := [(.ref y349)]) (rest := []) (lenOf pd_633 rfl) rfl (by show 2 * 0 + _ ≤ _; exact Nat.le_of_eq rfl) (hb hby at_126) (fun _ _ => ⟨rfl, rfl, (by decide : 19 + 0 ≤ _), (by decide : 386 + 0 ≤ _)⟩)
          dsimp only [Pt.U, Pt.locs, Pt.cells, Pt.slots] at X360 l360 y360 z360 st360 hQ360
          subst l360 y360 z360
          obtain ⟨hv360, hL360, e360⟩ := hQ360
          subst hL360
          have N360_ := Fr.app N348_ (Fr.nil n0)
          obtain rfl : v360 = some (.int (1 : Int32)) := hv360.elim (fun q => q.1) (fun q => absurd (by simp only [own_p1]) q.2)
          refine FinH.byS st360 ?_
          show FinH _ _ _ _ _ _ _ _ _ (T360.setTop (mkF m 129 #[.val (.int a), .val (.int b), .val (.int d), .val (.int fl), .val (.int 1), .val (.int 1), .val (.int pf), .val .null, .val .null, .val pv, .val (.ref y335), .val (.ref a339), .val (.ref y349)] [(.int 1)]))
          refine FinH.by (fun tt_ kk_ => XS.ifNo X360.here hx rfl (hb hby at_129) rfl ((if0 _ _).trans (feq (by decide : ¬ (1 : Int32) = (0 : Int32))).1) kk_) ?_
          refine FinH.by (fun tt_ kk_ => XS.iconst X360.here hx rfl (hb hby at_132) (XS.goto X360.here hx rfl (pc0 := 133) (pc' := 137) rfl (hb hby at_133) (by decide) (by decide) kk_)) ?_
          show FinH _ _ _ _ _ _ _ _ _ (T360.setTop (mkF m 137 #[.val (.int a), .val (.int b), .val (.int d), .val (.int fl), .val (.int 1), .val (.int 1), .val (.int pf), .val .null, .val .null, .val pv, .val (.ref y335), .val (.ref a339), .val (.ref y349)] [(.int 1)]))
          exact FinH.ret (v := some (.int (nar .boolean (1 : Int32)))) X360 hS348w (by rw [e360]; exact (Nat.le_refl _)) (fun h => by rw [Bd.returns] at h; cases h) Bd.notSynchronized (by rw [e360]; exact ⟨rfl, N360_⟩) (by rw [hh, e360]; exact ch352.trans (CHv.at X360 hZ348 own_EW ch352.1)) (by decide) (by decide) (fun fs hr => retN X360 hx (t := .boolean) Bd.returns (by simp) (hb hby at_137) hr)
        show FinH _ _ _ _ _ _ _ _ _ (s₁.setTop (mkF m 71 #[.val (.int a), .val (.int b), .val (.int d), .val (.int fl), .val (.int 1), .val (.int 1), .val (.int pf), .val .null, .val .null, .unset, .unset, .unset, .unset] [(.int pf)]))
        by_cases hpf : pf = (0 : Int32)
        · refine FinH.by (fun tt_ kk_ => XS.ifYes X0.here hx rfl (pc0 := 71) (pc' := 78) rfl (hb hby at_71) rfl ((if0 _ _).trans (teq hpf).1) (by decide) (by decide) kk_) ?_
          refine FinH.by (fun tt_ kk_ => XS.iloadN X0.here hx rfl (hb hby at_78) rfl kk_) ?_
          obtain ⟨v326, _, ⟨T326, L326, k326, n326⟩, -, X326, ⟨Lc326, hQ326, l326, y326, z326⟩, st326⟩ := Jvm.LawKit.callS X0 hx (y := y_1) hown (mvT hZ (w_ hw 0 rfl)) (mvT hZ (w_ hw 1 rfl)) (mvT hZ (w_ hw 2 rfl)) (mvT hZ (w_ hw 3 rfl)) (by decide) (backOf (W := 0) (rm_four l Z a0 hw [] d G1 h0 n0 Z0 S1 P1 OL) hZ (w_ hw 3 rfl) (w_ hw 2 rfl) (by decide) (by decide)) (g := (mkF m 79 #[.val (.int a), .val (.int b), .val (.int d), .val (.int fl), .val (.int 1), .val (.int 1), .val (.int pf), .val .null, .val .null, .unset, .unset, .unset, .unset] [(.int d)])) rfl (by rw [hml]; rfl) (argsL := [(.int d)]) (rest := []) (lenOf pd_630 rfl) rfl (by show 2 * 0 + _ ≤ _; exact Nat.le_of_eq rfl) (hb hby at_79) (fun _ _ => ⟨rfl, e0, (by decide : 0 + 3 ≤ _), (by decide : 0 + 12 ≤ _)⟩)
          dsimp only [Pt.U, Pt.locs, Pt.cells, Pt.slots] at X326 l326 y326 z326 st326 hQ326
          subst l326 y326 z326
          obtain ⟨y327, t328, k329, rfl, Nq326, p326_0, p326_1, p326_2, p326_3, p326_4, p326_5, p326_6, p326_7⟩ := hQ326
          have N326_ := Fr.app N0 Nq326
          refine FinH.by (fun tt_ kk_ => st326 tt_ kk_) ?_
          have ch330 : CHr Z consts_1 s.vm h0 s.vm T326.heap := ch0.trans (CHr.keep p326_0 all0 ch0.1)
          refine FinH.by (fun tt_ kk_ => XS.astore X326.here hx rfl (hb hby at_82) rfl rfl (l' := #[.val (.int a), .val (.int b), .val (.int d), .val (.int fl), .val (.int 1), .val (.int 1), .val (.int pf), .val .null, .val .null, .val (.ref y327), .unset, .unset, .unset]) rfl kk_) ?_
          show FinH _ _ _ _ _ _ _ _ _ (T326.setTop (mkF m 84 #[.val (.int a), .val (.int b), .val (.int d), .val (.int fl), .val (.int 1), .val (.int 1), .val (.int pf), .val .null, .val .null, .val (.ref y327), .unset, .unset, .unset] []))
          have kp331 : Keep h0 T326.heap [] := (Keep.refl h0 []).trans p326_0 all0
          exact Jq T326 T326.heap _ s.vm _ (.ref y327) X326 rfl N326_ kp331 hS0 (Nat.le_trans hk0 p326_0.1) hZ hown (CHr.keep p326_0 all0 ch0.1) rfl
        · refine FinH.by (fun tt_ kk_ => XS.ifNo X0.here hx rfl (hb hby at_71) rfl ((if0 _ _).trans (feq hpf).1) kk_) ?_
          refine FinH.by (fun tt_ kk_ => XS.aconstNull X0.here hx rfl (hb hby at_74) (XS.goto X0.here hx rfl (pc0 := 75) (pc' := 82) rfl (hb hby at_75) (by decide) (by decide) (XS.astore X0.here hx rfl (hb hby at_82) rfl rfl (l' := #[.val (.int a), .val (.int b), .val (.int d), .val (.int fl), .val (.int 1), .val (.int 1), .val (.int pf), .val .null, .val .null, .val .null, .unset, .unset, .unset]) rfl kk_))) ?_
          show FinH _ _ _ _ _ _ _ _ _ (s₁.setTop (mkF m 84 #[.val (.int a), .val (.int b), .val (.int d), .val (.int fl), .val (.int 1), .val (.int 1), .val (.int pf), .val .null, .val .null, .val .null, .unset, .unset, .unset] []))
          exact Jq s₁ h0 _ s.vm _ .null (X0.more (by decide) (by decide)) e0 N0 (Keep.refl h0 []) hS0 hk0 hZ hown (CHr.refl ch0.1) rfl
      show FinH _ _ _ _ _ _ _ _ _ (s₁.setTop (mkF m 29 #[.val (.int a), .val (.int b), .val (.int d), .val (.int fl), .val (.int 1), .val (.int 1), .unset, .unset, .unset, .unset, .unset, .unset, .unset] [(.int (fl &&& 4))]))
      by_cases f2 : (fl &&& (4 : Int32)) = (0 : Int32)
      · refine FinH.by (fun tt_ kk_ => XS.ifYes X0.here hx rfl (pc0 := 29) (pc' := 36) rfl (hb hby at_29) rfl ((if0 _ _).trans (teq f2).1) (by decide) (by decide) kk_) ?_
        refine FinH.by (fun tt_ kk_ => XS.iconst X0.here hx rfl (hb hby at_36) (XS.istore X0.here hx rfl (hb hby at_37) rfl (l' := #[.val (.int a), .val (.int b), .val (.int d), .val (.int fl), .val (.int 1), .val (.int 1), .val (.int 0), .unset, .unset, .unset, .unset, .unset, .unset]) rfl kk_)) ?_
        show FinH _ _ _ _ _ _ _ _ _ (s₁.setTop (mkF m 39 #[.val (.int a), .val (.int b), .val (.int d), .val (.int fl), .val (.int 1), .val (.int 1), .val (.int 0), .unset, .unset, .unset, .unset, .unset, .unset] []))
        exact Jp (0 : Int32)
      · refine FinH.by (fun tt_ kk_ => XS.ifNo X0.here hx rfl (hb hby at_29) rfl ((if0 _ _).trans (feq f2).1) kk_) ?_
        refine FinH.by (fun tt_ kk_ => XS.iconst X0.here hx rfl (hb hby at_32) (XS.goto X0.here hx rfl (pc0 := 33) (pc' := 37) rfl (hb hby at_33) (by decide) (by decide) (XS.istore X0.here hx rfl (hb hby at_37) rfl (l' := #[.val (.int a), .val (.int b), .val (.int d), .val (.int fl), .val (.int 1), .val (.int 1), .val (.int 1), .unset, .unset, .unset, .unset, .unset, .unset]) rfl kk_))) ?_
        show FinH _ _ _ _ _ _ _ _ _ (s₁.setTop (mkF m 39 #[.val (.int a), .val (.int b), .val (.int d), .val (.int fl), .val (.int 1), .val (.int 1), .val (.int 1), .unset, .unset, .unset, .unset, .unset, .unset] []))
        exact Jp (1 : Int32)
set_option maxRecDepth 65536 in
set_option maxHeartbeats 40000000 in
theorem comes_1 {Post : Tables → Env → Array Value → State → Outcome → State → Prop} (hpost : ∀ tb e args s v u, (limb_1_1.after args s (.returned v) u = true ∧ limb_1_2.after args s (.returned v) u = true ∧ True) → ReturnedEndW s (.returned v) u (Jvm.fieldLocs frame_1_writes args s ++ Jvm.arrayLocs frame_1_arrays args s ++ Jvm.staticLocs frame_1_statics s) 56 3712 → Post tb e args s (.returned v) u) :
    ArmFor flags0 classFile x code maxLocals ret World_1 tables_1 room_1 Calls_1 rest_1 Pre_1 Post := by
  intro l hfl _ _ p e ha hc hk s m args below hf hA hF happ hP
  obtain ⟨hcalls, hrest, hpre⟩ := hP
  obtain ⟨-, -, -, hnamed, -, -, -, hat⟩ := (Spec.applies_iff hf).mp happ
  obtain ⟨hg, hn⟩ := and_e (Cond.before_iff.mp (show (Jvm.Cond.and given_1 narrow_1).before args s = true from hpre))
  obtain ⟨q0, r0⟩ := and_e hg
  obtain ⟨q1, r1⟩ := and_e r0
  obtain ⟨q2, r2⟩ := and_e r1
  obtain ⟨q3, r3⟩ := and_e r2
  obtain ⟨w0, w1, w2, w3, rfl⟩ : ∃ w0 w1 w2 w3 : Value, args = #[w0, w1, w2, w3] := by
    have hs : args.size = 4 := by simpa [Cond.value, given_1] using q0
    obtain ⟨L⟩ := args
    match L, hs with
    | [w0, w1, w2, w3], _ => exact ⟨w0, w1, w2, w3, rfl⟩
  have hw := fun d (hd : d ∈ tables_1) => atoms_spec (ws := Jvm.Cond.code x code maxLocals ret :: tables_1) hat d (List.mem_cons_of_mem _ hd)
  obtain ⟨hsets, hown0⟩ := atoms_of _ (rest_1_c_eq ▸ (show rest_1_c.before _ s = true from hrest))
  have hfit : Fit s := fun {y c} hc i hi => by
    obtain ⟨ha, rfl⟩ := Array.getElem?_eq_some_iff.mp hc
    have q := List.all_eq_true.mp ((Array.all_eq_true_iff_forall_mem.mp hF) _ (Array.getElem_mem ha)) i (List.mem_range.mpr hi)
    simpa [Array.getElem?_eq_getElem hi] using q
  obtain ⟨i0, e0⟩ := is_v q1
  obtain rfl : w0 = (.int i0) := Option.some.inj e0
  obtain ⟨i1, e1⟩ := is_v q2
  obtain rfl : w1 = (.int i1) := Option.some.inj e1
  obtain ⟨i2, e2⟩ := is_v q3
  obtain rfl : w2 = (.int i2) := Option.some.inj e2
  obtain ⟨i3, e3⟩ := is_v r3
  obtain rfl : w3 = (.int i3) := Option.some.inj e3
  have nz_cs := not_v (Cond.before_iff.mp (hsets _ (List.mem_of_getElem? (i := 2) rfl)))
  obtain ⟨G1, ee_cs⟩ := is_v (Cond.before_iff.mp (hsets _ (List.mem_of_getElem? (i := 1) rfl)))
  have S1 : Sta s s.heap "java/lang/String" "COMPACT_STRINGS" "Z" (.int G1) := Sta.start ee_cs (Or.inl (hsets _ (List.mem_of_getElem? (i := 0) rfl)))
  have P1 : ¬ (G1 = (0 : Int32)) := gotF (Cond.eq_ints ee_cs (Term.int_eval (0))) nz_cs
  have hC0 : CHv s consts_1 s.vm s.heap := CHv.start (own_EW0 hw) (fun p hp => hcalls.1 p hp) (hsets _ (List.mem_of_getElem? (i := 2) rfl)) (w_ hw 23 rfl) (w_ hw 6 rfl)
  obtain ⟨n, o, h1, h2, h3, _, L, rfl, ⟨rfl, N⟩, -, hq⟩ := rm_law l s _ hw tables_1 i0 i1 i2 i3 G1 s.heap s.heap.size (Nat.le_refl _) S1 P1 (Old.start s) p e ha hc hk s m _ below hf ((Spec.applies_iff_loose hf).mp happ).1 ⟨rfl, State.Warmed39.refl s, rfl, hC0⟩ trivial
  refine ⟨n, _, h1, h2, h3, hpost _ _ _ _ _ _ ⟨Cond.after_iff.mpr rfl, Cond.after_iff.mpr (eq_i res_at (Term.int_eval (1)) rfl), trivial⟩ ⟨hq.1, hq.2.1, hq.2.2.1, (hq.2.2.2.sift fun y hy => Or.inr (N y hy)).mono (by decide) (by decide)⟩⟩
theorem main_1_1 : Claimed_1_1 := comes_1 fun _ _ _ _ _ _ h hF => ⟨h.1, hF⟩
theorem main_1_2 : Claimed_1_2 := comes_1 fun _ _ _ _ _ _ h hF => ⟨h.2.1, hF⟩
end Jvm.Pilot.@@N@@
namespace Jvm.Pilot.@@N@@
open Jvm Jvm.ClassFile Sem Op Lib Jvm.Free Jvm.Stand Jvm.Pilot.@@N@@.Jvm.D
/-! MADE BY PROGRAM (witnessworld.py) out of the Statement's table words and the real class files: 27 classes; the members and pool entries that the words name. The judged class is class 1, her method 1. -/
namespace start1
open Jvm.ClassFile
def u (s : String) : CpInfo := .utf8 (stringToUtf16 s)
/-- a pool by its gaps: so many unusable entries, then the entry; so many at the end -/
def gap : Nat → List CpInfo → List CpInfo
  | 0, r => r
  | n + 1, r => .unusable :: gap n r
def poolList (es : List (Nat × CpInfo)) (last : Nat) : List CpInfo := es.foldr (fun e r => gap e.1 (e.2 :: r)) (gap last [])
def pool (es : List (Nat × CpInfo)) (last : Nat) : Array CpInfo := ⟨poolList es last⟩
def fileOf (pool : Array CpInfo) (this : Nat) (attrs : Array Attribute := #[]) (ms : Array MethodInfo := #[]) (fl : Nat := 33) (sup : Nat := 0) (ifs : Array Nat := #[]) (fds : Array FieldInfo := #[]) : ClassFile where
  minorVersion := 0
  majorVersion := 65
  constantPool := pool
  accessFlags := fl
  thisClass := this
  superClass := sup
  interfaces := ifs
  fields := fds
  methods := ms
  attributes := attrs
def plain (name : String) (sup : Option ClassId) : Class where
  name := name
  kind := .ordinary
  loader := none
  accessFlags := 33
  super := sup
  interfaces := #[]
  cf := none
  fields := #[]
  methods := #[]
  instanceTypes := #[]
  staticTypes := #[]
  resolved := #[]
  callSites := []
  init := .initialized
  statics := none
  mirror := none

def pool0 : Array CpInfo := pool [(5, u "<init>"), (0, u "()V"), (1, .class_ 10), (1, u "java/lang/Object")] 113

def k0c0 : Code := { maxStack := 0, maxLocals := 1, code := object_method_1_code, exceptionTable := #[], attributes := #[] }
def k0m0 : Method := { name := "<init>", desc := "()V", sig := { parameters := [], returnType := none }, accessFlags := 1, code := some k0c0 }
/-- java/lang/Object -/
def k0 : Class := { plain "java/lang/Object" none with
  accessFlags := 33
  interfaces := #[]
  cf := some (fileOf pool0 8 #[] #[{ accessFlags := 1, nameIndex := 5, descriptorIndex := 6, attributes := #[] }] 33 0 #[] #[])
  fields := #[]
  methods := #[k0m0]
  instanceTypes := #[]
  staticTypes := #[]
  resolved := Array.replicate 124 none
  statics := none }

def pool1 : Array CpInfo := pool [(2, .class_ 4), (1, u "java/lang/Object"), (0, u "<init>"), (0, u "()V"), (0, .methodref 8 9), (0, .class_ 10), (0, .nameAndType 11 12), (0, u "com/example/ermine/ermine/server/DatabaseSettingsToStringPinLaw"), (0, u "four"), (0, u "(I)Ljava/lang/String;"), (0, .methodref 8 14), (0, .nameAndType 15 16), (0, u "expected"), (0, u "(ZIZI)Ljava/lang/String;"), (0, .class_ 18), (0, u "com/example/ermine/ermine/server/DatabaseSettings"), (0, .methodref 17 20), (0, .nameAndType 5 21), (0, u "(Ljava/lang/String;Ljava/lang/String;Ljava/lang/String;)V"), (0, .methodref 17 23), (0, .nameAndType 24 25), (0, u "toString"), (0, u "()Ljava/lang/String;"), (0, .methodref 27 28), (0, .class_ 29), (0, .nameAndType 30 31), (0, u "java/lang/String"), (0, u "equals"), (0, u "(Ljava/lang/Object;)Z"), (0, .methodref 27 33), (0, .nameAndType 5 34), (0, u "([C)V"), (0, .methodref 8 36), (0, .nameAndType 37 38), (0, u "put4"), (0, u "([CIZI)V"), (2, u "law"), (0, u "(IIII)Z")] 3

def k1m0 : Method := { name := "<init>", desc := "()V", sig := { parameters := [], returnType := none }, accessFlags := 2, code := none }
def k1c1 : Code := { maxStack := 5, maxLocals := 13, code := code, exceptionTable := #[], attributes := #[] }
def k1m1 : Method := { name := "law", desc := "(IIII)Z", sig := { parameters := [.int, .int, .int, .int], returnType := some .boolean }, accessFlags := 9, code := some k1c1 }
def k1c2 : Code := { maxStack := 4, maxLocals := 2, code := method_3_code, exceptionTable := #[], attributes := #[] }
def k1m2 : Method := { name := "four", desc := "(I)Ljava/lang/String;", sig := { parameters := [.int], returnType := some (.object "java/lang/String") }, accessFlags := 10, code := some k1c2 }
def k1c3 : Code := { maxStack := 4, maxLocals := 4, code := method_4_code, exceptionTable := #[], attributes := #[] }
def k1m3 : Method := { name := "put4", desc := "([CIZI)V", sig := { parameters := [(.array .char), .int, .boolean, .int], returnType := none }, accessFlags := 10, code := some k1c3 }
def k1c4 : Code := { maxStack := 4, maxLocals := 5, code := method_5_code, exceptionTable := #[], attributes := #[] }
def k1m4 : Method := { name := "expected", desc := "(ZIZI)Ljava/lang/String;", sig := { parameters := [.boolean, .int, .boolean, .int], returnType := some (.object "java/lang/String") }, accessFlags := 10, code := some k1c4 }
/-- com/example/ermine/ermine/server/DatabaseSettingsToStringPinLaw -/
def k1 : Class := { plain "com/example/ermine/ermine/server/DatabaseSettingsToStringPinLaw" (some 0) with
  accessFlags := 49
  interfaces := #[]
  cf := some (fileOf pool1 8 #[] #[{ accessFlags := 2, nameIndex := 5, descriptorIndex := 6, attributes := #[] }, { accessFlags := 9, nameIndex := 41, descriptorIndex := 42, attributes := #[] }, { accessFlags := 10, nameIndex := 11, descriptorIndex := 12, attributes := #[] }, { accessFlags := 10, nameIndex := 37, descriptorIndex := 38, attributes := #[] }, { accessFlags := 10, nameIndex := 15, descriptorIndex := 16, attributes := #[] }] 49 2 #[] #[])
  fields := #[]
  methods := #[k1m0, k1m1, k1m2, k1m3, k1m4]
  instanceTypes := #[]
  staticTypes := #[]
  resolved := Array.replicate 46 none
  statics := none }

def pool2 : Array CpInfo := pool [(1, .class_ 2), (0, u "java/io/Serializable"), (0, .class_ 4), (0, u "java/lang/Object")] 2

/-- java/io/Serializable -/
def k2 : Class := { plain "java/io/Serializable" (some 0) with
  accessFlags := 1537
  interfaces := #[]
  cf := some (fileOf pool2 1 #[] #[] 1537 3 #[] #[])
  fields := #[]
  methods := #[]
  instanceTypes := #[]
  staticTypes := #[]
  resolved := Array.replicate 7 none
  statics := none }

def pool3 : Array CpInfo := pool [(1, .class_ 2), (0, u "java/lang/Comparable"), (0, .class_ 4), (0, u "java/lang/Object")] 7

/-- java/lang/Comparable -/
def k3 : Class := { plain "java/lang/Comparable" (some 0) with
  accessFlags := 1537
  interfaces := #[]
  cf := some (fileOf pool3 1 #[] #[] 1537 3 #[] #[])
  fields := #[]
  methods := #[]
  instanceTypes := #[]
  staticTypes := #[]
  resolved := Array.replicate 12 none
  statics := none }

def pool4 : Array CpInfo := pool [(2, .class_ 4), (1, u "java/lang/CharSequence"), (42, .class_ 48), (0, u "java/lang/CharSequence$1CodePointIterator"), (10, .class_ 60), (0, u "java/lang/CharSequence$1CharIterator"), (5, .class_ 67), (0, u "java/lang/Object")] 63

/-- java/lang/CharSequence -/
def k4 : Class := { plain "java/lang/CharSequence" (some 0) with
  accessFlags := 1537
  interfaces := #[]
  cf := some (fileOf pool4 2 #[.nestMembers #[47, 59]] #[] 1537 66 #[] #[])
  fields := #[]
  methods := #[]
  instanceTypes := #[]
  staticTypes := #[]
  resolved := Array.replicate 131 none
  statics := none }

def pool5 : Array CpInfo := pool [(1, .class_ 2), (0, u "java/lang/constant/Constable"), (0, .class_ 4), (0, u "java/lang/Object")] 6

/-- java/lang/constant/Constable -/
def k5 : Class := { plain "java/lang/constant/Constable" (some 0) with
  accessFlags := 1537
  interfaces := #[]
  cf := some (fileOf pool5 1 #[] #[] 1537 3 #[] #[])
  fields := #[]
  methods := #[]
  instanceTypes := #[]
  staticTypes := #[]
  resolved := Array.replicate 11 none
  statics := none }

def pool6 : Array CpInfo := pool [(1, .class_ 2), (0, u "java/lang/constant/ConstantDesc"), (0, .class_ 4), (0, u "java/lang/Object")] 32

/-- java/lang/constant/ConstantDesc -/
def k6 : Class := { plain "java/lang/constant/ConstantDesc" (some 0) with
  accessFlags := 1537
  interfaces := #[]
  cf := some (fileOf pool6 1 #[] #[] 1537 3 #[] #[])
  fields := #[]
  methods := #[]
  instanceTypes := #[]
  staticTypes := #[]
  resolved := Array.replicate 37 none
  statics := none }

def pool7 : Array CpInfo := pool [(1, .methodref 2 3), (0, .class_ 4), (0, .nameAndType 5 6), (0, u "java/lang/Object"), (0, u "<init>"), (0, u "()V"), (2, .fieldref 10 11), (0, .class_ 12), (0, .nameAndType 13 14), (0, u "java/lang/String"), (0, u "value"), (0, u "[B"), (0, .fieldref 10 16), (0, .nameAndType 17 18), (0, u "coder"), (0, u "B"), (2, u "hash"), (0, u "I"), (2, u "hashIsZero"), (0, u "Z"), (0, .methodref 10 28), (0, .nameAndType 5 29), (0, u "([CIILjava/lang/Void;)V"), (8, .fieldref 10 39), (0, .nameAndType 40 26), (0, u "COMPACT_STRINGS"), (1, .class_ 44), (1, u "java/lang/StringUTF16"), (0, u "compress"), (1, .methodref 42 48), (0, .nameAndType 49 50), (0, u "coderFromArrayLen"), (0, u "([BI)B"), (3, .methodref 55 56), (0, .class_ 57), (0, .nameAndType 58 59), (0, u "java/util/Arrays"), (0, u "copyOfRange"), (0, u "([BII)[B"), (47, .class_ 109), (1, u "java/lang/StringLatin1"), (32, u "()Z"), (34, .methodref 42 178), (0, .nameAndType 45 179), (0, u "([CII)[B"), (13, .class_ 195), (1, u "java/lang/System"), (16, .methodref 193 213), (0, .nameAndType 214 215), (0, u "arraycopy"), (0, u "(Ljava/lang/Object;ILjava/lang/Object;II)V"), (118, u "()I"), (0, .methodref 10 336), (0, .nameAndType 17 337), (0, u "()B"), (2, u "()[B"), (148, .methodref 10 490), (0, .nameAndType 5 491), (0, u "(Ljava/lang/AbstractStringBuilder;Ljava/lang/Void;)V"), (1, .nameAndType 494 142), (0, u "isLatin1"), (11, .nameAndType 507 334), (0, u "length"), (24, u "getBytes"), (8, .methodref 107 542), (0, .nameAndType 543 544), (0, u "equals"), (0, u "([B[B)Z"), (4, .methodref 550 506), (0, .class_ 551), (0, u "java/lang/AbstractStringBuilder"), (0, .methodref 550 553), (0, .nameAndType 554 340), (0, u "getValue"), (18, u "(Ljava/lang/Object;)Z"), (1, .class_ 576), (0, u "java/lang/CharSequence"), (22, u "CASE_INSENSITIVE_ORDER"), (0, u "Ljava/util/Comparator;"), (220, u "([BIB)V"), (188, u "([C)V"), (36, .methodref 550 493), (53, u "serialPersistentFields"), (0, u "[Ljava/io/ObjectStreamField;"), (0, .class_ 1104), (0, u "java/lang/String$CaseInsensitiveComparator"), (1, .class_ 1107), (0, u "java/io/Serializable"), (0, .class_ 1109), (0, u "java/lang/Comparable"), (0, .class_ 1111), (0, u "java/lang/constant/Constable"), (0, .class_ 1113), (0, u "java/lang/constant/ConstantDesc"), (2, u "serialVersionUID"), (0, u "J"), (3, u "REPL"), (0, u "C"), (2, u "LATIN1"), (1, u "UTF16"), (105, u "(Ljava/lang/StringBuilder;)V")] 217

def k7m0 : Method := { name := "<init>", desc := "()V", sig := { parameters := [], returnType := none }, accessFlags := 1, code := none }
def k7c1 : Code := { maxStack := 5, maxLocals := 2, code := jdk_42_method_3_code, exceptionTable := #[], attributes := #[] }
def k7m1 : Method := { name := "<init>", desc := "([C)V", sig := { parameters := [(.array .char)], returnType := none }, accessFlags := 1, code := some k7c1 }
def k7c2 : Code := { maxStack := 3, maxLocals := 2, code := jdk_42_method_53_code, exceptionTable := #[], attributes := #[] }
def k7m2 : Method := { name := "<init>", desc := "(Ljava/lang/StringBuilder;)V", sig := { parameters := [(.object "java/lang/StringBuilder")], returnType := none }, accessFlags := 1, code := some k7c2 }
def k7c3 : Code := { maxStack := 2, maxLocals := 1, code := jdk_42_method_54_code, exceptionTable := #[], attributes := #[] }
def k7m3 : Method := { name := "length", desc := "()I", sig := { parameters := [], returnType := some .int }, accessFlags := 1, code := some k7c3 }
def k7c4 : Code := { maxStack := 2, maxLocals := 3, code := jdk_42_method_66_code, exceptionTable := #[], attributes := #[] }
def k7m4 : Method := { name := "equals", desc := "(Ljava/lang/Object;)Z", sig := { parameters := [(.object "java/lang/Object")], returnType := some .boolean }, accessFlags := 1, code := some k7c4 }
def k7c5 : Code := { maxStack := 5, maxLocals := 4, code := jdk_42_method_147_code, exceptionTable := #[], attributes := #[] }
def k7m5 : Method := { name := "getBytes", desc := "([BIB)V", sig := { parameters := [(.array .byte), .int, .byte], returnType := none }, accessFlags := 0, code := some k7c5 }
def k7c6 : Code := { maxStack := 4, maxLocals := 6, code := jdk_42_method_149_code, exceptionTable := #[], attributes := #[] }
def k7m6 : Method := { name := "<init>", desc := "([CIILjava/lang/Void;)V", sig := { parameters := [(.array .char), .int, .int, (.object "java/lang/Void")], returnType := none }, accessFlags := 2, code := some k7c6 }
def k7c7 : Code := { maxStack := 5, maxLocals := 5, code := jdk_42_method_150_code, exceptionTable := #[], attributes := #[] }
def k7m7 : Method := { name := "<init>", desc := "(Ljava/lang/AbstractStringBuilder;Ljava/lang/Void;)V", sig := { parameters := [(.object "java/lang/AbstractStringBuilder"), (.object "java/lang/Void")], returnType := none }, accessFlags := 0, code := some k7c7 }
def k7c8 : Code := { maxStack := 1, maxLocals := 1, code := jdk_42_method_152_code, exceptionTable := #[], attributes := #[] }
def k7m8 : Method := { name := "coder", desc := "()B", sig := { parameters := [], returnType := some .byte }, accessFlags := 0, code := some k7c8 }
/-- java/lang/String -/
def k7 : Class := { plain "java/lang/String" (some 0) with
  accessFlags := 49
  interfaces := #[2, 3, 4, 5, 6]
  cf := some (fileOf pool7 10 #[.nestMembers #[1103]] #[{ accessFlags := 1, nameIndex := 5, descriptorIndex := 6, attributes := #[] }, { accessFlags := 1, nameIndex := 5, descriptorIndex := 1010, attributes := #[] }, { accessFlags := 1, nameIndex := 5, descriptorIndex := 1233, attributes := #[] }, { accessFlags := 1, nameIndex := 507, descriptorIndex := 334, attributes := #[] }, { accessFlags := 1, nameIndex := 543, descriptorIndex := 573, attributes := #[] }, { accessFlags := 0, nameIndex := 532, descriptorIndex := 821, attributes := #[] }, { accessFlags := 2, nameIndex := 5, descriptorIndex := 29, attributes := #[] }, { accessFlags := 0, nameIndex := 5, descriptorIndex := 491, attributes := #[] }, { accessFlags := 0, nameIndex := 17, descriptorIndex := 337, attributes := #[] }] 49 2 #[1106, 1108, 575, 1110, 1112] #[{ accessFlags := 18, nameIndex := 13, descriptorIndex := 14, attributes := #[] }, { accessFlags := 18, nameIndex := 17, descriptorIndex := 18, attributes := #[] }, { accessFlags := 2, nameIndex := 21, descriptorIndex := 22, attributes := #[] }, { accessFlags := 2, nameIndex := 25, descriptorIndex := 26, attributes := #[] }, { accessFlags := 26, nameIndex := 1116, descriptorIndex := 1117, attributes := #[] }, { accessFlags := 24, nameIndex := 40, descriptorIndex := 26, attributes := #[] }, { accessFlags := 26, nameIndex := 1101, descriptorIndex := 1102, attributes := #[] }, { accessFlags := 26, nameIndex := 1121, descriptorIndex := 1122, attributes := #[] }, { accessFlags := 25, nameIndex := 599, descriptorIndex := 600, attributes := #[] }, { accessFlags := 24, nameIndex := 1125, descriptorIndex := 18, attributes := #[] }, { accessFlags := 24, nameIndex := 1127, descriptorIndex := 18, attributes := #[] }])
  fields := #[{ name := "value", type := (.array .byte), accessFlags := 18, slot := 0, constantValue := 0 }, { name := "coder", type := .byte, accessFlags := 18, slot := 1, constantValue := 0 }, { name := "hash", type := .int, accessFlags := 2, slot := 2, constantValue := 0 }, { name := "hashIsZero", type := .boolean, accessFlags := 2, slot := 3, constantValue := 0 }, { name := "serialVersionUID", type := .long, accessFlags := 26, slot := 0, constantValue := 0 }, { name := "COMPACT_STRINGS", type := .boolean, accessFlags := 24, slot := 1, constantValue := 0 }, { name := "serialPersistentFields", type := (.array (.object "java/io/ObjectStreamField")), accessFlags := 26, slot := 2, constantValue := 0 }, { name := "REPL", type := .char, accessFlags := 26, slot := 3, constantValue := 0 }, { name := "CASE_INSENSITIVE_ORDER", type := (.object "java/util/Comparator"), accessFlags := 25, slot := 4, constantValue := 0 }, { name := "LATIN1", type := .byte, accessFlags := 24, slot := 5, constantValue := 0 }, { name := "UTF16", type := .byte, accessFlags := 24, slot := 6, constantValue := 0 }]
  methods := #[k7m0, k7m1, k7m2, k7m3, k7m4, k7m5, k7m6, k7m7, k7m8]
  instanceTypes := #[(.array .byte), .byte, .int, .boolean]
  staticTypes := #[.long, .boolean, (.array (.object "java/io/ObjectStreamField")), .char, (.object "java/util/Comparator"), .byte, .byte]
  resolved := Array.replicate 1451 none
  statics := some 0 }

def pool8 : Array CpInfo := pool [(6, .class_ 8), (1, u "java/lang/Object"), (0, u "<init>"), (0, u "()V"), (1, .class_ 14), (1, u "java/lang/StringUTF16"), (31, u "$assertionsDisabled"), (0, u "Z"), (13, u "HI_BYTE_SHIFT"), (0, u "I"), (2, u "LO_BYTE_SHIFT"), (49, .methodref 12 116), (0, .nameAndType 117 118), (0, u "compress"), (0, u "([CI[BII)I"), (3, u "([CII)[B"), (138, u "coderFromArrayLen"), (0, u "([BI)B"), (106, .class_ 371), (1, u "java/lang/StringUTF16$LinesSpliterator"), (58, u "MAX_LENGTH"), (196, .class_ 628), (0, u "java/lang/StringUTF16$CodePointsSpliterator"), (0, .class_ 630), (0, u "java/lang/StringUTF16$CharsSpliterator")] 4

def k8m0 : Method := { name := "<init>", desc := "()V", sig := { parameters := [], returnType := none }, accessFlags := 0, code := none }
def k8c1 : Code := { maxStack := 2, maxLocals := 2, code := jdk_52_method_15_code, exceptionTable := #[], attributes := #[] }
def k8m1 : Method := { name := "coderFromArrayLen", desc := "([BI)B", sig := { parameters := [(.array .byte), .int], returnType := some .byte }, accessFlags := 8, code := some k8c1 }
def k8c2 : Code := { maxStack := 5, maxLocals := 6, code := jdk_52_method_16_code, exceptionTable := #[], attributes := #[] }
def k8m2 : Method := { name := "compress", desc := "([CII)[B", sig := { parameters := [(.array .char), .int, .int], returnType := some (.array .byte) }, accessFlags := 9, code := some k8c2 }
def k8c3 : Code := { maxStack := 3, maxLocals := 7, code := jdk_52_method_21_code, exceptionTable := #[], attributes := #[] }
def k8m3 : Method := { name := "compress", desc := "([CI[BII)I", sig := { parameters := [(.array .char), .int, (.array .byte), .int, .int], returnType := some .int }, accessFlags := 9, code := some k8c3 }
/-- java/lang/StringUTF16 -/
def k8 : Class := { plain "java/lang/StringUTF16" (some 0) with
  accessFlags := 48
  interfaces := #[]
  cf := some (fileOf pool8 12 #[.nestMembers #[627, 629, 369]] #[{ accessFlags := 0, nameIndex := 9, descriptorIndex := 10, attributes := #[] }, { accessFlags := 8, nameIndex := 261, descriptorIndex := 262, attributes := #[] }, { accessFlags := 9, nameIndex := 117, descriptorIndex := 122, attributes := #[] }, { accessFlags := 9, nameIndex := 117, descriptorIndex := 118, attributes := #[] }] 48 6 #[] #[{ accessFlags := 26, nameIndex := 61, descriptorIndex := 62, attributes := #[] }, { accessFlags := 26, nameIndex := 65, descriptorIndex := 62, attributes := #[] }, { accessFlags := 24, nameIndex := 430, descriptorIndex := 62, attributes := #[] }, { accessFlags := 4120, nameIndex := 46, descriptorIndex := 47, attributes := #[] }])
  fields := #[{ name := "HI_BYTE_SHIFT", type := .int, accessFlags := 26, slot := 0, constantValue := 0 }, { name := "LO_BYTE_SHIFT", type := .int, accessFlags := 26, slot := 1, constantValue := 0 }, { name := "MAX_LENGTH", type := .int, accessFlags := 24, slot := 2, constantValue := 0 }, { name := "$assertionsDisabled", type := .boolean, accessFlags := 4120, slot := 3, constantValue := 0 }]
  methods := #[k8m0, k8m1, k8m2, k8m3]
  instanceTypes := #[]
  staticTypes := #[.int, .int, .int, .boolean]
  resolved := Array.replicate 635 none
  statics := none }

def pool9 : Array CpInfo := pool [(1, .methodref 2 3), (0, .class_ 4), (0, .nameAndType 5 6), (0, u "java/lang/Object"), (0, u "<init>"), (0, u "()V"), (0, .class_ 8), (0, u "java/lang/Record")] 13

def k9c0 : Code := { maxStack := 1, maxLocals := 1, code := jdk_30_method_1_code, exceptionTable := #[], attributes := #[] }
def k9m0 : Method := { name := "<init>", desc := "()V", sig := { parameters := [], returnType := none }, accessFlags := 4, code := some k9c0 }
/-- java/lang/Record -/
def k9 : Class := { plain "java/lang/Record" (some 0) with
  accessFlags := 1057
  interfaces := #[]
  cf := some (fileOf pool9 7 #[] #[{ accessFlags := 4, nameIndex := 5, descriptorIndex := 6, attributes := #[] }] 1057 2 #[] #[])
  fields := #[]
  methods := #[k9m0]
  instanceTypes := #[]
  staticTypes := #[]
  resolved := Array.replicate 22 none
  statics := none }

def pool10 : Array CpInfo := pool [(1, .methodref 2 3), (0, .class_ 4), (0, .nameAndType 5 6), (0, u "java/lang/Record"), (0, u "<init>"), (0, u "()V"), (0, .fieldref 8 9), (0, .class_ 10), (0, .nameAndType 11 12), (0, u "com/example/ermine/ermine/server/DatabaseSettings"), (0, u "url"), (0, u "Ljava/lang/String;"), (0, .fieldref 8 14), (0, .nameAndType 15 12), (0, u "user"), (0, .fieldref 8 17), (0, .nameAndType 18 12), (0, u "password"), (18, .class_ 38), (0, u "java/lang/StringBuilder"), (0, .methodref 37 3), (2, .methodref 37 43), (0, .nameAndType 44 45), (0, u "append"), (0, u "(Ljava/lang/String;)Ljava/lang/StringBuilder;"), (0, .methodref 37 47), (0, .nameAndType 48 49), (0, u "toString"), (0, u "()Ljava/lang/String;"), (13, u "(Ljava/lang/String;Ljava/lang/String;Ljava/lang/String;)V"), (0, .string 65), (0, u "DatabaseSettings[url="), (0, .string 67), (0, u ", user="), (0, .string 69), (0, u "]"), (8, u "URL"), (1, u "USER"), (0, u "PASSWORD"), (0, u "URL_PREFIX")] 30

def k10c0 : Code := { maxStack := 2, maxLocals := 4, code := prog_33_method_1_code, exceptionTable := #[], attributes := #[] }
def k10m0 : Method := { name := "<init>", desc := "(Ljava/lang/String;Ljava/lang/String;Ljava/lang/String;)V", sig := { parameters := [(.object "java/lang/String"), (.object "java/lang/String"), (.object "java/lang/String")], returnType := none }, accessFlags := 1, code := some k10c0 }
def k10c1 : Code := { maxStack := 2, maxLocals := 1, code := prog_33_method_3_code, exceptionTable := #[], attributes := #[] }
def k10m1 : Method := { name := "toString", desc := "()Ljava/lang/String;", sig := { parameters := [], returnType := some (.object "java/lang/String") }, accessFlags := 1, code := some k10c1 }
/-- com/example/ermine/ermine/server/DatabaseSettings -/
def k10 : Class := { plain "com/example/ermine/ermine/server/DatabaseSettings" (some 9) with
  accessFlags := 49
  interfaces := #[]
  cf := some (fileOf pool10 8 #[] #[{ accessFlags := 1, nameIndex := 5, descriptorIndex := 63, attributes := #[] }, { accessFlags := 1, nameIndex := 48, descriptorIndex := 49, attributes := #[] }] 49 2 #[] #[{ accessFlags := 18, nameIndex := 11, descriptorIndex := 12, attributes := #[] }, { accessFlags := 18, nameIndex := 15, descriptorIndex := 12, attributes := #[] }, { accessFlags := 18, nameIndex := 18, descriptorIndex := 12, attributes := #[] }, { accessFlags := 24, nameIndex := 78, descriptorIndex := 12, attributes := #[] }, { accessFlags := 24, nameIndex := 80, descriptorIndex := 12, attributes := #[] }, { accessFlags := 24, nameIndex := 81, descriptorIndex := 12, attributes := #[] }, { accessFlags := 26, nameIndex := 82, descriptorIndex := 12, attributes := #[] }])
  fields := #[{ name := "url", type := (.object "java/lang/String"), accessFlags := 18, slot := 0, constantValue := 0 }, { name := "user", type := (.object "java/lang/String"), accessFlags := 18, slot := 1, constantValue := 0 }, { name := "password", type := (.object "java/lang/String"), accessFlags := 18, slot := 2, constantValue := 0 }, { name := "URL", type := (.object "java/lang/String"), accessFlags := 24, slot := 0, constantValue := 0 }, { name := "USER", type := (.object "java/lang/String"), accessFlags := 24, slot := 1, constantValue := 0 }, { name := "PASSWORD", type := (.object "java/lang/String"), accessFlags := 24, slot := 2, constantValue := 0 }, { name := "URL_PREFIX", type := (.object "java/lang/String"), accessFlags := 26, slot := 3, constantValue := 0 }]
  methods := #[k10m0, k10m1]
  instanceTypes := #[(.object "java/lang/String"), (.object "java/lang/String"), (.object "java/lang/String")]
  staticTypes := #[(.object "java/lang/String"), (.object "java/lang/String"), (.object "java/lang/String"), (.object "java/lang/String")]
  resolved := Array.replicate 113 none
  statics := none }

def pool11 : Array CpInfo := pool [(1, .class_ 2), (0, u "java/lang/Appendable"), (0, .class_ 4), (0, u "java/lang/Object")] 9

/-- java/lang/Appendable -/
def k11 : Class := { plain "java/lang/Appendable" (some 0) with
  accessFlags := 1537
  interfaces := #[]
  cf := some (fileOf pool11 1 #[] #[] 1537 3 #[] #[])
  fields := #[]
  methods := #[]
  instanceTypes := #[]
  staticTypes := #[]
  resolved := Array.replicate 14 none
  statics := none }

def pool12 : Array CpInfo := pool [(1, .class_ 2), (0, u "java/lang/String"), (0, .methodref 4 5), (0, .class_ 6), (0, .nameAndType 7 8), (0, u "java/lang/Object"), (0, u "<init>"), (0, u "()V"), (1, .class_ 12), (1, u "java/lang/AbstractStringBuilder"), (0, u "EMPTYVALUE"), (0, u "[B"), (0, .fieldref 10 16), (0, .nameAndType 17 14), (0, u "value"), (0, .fieldref 1 19), (0, .nameAndType 20 21), (0, u "COMPACT_STRINGS"), (0, u "Z"), (0, .fieldref 10 23), (0, .nameAndType 24 25), (0, u "coder"), (0, u "B"), (6, .methodref 1 33), (0, .nameAndType 34 35), (0, u "length"), (0, u "()I"), (3, .integer 2147483647), (0, .methodref 1 41), (0, .nameAndType 24 42), (0, u "()B"), (2, u "append"), (0, u "(Ljava/lang/String;)Ljava/lang/AbstractStringBuilder;"), (1, .class_ 49), (0, u "java/lang/CharSequence"), (19, u "(Ljava/lang/String;)V"), (5, u "maybeLatin1"), (3, .fieldref 10 80), (0, .nameAndType 81 82), (0, u "count"), (0, u "I"), (0, .methodref 10 84), (0, .nameAndType 85 86), (0, u "isLatin1"), (0, u "()Z"), (13, .methodref 10 101), (0, .nameAndType 102 103), (0, u "ensureCapacityInternal"), (0, u "(I)V"), (0, .methodref 10 105), (0, .nameAndType 106 107), (0, u "newCapacity"), (0, u "(I)I"), (0, .methodref 109 110), (0, .class_ 111), (0, .nameAndType 112 113), (0, u "java/util/Arrays"), (0, u "copyOf"), (0, u "([BI)[B"), (0, .methodref 115 116), (0, .class_ 117), (0, .nameAndType 118 119), (0, u "jdk/internal/util/ArraysSupport"), (0, u "newLength"), (0, u "(III)I"), (84, .methodref 10 205), (0, .nameAndType 206 207), (0, u "appendNull"), (0, u "()Ljava/lang/AbstractStringBuilder;"), (0, .methodref 10 209), (0, .nameAndType 210 211), (0, u "putStringAt"), (0, u "(ILjava/lang/String;)V"), (5, u "inflateIfNeededFor"), (2, .nameAndType 221 222), (0, u "getBytes"), (0, u "([BIB)V"), (174, .methodref 10 398), (0, .nameAndType 217 69), (0, .methodref 1 220), (3, u "()[B"), (40, .class_ 445), (0, u "java/lang/Appendable"), (106, u "getValue")] 56

def k12m0 : Method := { name := "<init>", desc := "()V", sig := { parameters := [], returnType := none }, accessFlags := 0, code := none }
def k12c1 : Code := { maxStack := 2, maxLocals := 2, code := jdk_68_method_2_code, exceptionTable := #[], attributes := #[] }
def k12m1 : Method := { name := "<init>", desc := "(I)V", sig := { parameters := [.int], returnType := none }, accessFlags := 0, code := some k12c1 }
def k12c2 : Code := { maxStack := 1, maxLocals := 1, code := jdk_68_method_6_code, exceptionTable := #[], attributes := #[] }
def k12m2 : Method := { name := "length", desc := "()I", sig := { parameters := [], returnType := some .int }, accessFlags := 1, code := some k12c2 }
def k12c3 : Code := { maxStack := 4, maxLocals := 3, code := jdk_68_method_9_code, exceptionTable := #[], attributes := #[] }
def k12m3 : Method := { name := "ensureCapacityInternal", desc := "(I)V", sig := { parameters := [.int], returnType := none }, accessFlags := 2, code := some k12c3 }
def k12c4 : Code := { maxStack := 5, maxLocals := 6, code := jdk_68_method_10_code, exceptionTable := #[], attributes := #[] }
def k12m4 : Method := { name := "newCapacity", desc := "(I)I", sig := { parameters := [.int], returnType := some .int }, accessFlags := 2, code := some k12c4 }
def k12c5 : Code := { maxStack := 3, maxLocals := 3, code := jdk_68_method_22_code, exceptionTable := #[], attributes := #[] }
def k12m5 : Method := { name := "append", desc := "(Ljava/lang/String;)Ljava/lang/AbstractStringBuilder;", sig := { parameters := [(.object "java/lang/String")], returnType := some (.object "java/lang/AbstractStringBuilder") }, accessFlags := 1, code := some k12c5 }
def k12c6 : Code := { maxStack := 6, maxLocals := 3, code := jdk_68_method_26_code, exceptionTable := #[], attributes := #[] }
def k12m6 : Method := { name := "appendNull", desc := "()Ljava/lang/AbstractStringBuilder;", sig := { parameters := [], returnType := some (.object "java/lang/AbstractStringBuilder") }, accessFlags := 2, code := some k12c6 }
def k12c7 : Code := { maxStack := 1, maxLocals := 1, code := jdk_68_method_64_code, exceptionTable := #[], attributes := #[] }
def k12m7 : Method := { name := "getValue", desc := "()[B", sig := { parameters := [], returnType := some (.array .byte) }, accessFlags := 16, code := some k12c7 }
def k12c8 : Code := { maxStack := 1, maxLocals := 1, code := jdk_68_method_68_code, exceptionTable := #[], attributes := #[] }
def k12m8 : Method := { name := "isLatin1", desc := "()Z", sig := { parameters := [], returnType := some .boolean }, accessFlags := 16, code := some k12c8 }
def k12c9 : Code := { maxStack := 2, maxLocals := 2, code := jdk_68_method_71_code, exceptionTable := #[], attributes := #[] }
def k12m9 : Method := { name := "inflateIfNeededFor", desc := "(Ljava/lang/String;)V", sig := { parameters := [(.object "java/lang/String")], returnType := none }, accessFlags := 2, code := some k12c9 }
def k12c10 : Code := { maxStack := 4, maxLocals := 3, code := jdk_68_method_73_code, exceptionTable := #[], attributes := #[] }
def k12m10 : Method := { name := "putStringAt", desc := "(ILjava/lang/String;)V", sig := { parameters := [.int, (.object "java/lang/String")], returnType := none }, accessFlags := 2, code := some k12c10 }
/-- java/lang/AbstractStringBuilder -/
def k12 : Class := { plain "java/lang/AbstractStringBuilder" (some 0) with
  accessFlags := 1056
  interfaces := #[11, 4]
  cf := some (fileOf pool12 10 #[] #[{ accessFlags := 0, nameIndex := 7, descriptorIndex := 8, attributes := #[] }, { accessFlags := 0, nameIndex := 7, descriptorIndex := 103, attributes := #[] }, { accessFlags := 1, nameIndex := 34, descriptorIndex := 35, attributes := #[] }, { accessFlags := 2, nameIndex := 102, descriptorIndex := 103, attributes := #[] }, { accessFlags := 2, nameIndex := 106, descriptorIndex := 107, attributes := #[] }, { accessFlags := 1, nameIndex := 45, descriptorIndex := 46, attributes := #[] }, { accessFlags := 2, nameIndex := 206, descriptorIndex := 207, attributes := #[] }, { accessFlags := 16, nameIndex := 552, descriptorIndex := 403, attributes := #[] }, { accessFlags := 16, nameIndex := 85, descriptorIndex := 86, attributes := #[] }, { accessFlags := 2, nameIndex := 217, descriptorIndex := 69, attributes := #[] }, { accessFlags := 2, nameIndex := 210, descriptorIndex := 211, attributes := #[] }] 1056 4 #[444, 48] #[{ accessFlags := 0, nameIndex := 17, descriptorIndex := 14, attributes := #[] }, { accessFlags := 0, nameIndex := 24, descriptorIndex := 25, attributes := #[] }, { accessFlags := 0, nameIndex := 75, descriptorIndex := 21, attributes := #[] }, { accessFlags := 0, nameIndex := 81, descriptorIndex := 82, attributes := #[] }, { accessFlags := 26, nameIndex := 13, descriptorIndex := 14, attributes := #[] }])
  fields := #[{ name := "value", type := (.array .byte), accessFlags := 0, slot := 0, constantValue := 0 }, { name := "coder", type := .byte, accessFlags := 0, slot := 1, constantValue := 0 }, { name := "maybeLatin1", type := .boolean, accessFlags := 0, slot := 2, constantValue := 0 }, { name := "count", type := .int, accessFlags := 0, slot := 3, constantValue := 0 }, { name := "EMPTYVALUE", type := (.array .byte), accessFlags := 26, slot := 0, constantValue := 0 }]
  methods := #[k12m0, k12m1, k12m2, k12m3, k12m4, k12m5, k12m6, k12m7, k12m8, k12m9, k12m10]
  instanceTypes := #[(.array .byte), .byte, .boolean, .int]
  staticTypes := #[(.array .byte)]
  resolved := Array.replicate 609 none
  statics := none }

def pool13 : Array CpInfo := pool [(1, .methodref 2 3), (0, .class_ 4), (0, .nameAndType 5 6), (0, u "java/lang/AbstractStringBuilder"), (0, u "<init>"), (0, u "(I)V"), (11, .class_ 20), (1, u "java/lang/String"), (3, .class_ 26), (1, u "java/lang/StringBuilder"), (0, u "append"), (0, u "(Ljava/lang/String;)Ljava/lang/StringBuilder;"), (0, .methodref 2 30), (0, .nameAndType 27 31), (0, u "(Ljava/lang/String;)Ljava/lang/AbstractStringBuilder;"), (105, .methodref 18 138), (0, .nameAndType 5 139), (0, u "(Ljava/lang/StringBuilder;)V"), (5, u "()V"), (10, u "()I"), (186, .methodref 2 344), (0, .nameAndType 345 156), (0, u "length"), (3, .class_ 350), (0, u "java/lang/Appendable"), (0, .class_ 352), (0, u "java/io/Serializable"), (0, .class_ 354), (0, u "java/lang/Comparable"), (0, .class_ 356), (0, u "java/lang/CharSequence"), (0, u "serialVersionUID"), (0, u "J"), (40, u "toString"), (0, u "()Ljava/lang/String;")] 21

def k13c0 : Code := { maxStack := 2, maxLocals := 1, code := jdk_67_method_1_code, exceptionTable := #[], attributes := #[] }
def k13m0 : Method := { name := "<init>", desc := "()V", sig := { parameters := [], returnType := none }, accessFlags := 1, code := some k13c0 }
def k13c1 : Code := { maxStack := 2, maxLocals := 2, code := jdk_67_method_7_code, exceptionTable := #[], attributes := #[] }
def k13m1 : Method := { name := "append", desc := "(Ljava/lang/String;)Ljava/lang/StringBuilder;", sig := { parameters := [(.object "java/lang/String")], returnType := some (.object "java/lang/StringBuilder") }, accessFlags := 1, code := some k13c1 }
def k13c2 : Code := { maxStack := 3, maxLocals := 1, code := jdk_67_method_42_code, exceptionTable := #[], attributes := #[] }
def k13m2 : Method := { name := "toString", desc := "()Ljava/lang/String;", sig := { parameters := [], returnType := some (.object "java/lang/String") }, accessFlags := 1, code := some k13c2 }
def k13c3 : Code := { maxStack := 1, maxLocals := 1, code := jdk_67_method_93_code, exceptionTable := #[], attributes := #[] }
def k13m3 : Method := { name := "length", desc := "()I", sig := { parameters := [], returnType := some .int }, accessFlags := 4161, code := some k13c3 }
/-- java/lang/StringBuilder -/
def k13 : Class := { plain "java/lang/StringBuilder" (some 12) with
  accessFlags := 49
  interfaces := #[11, 2, 3, 4]
  cf := some (fileOf pool13 24 #[] #[{ accessFlags := 1, nameIndex := 5, descriptorIndex := 145, attributes := #[] }, { accessFlags := 1, nameIndex := 27, descriptorIndex := 28, attributes := #[] }, { accessFlags := 1, nameIndex := 399, descriptorIndex := 400, attributes := #[] }, { accessFlags := 4161, nameIndex := 345, descriptorIndex := 156, attributes := #[] }] 49 2 #[349, 351, 353, 355] #[{ accessFlags := 24, nameIndex := 357, descriptorIndex := 358, attributes := #[] }])
  fields := #[{ name := "serialVersionUID", type := .long, accessFlags := 24, slot := 0, constantValue := 0 }]
  methods := #[k13m0, k13m1, k13m2, k13m3]
  instanceTypes := #[(.array .byte), .byte, .boolean, .int]
  staticTypes := #[.long]
  resolved := Array.replicate 422 none
  statics := none }

def pool14 : Array CpInfo := pool [(9, u "<init>"), (6, .class_ 18), (1, u "java/lang/Object"), (0, u "()V"), (1, .class_ 23), (1, u "jdk/internal/util/ArraysSupport"), (0, u "LOG2_ARRAY_LONG_INDEX_SCALE"), (0, u "I"), (2, u "U"), (0, u "Ljdk/internal/misc/Unsafe;"), (8, u "BIG_ENDIAN"), (0, u "Z"), (8, u "LOG2_BYTE_BIT_SIZE"), (4, u "LOG2_ARRAY_INT_INDEX_SCALE"), (54, u "JLA"), (0, u "Ljdk/internal/access/JavaLangAccess;"), (11, u "LOG2_ARRAY_BOOLEAN_INDEX_SCALE"), (9, u "LOG2_ARRAY_BYTE_INDEX_SCALE"), (5, u "LOG2_ARRAY_CHAR_INDEX_SCALE"), (5, u "LOG2_ARRAY_SHORT_INDEX_SCALE"), (18, u "LOG2_ARRAY_FLOAT_INDEX_SCALE"), (24, u "LOG2_ARRAY_DOUBLE_INDEX_SCALE"), (6, .methodref 195 196), (0, .class_ 197), (0, .nameAndType 198 199), (0, u "java/lang/Math"), (0, u "max"), (0, u "(II)I"), (0, .integer 2147483639), (76, u "T_BOOLEAN"), (2, u "T_CHAR"), (1, u "T_FLOAT"), (1, u "T_DOUBLE"), (1, u "T_BYTE"), (1, u "T_SHORT"), (1, u "T_INT"), (1, u "T_LONG"), (1, u "SOFT_MAX_ARRAY_LENGTH"), (56, u "newLength"), (0, u "(III)I")] 25

def k14m0 : Method := { name := "<init>", desc := "()V", sig := { parameters := [], returnType := none }, accessFlags := 2, code := none }
def k14c1 : Code := { maxStack := 3, maxLocals := 4, code := jdk_48_method_27_code, exceptionTable := #[], attributes := #[] }
def k14m1 : Method := { name := "newLength", desc := "(III)I", sig := { parameters := [.int, .int, .int], returnType := some .int }, accessFlags := 9, code := some k14c1 }
/-- jdk/internal/util/ArraysSupport -/
def k14 : Class := { plain "jdk/internal/util/ArraysSupport" (some 0) with
  accessFlags := 33
  interfaces := #[]
  cf := some (fileOf pool14 21 #[] #[{ accessFlags := 2, nameIndex := 9, descriptorIndex := 19, attributes := #[] }, { accessFlags := 9, nameIndex := 351, descriptorIndex := 352, attributes := #[] }] 33 16 #[] #[{ accessFlags := 24, nameIndex := 28, descriptorIndex := 29, attributes := #[] }, { accessFlags := 26, nameIndex := 38, descriptorIndex := 39, attributes := #[] }, { accessFlags := 25, nameIndex := 121, descriptorIndex := 25, attributes := #[] }, { accessFlags := 25, nameIndex := 131, descriptorIndex := 25, attributes := #[] }, { accessFlags := 25, nameIndex := 137, descriptorIndex := 25, attributes := #[] }, { accessFlags := 25, nameIndex := 143, descriptorIndex := 25, attributes := #[] }, { accessFlags := 25, nameIndex := 53, descriptorIndex := 25, attributes := #[] }, { accessFlags := 25, nameIndex := 24, descriptorIndex := 25, attributes := #[] }, { accessFlags := 25, nameIndex := 162, descriptorIndex := 25, attributes := #[] }, { accessFlags := 25, nameIndex := 187, descriptorIndex := 25, attributes := #[] }, { accessFlags := 26, nameIndex := 48, descriptorIndex := 25, attributes := #[] }, { accessFlags := 25, nameIndex := 277, descriptorIndex := 25, attributes := #[] }, { accessFlags := 25, nameIndex := 280, descriptorIndex := 25, attributes := #[] }, { accessFlags := 25, nameIndex := 282, descriptorIndex := 25, attributes := #[] }, { accessFlags := 25, nameIndex := 284, descriptorIndex := 25, attributes := #[] }, { accessFlags := 25, nameIndex := 286, descriptorIndex := 25, attributes := #[] }, { accessFlags := 25, nameIndex := 288, descriptorIndex := 25, attributes := #[] }, { accessFlags := 25, nameIndex := 290, descriptorIndex := 25, attributes := #[] }, { accessFlags := 25, nameIndex := 292, descriptorIndex := 25, attributes := #[] }, { accessFlags := 26, nameIndex := 108, descriptorIndex := 109, attributes := #[] }, { accessFlags := 25, nameIndex := 294, descriptorIndex := 25, attributes := #[] }])
  fields := #[{ name := "U", type := (.object "jdk/internal/misc/Unsafe"), accessFlags := 24, slot := 0, constantValue := 0 }, { name := "BIG_ENDIAN", type := .boolean, accessFlags := 26, slot := 1, constantValue := 0 }, { name := "LOG2_ARRAY_BOOLEAN_INDEX_SCALE", type := .int, accessFlags := 25, slot := 2, constantValue := 0 }, { name := "LOG2_ARRAY_BYTE_INDEX_SCALE", type := .int, accessFlags := 25, slot := 3, constantValue := 0 }, { name := "LOG2_ARRAY_CHAR_INDEX_SCALE", type := .int, accessFlags := 25, slot := 4, constantValue := 0 }, { name := "LOG2_ARRAY_SHORT_INDEX_SCALE", type := .int, accessFlags := 25, slot := 5, constantValue := 0 }, { name := "LOG2_ARRAY_INT_INDEX_SCALE", type := .int, accessFlags := 25, slot := 6, constantValue := 0 }, { name := "LOG2_ARRAY_LONG_INDEX_SCALE", type := .int, accessFlags := 25, slot := 7, constantValue := 0 }, { name := "LOG2_ARRAY_FLOAT_INDEX_SCALE", type := .int, accessFlags := 25, slot := 8, constantValue := 0 }, { name := "LOG2_ARRAY_DOUBLE_INDEX_SCALE", type := .int, accessFlags := 25, slot := 9, constantValue := 0 }, { name := "LOG2_BYTE_BIT_SIZE", type := .int, accessFlags := 26, slot := 10, constantValue := 0 }, { name := "T_BOOLEAN", type := .int, accessFlags := 25, slot := 11, constantValue := 0 }, { name := "T_CHAR", type := .int, accessFlags := 25, slot := 12, constantValue := 0 }, { name := "T_FLOAT", type := .int, accessFlags := 25, slot := 13, constantValue := 0 }, { name := "T_DOUBLE", type := .int, accessFlags := 25, slot := 14, constantValue := 0 }, { name := "T_BYTE", type := .int, accessFlags := 25, slot := 15, constantValue := 0 }, { name := "T_SHORT", type := .int, accessFlags := 25, slot := 16, constantValue := 0 }, { name := "T_INT", type := .int, accessFlags := 25, slot := 17, constantValue := 0 }, { name := "T_LONG", type := .int, accessFlags := 25, slot := 18, constantValue := 0 }, { name := "JLA", type := (.object "jdk/internal/access/JavaLangAccess"), accessFlags := 26, slot := 19, constantValue := 0 }, { name := "SOFT_MAX_ARRAY_LENGTH", type := .int, accessFlags := 25, slot := 20, constantValue := 0 }]
  methods := #[k14m0, k14m1]
  instanceTypes := #[]
  staticTypes := #[(.object "jdk/internal/misc/Unsafe"), .boolean, .int, .int, .int, .int, .int, .int, .int, .int, .int, .int, .int, .int, .int, .int, .int, .int, .int, (.object "jdk/internal/access/JavaLangAccess"), .int]
  resolved := Array.replicate 378 none
  statics := none }

def pool15 : Array CpInfo := pool [(1, .class_ 2), (0, u "java/lang/Math"), (1, .class_ 6), (1, u "java/lang/Object"), (0, u "<init>"), (0, u "()V"), (89, .class_ 100), (1, u "java/lang/Math$RandomNumberGeneratorHolder"), (71, u "negativeZeroFloatBits"), (0, u "J"), (2, u "negativeZeroDoubleBits"), (21, u "max"), (2, u "min"), (43, u "$assertionsDisabled"), (0, u "Z"), (88, u "(II)I"), (2, u "twoToTheDoubleScaleDown"), (0, u "D"), (4, u "twoToTheDoubleScaleUp"), (9, u "E"), (3, u "PI"), (2, u "TAU"), (2, u "DEGREES_TO_RADIANS"), (0, u "RADIANS_TO_DEGREES")] 94

def k15m0 : Method := { name := "<init>", desc := "()V", sig := { parameters := [], returnType := none }, accessFlags := 2, code := none }
def k15c1 : Code := { maxStack := 2, maxLocals := 2, code := jdk_29_method_65_code, exceptionTable := #[], attributes := #[] }
def k15m1 : Method := { name := "max", desc := "(II)I", sig := { parameters := [.int, .int], returnType := some .int }, accessFlags := 9, code := some k15c1 }
def k15c2 : Code := { maxStack := 2, maxLocals := 2, code := jdk_29_method_69_code, exceptionTable := #[], attributes := #[] }
def k15m2 : Method := { name := "min", desc := "(II)I", sig := { parameters := [.int, .int], returnType := some .int }, accessFlags := 9, code := some k15c2 }
/-- java/lang/Math -/
def k15 : Class := { plain "java/lang/Math" (some 0) with
  accessFlags := 49
  interfaces := #[]
  cf := some (fileOf pool15 1 #[.nestMembers #[98]] #[{ accessFlags := 2, nameIndex := 7, descriptorIndex := 8, attributes := #[] }, { accessFlags := 9, nameIndex := 198, descriptorIndex := 335, attributes := #[] }, { accessFlags := 9, nameIndex := 201, descriptorIndex := 335, attributes := #[] }] 49 4 #[] #[{ accessFlags := 25, nameIndex := 354, descriptorIndex := 339, attributes := #[] }, { accessFlags := 25, nameIndex := 358, descriptorIndex := 339, attributes := #[] }, { accessFlags := 25, nameIndex := 361, descriptorIndex := 339, attributes := #[] }, { accessFlags := 26, nameIndex := 364, descriptorIndex := 339, attributes := #[] }, { accessFlags := 26, nameIndex := 365, descriptorIndex := 339, attributes := #[] }, { accessFlags := 26, nameIndex := 172, descriptorIndex := 173, attributes := #[] }, { accessFlags := 26, nameIndex := 176, descriptorIndex := 173, attributes := #[] }, { accessFlags := 8, nameIndex := 344, descriptorIndex := 339, attributes := #[] }, { accessFlags := 8, nameIndex := 338, descriptorIndex := 339, attributes := #[] }, { accessFlags := 4120, nameIndex := 245, descriptorIndex := 246, attributes := #[] }])
  fields := #[{ name := "E", type := .double, accessFlags := 25, slot := 0, constantValue := 0 }, { name := "PI", type := .double, accessFlags := 25, slot := 1, constantValue := 0 }, { name := "TAU", type := .double, accessFlags := 25, slot := 2, constantValue := 0 }, { name := "DEGREES_TO_RADIANS", type := .double, accessFlags := 26, slot := 3, constantValue := 0 }, { name := "RADIANS_TO_DEGREES", type := .double, accessFlags := 26, slot := 4, constantValue := 0 }, { name := "negativeZeroFloatBits", type := .long, accessFlags := 26, slot := 5, constantValue := 0 }, { name := "negativeZeroDoubleBits", type := .long, accessFlags := 26, slot := 6, constantValue := 0 }, { name := "twoToTheDoubleScaleUp", type := .double, accessFlags := 8, slot := 7, constantValue := 0 }, { name := "twoToTheDoubleScaleDown", type := .double, accessFlags := 8, slot := 8, constantValue := 0 }, { name := "$assertionsDisabled", type := .boolean, accessFlags := 4120, slot := 9, constantValue := 0 }]
  methods := #[k15m0, k15m1, k15m2]
  instanceTypes := #[]
  staticTypes := #[.double, .double, .double, .double, .double, .long, .long, .double, .double, .boolean]
  resolved := Array.replicate 460 none
  statics := none }

def pool16 : Array CpInfo := pool [(2, .class_ 4), (1, u "java/lang/Object"), (0, u "<init>"), (0, u "()V"), (7, .class_ 16), (1, u "java/util/Arrays"), (57, .class_ 76), (1, u "java/util/Arrays$NaturalOrder"), (36, .class_ 115), (1, u "java/util/Arrays$LegacyMergeSort"), (1, u "Z"), (21, u "copyOfRange"), (10, .methodref 151 152), (0, .class_ 153), (0, .nameAndType 154 155), (0, u "java/lang/System"), (0, u "arraycopy"), (0, u "(Ljava/lang/Object;ILjava/lang/Object;II)V"), (146, u "copyOf"), (1, .methodref 305 306), (0, .class_ 307), (0, .nameAndType 308 309), (0, u "java/lang/Math"), (0, u "min"), (0, u "(II)I"), (29, .methodref 14 340), (0, .nameAndType 341 342), (0, u "copyOfRangeByte"), (0, u "([BII)[B"), (0, .methodref 14 344), (0, .nameAndType 345 346), (0, u "checkLength"), (0, u "(II)V"), (28, .class_ 376), (0, u "java/util/Arrays$ArrayList"), (68, u "$assertionsDisabled"), (269, u "MIN_ARRAY_SORT_GRAN"), (0, u "I"), (2, u "INSERTIONSORT_THRESHOLD"), (149, u "([BI)[B"), (105, .class_ 976), (0, u "java/util/Arrays$ArrayItr")] 52

def k16m0 : Method := { name := "<init>", desc := "()V", sig := { parameters := [], returnType := none }, accessFlags := 2, code := none }
def k16c1 : Code := { maxStack := 6, maxLocals := 3, code := jdk_65_method_121_code, exceptionTable := #[], attributes := #[] }
def k16m1 : Method := { name := "copyOf", desc := "([BI)[B", sig := { parameters := [(.array .byte), .int], returnType := some (.array .byte) }, accessFlags := 9, code := some k16c1 }
def k16c2 : Code := { maxStack := 4, maxLocals := 2, code := jdk_65_method_131_code, exceptionTable := #[], attributes := #[] }
def k16m2 : Method := { name := "checkLength", desc := "(II)V", sig := { parameters := [.int, .int], returnType := none }, accessFlags := 10, code := some k16c2 }
def k16c3 : Code := { maxStack := 3, maxLocals := 3, code := jdk_65_method_132_code, exceptionTable := #[], attributes := #[] }
def k16m3 : Method := { name := "copyOfRange", desc := "([BII)[B", sig := { parameters := [(.array .byte), .int, .int], returnType := some (.array .byte) }, accessFlags := 9, code := some k16c3 }
def k16c4 : Code := { maxStack := 6, maxLocals := 5, code := jdk_65_method_133_code, exceptionTable := #[], attributes := #[] }
def k16m4 : Method := { name := "copyOfRangeByte", desc := "([BII)[B", sig := { parameters := [(.array .byte), .int, .int], returnType := some (.array .byte) }, accessFlags := 10, code := some k16c4 }
/-- java/util/Arrays -/
def k16 : Class := { plain "java/util/Arrays" (some 0) with
  accessFlags := 49
  interfaces := #[]
  cf := some (fileOf pool16 14 #[.nestMembers #[975, 375, 113, 74]] #[{ accessFlags := 2, nameIndex := 5, descriptorIndex := 6, attributes := #[] }, { accessFlags := 9, nameIndex := 302, descriptorIndex := 869, attributes := #[] }, { accessFlags := 10, nameIndex := 345, descriptorIndex := 346, attributes := #[] }, { accessFlags := 9, nameIndex := 139, descriptorIndex := 342, attributes := #[] }, { accessFlags := 10, nameIndex := 341, descriptorIndex := 342, attributes := #[] }] 49 2 #[] #[{ accessFlags := 26, nameIndex := 715, descriptorIndex := 716, attributes := #[] }, { accessFlags := 26, nameIndex := 719, descriptorIndex := 716, attributes := #[] }, { accessFlags := 4120, nameIndex := 445, descriptorIndex := 117, attributes := #[] }])
  fields := #[{ name := "MIN_ARRAY_SORT_GRAN", type := .int, accessFlags := 26, slot := 0, constantValue := 0 }, { name := "INSERTIONSORT_THRESHOLD", type := .int, accessFlags := 26, slot := 1, constantValue := 0 }, { name := "$assertionsDisabled", type := .boolean, accessFlags := 4120, slot := 2, constantValue := 0 }]
  methods := #[k16m0, k16m1, k16m2, k16m3, k16m4]
  instanceTypes := #[]
  staticTypes := #[.int, .int, .boolean]
  resolved := Array.replicate 1029 none
  statics := none }

def pool17 : Array CpInfo := pool [(2, .class_ 4), (1, u "java/lang/Object"), (0, u "<init>"), (0, u "()V"), (1, .class_ 10), (1, u "java/lang/System"), (0, u "allowSecurityManager"), (0, u "I"), (16, u "cons"), (0, u "Ljava/io/Console;"), (77, .class_ 110), (1, u "java/lang/System$CallersHolder"), (43, u "initialErrStream"), (0, u "Ljava/io/PrintStream;"), (19, u "security"), (0, u "Ljava/lang/SecurityManager;"), (31, .class_ 209), (0, u "java/lang/System$1"), (7, u "props"), (0, u "Ljava/util/Properties;"), (2, u "lineSeparator"), (0, u "Ljava/lang/String;"), (96, .class_ 321), (1, u "java/lang/System$LoggerFinder"), (5, .class_ 328), (0, u "java/lang/System$Logger"), (67, u "err"), (2, u "out"), (91, u "notSupportedJnuEncoding"), (15, u "in"), (17, u "initialIn"), (0, u "Ljava/io/InputStream;"), (35, u "bootLayer"), (0, u "Ljava/lang/ModuleLayer;"), (99, .class_ 664), (0, u "java/lang/System$2"), (9, u "NEVER"), (2, u "MAYBE"), (49, u "arraycopy"), (0, u "(Ljava/lang/Object;ILjava/lang/Object;II)V"), (72, .class_ 802), (0, u "java/lang/System$Logger$Level")] 31

def k17m0 : Method := { name := "<init>", desc := "()V", sig := { parameters := [], returnType := none }, accessFlags := 2, code := none }
def k17m1 : Method := { name := "arraycopy", desc := "(Ljava/lang/Object;ILjava/lang/Object;II)V", sig := { parameters := [(.object "java/lang/Object"), .int, (.object "java/lang/Object"), .int, .int], returnType := none }, accessFlags := 265, code := none }
/-- java/lang/System -/
def k17 : Class := { plain "java/lang/System" (some 0) with
  accessFlags := 49
  interfaces := #[]
  cf := some (fileOf pool17 8 #[.nestMembers #[319, 327, 801, 108, 663, 208]] #[{ accessFlags := 2, nameIndex := 5, descriptorIndex := 6, attributes := #[] }, { accessFlags := 265, nameIndex := 727, descriptorIndex := 728, attributes := #[] }] 49 2 #[] #[{ accessFlags := 25, nameIndex := 507, descriptorIndex := 526, attributes := #[] }, { accessFlags := 25, nameIndex := 399, descriptorIndex := 155, attributes := #[] }, { accessFlags := 25, nameIndex := 396, descriptorIndex := 155, attributes := #[] }, { accessFlags := 10, nameIndex := 525, descriptorIndex := 526, attributes := #[] }, { accessFlags := 26, nameIndex := 674, descriptorIndex := 12, attributes := #[] }, { accessFlags := 26, nameIndex := 677, descriptorIndex := 12, attributes := #[] }, { accessFlags := 10, nameIndex := 11, descriptorIndex := 12, attributes := #[] }, { accessFlags := 74, nameIndex := 175, descriptorIndex := 176, attributes := #[] }, { accessFlags := 10, nameIndex := 491, descriptorIndex := 222, attributes := #[] }, { accessFlags := 74, nameIndex := 29, descriptorIndex := 30, attributes := #[] }, { accessFlags := 74, nameIndex := 154, descriptorIndex := 155, attributes := #[] }, { accessFlags := 10, nameIndex := 217, descriptorIndex := 218, attributes := #[] }, { accessFlags := 10, nameIndex := 221, descriptorIndex := 222, attributes := #[] }, { accessFlags := 8, nameIndex := 562, descriptorIndex := 563, attributes := #[] }])
  fields := #[{ name := "in", type := (.object "java/io/InputStream"), accessFlags := 25, slot := 0, constantValue := 0 }, { name := "out", type := (.object "java/io/PrintStream"), accessFlags := 25, slot := 1, constantValue := 0 }, { name := "err", type := (.object "java/io/PrintStream"), accessFlags := 25, slot := 2, constantValue := 0 }, { name := "initialIn", type := (.object "java/io/InputStream"), accessFlags := 10, slot := 3, constantValue := 0 }, { name := "NEVER", type := .int, accessFlags := 26, slot := 4, constantValue := 0 }, { name := "MAYBE", type := .int, accessFlags := 26, slot := 5, constantValue := 0 }, { name := "allowSecurityManager", type := .int, accessFlags := 10, slot := 6, constantValue := 0 }, { name := "security", type := (.object "java/lang/SecurityManager"), accessFlags := 74, slot := 7, constantValue := 0 }, { name := "notSupportedJnuEncoding", type := (.object "java/lang/String"), accessFlags := 10, slot := 8, constantValue := 0 }, { name := "cons", type := (.object "java/io/Console"), accessFlags := 74, slot := 9, constantValue := 0 }, { name := "initialErrStream", type := (.object "java/io/PrintStream"), accessFlags := 74, slot := 10, constantValue := 0 }, { name := "props", type := (.object "java/util/Properties"), accessFlags := 10, slot := 11, constantValue := 0 }, { name := "lineSeparator", type := (.object "java/lang/String"), accessFlags := 10, slot := 12, constantValue := 0 }, { name := "bootLayer", type := (.object "java/lang/ModuleLayer"), accessFlags := 8, slot := 13, constantValue := 0 }]
  methods := #[k17m0, k17m1]
  instanceTypes := #[]
  staticTypes := #[(.object "java/io/InputStream"), (.object "java/io/PrintStream"), (.object "java/io/PrintStream"), (.object "java/io/InputStream"), .int, .int, .int, (.object "java/lang/SecurityManager"), (.object "java/lang/String"), (.object "java/io/Console"), (.object "java/io/PrintStream"), (.object "java/util/Properties"), (.object "java/lang/String"), (.object "java/lang/ModuleLayer")]
  resolved := Array.replicate 834 none
  statics := none }

def pool18 : Array CpInfo := pool [(4, .class_ 6), (1, u "java/lang/Object"), (0, u "<init>"), (0, u "()V"), (5, .class_ 16), (1, u "java/lang/StringLatin1"), (104, u "$assertionsDisabled"), (0, u "Z"), (98, .class_ 223), (1, u "java/lang/StringLatin1$LinesSpliterator"), (57, u "equals"), (0, u "([B[B)Z"), (107, .class_ 391), (0, u "java/lang/StringLatin1$CharsSpliterator")] 3

def k18m0 : Method := { name := "<init>", desc := "()V", sig := { parameters := [], returnType := none }, accessFlags := 0, code := none }
def k18c1 : Code := { maxStack := 3, maxLocals := 3, code := jdk_43_method_13_code, exceptionTable := #[], attributes := #[] }
def k18m1 : Method := { name := "equals", desc := "([B[B)Z", sig := { parameters := [(.array .byte), (.array .byte)], returnType := some .boolean }, accessFlags := 9, code := some k18c1 }
/-- java/lang/StringLatin1 -/
def k18 : Class := { plain "java/lang/StringLatin1" (some 0) with
  accessFlags := 48
  interfaces := #[]
  cf := some (fileOf pool18 14 #[.nestMembers #[390, 221]] #[{ accessFlags := 0, nameIndex := 7, descriptorIndex := 8, attributes := #[] }, { accessFlags := 9, nameIndex := 281, descriptorIndex := 282, attributes := #[] }] 48 4 #[] #[{ accessFlags := 4120, nameIndex := 121, descriptorIndex := 122, attributes := #[] }])
  fields := #[{ name := "$assertionsDisabled", type := .boolean, accessFlags := 4120, slot := 0, constantValue := 0 }]
  methods := #[k18m0, k18m1]
  instanceTypes := #[]
  staticTypes := #[.boolean]
  resolved := Array.replicate 395 none
  statics := none }

def pool19 : Array CpInfo := pool [(2, .class_ 4), (1, u "java/lang/Object"), (0, u "<init>"), (0, u "()V"), (17, .class_ 26), (1, u "jdk/internal/util/Preconditions"), (28, .class_ 56), (0, u "jdk/internal/util/Preconditions$4"), (57, .class_ 115), (0, u "jdk/internal/util/Preconditions$1"), (7, u "SIOOBE_FORMATTER"), (0, u "Ljava/util/function/BiFunction;"), (0, .class_ 126), (0, u "jdk/internal/util/Preconditions$2"), (3, u "AIOOBE_FORMATTER"), (0, .class_ 132), (0, u "jdk/internal/util/Preconditions$3"), (3, u "IOOBE_FORMATTER")] 57

def k19m0 : Method := { name := "<init>", desc := "()V", sig := { parameters := [], returnType := none }, accessFlags := 1, code := none }
/-- jdk/internal/util/Preconditions -/
def k19 : Class := { plain "jdk/internal/util/Preconditions" (some 0) with
  accessFlags := 33
  interfaces := #[]
  cf := some (fileOf pool19 24 #[.nestMembers #[55, 131, 125, 114]] #[{ accessFlags := 1, nameIndex := 5, descriptorIndex := 6, attributes := #[] }] 33 2 #[] #[{ accessFlags := 25, nameIndex := 123, descriptorIndex := 124, attributes := #[] }, { accessFlags := 25, nameIndex := 130, descriptorIndex := 124, attributes := #[] }, { accessFlags := 25, nameIndex := 136, descriptorIndex := 124, attributes := #[] }])
  fields := #[{ name := "SIOOBE_FORMATTER", type := (.object "java/util/function/BiFunction"), accessFlags := 25, slot := 0, constantValue := 0 }, { name := "AIOOBE_FORMATTER", type := (.object "java/util/function/BiFunction"), accessFlags := 25, slot := 1, constantValue := 0 }, { name := "IOOBE_FORMATTER", type := (.object "java/util/function/BiFunction"), accessFlags := 25, slot := 2, constantValue := 0 }]
  methods := #[k19m0]
  instanceTypes := #[]
  staticTypes := #[(.object "java/util/function/BiFunction"), (.object "java/util/function/BiFunction"), (.object "java/util/function/BiFunction")]
  resolved := Array.replicate 194 none
  statics := some 1 }

def pool20 : Array CpInfo := pool [(1, u "java/lang/Cloneable"), (0, .class_ 1), (0, u "java/lang/Object"), (0, .class_ 3)] 3

/-- java/lang/Cloneable -/
def k20 : Class := { plain "java/lang/Cloneable" (some 0) with
  accessFlags := 1537
  interfaces := #[]
  cf := some (fileOf pool20 2 #[] #[] 1537 4 #[] #[])
  fields := #[]
  methods := #[]
  instanceTypes := #[]
  staticTypes := #[]
  resolved := Array.replicate 8 none
  statics := none }

/-- the primitive byte -/
def k21 : Class := { plain "byte" none with kind := .primitive 'B', accessFlags := 0x411 }
/-- [B -/
def k22 : Class := { plain "[B" (some 0) with kind := .array 21 .byte, interfaces := #[20, 2], accessFlags := 1041 }

/-- the primitive char -/
def k23 : Class := { plain "char" none with kind := .primitive 'C', accessFlags := 0x411 }
/-- [C -/
def k24 : Class := { plain "[C" (some 0) with kind := .array 23 .char, interfaces := #[20, 2], accessFlags := 1041 }

/-- the primitive int -/
def k25 : Class := { plain "int" none with kind := .primitive 'I', accessFlags := 0x411 }
/-- [I -/
def k26 : Class := { plain "[I" (some 0) with kind := .array 25 .int, interfaces := #[20, 2], accessFlags := 1041 }

def heap : Heap := #[{ cls := 7, slots := #[.long 0, .int 1, .null, .int 0, .null, .int 0, .int 0], vm := .statics 7 },
  { cls := 19, slots := #[.null, .null, .null], vm := .statics 19 }]
def classes : Array Class := #[k0, k1, k2, k3, k4, k5, k6, k7, k8, k9, k10, k11, k12, k13, k14, k15, k16, k17, k18, k19, k20, k21, k22, k23, k24, k25, k26]
def interned : List (Array UInt16 × Addr) := []
def slotsUsed : Nat := 10
def theMethod : MethodId := ⟨1, 1⟩
def args0 : Array Value := #[.int 5, .int 5, .int 5, .int 5]
def aboutOver (below : List Frame) : State where
  vm := { classes := classes, interned := interned.toArray }
  heap := heap
  slotsUsed := slotsUsed
  threads := #[{ frames := .invoking theMethod args0 :: below }]
def below0 : List Frame := [.native { method := ⟨0, 0⟩, args := #[] }]
def about1 : State := aboutOver below0
def p0 : Program := .bare "" "" ""
def e0 : Env := launch0.env 0 0 0
theorem w_frames : about1.frames = Frame.invoking theMethod args0 :: below0 := rfl
set_option maxRecDepth 65536 in
theorem w_args : argsFit about1.vm theMethod args0 = true := by decide +kernel
set_option maxRecDepth 65536 in
theorem w_heap : heapFits about1 = true := by decide +kernel
set_option maxRecDepth 65536 in
theorem w_runnable : about1.curStatus? = some .runnable := by decide +kernel
set_option maxRecDepth 65536 in
theorem w_alone : about1.alone = true := by decide +kernel
set_option maxRecDepth 65536 in
theorem w_named : about1.methodNamed? x = some theMethod := by decide +kernel
set_option maxRecDepth 65536 in
theorem w_hears : about1.hears theMethod below0 = true := by decide +kernel
set_option maxRecDepth 65536 in
theorem w_ripe : about1.ripe theMethod args0 below0 = true := by decide +kernel
theorem w_running : about1.status = .running := rfl
set_option maxRecDepth 65536 in
theorem w_room : about1.hasRoom e0.platform room_1 = true :=
  launch0.hasRoom_least _ room_1 (by decide +kernel) (by decide +kernel) (by decide +kernel) (by decide +kernel) (by decide +kernel) (by decide +kernel)
theorem allAtoms_all (ts : List Jvm.Cond) (a : Array Jvm.Value) (st : Jvm.State) : (allAtoms ts).before a st = ts.all (fun c => c.before a st) := by
  induction ts with
  | nil => rfl
  | cons c t ih =>
    show (Jvm.Cond.and c (allAtoms t)).before a st = _
    rw [Jvm.Cond.before_and, ih, List.all_cons]
def words1 : List Jvm.Cond := Jvm.Cond.code x code maxLocals ret :: tables_1
/-- a 'code' word, met by the world's own term for the bytes: nothing is compared byte by byte -/
theorem code_word {y : MethodName} {bytes : ByteArray} {mx : Nat} {rt : Option FieldType} {a : Array Value} {s : State} {m : MethodId} {meth : Method} {c : Code} (h1 : s.methodNamed? y = some m) (h2 : s.vm.method? m = some meth) (h3 : meth.code = some c) (h4 : c.code = bytes)
    (h5 : (c.maxLocals == mx && c.exceptionTable.isEmpty && decide (c.maxStack ≤ mostOperands) && decide (meth.sig.returnType = rt) && !meth.locks && decide (parseMethodDescriptor y.desc = some meth.sig)) = true) : (Jvm.Cond.code y bytes mx rt).before a s = true := by
  simp only [Bool.and_eq_true, beq_iff_eq, Bool.not_eq_true', decide_eq_true_eq] at h5
  obtain ⟨⟨⟨⟨⟨g1, g2⟩, g3⟩, g4⟩, g5⟩, g6⟩ := h5
  simp [Cond.before, Cond.holds, Cond.value, h1, h2, h3, h4, g1, g2, g3, g4, g5, g6]
def isCode : Jvm.Cond → Bool
  | .code _ _ _ _ => true
  | _ => false
theorem all_split {L : List Jvm.Cond} {P : Jvm.Cond → Bool} (h1 : L.all (fun c => isCode c || P c) = true) (h2 : ∀ c ∈ L.filter isCode, P c = true) : L.all P = true := by
  refine List.all_eq_true.mpr fun c hc => ?_
  have h := List.all_eq_true.mp h1 c hc
  rcases Bool.eq_false_or_eq_true (isCode c) with hi | hi
  · exact h2 c (List.mem_filter.mpr ⟨hc, hi⟩)
  · simpa [hi] using h
set_option maxRecDepth 65536 in
theorem w_c0 : (Jvm.Cond.code x code maxLocals ret).before args0 about1 = true := code_word (m := ⟨1, 1⟩) (meth := k1m1) (c := k1c1) (by decide +kernel) rfl rfl rfl (by decide +kernel)
set_option maxRecDepth 65536 in
theorem w_c1 : (Jvm.Cond.code ({ cls := "com/example/ermine/ermine/server/DatabaseSettingsToStringPinLaw", name := "four", desc := "(I)Ljava/lang/String;" } : Jvm.MethodName) method_3_code (2 : Nat) (Option.some (Jvm.ClassFile.FieldType.object "java/lang/String"))).before args0 about1 = true := code_word (m := ⟨1, 2⟩) (meth := k1m2) (c := k1c2) (by decide +kernel) rfl rfl rfl (by decide +kernel)
set_option maxRecDepth 65536 in
theorem w_c2 : (Jvm.Cond.code ({ cls := "java/lang/String", name := "<init>", desc := "([C)V" } : Jvm.MethodName) jdk_42_method_3_code (2 : Nat) (Option.none : Option Jvm.ClassFile.FieldType)).before args0 about1 = true := code_word (m := ⟨7, 1⟩) (meth := k7m1) (c := k7c1) (by decide +kernel) rfl rfl rfl (by decide +kernel)
set_option maxRecDepth 65536 in
theorem w_c3 : (Jvm.Cond.code ({ cls := "java/lang/String", name := "<init>", desc := "([CIILjava/lang/Void;)V" } : Jvm.MethodName) jdk_42_method_149_code (6 : Nat) (Option.none : Option Jvm.ClassFile.FieldType)).before args0 about1 = true := code_word (m := ⟨7, 6⟩) (meth := k7m6) (c := k7c6) (by decide +kernel) rfl rfl rfl (by decide +kernel)
set_option maxRecDepth 65536 in
theorem w_c4 : (Jvm.Cond.code ({ cls := "java/lang/Object", name := "<init>", desc := "()V" } : Jvm.MethodName) object_method_1_code (1 : Nat) (Option.none : Option Jvm.ClassFile.FieldType)).before args0 about1 = true := code_word (m := ⟨0, 0⟩) (meth := k0m0) (c := k0c0) (by decide +kernel) rfl rfl rfl (by decide +kernel)
set_option maxRecDepth 65536 in
theorem w_c5 : (Jvm.Cond.code ({ cls := "java/lang/StringUTF16", name := "compress", desc := "([CII)[B" } : Jvm.MethodName) jdk_52_method_16_code (6 : Nat) (Option.some (Jvm.ClassFile.FieldType.array Jvm.ClassFile.FieldType.byte))).before args0 about1 = true := code_word (m := ⟨8, 2⟩) (meth := k8m2) (c := k8c2) (by decide +kernel) rfl rfl rfl (by decide +kernel)
set_option maxRecDepth 65536 in
theorem w_c6 : (Jvm.Cond.code ({ cls := "java/lang/StringUTF16", name := "compress", desc := "([CI[BII)I" } : Jvm.MethodName) jdk_52_method_21_code (7 : Nat) (Option.some Jvm.ClassFile.FieldType.int)).before args0 about1 = true := code_word (m := ⟨8, 3⟩) (meth := k8m3) (c := k8c3) (by decide +kernel) rfl rfl rfl (by decide +kernel)
set_option maxRecDepth 65536 in
theorem w_c7 : (Jvm.Cond.code ({ cls := "java/lang/StringUTF16", name := "coderFromArrayLen", desc := "([BI)B" } : Jvm.MethodName) jdk_52_method_15_code (2 : Nat) (Option.some Jvm.ClassFile.FieldType.byte)).before args0 about1 = true := code_word (m := ⟨8, 1⟩) (meth := k8m1) (c := k8c1) (by decide +kernel) rfl rfl rfl (by decide +kernel)
set_option maxRecDepth 65536 in
theorem w_c8 : (Jvm.Cond.code ({ cls := "com/example/ermine/ermine/server/DatabaseSettingsToStringPinLaw", name := "expected", desc := "(ZIZI)Ljava/lang/String;" } : Jvm.MethodName) method_5_code (5 : Nat) (Option.some (Jvm.ClassFile.FieldType.object "java/lang/String"))).before args0 about1 = true := code_word (m := ⟨1, 4⟩) (meth := k1m4) (c := k1c4) (by decide +kernel) rfl rfl rfl (by decide +kernel)
set_option maxRecDepth 65536 in
theorem w_c9 : (Jvm.Cond.code ({ cls := "com/example/ermine/ermine/server/DatabaseSettingsToStringPinLaw", name := "put4", desc := "([CIZI)V" } : Jvm.MethodName) method_4_code (4 : Nat) (Option.none : Option Jvm.ClassFile.FieldType)).before args0 about1 = true := code_word (m := ⟨1, 3⟩) (meth := k1m3) (c := k1c3) (by decide +kernel) rfl rfl rfl (by decide +kernel)
set_option maxRecDepth 65536 in
theorem w_c10 : (Jvm.Cond.code ({ cls := "com/example/ermine/ermine/server/DatabaseSettings", name := "<init>", desc := "(Ljava/lang/String;Ljava/lang/String;Ljava/lang/String;)V" } : Jvm.MethodName) prog_33_method_1_code (4 : Nat) (Option.none : Option Jvm.ClassFile.FieldType)).before args0 about1 = true := code_word (m := ⟨10, 0⟩) (meth := k10m0) (c := k10c0) (by decide +kernel) rfl rfl rfl (by decide +kernel)
set_option maxRecDepth 65536 in
theorem w_c11 : (Jvm.Cond.code ({ cls := "java/lang/Record", name := "<init>", desc := "()V" } : Jvm.MethodName) jdk_30_method_1_code (1 : Nat) (Option.none : Option Jvm.ClassFile.FieldType)).before args0 about1 = true := code_word (m := ⟨9, 0⟩) (meth := k9m0) (c := k9c0) (by decide +kernel) rfl rfl rfl (by decide +kernel)
set_option maxRecDepth 65536 in
theorem w_c12 : (Jvm.Cond.code ({ cls := "com/example/ermine/ermine/server/DatabaseSettings", name := "toString", desc := "()Ljava/lang/String;" } : Jvm.MethodName) prog_33_method_3_code (1 : Nat) (Option.some (Jvm.ClassFile.FieldType.object "java/lang/String"))).before args0 about1 = true := code_word (m := ⟨10, 1⟩) (meth := k10m1) (c := k10c1) (by decide +kernel) rfl rfl rfl (by decide +kernel)
set_option maxRecDepth 65536 in
theorem w_c13 : (Jvm.Cond.code ({ cls := "java/lang/StringBuilder", name := "<init>", desc := "()V" } : Jvm.MethodName) jdk_67_method_1_code (1 : Nat) (Option.none : Option Jvm.ClassFile.FieldType)).before args0 about1 = true := code_word (m := ⟨13, 0⟩) (meth := k13m0) (c := k13c0) (by decide +kernel) rfl rfl rfl (by decide +kernel)
set_option maxRecDepth 65536 in
theorem w_c14 : (Jvm.Cond.code ({ cls := "java/lang/AbstractStringBuilder", name := "<init>", desc := "(I)V" } : Jvm.MethodName) jdk_68_method_2_code (2 : Nat) (Option.none : Option Jvm.ClassFile.FieldType)).before args0 about1 = true := code_word (m := ⟨12, 1⟩) (meth := k12m1) (c := k12c1) (by decide +kernel) rfl rfl rfl (by decide +kernel)
set_option maxRecDepth 65536 in
theorem w_c15 : (Jvm.Cond.code ({ cls := "java/lang/StringBuilder", name := "append", desc := "(Ljava/lang/String;)Ljava/lang/StringBuilder;" } : Jvm.MethodName) jdk_67_method_7_code (2 : Nat) (Option.some (Jvm.ClassFile.FieldType.object "java/lang/StringBuilder"))).before args0 about1 = true := code_word (m := ⟨13, 1⟩) (meth := k13m1) (c := k13c1) (by decide +kernel) rfl rfl rfl (by decide +kernel)
set_option maxRecDepth 65536 in
theorem w_c16 : (Jvm.Cond.code ({ cls := "java/lang/AbstractStringBuilder", name := "append", desc := "(Ljava/lang/String;)Ljava/lang/AbstractStringBuilder;" } : Jvm.MethodName) jdk_68_method_22_code (3 : Nat) (Option.some (Jvm.ClassFile.FieldType.object "java/lang/AbstractStringBuilder"))).before args0 about1 = true := code_word (m := ⟨12, 5⟩) (meth := k12m5) (c := k12c5) (by decide +kernel) rfl rfl rfl (by decide +kernel)
set_option maxRecDepth 65536 in
theorem w_c17 : (Jvm.Cond.code ({ cls := "java/lang/String", name := "length", desc := "()I" } : Jvm.MethodName) jdk_42_method_54_code (1 : Nat) (Option.some Jvm.ClassFile.FieldType.int)).before args0 about1 = true := code_word (m := ⟨7, 3⟩) (meth := k7m3) (c := k7c3) (by decide +kernel) rfl rfl rfl (by decide +kernel)
set_option maxRecDepth 65536 in
theorem w_c18 : (Jvm.Cond.code ({ cls := "java/lang/String", name := "coder", desc := "()B" } : Jvm.MethodName) jdk_42_method_152_code (1 : Nat) (Option.some Jvm.ClassFile.FieldType.byte)).before args0 about1 = true := code_word (m := ⟨7, 8⟩) (meth := k7m8) (c := k7c8) (by decide +kernel) rfl rfl rfl (by decide +kernel)
set_option maxRecDepth 65536 in
theorem w_c19 : (Jvm.Cond.code ({ cls := "java/lang/AbstractStringBuilder", name := "ensureCapacityInternal", desc := "(I)V" } : Jvm.MethodName) jdk_68_method_9_code (3 : Nat) (Option.none : Option Jvm.ClassFile.FieldType)).before args0 about1 = true := code_word (m := ⟨12, 3⟩) (meth := k12m3) (c := k12c3) (by decide +kernel) rfl rfl rfl (by decide +kernel)
set_option maxRecDepth 65536 in
theorem w_c20 : (Jvm.Cond.code ({ cls := "java/lang/AbstractStringBuilder", name := "newCapacity", desc := "(I)I" } : Jvm.MethodName) jdk_68_method_10_code (6 : Nat) (Option.some Jvm.ClassFile.FieldType.int)).before args0 about1 = true := code_word (m := ⟨12, 4⟩) (meth := k12m4) (c := k12c4) (by decide +kernel) rfl rfl rfl (by decide +kernel)
set_option maxRecDepth 65536 in
theorem w_c21 : (Jvm.Cond.code ({ cls := "jdk/internal/util/ArraysSupport", name := "newLength", desc := "(III)I" } : Jvm.MethodName) jdk_48_method_27_code (4 : Nat) (Option.some Jvm.ClassFile.FieldType.int)).before args0 about1 = true := code_word (m := ⟨14, 1⟩) (meth := k14m1) (c := k14c1) (by decide +kernel) rfl rfl rfl (by decide +kernel)
set_option maxRecDepth 65536 in
theorem w_c22 : (Jvm.Cond.code ({ cls := "java/lang/Math", name := "max", desc := "(II)I" } : Jvm.MethodName) jdk_29_method_65_code (2 : Nat) (Option.some Jvm.ClassFile.FieldType.int)).before args0 about1 = true := code_word (m := ⟨15, 1⟩) (meth := k15m1) (c := k15c1) (by decide +kernel) rfl rfl rfl (by decide +kernel)
set_option maxRecDepth 65536 in
theorem w_c23 : (Jvm.Cond.code ({ cls := "java/util/Arrays", name := "copyOf", desc := "([BI)[B" } : Jvm.MethodName) jdk_65_method_121_code (3 : Nat) (Option.some (Jvm.ClassFile.FieldType.array Jvm.ClassFile.FieldType.byte))).before args0 about1 = true := code_word (m := ⟨16, 1⟩) (meth := k16m1) (c := k16c1) (by decide +kernel) rfl rfl rfl (by decide +kernel)
set_option maxRecDepth 65536 in
theorem w_c24 : (Jvm.Cond.code ({ cls := "java/lang/Math", name := "min", desc := "(II)I" } : Jvm.MethodName) jdk_29_method_69_code (2 : Nat) (Option.some Jvm.ClassFile.FieldType.int)).before args0 about1 = true := code_word (m := ⟨15, 2⟩) (meth := k15m2) (c := k15c2) (by decide +kernel) rfl rfl rfl (by decide +kernel)
set_option maxRecDepth 65536 in
theorem w_c25 : (Jvm.Cond.code ({ cls := "java/lang/AbstractStringBuilder", name := "putStringAt", desc := "(ILjava/lang/String;)V" } : Jvm.MethodName) jdk_68_method_73_code (3 : Nat) (Option.none : Option Jvm.ClassFile.FieldType)).before args0 about1 = true := code_word (m := ⟨12, 10⟩) (meth := k12m10) (c := k12c10) (by decide +kernel) rfl rfl rfl (by decide +kernel)
set_option maxRecDepth 65536 in
theorem w_c26 : (Jvm.Cond.code ({ cls := "java/lang/AbstractStringBuilder", name := "inflateIfNeededFor", desc := "(Ljava/lang/String;)V" } : Jvm.MethodName) jdk_68_method_71_code (2 : Nat) (Option.none : Option Jvm.ClassFile.FieldType)).before args0 about1 = true := code_word (m := ⟨12, 9⟩) (meth := k12m9) (c := k12c9) (by decide +kernel) rfl rfl rfl (by decide +kernel)
set_option maxRecDepth 65536 in
theorem w_c27 : (Jvm.Cond.code ({ cls := "java/lang/String", name := "getBytes", desc := "([BIB)V" } : Jvm.MethodName) jdk_42_method_147_code (4 : Nat) (Option.none : Option Jvm.ClassFile.FieldType)).before args0 about1 = true := code_word (m := ⟨7, 5⟩) (meth := k7m5) (c := k7c5) (by decide +kernel) rfl rfl rfl (by decide +kernel)
set_option maxRecDepth 65536 in
theorem w_c28 : (Jvm.Cond.code ({ cls := "java/lang/AbstractStringBuilder", name := "appendNull", desc := "()Ljava/lang/AbstractStringBuilder;" } : Jvm.MethodName) jdk_68_method_26_code (3 : Nat) (Option.some (Jvm.ClassFile.FieldType.object "java/lang/AbstractStringBuilder"))).before args0 about1 = true := code_word (m := ⟨12, 6⟩) (meth := k12m6) (c := k12c6) (by decide +kernel) rfl rfl rfl (by decide +kernel)
set_option maxRecDepth 65536 in
theorem w_c29 : (Jvm.Cond.code ({ cls := "java/lang/AbstractStringBuilder", name := "isLatin1", desc := "()Z" } : Jvm.MethodName) jdk_68_method_68_code (1 : Nat) (Option.some Jvm.ClassFile.FieldType.boolean)).before args0 about1 = true := code_word (m := ⟨12, 8⟩) (meth := k12m8) (c := k12c8) (by decide +kernel) rfl rfl rfl (by decide +kernel)
set_option maxRecDepth 65536 in
theorem w_c30 : (Jvm.Cond.code ({ cls := "java/lang/StringBuilder", name := "toString", desc := "()Ljava/lang/String;" } : Jvm.MethodName) jdk_67_method_42_code (1 : Nat) (Option.some (Jvm.ClassFile.FieldType.object "java/lang/String"))).before args0 about1 = true := code_word (m := ⟨13, 2⟩) (meth := k13m2) (c := k13c2) (by decide +kernel) rfl rfl rfl (by decide +kernel)
set_option maxRecDepth 65536 in
theorem w_c31 : (Jvm.Cond.code ({ cls := "java/lang/String", name := "<init>", desc := "(Ljava/lang/StringBuilder;)V" } : Jvm.MethodName) jdk_42_method_53_code (2 : Nat) (Option.none : Option Jvm.ClassFile.FieldType)).before args0 about1 = true := code_word (m := ⟨7, 2⟩) (meth := k7m2) (c := k7c2) (by decide +kernel) rfl rfl rfl (by decide +kernel)
set_option maxRecDepth 65536 in
theorem w_c32 : (Jvm.Cond.code ({ cls := "java/lang/String", name := "<init>", desc := "(Ljava/lang/AbstractStringBuilder;Ljava/lang/Void;)V" } : Jvm.MethodName) jdk_42_method_150_code (5 : Nat) (Option.none : Option Jvm.ClassFile.FieldType)).before args0 about1 = true := code_word (m := ⟨7, 7⟩) (meth := k7m7) (c := k7c7) (by decide +kernel) rfl rfl rfl (by decide +kernel)
set_option maxRecDepth 65536 in
theorem w_c33 : (Jvm.Cond.code ({ cls := "java/lang/AbstractStringBuilder", name := "getValue", desc := "()[B" } : Jvm.MethodName) jdk_68_method_64_code (1 : Nat) (Option.some (Jvm.ClassFile.FieldType.array Jvm.ClassFile.FieldType.byte))).before args0 about1 = true := code_word (m := ⟨12, 7⟩) (meth := k12m7) (c := k12c7) (by decide +kernel) rfl rfl rfl (by decide +kernel)
set_option maxRecDepth 65536 in
theorem w_c34 : (Jvm.Cond.code ({ cls := "java/lang/StringBuilder", name := "length", desc := "()I" } : Jvm.MethodName) jdk_67_method_93_code (1 : Nat) (Option.some Jvm.ClassFile.FieldType.int)).before args0 about1 = true := code_word (m := ⟨13, 3⟩) (meth := k13m3) (c := k13c3) (by decide +kernel) rfl rfl rfl (by decide +kernel)
set_option maxRecDepth 65536 in
theorem w_c35 : (Jvm.Cond.code ({ cls := "java/lang/AbstractStringBuilder", name := "length", desc := "()I" } : Jvm.MethodName) jdk_68_method_6_code (1 : Nat) (Option.some Jvm.ClassFile.FieldType.int)).before args0 about1 = true := code_word (m := ⟨12, 2⟩) (meth := k12m2) (c := k12c2) (by decide +kernel) rfl rfl rfl (by decide +kernel)
set_option maxRecDepth 65536 in
theorem w_c36 : (Jvm.Cond.code ({ cls := "java/util/Arrays", name := "copyOfRange", desc := "([BII)[B" } : Jvm.MethodName) jdk_65_method_132_code (3 : Nat) (Option.some (Jvm.ClassFile.FieldType.array Jvm.ClassFile.FieldType.byte))).before args0 about1 = true := code_word (m := ⟨16, 3⟩) (meth := k16m3) (c := k16c3) (by decide +kernel) rfl rfl rfl (by decide +kernel)
set_option maxRecDepth 65536 in
theorem w_c37 : (Jvm.Cond.code ({ cls := "java/util/Arrays", name := "copyOfRangeByte", desc := "([BII)[B" } : Jvm.MethodName) jdk_65_method_133_code (5 : Nat) (Option.some (Jvm.ClassFile.FieldType.array Jvm.ClassFile.FieldType.byte))).before args0 about1 = true := code_word (m := ⟨16, 4⟩) (meth := k16m4) (c := k16c4) (by decide +kernel) rfl rfl rfl (by decide +kernel)
set_option maxRecDepth 65536 in
theorem w_c38 : (Jvm.Cond.code ({ cls := "java/util/Arrays", name := "checkLength", desc := "(II)V" } : Jvm.MethodName) jdk_65_method_131_code (2 : Nat) (Option.none : Option Jvm.ClassFile.FieldType)).before args0 about1 = true := code_word (m := ⟨16, 2⟩) (meth := k16m2) (c := k16c2) (by decide +kernel) rfl rfl rfl (by decide +kernel)
set_option maxRecDepth 65536 in
theorem w_c39 : (Jvm.Cond.code ({ cls := "java/lang/String", name := "equals", desc := "(Ljava/lang/Object;)Z" } : Jvm.MethodName) jdk_42_method_66_code (3 : Nat) (Option.some Jvm.ClassFile.FieldType.boolean)).before args0 about1 = true := code_word (m := ⟨7, 4⟩) (meth := k7m4) (c := k7c4) (by decide +kernel) rfl rfl rfl (by decide +kernel)
set_option maxRecDepth 65536 in
theorem w_c40 : (Jvm.Cond.code ({ cls := "java/lang/StringLatin1", name := "equals", desc := "([B[B)Z" } : Jvm.MethodName) jdk_43_method_13_code (3 : Nat) (Option.some Jvm.ClassFile.FieldType.boolean)).before args0 about1 = true := code_word (m := ⟨18, 1⟩) (meth := k18m1) (c := k18c1) (by decide +kernel) rfl rfl rfl (by decide +kernel)
def codes1 : List Jvm.Cond := [Jvm.Cond.code x code maxLocals ret, Jvm.Cond.code ({ cls := "com/example/ermine/ermine/server/DatabaseSettingsToStringPinLaw", name := "four", desc := "(I)Ljava/lang/String;" } : Jvm.MethodName) method_3_code (2 : Nat) (Option.some (Jvm.ClassFile.FieldType.object "java/lang/String")), Jvm.Cond.code ({ cls := "java/lang/String", name := "<init>", desc := "([C)V" } : Jvm.MethodName) jdk_42_method_3_code (2 : Nat) (Option.none : Option Jvm.ClassFile.FieldType), Jvm.Cond.code ({ cls := "java/lang/String", name := "<init>", desc := "([CIILjava/lang/Void;)V" } : Jvm.MethodName) jdk_42_method_149_code (6 : Nat) (Option.none : Option Jvm.ClassFile.FieldType), Jvm.Cond.code ({ cls := "java/lang/Object", name := "<init>", desc := "()V" } : Jvm.MethodName) object_method_1_code (1 : Nat) (Option.none : Option Jvm.ClassFile.FieldType), Jvm.Cond.code ({ cls := "java/lang/StringUTF16", name := "compress", desc := "([CII)[B" } : Jvm.MethodName) jdk_52_method_16_code (6 : Nat) (Option.some (Jvm.ClassFile.FieldType.array Jvm.ClassFile.FieldType.byte)), Jvm.Cond.code ({ cls := "java/lang/StringUTF16", name := "compress", desc := "([CI[BII)I" } : Jvm.MethodName) jdk_52_method_21_code (7 : Nat) (Option.some Jvm.ClassFile.FieldType.int), Jvm.Cond.code ({ cls := "java/lang/StringUTF16", name := "coderFromArrayLen", desc := "([BI)B" } : Jvm.MethodName) jdk_52_method_15_code (2 : Nat) (Option.some Jvm.ClassFile.FieldType.byte), Jvm.Cond.code ({ cls := "com/example/ermine/ermine/server/DatabaseSettingsToStringPinLaw", name := "expected", desc := "(ZIZI)Ljava/lang/String;" } : Jvm.MethodName) method_5_code (5 : Nat) (Option.some (Jvm.ClassFile.FieldType.object "java/lang/String")), Jvm.Cond.code ({ cls := "com/example/ermine/ermine/server/DatabaseSettingsToStringPinLaw", name := "put4", desc := "([CIZI)V" } : Jvm.MethodName) method_4_code (4 : Nat) (Option.none : Option Jvm.ClassFile.FieldType), Jvm.Cond.code ({ cls := "com/example/ermine/ermine/server/DatabaseSettings", name := "<init>", desc := "(Ljava/lang/String;Ljava/lang/String;Ljava/lang/String;)V" } : Jvm.MethodName) prog_33_method_1_code (4 : Nat) (Option.none : Option Jvm.ClassFile.FieldType), Jvm.Cond.code ({ cls := "java/lang/Record", name := "<init>", desc := "()V" } : Jvm.MethodName) jdk_30_method_1_code (1 : Nat) (Option.none : Option Jvm.ClassFile.FieldType), Jvm.Cond.code ({ cls := "com/example/ermine/ermine/server/DatabaseSettings", name := "toString", desc := "()Ljava/lang/String;" } : Jvm.MethodName) prog_33_method_3_code (1 : Nat) (Option.some (Jvm.ClassFile.FieldType.object "java/lang/String")), Jvm.Cond.code ({ cls := "java/lang/StringBuilder", name := "<init>", desc := "()V" } : Jvm.MethodName) jdk_67_method_1_code (1 : Nat) (Option.none : Option Jvm.ClassFile.FieldType), Jvm.Cond.code ({ cls := "java/lang/AbstractStringBuilder", name := "<init>", desc := "(I)V" } : Jvm.MethodName) jdk_68_method_2_code (2 : Nat) (Option.none : Option Jvm.ClassFile.FieldType), Jvm.Cond.code ({ cls := "java/lang/StringBuilder", name := "append", desc := "(Ljava/lang/String;)Ljava/lang/StringBuilder;" } : Jvm.MethodName) jdk_67_method_7_code (2 : Nat) (Option.some (Jvm.ClassFile.FieldType.object "java/lang/StringBuilder")), Jvm.Cond.code ({ cls := "java/lang/AbstractStringBuilder", name := "append", desc := "(Ljava/lang/String;)Ljava/lang/AbstractStringBuilder;" } : Jvm.MethodName) jdk_68_method_22_code (3 : Nat) (Option.some (Jvm.ClassFile.FieldType.object "java/lang/AbstractStringBuilder")), Jvm.Cond.code ({ cls := "java/lang/String", name := "length", desc := "()I" } : Jvm.MethodName) jdk_42_method_54_code (1 : Nat) (Option.some Jvm.ClassFile.FieldType.int), Jvm.Cond.code ({ cls := "java/lang/String", name := "coder", desc := "()B" } : Jvm.MethodName) jdk_42_method_152_code (1 : Nat) (Option.some Jvm.ClassFile.FieldType.byte), Jvm.Cond.code ({ cls := "java/lang/AbstractStringBuilder", name := "ensureCapacityInternal", desc := "(I)V" } : Jvm.MethodName) jdk_68_method_9_code (3 : Nat) (Option.none : Option Jvm.ClassFile.FieldType), Jvm.Cond.code ({ cls := "java/lang/AbstractStringBuilder", name := "newCapacity", desc := "(I)I" } : Jvm.MethodName) jdk_68_method_10_code (6 : Nat) (Option.some Jvm.ClassFile.FieldType.int), Jvm.Cond.code ({ cls := "jdk/internal/util/ArraysSupport", name := "newLength", desc := "(III)I" } : Jvm.MethodName) jdk_48_method_27_code (4 : Nat) (Option.some Jvm.ClassFile.FieldType.int), Jvm.Cond.code ({ cls := "java/lang/Math", name := "max", desc := "(II)I" } : Jvm.MethodName) jdk_29_method_65_code (2 : Nat) (Option.some Jvm.ClassFile.FieldType.int), Jvm.Cond.code ({ cls := "java/util/Arrays", name := "copyOf", desc := "([BI)[B" } : Jvm.MethodName) jdk_65_method_121_code (3 : Nat) (Option.some (Jvm.ClassFile.FieldType.array Jvm.ClassFile.FieldType.byte)), Jvm.Cond.code ({ cls := "java/lang/Math", name := "min", desc := "(II)I" } : Jvm.MethodName) jdk_29_method_69_code (2 : Nat) (Option.some Jvm.ClassFile.FieldType.int), Jvm.Cond.code ({ cls := "java/lang/AbstractStringBuilder", name := "putStringAt", desc := "(ILjava/lang/String;)V" } : Jvm.MethodName) jdk_68_method_73_code (3 : Nat) (Option.none : Option Jvm.ClassFile.FieldType), Jvm.Cond.code ({ cls := "java/lang/AbstractStringBuilder", name := "inflateIfNeededFor", desc := "(Ljava/lang/String;)V" } : Jvm.MethodName) jdk_68_method_71_code (2 : Nat) (Option.none : Option Jvm.ClassFile.FieldType), Jvm.Cond.code ({ cls := "java/lang/String", name := "getBytes", desc := "([BIB)V" } : Jvm.MethodName) jdk_42_method_147_code (4 : Nat) (Option.none : Option Jvm.ClassFile.FieldType), Jvm.Cond.code ({ cls := "java/lang/AbstractStringBuilder", name := "appendNull", desc := "()Ljava/lang/AbstractStringBuilder;" } : Jvm.MethodName) jdk_68_method_26_code (3 : Nat) (Option.some (Jvm.ClassFile.FieldType.object "java/lang/AbstractStringBuilder")), Jvm.Cond.code ({ cls := "java/lang/AbstractStringBuilder", name := "isLatin1", desc := "()Z" } : Jvm.MethodName) jdk_68_method_68_code (1 : Nat) (Option.some Jvm.ClassFile.FieldType.boolean), Jvm.Cond.code ({ cls := "java/lang/StringBuilder", name := "toString", desc := "()Ljava/lang/String;" } : Jvm.MethodName) jdk_67_method_42_code (1 : Nat) (Option.some (Jvm.ClassFile.FieldType.object "java/lang/String")), Jvm.Cond.code ({ cls := "java/lang/String", name := "<init>", desc := "(Ljava/lang/StringBuilder;)V" } : Jvm.MethodName) jdk_42_method_53_code (2 : Nat) (Option.none : Option Jvm.ClassFile.FieldType), Jvm.Cond.code ({ cls := "java/lang/String", name := "<init>", desc := "(Ljava/lang/AbstractStringBuilder;Ljava/lang/Void;)V" } : Jvm.MethodName) jdk_42_method_150_code (5 : Nat) (Option.none : Option Jvm.ClassFile.FieldType), Jvm.Cond.code ({ cls := "java/lang/AbstractStringBuilder", name := "getValue", desc := "()[B" } : Jvm.MethodName) jdk_68_method_64_code (1 : Nat) (Option.some (Jvm.ClassFile.FieldType.array Jvm.ClassFile.FieldType.byte)), Jvm.Cond.code ({ cls := "java/lang/StringBuilder", name := "length", desc := "()I" } : Jvm.MethodName) jdk_67_method_93_code (1 : Nat) (Option.some Jvm.ClassFile.FieldType.int), Jvm.Cond.code ({ cls := "java/lang/AbstractStringBuilder", name := "length", desc := "()I" } : Jvm.MethodName) jdk_68_method_6_code (1 : Nat) (Option.some Jvm.ClassFile.FieldType.int), Jvm.Cond.code ({ cls := "java/util/Arrays", name := "copyOfRange", desc := "([BII)[B" } : Jvm.MethodName) jdk_65_method_132_code (3 : Nat) (Option.some (Jvm.ClassFile.FieldType.array Jvm.ClassFile.FieldType.byte)), Jvm.Cond.code ({ cls := "java/util/Arrays", name := "copyOfRangeByte", desc := "([BII)[B" } : Jvm.MethodName) jdk_65_method_133_code (5 : Nat) (Option.some (Jvm.ClassFile.FieldType.array Jvm.ClassFile.FieldType.byte)), Jvm.Cond.code ({ cls := "java/util/Arrays", name := "checkLength", desc := "(II)V" } : Jvm.MethodName) jdk_65_method_131_code (2 : Nat) (Option.none : Option Jvm.ClassFile.FieldType), Jvm.Cond.code ({ cls := "java/lang/String", name := "equals", desc := "(Ljava/lang/Object;)Z" } : Jvm.MethodName) jdk_42_method_66_code (3 : Nat) (Option.some Jvm.ClassFile.FieldType.boolean), Jvm.Cond.code ({ cls := "java/lang/StringLatin1", name := "equals", desc := "([B[B)Z" } : Jvm.MethodName) jdk_43_method_13_code (3 : Nat) (Option.some Jvm.ClassFile.FieldType.boolean)]
set_option maxRecDepth 65536 in
theorem codes_eq : words1.filter isCode = codes1 := rfl
theorem w_codes : ∀ c ∈ words1.filter isCode, c.before args0 about1 = true := by
  rw [codes_eq]
  intro c hc
  simp only [codes1, List.mem_cons, List.not_mem_nil, or_false] at hc
  rcases hc with rfl | rfl | rfl | rfl | rfl | rfl | rfl | rfl | rfl | rfl | rfl | rfl | rfl | rfl | rfl | rfl | rfl | rfl | rfl | rfl | rfl | rfl | rfl | rfl | rfl | rfl | rfl | rfl | rfl | rfl | rfl | rfl | rfl | rfl | rfl | rfl | rfl | rfl | rfl | rfl | rfl
  · exact w_c0
  · exact w_c1
  · exact w_c2
  · exact w_c3
  · exact w_c4
  · exact w_c5
  · exact w_c6
  · exact w_c7
  · exact w_c8
  · exact w_c9
  · exact w_c10
  · exact w_c11
  · exact w_c12
  · exact w_c13
  · exact w_c14
  · exact w_c15
  · exact w_c16
  · exact w_c17
  · exact w_c18
  · exact w_c19
  · exact w_c20
  · exact w_c21
  · exact w_c22
  · exact w_c23
  · exact w_c24
  · exact w_c25
  · exact w_c26
  · exact w_c27
  · exact w_c28
  · exact w_c29
  · exact w_c30
  · exact w_c31
  · exact w_c32
  · exact w_c33
  · exact w_c34
  · exact w_c35
  · exact w_c36
  · exact w_c37
  · exact w_c38
  · exact w_c39
  · exact w_c40
set_option maxRecDepth 65536 in
theorem w_t1 : (words1.take 24).all (fun c => isCode c || c.before args0 about1) = true := by decide +kernel
set_option maxRecDepth 65536 in
theorem w_t2 : ((words1.drop 24).take 24).all (fun c => isCode c || c.before args0 about1) = true := by decide +kernel
set_option maxRecDepth 65536 in
theorem w_t3 : (((words1.drop 24).drop 24).take 24).all (fun c => isCode c || c.before args0 about1) = true := by decide +kernel
set_option maxRecDepth 65536 in
theorem w_t4 : ((((words1.drop 24).drop 24).drop 24).take 24).all (fun c => isCode c || c.before args0 about1) = true := by decide +kernel
set_option maxRecDepth 65536 in
theorem w_t5 : (((((words1.drop 24).drop 24).drop 24).drop 24).take 24).all (fun c => isCode c || c.before args0 about1) = true := by decide +kernel
set_option maxRecDepth 65536 in
theorem w_t6 : ((((((words1.drop 24).drop 24).drop 24).drop 24).drop 24).take 24).all (fun c => isCode c || c.before args0 about1) = true := by decide +kernel
set_option maxRecDepth 65536 in
theorem w_t7 : (((((((words1.drop 24).drop 24).drop 24).drop 24).drop 24).drop 24).take 24).all (fun c => isCode c || c.before args0 about1) = true := by decide +kernel
set_option maxRecDepth 65536 in
theorem w_t8 : ((((((((words1.drop 24).drop 24).drop 24).drop 24).drop 24).drop 24).drop 24).take 24).all (fun c => isCode c || c.before args0 about1) = true := by decide +kernel
set_option maxRecDepth 65536 in
theorem w_t9 : ((((((((words1.drop 24).drop 24).drop 24).drop 24).drop 24).drop 24).drop 24).drop 24).all (fun c => isCode c || c.before args0 about1) = true := by decide +kernel
theorem w_tables : (allAtoms (Jvm.Cond.code x code maxLocals ret :: tables_1)).before args0 about1 = true := by
  rw [allAtoms_all]
  show words1.all (fun c => c.before args0 about1) = true
  refine all_split ?_ w_codes
  rw [← List.take_append_drop 24 words1, List.all_append, w_t1, ← List.take_append_drop 24 (words1.drop 24), List.all_append, w_t2, ← List.take_append_drop 24 ((words1.drop 24).drop 24), List.all_append, w_t3, ← List.take_append_drop 24 (((words1.drop 24).drop 24).drop 24), List.all_append, w_t4, ← List.take_append_drop 24 ((((words1.drop 24).drop 24).drop 24).drop 24), List.all_append, w_t5, ← List.take_append_drop 24 (((((words1.drop 24).drop 24).drop 24).drop 24).drop 24), List.all_append, w_t6, ← List.take_append_drop 24 ((((((words1.drop 24).drop 24).drop 24).drop 24).drop 24).drop 24), List.all_append, w_t7, ← List.take_append_drop 24 (((((((words1.drop 24).drop 24).drop 24).drop 24).drop 24).drop 24).drop 24), List.all_append, w_t8, w_t9]
  rfl
set_option maxRecDepth 65536 in
theorem w_rest : rest_1_c.before args0 about1 = true := by decide +kernel
set_option maxRecDepth 65536 in
theorem w_case : (Jvm.Cond.and given_1 narrow_1).before args0 about1 = true := by decide +kernel
set_option maxRecDepth 65536 in
theorem w_consts : constsHeld consts_1 about1 := Jvm.Lit.constsHeldB_iff.mp (by decide +kernel)
theorem w_applies : (headSpec (Jvm.Cond.code x code maxLocals ret :: tables_1) room_1).applies x e0.platform about1 = true :=
  (Spec.applies_iff w_frames).mpr ⟨w_running, w_runnable, w_alone, w_named, w_hears, w_ripe, w_room, w_tables⟩
theorem atStart : AtStart classFile x code maxLocals ret World_1 tables_1 room_1 Calls_1 rest_1 Pre_1 launch0 p0 e0 about1 theMethod args0 below0 :=
  ⟨lists_1, trivial, launch0.admits_env _ _ _, launch0.least_env, fairChoices_fair.cas, fairChoices_fair.clock, w_frames, w_args, w_heap, w_applies, ⟨w_consts, trivial⟩, w_rest, w_case⟩
end start1
theorem witness_1 : WitnessClaimed_1 := ⟨start1.p0, start1.e0, start1.about1, start1.theMethod, start1.args0, start1.below0, start1.atStart⟩
end Jvm.Pilot.@@N@@
