import JvmDerived
import JvmDerived.Pilot.@@N@@Statement
import JvmDerived.Pilot.@@N@@Code
set_option linter.unusedVariables false
set_option linter.unusedSimpArgs false
/- laws to paste: Road.backV, Road.eqW, Road.codOf (cut by pick.py; bodies as the Statement names them) -/
namespace Jvm.Pilot.@@N@@
namespace StrChars
open Jvm Sem ClassFile Op Lib Jvm.Stand Jvm.Free.XT Jvm.Free.ALB Jvm.Free.JM Jvm.Free
open Jvm.Lib.Cold (StaticIs)
/-- a char array whose places are chars -/
def Ch (a : Addr) (A : Cell) (U : State) : Prop := Arr .char a A U ∧ Typed .char A
theorem Ch.mv {a : Addr} {A : Cell} {U U' : State} (h : Ch a A U) (hal : U.vm.Alike U'.vm) (hh : U'.heap = U.heap) : Ch a A U' := ⟨h.1.mv hal hh, h.2⟩
theorem Ch.keep {a : Addr} {A : Cell} {U U' : State} (h : Ch a A U) (hal : U.vm.Alike U'.vm) (hk : U'.heap[a]? = some A) : Ch a A U' := ⟨h.1.keep hal hk, h.2⟩
/-- what place i of a char[]'s cell holds -/
def cv (A : Cell) (i : Nat) : Int32 := match A.slots[i]? with | some (.int x) => x | _ => 0
theorem Ch.get {a : Addr} {A : Cell} {U : State} (h : Ch a A U) {i : Nat} (hi : i < A.slots.size) : A.slots[i]? = some (.int (cv A i)) := by
  have e := Array.getElem?_eq_getElem hi
  have f := h.2 i _ e
  unfold cv; rw [e]
  generalize A.slots[i] = v at f
  cases v <;> simp [fits] at f ⊢
/-- the byte that i2b leaves of a char -/
def lo8 (x : Int32) : Int32 := x.toInt8.toInt32
theorem fits_lo8 (y : Int32) : fits .byte (.int (lo8 y)) = true := by
  have h1 := y.toInt8.le_toInt
  have h2 := y.toInt8.toInt_lt
  simp only [lo8, fits, Bool.and_eq_true, decide_eq_true_eq, Int32.le_iff_toInt_le, Int8.toInt_toInt32, show (-128 : Int32).toInt = -128 from by decide, show (127 : Int32).toInt = 127 from by decide]
  omega
/-- A' is A but that each place j of lo .. hi - 1 holds f j -/
def Laid (A A' : Cell) (lo hi : Nat) (f : Nat → Value) : Prop := A'.cls = A.cls ∧ A'.vm = A.vm ∧ A'.slots.size = A.slots.size ∧ ∀ i, A'.slots[i]? = if lo ≤ i ∧ i < hi then some (f i) else A.slots[i]?
theorem Laid.zero (A : Cell) (lo : Nat) (f : Nat → Value) : Laid A A lo (lo + 0) f := ⟨rfl, rfl, rfl, fun i => by rw [if_neg (by omega)]⟩
theorem Laid.step {A Ak : Cell} {lo k : Nat} {f : Nat → Value} {v : Value} (h : Laid A Ak lo k f) (hlo : lo ≤ k) (hk : k < Ak.slots.size) (hv : v = f k) : Laid A (Ak.setSlot k v) lo (k + 1) f := by
  refine ⟨h.1, h.2.1, by simpa [Cell.setSlot] using h.2.2.1, fun i => ?_⟩
  by_cases e : k = i
  · subst e; rw [Cell.slots_setSlot_self v hk, if_pos (by omega), hv]
  · rw [Cell.slots_setSlot_ne v e, h.2.2.2 i]
    by_cases q : lo ≤ i ∧ i < k
    · rw [if_pos q, if_pos (by omega)]
    · rw [if_neg q, if_neg (by omega)]
def U16 : String := "java/lang/StringUTF16"
namespace Cmp5
def yN : MethodName := ⟨"java/lang/StringUTF16", "compress", "([CI[BII)I"⟩
abbrev yB : ByteArray := jdk_52_method_21_code
theorem d0 : decode yB 0 = .ok (.iconst 0, 1) := by decide +kernel
theorem d1 : decode yB 1 = .ok (.istore 5, 2) := by decide +kernel
theorem d3 : decode yB 3 = .ok (.iload 5, 2) := by decide +kernel
theorem d5 : decode yB 5 = .ok (.iload 4, 2) := by decide +kernel
theorem d7 : decode yB 7 = .ok (.if_icmp (.ge) 37, 3) := by decide +kernel
theorem d10 : decode yB 10 = .ok (.aload_n 0, 1) := by decide +kernel
theorem d11 : decode yB 11 = .ok (.iload_n 1, 1) := by decide +kernel
theorem d12 : decode yB 12 = .ok (.caload, 1) := by decide +kernel
theorem d13 : decode yB 13 = .ok (.istore 6, 2) := by decide +kernel
theorem d15 : decode yB 15 = .ok (.iload 6, 2) := by decide +kernel
theorem d17 : decode yB 17 = .ok (.sipush 255, 3) := by decide +kernel
theorem d20 : decode yB 20 = .ok (.if_icmp (.le) 6, 3) := by decide +kernel
theorem d26 : decode yB 26 = .ok (.aload_n 2, 1) := by decide +kernel
theorem d27 : decode yB 27 = .ok (.iload_n 3, 1) := by decide +kernel
theorem d28 : decode yB 28 = .ok (.iload 6, 2) := by decide +kernel
theorem d30 : decode yB 30 = .ok (.i2b, 1) := by decide +kernel
theorem d31 : decode yB 31 = .ok (.bastore, 1) := by decide +kernel
theorem d32 : decode yB 32 = .ok (.iinc 1 1, 3) := by decide +kernel
theorem d35 : decode yB 35 = .ok (.iinc 3 1, 3) := by decide +kernel
theorem d38 : decode yB 38 = .ok (.iinc 5 1, 3) := by decide +kernel
theorem d41 : decode yB 41 = .ok (.goto (-38), 3) := by decide +kernel
theorem d44 : decode yB 44 = .ok (.iload 4, 2) := by decide +kernel
theorem d46 : decode yB 46 = .ok (.ireturn, 1) := by decide +kernel
def site : List Cond := []
def tab : Cond := tabOf yN yB 7 (some .int) site
def P (b : Addr) (A : Cell) (d : Addr) (B : Cell) (o q len : Nat) (args : Array Value) (s : State) : Prop := args = #[.ref b, .int (Int32.ofNat o), .ref d, .int (Int32.ofNat q), .int (Int32.ofNat len)] ∧ Ch b A s ∧ Arr .byte d B s ∧ b ≠ d ∧ o + len ≤ A.slots.size ∧ q + len ≤ B.slots.size ∧ ∀ i, i < len → ¬ 255 < cv A (o + i)
def E (b : Addr) (A : Cell) (d : Addr) (B : Cell) (o q len : Nat) (r : Option Value) (s u : State) : Prop := r = some (.int (Int32.ofNat len)) ∧ ∃ B', Put d B' s u ∧ Laid B B' q (q + len) (fun j => Value.int (lo8 (cv A (o + (j - q)))))
/-- no char of the range above 255: len; the places written hold each char's low byte -/
theorem law (l : Launch) (b : Addr) (A : Cell) (d : Addr) (B : Cell) (o q len : Nat) : Law l yN 5 5 0 0 yB 7 (some .int) site (P b A d B o q len) (E b A d B o q len) (copyLocs d q len) 0 0 := by
  refine Law.of_walk (plainFor_of_name (by decide +kernel)) (by decide +kernel) (by decide +kernel) (by decide) (fun _ _ h => by rw [h.1]; rfl) (fun _ U U' hal hh h => ⟨h.1, h.2.1.mv hal hh, h.2.2.1.mv hal hh, h.2.2.2⟩) (fun r U U' V V' h1 hal h2 h => ⟨h.1, h.2.elim fun B' q => ⟨B', q.1.mv h1 h2, q.2⟩⟩) ?_
  intro p e s m args below meth c s₁ X0 hexec hbytes hml hret hlk hnm hown hh0 W hP
  obtain ⟨rfl, hA, hB, hne, l1, l2, hp⟩ := hP
  have c1 : Steps p.tables e below (s₁.setTop (entryFrame m #[.ref b, .int (Int32.ofNat o), .ref d, .int (Int32.ofNat q), .int (Int32.ofNat len)] 7)) (s₁.setTop (mkF m 0 #[.val (.ref b), .val (.int (Int32.ofNat o)), .val (.ref d), .val (.int (Int32.ofNat q)), .val (.int (Int32.ofNat len)), .unset, .unset] [])) := entry rfl
  have hA0 := hA.1.mv X0.warmed.alike hh0
  have hB0 := hB.mv X0.warmed.alike hh0
  have a31 := hA.1.2.2.2
  have c2 : Steps p.tables e below (s₁.setTop (entryFrame m #[.ref b, .int (Int32.ofNat o), .ref d, .int (Int32.ofNat q), .int (Int32.ofNat len)] 7)) (s₁.setTop (mkF m 3 #[.val (.ref b), .val (.int (Int32.ofNat o)), .val (.ref d), .val (.int (Int32.ofNat q)), .val (.int (Int32.ofNat len)), .val (.int 0), .unset] [])) := c1.trans (by
    refine iconstV X0.here hexec rfl 0 (hb hbytes d0) (by decide) ?_
    refine XS.istore X0.here hexec rfl (hb hbytes d1) rfl rfl ?_
    exact Steps.refl _)
  have loop : ∀ (r i : Nat), i + r = len → ∀ (z : Slot), (z = .unset ∨ ∃ w, z = .val w ∧ w.category = 1) → ∀ (Tl : State) (Bk : Cell), Stand p l e { frames := 0, locals := 0, cells := 0, slots := 0 } s m #[.ref b, .int (Int32.ofNat o), .ref d, .int (Int32.ofNat q), .int (Int32.ofNat len)] below meth c Tl ([] ++ copyLocs d q i) 0 0 → Put d Bk s₁ Tl → Laid B Bk q (q + i) (fun j => Value.int (lo8 (cv A (o + (j - q))))) →
      Steps p.tables e below (s₁.setTop (entryFrame m #[.ref b, .int (Int32.ofNat o), .ref d, .int (Int32.ofNat q), .int (Int32.ofNat len)] 7)) (Tl.setTop (mkF m 3 #[.val (.ref b), .val (.int (Int32.ofNat (o + i))), .val (.ref d), .val (.int (Int32.ofNat (q + i))), .val (.int (Int32.ofNat len)), .val (.int (Int32.ofNat i)), z] [])) → ∃ (T' : State) (B' : Cell) (z' : Slot), Stand p l e { frames := 0, locals := 0, cells := 0, slots := 0 } s m #[.ref b, .int (Int32.ofNat o), .ref d, .int (Int32.ofNat q), .int (Int32.ofNat len)] below meth c T' ([] ++ copyLocs d q len) 0 0 ∧ Put d B' s₁ T' ∧ Laid B B' q (q + len) (fun j => Value.int (lo8 (cv A (o + (j - q))))) ∧
      Steps p.tables e below (s₁.setTop (entryFrame m #[.ref b, .int (Int32.ofNat o), .ref d, .int (Int32.ofNat q), .int (Int32.ofNat len)] 7)) (T'.setTop (mkF m 3 #[.val (.ref b), .val (.int (Int32.ofNat (o + len))), .val (.ref d), .val (.int (Int32.ofNat (q + len))), .val (.int (Int32.ofNat len)), .val (.int (Int32.ofNat len)), z'] [])) := by
    intro r
    induction r with
    | zero =>
      intro i hi z hz Tl Bk Xl pl fl cl
      have hil : i = len := by omega
      rw [hil] at Xl fl cl
      exact ⟨Tl, Bk, z, Xl, pl, fl, cl⟩
    | succ r ih =>
      intro i hi z hz Tl Bk Xl pl fl cl
      have all := X0.warmed.alike.symm.trans Xl.warmed.alike
      have hAl := hA0.keep all (pl.other hne hA0.1)
      have hBk := hB0.like all pl.1 fl.1 fl.2.1 fl.2.2.1
      have hlt : q + i < Bk.slots.size := by rw [fl.2.2.1]; omega
      have c3 : Steps p.tables e below (s₁.setTop (entryFrame m #[.ref b, .int (Int32.ofNat o), .ref d, .int (Int32.ofNat q), .int (Int32.ofNat len)] 7)) (Tl.setTop (mkF m 12 #[.val (.ref b), .val (.int (Int32.ofNat (o + i))), .val (.ref d), .val (.int (Int32.ofNat (q + i))), .val (.int (Int32.ofNat len)), .val (.int (Int32.ofNat i)), z] [.int (Int32.ofNat (o + i)), .ref b])) := cl.trans (by
        refine XS.iload Xl.here hexec rfl (hb hbytes d3) rfl ?_
        refine XS.iload Xl.here hexec rfl (hb hbytes d5) rfl ?_
        refine XS.icmpNo Xl.here hexec rfl (hb hbytes d7) rfl (ii_ge_f (lt32 (by omega) (by omega))) ?_
        refine XS.aloadN Xl.here hexec rfl (hb hbytes d10) rfl rfl ?_
        refine XS.iloadN Xl.here hexec rfl (hb hbytes d11) rfl ?_
        exact Steps.refl _)
      have c4 : Steps p.tables e below (s₁.setTop (entryFrame m #[.ref b, .int (Int32.ofNat o), .ref d, .int (Int32.ofNat q), .int (Int32.ofNat len)] 7)) (Tl.setTop (mkF m 13 #[.val (.ref b), .val (.int (Int32.ofNat (o + i))), .val (.ref d), .val (.int (Int32.ofNat (q + i))), .val (.int (Int32.ofNat len)), .val (.int (Int32.ofNat i)), z] [.int (cv A (o + i))])) := c3.trans (by
        refine Xl.aget hexec hAl rfl (hA.get (i := o + i) (by omega)) rfl rfl (hb hbytes d12) ?_
        exact Steps.refl _)
      have c5 : Steps p.tables e below (s₁.setTop (entryFrame m #[.ref b, .int (Int32.ofNat o), .ref d, .int (Int32.ofNat q), .int (Int32.ofNat len)] 7)) (Tl.setTop (mkF m 15 #[.val (.ref b), .val (.int (Int32.ofNat (o + i))), .val (.ref d), .val (.int (Int32.ofNat (q + i))), .val (.int (Int32.ofNat len)), .val (.int (Int32.ofNat i)), .val (.int (cv A (o + i)))] [])) := c4.trans (by
        refine XS.istoreS Xl.here hexec rfl (hb hbytes d13) rfl rfl hz ?_
        exact Steps.refl _)
      have c6 : Steps p.tables e below (s₁.setTop (entryFrame m #[.ref b, .int (Int32.ofNat o), .ref d, .int (Int32.ofNat q), .int (Int32.ofNat len)] 7)) (Tl.setTop (mkF m 31 #[.val (.ref b), .val (.int (Int32.ofNat (o + i))), .val (.ref d), .val (.int (Int32.ofNat (q + i))), .val (.int (Int32.ofNat len)), .val (.int (Int32.ofNat i)), .val (.int (cv A (o + i)))] [.int (lo8 (cv A (o + i))), .int (Int32.ofNat (q + i)), .ref d])) := c5.trans (by
        refine XS.iload Xl.here hexec rfl (hb hbytes d15) rfl ?_
        refine sipushV Xl.here hexec rfl 255 (hb hbytes d17) (by decide) ?_
        refine XS.icmpYes Xl.here hexec rfl (pc0 := 20) rfl (hb hbytes d20) rfl (ii_le_t (hp i (by omega))) (by decide) rfl ?_
        refine XS.aloadN Xl.here hexec rfl (hb hbytes d26) rfl rfl ?_
        refine XS.iloadN Xl.here hexec rfl (hb hbytes d27) rfl ?_
        refine XS.iload Xl.here hexec rfl (hb hbytes d28) rfl ?_
        refine i2b Xl.here hexec rfl (hb hbytes d30) rfl ?_
        exact Steps.refl _)
      obtain ⟨T7, X7, p7, st7⟩ := Xl.aput hexec hBk rfl hlt rfl (fits_lo8 (cv A (o + i))) (g := (mkF m 31 #[.val (.ref b), .val (.int (Int32.ofNat (o + i))), .val (.ref d), .val (.int (Int32.ofNat (q + i))), .val (.int (Int32.ofNat len)), .val (.int (Int32.ofNat i)), .val (.int (cv A (o + i)))] [.int (lo8 (cv A (o + i))), .int (Int32.ofNat (q + i)), .ref d])) rfl (rest := []) rfl (hb hbytes d31)
      have c8 : Steps p.tables e below (s₁.setTop (entryFrame m #[.ref b, .int (Int32.ofNat o), .ref d, .int (Int32.ofNat q), .int (Int32.ofNat len)] 7)) (T7.setTop (mkF m 32 #[.val (.ref b), .val (.int (Int32.ofNat (o + i))), .val (.ref d), .val (.int (Int32.ofNat (q + i))), .val (.int (Int32.ofNat len)), .val (.int (Int32.ofNat i)), .val (.int (cv A (o + i)))] [])) := c6.trans (st7 _ (Steps.refl _))
      have c9 : Steps p.tables e below (s₁.setTop (entryFrame m #[.ref b, .int (Int32.ofNat o), .ref d, .int (Int32.ofNat q), .int (Int32.ofNat len)] 7)) (T7.setTop (mkF m 3 #[.val (.ref b), .val (.int (Int32.ofNat (o + i) + 1)), .val (.ref d), .val (.int (Int32.ofNat (q + i) + 1)), .val (.int (Int32.ofNat len)), .val (.int (Int32.ofNat i + 1)), .val (.int (cv A (o + i)))] [])) := c8.trans (by
        refine iincV X7.here hexec rfl 1 (hb hbytes d32) (by decide) rfl rfl ?_
        refine iincV X7.here hexec rfl 1 (hb hbytes d35) (by decide) rfl rfl ?_
        refine iincV X7.here hexec rfl 1 (hb hbytes d38) (by decide) rfl rfl ?_
        refine XS.goto X7.here hexec rfl (pc0 := 41) rfl (hb hbytes d41) (by decide) rfl ?_
        exact Steps.refl _)
      have c10 : Steps p.tables e below (s₁.setTop (entryFrame m #[.ref b, .int (Int32.ofNat o), .ref d, .int (Int32.ofNat q), .int (Int32.ofNat len)] 7)) (T7.setTop (mkF m 3 #[.val (.ref b), .val (.int (Int32.ofNat (o + (i + 1)))), .val (.ref d), .val (.int (Int32.ofNat (q + (i + 1)))), .val (.int (Int32.ofNat len)), .val (.int (Int32.ofNat (i + 1))), .val (.int (cv A (o + i)))] [])) := by
        have := c9
        rw [succ32, succ32, succ32] at this
        exact this
      exact ih (i + 1) (by omega) _ (Or.inr ⟨_, rfl, rfl⟩) T7 _ (by rw [copyLocs_step, ← List.append_assoc]; exact X7) (pl.trans p7) (fl.step (by omega) hlt (by simp)) c10
  obtain ⟨T9, B9, z9, X9, p9, f9, g9⟩ := loop len 0 (by omega) .unset (Or.inl rfl) s₁ B (by simpa [copyLocs] using X0) ⟨hB0.1, fun _ _ => rfl, rfl⟩ (Laid.zero _ _ _) c2
  have c11 : Steps p.tables e below (s₁.setTop (entryFrame m #[.ref b, .int (Int32.ofNat o), .ref d, .int (Int32.ofNat q), .int (Int32.ofNat len)] 7)) (T9.setTop (mkF m 46 #[.val (.ref b), .val (.int (Int32.ofNat (o + len))), .val (.ref d), .val (.int (Int32.ofNat (q + len))), .val (.int (Int32.ofNat len)), .val (.int (Int32.ofNat len)), z9] [.int (Int32.ofNat len)])) := g9.trans (by
    refine XS.iload X9.here hexec rfl (hb hbytes d3) rfl ?_
    refine XS.iload X9.here hexec rfl (hb hbytes d5) rfl ?_
    refine XS.icmpYes X9.here hexec rfl (pc0 := 7) rfl (hb hbytes d7) rfl (ii_ge_t (nlt32 (by omega) (Nat.le_refl _))) (by decide) rfl ?_
    refine XS.iload X9.here hexec rfl (hb hbytes d44) rfl ?_
    exact Steps.refl _)
  exact ⟨T9, some (.int (Int32.ofNat len)), _, _, _, X9, by simp, rfl, rfl, (fun h => by cases h), ⟨rfl, B9, p9.from hh0, f9⟩, fun fs hl => c11.trans (X9.ireturnOut hexec hret rfl (Or.inl rfl) (hb hbytes d46) hl)⟩
end Cmp5
namespace Cmp3
def yN : MethodName := ⟨"java/lang/StringUTF16", "compress", "([CII)[B"⟩
abbrev yB : ByteArray := jdk_52_method_16_code
theorem d0 : decode yB 0 = .ok (.iload_n 2, 1) := by decide +kernel
theorem d1 : decode yB 1 = .ok (.newarray .byte, 2) := by decide +kernel
theorem d3 : decode yB 3 = .ok (.astore_n 3, 1) := by decide +kernel
theorem d4 : decode yB 4 = .ok (.aload_n 0, 1) := by decide +kernel
theorem d5 : decode yB 5 = .ok (.iload_n 1, 1) := by decide +kernel
theorem d6 : decode yB 6 = .ok (.aload_n 3, 1) := by decide +kernel
theorem d7 : decode yB 7 = .ok (.iconst 0, 1) := by decide +kernel
theorem d8 : decode yB 8 = .ok (.iload_n 2, 1) := by decide +kernel
theorem d9 : decode yB 9 = .ok (.invokestatic 115, 3) := by decide +kernel
theorem d12 : decode yB 12 = .ok (.istore 4, 2) := by decide +kernel
theorem d14 : decode yB 14 = .ok (.iload 4, 2) := by decide +kernel
theorem d16 : decode yB 16 = .ok (.iload_n 2, 1) := by decide +kernel
theorem d17 : decode yB 17 = .ok (.if_icmp (.eq) 40, 3) := by decide +kernel
theorem d57 : decode yB 57 = .ok (.aload_n 3, 1) := by decide +kernel
theorem d58 : decode yB 58 = .ok (.areturn, 1) := by decide +kernel
def site : List Cond := [.arrayClass .byte, Cmp5.tab] ++ staticW U16 115 Cmp5.yN
def tab : Cond := tabOf yN yB 6 (some (.array .byte)) site
def P (b : Addr) (A : Cell) (o len : Nat) (args : Array Value) (s : State) : Prop := args = #[.ref b, .int (Int32.ofNat o), .int (Int32.ofNat len)] ∧ Ch b A s ∧ o + len ≤ A.slots.size ∧ len ≤ 536870912 ∧ ∀ i, i < len → ¬ 255 < cv A (o + i)
def E (b : Addr) (A : Cell) (o len : Nat) (r : Option Value) (s u : State) : Prop := NewArr .byte "[B" len (fun j => .int (lo8 (cv A (o + j)))) r s u ∧ u.heap.size = s.heap.size + 1
/-- no char of the range above 255: a new byte[] of their low bytes -/
theorem law (l : Launch) (b : Addr) (A : Cell) (o len : Nat) : Law l yN 3 3 1 18 yB 6 (some (.array .byte)) site (P b A o len) (E b A o len) [] 1 len := by
  refine Law.of_walk (plainFor_of_name (by decide +kernel)) (by decide +kernel) (by decide +kernel) (by decide) (fun _ _ h => by rw [h.1]; rfl) (fun _ U U' hal hh h => ⟨h.1, h.2.1.mv hal hh, h.2.2⟩) (fun r U U' V V' h1 hal h2 h => ⟨NewArr.mv r U U' V V' h1 hal h2 h.1, by rw [h1, h2]; exact h.2⟩) ?_
  intro p e s m args below meth c s₁ X0 hexec hbytes hml hret hlk hnm hown hh0 W hP
  obtain ⟨rfl, hA, l1, l2, hp⟩ := hP
  have a31 := hA.1.2.2.2
  have c1 : Steps p.tables e below (s₁.setTop (entryFrame m #[.ref b, .int (Int32.ofNat o), .int (Int32.ofNat len)] 6)) (s₁.setTop (mkF m 0 #[.val (.ref b), .val (.int (Int32.ofNat o)), .val (.int (Int32.ofNat len)), .unset, .unset, .unset] [])) := entry rfl
  have c2 : Steps p.tables e below (s₁.setTop (entryFrame m #[.ref b, .int (Int32.ofNat o), .int (Int32.ofNat len)] 6)) (s₁.setTop (mkF m 1 #[.val (.ref b), .val (.int (Int32.ofNat o)), .val (.int (Int32.ofNat len)), .unset, .unset, .unset] [.int (Int32.ofNat len)])) := c1.trans (by
    refine XS.iloadN X0.here hexec rfl (hb hbytes d0) rfl ?_
    exact Steps.refl _)
  obtain ⟨T3, B3, X3, ba3, bs3, bv3, bh3, bf3, st3⟩ := X0.anew hexec (atype := .byte) (wk W (.arrayClass .byte)) rfl (by show len * 1 ≤ _; omega) (by omega) (g := (mkF m 1 #[.val (.ref b), .val (.int (Int32.ofNat o)), .val (.int (Int32.ofNat len)), .unset, .unset, .unset] [.int (Int32.ofNat len)])) rfl (hb hbytes d1) (rest := []) rfl (Nat.le_refl _) (by show 0 + len ≤ len; omega)
  rw [hh0] at ba3 st3
  have kp3 : XT.Kept s T3 := (XT.Kept.of_eq hh0).push bh3
  have hA3 := hA.keep X3.warmed.alike (kp3 _ _ hA.1.1)
  have hne : b ≠ s.heap.size := hA.1.ne
  have c4 : Steps p.tables e below (s₁.setTop (entryFrame m #[.ref b, .int (Int32.ofNat o), .int (Int32.ofNat len)] 6)) (T3.setTop (mkF m 3 #[.val (.ref b), .val (.int (Int32.ofNat o)), .val (.int (Int32.ofNat len)), .unset, .unset, .unset] [.ref s.heap.size])) := c2.trans (st3 _ (Steps.refl _))
  have c5 : Steps p.tables e below (s₁.setTop (entryFrame m #[.ref b, .int (Int32.ofNat o), .int (Int32.ofNat len)] 6)) (T3.setTop (mkF m 9 #[.val (.ref b), .val (.int (Int32.ofNat o)), .val (.int (Int32.ofNat len)), .val (.ref s.heap.size), .unset, .unset] [.int (Int32.ofNat len), .int 0, .ref s.heap.size, .int (Int32.ofNat o), .ref b])) := c4.trans (by
    refine XS.astoreN X3.here hexec rfl (hb hbytes d3) rfl rfl rfl ?_
    refine XS.aloadN X3.here hexec rfl (hb hbytes d4) rfl rfl ?_
    refine XS.iloadN X3.here hexec rfl (hb hbytes d5) rfl ?_
    refine XS.aloadN X3.here hexec rfl (hb hbytes d6) rfl rfl ?_
    refine iconstV X3.here hexec rfl 0 (hb hbytes d7) (by decide) ?_
    refine XS.iloadN X3.here hexec rfl (hb hbytes d8) rfl ?_
    exact Steps.refl _)
  obtain ⟨v6, T6, X6, E6, g6⟩ := X3.callS hexec (Cmp5.law l b A s.heap.size B3 o 0 len) hown (wks W (staticW U16 115 Cmp5.yN)) (wk W Cmp5.tab) (W := 0) (Nat.le_of_ble_eq_true rfl) (Nat.le_of_ble_eq_true rfl) (Nat.le_refl _) (by show 0 + len + 0 ≤ len; omega) (g := (mkF m 9 #[.val (.ref b), .val (.int (Int32.ofNat o)), .val (.int (Int32.ofNat len)), .val (.ref s.heap.size), .unset, .unset] [.int (Int32.ofNat len), .int (Int32.ofNat 0), .ref s.heap.size, .int (Int32.ofNat o), .ref b])) rfl (by rw [hml]; rfl) c5 (argsL := [.ref b, .int (Int32.ofNat o), .ref s.heap.size, .int (Int32.ofNat 0), .int (Int32.ofNat len)]) (rest := []) rfl rfl (by show 2 * 0 + 0 ≤ _; decide) (hb hbytes d9) (⟨rfl, hA3, ba3, hne, l1, by rw [bs3]; simp, hp⟩)
  obtain ⟨rfl, B6, p6, f6⟩ := E6
  have c7 : Steps p.tables e below (s₁.setTop (entryFrame m #[.ref b, .int (Int32.ofNat o), .int (Int32.ofNat len)] 6)) (T6.setTop (mkF m 12 #[.val (.ref b), .val (.int (Int32.ofNat o)), .val (.int (Int32.ofNat len)), .val (.ref s.heap.size), .unset, .unset] [.int (Int32.ofNat len)])) := g6
  have c8 : Steps p.tables e below (s₁.setTop (entryFrame m #[.ref b, .int (Int32.ofNat o), .int (Int32.ofNat len)] 6)) (T6.setTop (mkF m 58 #[.val (.ref b), .val (.int (Int32.ofNat o)), .val (.int (Int32.ofNat len)), .val (.ref s.heap.size), .val (.int (Int32.ofNat len)), .unset] [.ref s.heap.size])) := c7.trans (by
    refine XS.istore X6.here hexec rfl (hb hbytes d12) rfl rfl ?_
    refine XS.iload X6.here hexec rfl (hb hbytes d14) rfl ?_
    refine XS.iloadN X6.here hexec rfl (hb hbytes d16) rfl ?_
    refine XS.icmpYes X6.here hexec rfl (pc0 := 17) rfl (hb hbytes d17) rfl (ii_eq_t rfl) (by decide) rfl ?_
    refine XS.aloadN X6.here hexec rfl (hb hbytes d57) rfl rfl ?_
    exact Steps.refl _)
  have X8 := X6.wide (L' := []) (cells' := 1) (slots' := len) (fun x hx hlt => by
    simp only [List.nil_append, copyLocs, List.mem_map, List.mem_range] at hx
    obtain ⟨i, -, rfl⟩ := hx
    exact absurd hlt (Nat.lt_irrefl _)) (Nat.le_refl _) (by omega)
  exact ⟨T6, some (.ref s.heap.size), _, _, _, X8, rfl, rfl, rfl, (fun h => by cases h), ⟨⟨rfl, B6, ba3.like (X3.warmed.alike.symm.trans X6.warmed.alike) p6.1 f6.1 f6.2.1 f6.2.2.1, f6.2.1.trans bv3, by rw [X6.warmed.alike.findClass, f6.1]; exact bf3, by rw [f6.2.2.1, bs3]; simp, fun j hj => by rw [f6.2.2.2 j, if_pos (by omega)]; rfl, kp3.put p6 (Nat.le_refl _)⟩, by rw [p6.2.2, bh3, hh0]; simp⟩, fun fs hl => c8.trans (X8.areturnOut hexec rfl hret rfl (hb hbytes d58) hl)⟩
end Cmp3
namespace CodL
def yN : MethodName := ⟨"java/lang/StringUTF16", "coderFromArrayLen", "([BI)B"⟩
abbrev yB : ByteArray := jdk_52_method_15_code
theorem d0 : decode yB 0 = .ok (.iload_n 1, 1) := by decide +kernel
theorem d1 : decode yB 1 = .ok (.aload_n 0, 1) := by decide +kernel
theorem d2 : decode yB 2 = .ok (.arraylength, 1) := by decide +kernel
theorem d3 : decode yB 3 = .ok (.isub, 1) := by decide +kernel
theorem d4 : decode yB 4 = .ok (.bipush 31, 2) := by decide +kernel
theorem d6 : decode yB 6 = .ok (.iushr, 1) := by decide +kernel
theorem d7 : decode yB 7 = .ok (.i2b, 1) := by decide +kernel
theorem d8 : decode yB 8 = .ok (.ireturn, 1) := by decide +kernel
def site : List Cond := []
def tab : Cond := tabOf yN yB 2 (some .byte) site
def P (d : Addr) (B : Cell) (args : Array Value) (s : State) : Prop := args = #[.ref d, .int (Int32.ofNat B.slots.size)] ∧ Arr .byte d B s
def E (r : Option Value) (s u : State) : Prop := XT.PureE (some (.int 0)) r s u
/-- an array as long as the number of chars: LATIN1 -/
theorem law (l : Launch) (d : Addr) (B : Cell) : Law l yN 2 2 0 0 yB 2 (some .byte) site (P d B) E [] 0 0 := by
  refine Law.of_walk (plainFor_of_name (by decide +kernel)) (by decide +kernel) (by decide +kernel) (by decide) (fun _ _ h => by rw [h.1]; rfl) (fun _ U U' hal hh h => ⟨h.1, h.2.mv hal hh⟩) (fun r U U' V V' h1 hal h2 h => XT.PureE.mv r U U' V V' h1 hal h2 h) ?_
  intro p e s m args below meth c s₁ X0 hexec hbytes hml hret hlk hnm hown hh0 W hP
  obtain ⟨rfl, hB⟩ := hP
  have hB0 := hB.mv X0.warmed.alike hh0
  have c1 : Steps p.tables e below (s₁.setTop (entryFrame m #[.ref d, .int (Int32.ofNat B.slots.size)] 2)) (s₁.setTop (mkF m 0 #[.val (.ref d), .val (.int (Int32.ofNat B.slots.size))] [])) := entry rfl
  have c2 : Steps p.tables e below (s₁.setTop (entryFrame m #[.ref d, .int (Int32.ofNat B.slots.size)] 2)) (s₁.setTop (mkF m 2 #[.val (.ref d), .val (.int (Int32.ofNat B.slots.size))] [.ref d, .int (Int32.ofNat B.slots.size)])) := c1.trans (by
    refine XS.iloadN X0.here hexec rfl (hb hbytes d0) rfl ?_
    refine XS.aloadN X0.here hexec rfl (hb hbytes d1) rfl rfl ?_
    exact Steps.refl _)
  have c3 : Steps p.tables e below (s₁.setTop (entryFrame m #[.ref d, .int (Int32.ofNat B.slots.size)] 2)) (s₁.setTop (mkF m 8 #[.val (.ref d), .val (.int (Int32.ofNat B.slots.size))] [.int (lo8 (ushr (Int32.ofNat B.slots.size - Int32.ofNat B.slots.size) 31))])) := c2.trans (by
    refine X0.alen hexec hB0 rfl rfl (hb hbytes d2) ?_
    refine XS.isub X0.here hexec rfl (hb hbytes d3) rfl ?_
    refine bipushV X0.here hexec rfl 31 (hb hbytes d4) (by decide) ?_
    refine iushr X0.here hexec rfl (hb hbytes d6) rfl ?_
    refine i2b X0.here hexec rfl (hb hbytes d7) rfl ?_
    exact Steps.refl _)
  have e0 : lo8 (ushr (Int32.ofNat B.slots.size - Int32.ofNat B.slots.size) 31) = 0 := by rw [Int32.sub_self]; decide
  rw [e0] at c3
  exact ⟨s₁, some (.int 0), _, _, _, X0, rfl, rfl, rfl, (fun h => by cases h), ⟨rfl, hh0⟩, fun fs hl => c3.trans (X0.ireturnOut hexec hret rfl (Or.inr (Or.inr (Or.inl rfl))) (hb hbytes d8) hl)⟩
end CodL
/-- the String at a is Latin-1 over a new byte[] (the heap's one new cell): the low bytes of the len chars of A from o on; every cell but a is kept -/
def Got (a : Addr) (D : Cell) (fV fC : Field) (A : Cell) (o len : Nat) (r : Option Value) (s u : State) : Prop := r = none ∧ ∃ D' V : Cell, Blank "java/lang/String" a D' u ∧ Same D D' [fV.slot, fC.slot] ∧ D'.slots[fV.slot]? = some (.ref s.heap.size) ∧ D'.slots[fC.slot]? = some (.int 0) ∧ Arr .byte s.heap.size V u ∧ V.vm = .none ∧ u.vm.findClass "[B" = some V.cls ∧ V.slots.size = len ∧ (∀ j, j < len → V.slots[j]? = some (.int (lo8 (cv A (o + j))))) ∧ (∀ (y : Addr) (c : Cell), y ≠ a → s.heap[y]? = some c → u.heap[y]? = some c) ∧ u.heap.size = s.heap.size + 1
theorem Got.mv {a : Addr} {D A : Cell} {fV fC : Field} {o len : Nat} : ∀ r (U U' V V' : State), U'.heap = U.heap → V.vm.Alike V'.vm → V'.heap = V.heap → Got a D fV fC A o len r U V → Got a D fV fC A o len r U' V' :=
  fun r U U' V V' h1 hal h2 ⟨e0, D', X, a1, a2, a3, a4, a5, a6, a7, a8, a9, a10, a11⟩ => ⟨e0, D', X, a1.mv hal h2, a2, by rw [h1]; exact a3, a4, by rw [h1]; exact a5.mv hal h2, a6, by rw [hal.findClass]; exact a7, a8, a9, by rw [h1, h2]; exact a10, by rw [h1, h2]; exact a11⟩
namespace New4
def yN : MethodName := ⟨"java/lang/String", "<init>", "([CIILjava/lang/Void;)V"⟩
abbrev yB : ByteArray := jdk_42_method_149_code
theorem d0 : decode yB 0 = .ok (.aload_n 0, 1) := by decide +kernel
theorem d1 : decode yB 1 = .ok (.invokespecial 1, 3) := by decide +kernel
theorem d4 : decode yB 4 = .ok (.iload_n 3, 1) := by decide +kernel
theorem d5 : decode yB 5 = .ok (.ifCond (.ne) 22, 3) := by decide +kernel
theorem d27 : decode yB 27 = .ok (.getstatic 38, 3) := by decide +kernel
theorem d30 : decode yB 30 = .ok (.ifCond (.eq) 28, 3) := by decide +kernel
theorem d33 : decode yB 33 = .ok (.aload_n 1, 1) := by decide +kernel
theorem d34 : decode yB 34 = .ok (.iload_n 2, 1) := by decide +kernel
theorem d35 : decode yB 35 = .ok (.iload_n 3, 1) := by decide +kernel
theorem d36 : decode yB 36 = .ok (.invokestatic 177, 3) := by decide +kernel
theorem d39 : decode yB 39 = .ok (.astore 5, 2) := by decide +kernel
theorem d41 : decode yB 41 = .ok (.aload_n 0, 1) := by decide +kernel
theorem d42 : decode yB 42 = .ok (.aload 5, 2) := by decide +kernel
theorem d44 : decode yB 44 = .ok (.iload_n 3, 1) := by decide +kernel
theorem d45 : decode yB 45 = .ok (.invokestatic 47, 3) := by decide +kernel
theorem d48 : decode yB 48 = .ok (.putfield 15, 3) := by decide +kernel
theorem d51 : decode yB 51 = .ok (.aload_n 0, 1) := by decide +kernel
theorem d52 : decode yB 52 = .ok (.aload 5, 2) := by decide +kernel
theorem d54 : decode yB 54 = .ok (.putfield 9, 3) := by decide +kernel
theorem d57 : decode yB 57 = .ok (.return_, 1) := by decide +kernel
def site : List Cond := [.fieldLink "java/lang/String" 38 "java/lang/String" "COMPACT_STRINGS" "Z", Cmp3.tab, CodL.tab, .laysFinal "java/lang/String" "java/lang/String" "value" "[B", .fieldLink "java/lang/String" 9 "java/lang/String" "value" "[B", .laysFinal "java/lang/String" "java/lang/String" "coder" "B", .fieldLink "java/lang/String" 15 "java/lang/String" "coder" "B"] ++ objW "java/lang/String" 1 ++ staticW "java/lang/String" 177 Cmp3.yN ++ staticW "java/lang/String" 47 CodL.yN
def tab : Cond := tabOf yN yB 6 none site
def P (a : Addr) (D : Cell) (fV fC : Field) (b : Addr) (A : Cell) (z : Int32) (o len : Nat) (args : Array Value) (s : State) : Prop := args = #[.ref a, .ref b, .int (Int32.ofNat o), .int (Int32.ofNat len), .null] ∧ Blank "java/lang/String" a D s ∧ Found "java/lang/String" "value" "[B" fV s ∧ Found "java/lang/String" "coder" "B" fC s ∧ Ch b A s ∧ StaticIs s "java/lang/String" "COMPACT_STRINGS" "Z" (.int z) ∧ ¬ z = 0 ∧ 0 < len ∧ o + len ≤ A.slots.size ∧ len ≤ 536870912 ∧ ∀ i, i < len → ¬ 255 < cv A (o + i)
def E (a : Addr) (D : Cell) (fV fC : Field) (A : Cell) (o len : Nat) (r : Option Value) (s u : State) : Prop := Got a D fV fC A o len r s u
/-- len > 0, no char of the range above 255: a Latin-1 String of their low bytes -/
theorem law (l : Launch) (a : Addr) (D : Cell) (fV fC : Field) (b : Addr) (A : Cell) (z : Int32) (o len : Nat) : Law l yN 5 4 2 35 yB 6 none site (P a D fV fC b A z o len) (E a D fV fC A o len) [⟨a, fC.slot⟩, ⟨a, fV.slot⟩] 1 len := by
  refine Law.of_walk (plainFor_of_name (by decide +kernel)) (by decide +kernel) (by decide +kernel) (by decide) (fun _ _ h => by rw [h.1]; rfl) (fun _ U U' hal hh h => ⟨h.1, h.2.1.mv hal hh, h.2.2.1.al hal, h.2.2.2.1.al hal, h.2.2.2.2.1.mv hal hh, h.2.2.2.2.2.1.there hal hh, h.2.2.2.2.2.2⟩) (fun r U U' V V' h1 hal h2 h => Got.mv r U U' V V' h1 hal h2 h) ?_
  intro p e s m args below meth c s₁ X0 hexec hbytes hml hret hlk hnm hown hh0 W hP
  obtain ⟨rfl, hB, f1, f2, hA, s1, hz, l0, l1, l2, hp⟩ := hP
  have a31 := hA.1.2.2.2
  have c1 : Steps p.tables e below (s₁.setTop (entryFrame m #[.ref a, .ref b, .int (Int32.ofNat o), .int (Int32.ofNat len), .null] 6)) (s₁.setTop (mkF m 0 #[.val (.ref a), .val (.ref b), .val (.int (Int32.ofNat o)), .val (.int (Int32.ofNat len)), .val .null, .unset] [])) := entry rfl
  have c2 : Steps p.tables e below (s₁.setTop (entryFrame m #[.ref a, .ref b, .int (Int32.ofNat o), .int (Int32.ofNat len), .null] 6)) (s₁.setTop (mkF m 1 #[.val (.ref a), .val (.ref b), .val (.int (Int32.ofNat o)), .val (.int (Int32.ofNat len)), .val .null, .unset] [.ref a])) := c1.trans (by
    refine XS.aloadN X0.here hexec rfl (hb hbytes d0) rfl rfl ?_
    exact Steps.refl _)
  obtain ⟨T3, X3, q3, st3⟩ := X0.oinit hexec hown (wks W (objW "java/lang/String" 1)) (g := (mkF m 1 #[.val (.ref a), .val (.ref b), .val (.int (Int32.ofNat o)), .val (.int (Int32.ofNat len)), .val .null, .unset] [.ref a])) rfl (by rw [hml]; rfl) (rest := []) rfl (hb hbytes d1) (W := 0) (by show 2 * 0 + 0 ≤ _; decide) (Nat.le_of_ble_eq_true rfl) (Nat.le_of_ble_eq_true rfl)
  have hh3 := q3.trans hh0
  have c4 : Steps p.tables e below (s₁.setTop (entryFrame m #[.ref a, .ref b, .int (Int32.ofNat o), .int (Int32.ofNat len), .null] 6)) (T3.setTop (mkF m 27 #[.val (.ref a), .val (.ref b), .val (.int (Int32.ofNat o)), .val (.int (Int32.ofNat len)), .val .null, .unset] [])) := (c2.trans (st3 _ (Steps.refl _))).trans (by
    refine XS.iloadN X3.here hexec rfl (hb hbytes d4) rfl ?_
    refine XS.ifYes X3.here hexec rfl (pc0 := 5) rfl (hb hbytes d5) rfl (i0_ne_t (nz32 (by omega) l0)) (by decide) rfl ?_
    exact Steps.refl _)
  obtain ⟨T5, X5, q5, st5⟩ := X3.sget hexec hown (wk W (.fieldLink "java/lang/String" 38 "java/lang/String" "COMPACT_STRINGS" "Z")) s1 (fun _ _ h => by rw [hh3]; exact h) (g := (mkF m 27 #[.val (.ref a), .val (.ref b), .val (.int (Int32.ofNat o)), .val (.int (Int32.ofNat len)), .val .null, .unset] [])) rfl (hb hbytes d27)
  have hh5 := q5.trans hh3
  have c6 : Steps p.tables e below (s₁.setTop (entryFrame m #[.ref a, .ref b, .int (Int32.ofNat o), .int (Int32.ofNat len), .null] 6)) (T5.setTop (mkF m 30 #[.val (.ref a), .val (.ref b), .val (.int (Int32.ofNat o)), .val (.int (Int32.ofNat len)), .val .null, .unset] [.int z])) := c4.trans (st5 _ (Steps.refl _))
  have c7 : Steps p.tables e below (s₁.setTop (entryFrame m #[.ref a, .ref b, .int (Int32.ofNat o), .int (Int32.ofNat len), .null] 6)) (T5.setTop (mkF m 36 #[.val (.ref a), .val (.ref b), .val (.int (Int32.ofNat o)), .val (.int (Int32.ofNat len)), .val .null, .unset] [.int (Int32.ofNat len), .int (Int32.ofNat o), .ref b])) := c6.trans (by
    refine XS.ifNo X5.here hexec rfl (hb hbytes d30) rfl (i0_eq_f hz) ?_
    refine XS.aloadN X5.here hexec rfl (hb hbytes d33) rfl rfl ?_
    refine XS.iloadN X5.here hexec rfl (hb hbytes d34) rfl ?_
    refine XS.iloadN X5.here hexec rfl (hb hbytes d35) rfl ?_
    exact Steps.refl _)
  obtain ⟨v8, T8, X8, E8, g8⟩ := X5.callS hexec (Cmp3.law l b A o len) hown (wks W (staticW "java/lang/String" 177 Cmp3.yN)) (wk W Cmp3.tab) (W := 0) (Nat.le_of_ble_eq_true rfl) (Nat.le_of_ble_eq_true rfl) (Nat.le_refl _) (by show 0 + len ≤ len; omega) (g := (mkF m 36 #[.val (.ref a), .val (.ref b), .val (.int (Int32.ofNat o)), .val (.int (Int32.ofNat len)), .val .null, .unset] [.int (Int32.ofNat len), .int (Int32.ofNat o), .ref b])) rfl (by rw [hml]; rfl) c7 (argsL := [.ref b, .int (Int32.ofNat o), .int (Int32.ofNat len)]) (rest := []) rfl rfl (by show 2 * 0 + 0 ≤ _; decide) (hb hbytes d36) (⟨rfl, hA.mv X5.warmed.alike hh5, l1, l2, hp⟩)
  obtain ⟨e8, z8⟩ := E8
  obtain ⟨rfl, N, n1, n2, n3, n4, n5, n6⟩ := NewArr.mv _ T5 s _ _ hh5.symm (Vm.Alike.refl _) rfl e8
  rw [hh5] at z8
  have hB1 := hB.keep X8.warmed.alike (n6 _ _ hB.1)
  have hne : s.heap.size ≠ a := (Nat.ne_of_lt (Array.getElem?_eq_some_iff.mp hB.1).1).symm
  have c9 : Steps p.tables e below (s₁.setTop (entryFrame m #[.ref a, .ref b, .int (Int32.ofNat o), .int (Int32.ofNat len), .null] 6)) (T8.setTop (mkF m 39 #[.val (.ref a), .val (.ref b), .val (.int (Int32.ofNat o)), .val (.int (Int32.ofNat len)), .val .null, .unset] [.ref s.heap.size])) := g8
  have c10 : Steps p.tables e below (s₁.setTop (entryFrame m #[.ref a, .ref b, .int (Int32.ofNat o), .int (Int32.ofNat len), .null] 6)) (T8.setTop (mkF m 45 #[.val (.ref a), .val (.ref b), .val (.int (Int32.ofNat o)), .val (.int (Int32.ofNat len)), .val .null, .val (.ref s.heap.size)] [.int (Int32.ofNat N.slots.size), .ref s.heap.size, .ref a])) := by
    have hc : Steps p.tables e below (s₁.setTop (entryFrame m #[.ref a, .ref b, .int (Int32.ofNat o), .int (Int32.ofNat len), .null] 6)) (T8.setTop (mkF m 45 #[.val (.ref a), .val (.ref b), .val (.int (Int32.ofNat o)), .val (.int (Int32.ofNat len)), .val .null, .val (.ref s.heap.size)] [.int (Int32.ofNat len), .ref s.heap.size, .ref a])) := c9.trans (by
      refine XS.astore X8.here hexec rfl (hb hbytes d39) rfl rfl rfl ?_
      refine XS.aloadN X8.here hexec rfl (hb hbytes d41) rfl rfl ?_
      refine XS.aload X8.here hexec rfl (hb hbytes d42) rfl rfl ?_
      refine XS.iloadN X8.here hexec rfl (hb hbytes d44) rfl ?_
      exact Steps.refl _)
    rw [n4]; exact hc
  obtain ⟨v11, T11, X11, E11, g11⟩ := X8.callS hexec (CodL.law l s.heap.size N) hown (wks W (staticW "java/lang/String" 47 CodL.yN)) (wk W CodL.tab) (W := 1) (Nat.le_of_ble_eq_true rfl) (Nat.le_of_ble_eq_true rfl) (Nat.le_refl _) (by show 0 + len + 0 ≤ len; omega) (g := (mkF m 45 #[.val (.ref a), .val (.ref b), .val (.int (Int32.ofNat o)), .val (.int (Int32.ofNat len)), .val .null, .val (.ref s.heap.size)] [.int (Int32.ofNat N.slots.size), .ref s.heap.size, .ref a])) rfl (by rw [hml]; rfl) c10 (argsL := [.ref s.heap.size, .int (Int32.ofNat N.slots.size)]) (rest := [.ref a]) rfl rfl (by show 2 * 0 + (1 + 0) ≤ _; decide) (hb hbytes d45) (⟨rfl, n1⟩)
  obtain ⟨rfl, q11⟩ := E11
  have hB11 := hB1.mv (X8.warmed.alike.symm.trans X11.warmed.alike) q11
  have c12 : Steps p.tables e below (s₁.setTop (entryFrame m #[.ref a, .ref b, .int (Int32.ofNat o), .int (Int32.ofNat len), .null] 6)) (T11.setTop (mkF m 48 #[.val (.ref a), .val (.ref b), .val (.int (Int32.ofNat o)), .val (.int (Int32.ofNat len)), .val .null, .val (.ref s.heap.size)] [.int 0, .ref a])) := g11
  obtain ⟨T13, X13, p13, bl13, sl13, st13⟩ := X11.finit hexec hown (wk W (.fieldLink "java/lang/String" 15 "java/lang/String" "coder" "B")) (Or.inr ⟨_, (wk W (.laysFinal "java/lang/String" "java/lang/String" "coder" "B"))⟩) (Or.inl ⟨rfl, hnm⟩) f2 (Or.inl rfl) hB11 (t := .byte) (by decide +kernel) rfl (g := (mkF m 48 #[.val (.ref a), .val (.ref b), .val (.int (Int32.ofNat o)), .val (.int (Int32.ofNat len)), .val .null, .val (.ref s.heap.size)] [.int 0, .ref a])) rfl (rest := []) rfl (hb hbytes d48)
  have c14 : Steps p.tables e below (s₁.setTop (entryFrame m #[.ref a, .ref b, .int (Int32.ofNat o), .int (Int32.ofNat len), .null] 6)) (T13.setTop (mkF m 54 #[.val (.ref a), .val (.ref b), .val (.int (Int32.ofNat o)), .val (.int (Int32.ofNat len)), .val .null, .val (.ref s.heap.size)] [.ref s.heap.size, .ref a])) := (c12.trans (st13 _ (Steps.refl _))).trans (by
    refine XS.aloadN X13.here hexec rfl (hb hbytes d51) rfl rfl ?_
    refine XS.aload X13.here hexec rfl (hb hbytes d52) rfl rfl ?_
    exact Steps.refl _)
  obtain ⟨T15, X15, p15, bl15, sl15, st15⟩ := X13.finit hexec hown (wk W (.fieldLink "java/lang/String" 9 "java/lang/String" "value" "[B")) (Or.inr ⟨_, (wk W (.laysFinal "java/lang/String" "java/lang/String" "value" "[B"))⟩) (Or.inl ⟨rfl, hnm⟩) f1 (Or.inl rfl) bl13 (t := (.array .byte)) (by decide +kernel) rfl (g := (mkF m 54 #[.val (.ref a), .val (.ref b), .val (.int (Int32.ofNat o)), .val (.int (Int32.ofNat len)), .val .null, .val (.ref s.heap.size)] [.ref s.heap.size, .ref a])) rfl (rest := []) rfl (hb hbytes d54)
  have c16 : Steps p.tables e below (s₁.setTop (entryFrame m #[.ref a, .ref b, .int (Int32.ofNat o), .int (Int32.ofNat len), .null] 6)) (T15.setTop (mkF m 57 #[.val (.ref a), .val (.ref b), .val (.int (Int32.ofNat o)), .val (.int (Int32.ofNat len)), .val .null, .val (.ref s.heap.size)] [])) := c14.trans (st15 _ (Steps.refl _))
  have ap := apart (Or.inr ⟨_, (wk W (.laysFinal "java/lang/String" "java/lang/String" "value" "[B"))⟩) (Or.inr ⟨_, (wk W (.laysFinal "java/lang/String" "java/lang/String" "coder" "B"))⟩) f1 f2 (t₁ := .array .byte) (t₂ := .byte) (by decide +kernel) (by decide +kernel) (by decide)
  have al := X8.warmed.alike.symm.trans X15.warmed.alike
  have n7 : T11.heap[s.heap.size]? = some N := by rw [q11]; exact n1.1
  exact ⟨T15, none, _, _, _, X15, by simp, rfl, by omega, (fun _ => rfl), ⟨rfl, _, N, bl15, ((Same.refl D _).set _ (by simp)).set _ (by simp), sl15, (Cell.slots_setSlot_ne _ ap).trans sl13, n1.keep al (p15.other hne (p13.other hne n7)), n2, by rw [al.findClass]; exact n3, n4, n5, fun y c h1 h2 => p15.other h1 (p13.other h1 (by rw [q11]; exact n6 y c h2)), by rw [p15.2.2, p13.2.2, q11]; exact z8⟩, fun fs hl => c16.trans (X15.returnOut hexec hret (hb hbytes d57) hl)⟩
end New4
namespace New1
def yN : MethodName := ⟨"java/lang/String", "<init>", "([C)V"⟩
abbrev yB : ByteArray := jdk_42_method_3_code
theorem d0 : decode yB 0 = .ok (.aload_n 0, 1) := by decide +kernel
theorem d1 : decode yB 1 = .ok (.aload_n 1, 1) := by decide +kernel
theorem d2 : decode yB 2 = .ok (.iconst 0, 1) := by decide +kernel
theorem d3 : decode yB 3 = .ok (.aload_n 1, 1) := by decide +kernel
theorem d4 : decode yB 4 = .ok (.arraylength, 1) := by decide +kernel
theorem d5 : decode yB 5 = .ok (.aconst_null, 1) := by decide +kernel
theorem d6 : decode yB 6 = .ok (.invokespecial 27, 3) := by decide +kernel
theorem d9 : decode yB 9 = .ok (.return_, 1) := by decide +kernel
def site : List Cond := [New4.tab] ++ initW "java/lang/String" 27 New4.yN
def tab : Cond := tabOf yN yB 2 none site
def P (a : Addr) (D : Cell) (fV fC : Field) (b : Addr) (A : Cell) (z : Int32) (args : Array Value) (s : State) : Prop := args = #[.ref a, .ref b] ∧ Blank "java/lang/String" a D s ∧ Found "java/lang/String" "value" "[B" fV s ∧ Found "java/lang/String" "coder" "B" fC s ∧ Ch b A s ∧ StaticIs s "java/lang/String" "COMPACT_STRINGS" "Z" (.int z) ∧ ¬ z = 0 ∧ 0 < A.slots.size ∧ A.slots.size ≤ 536870912 ∧ ∀ i, i < A.slots.size → ¬ 255 < cv A i
def E (a : Addr) (D : Cell) (fV fC : Field) (A : Cell) (r : Option Value) (s u : State) : Prop := Got a D fV fC A 0 A.slots.size r s u
/-- new String(chars), not empty, no char above 255: a Latin-1 String of their low bytes -/
theorem law (l : Launch) (a : Addr) (D : Cell) (fV fC : Field) (b : Addr) (A : Cell) (z : Int32) : Law l yN 2 1 3 52 yB 2 none site (P a D fV fC b A z) (E a D fV fC A) [⟨a, fC.slot⟩, ⟨a, fV.slot⟩] 1 A.slots.size := by
  refine Law.of_walk (plainFor_of_name (by decide +kernel)) (by decide +kernel) (by decide +kernel) (by decide) (fun _ _ h => by rw [h.1]; rfl) (fun _ U U' hal hh h => ⟨h.1, h.2.1.mv hal hh, h.2.2.1.al hal, h.2.2.2.1.al hal, h.2.2.2.2.1.mv hal hh, h.2.2.2.2.2.1.there hal hh, h.2.2.2.2.2.2⟩) (fun r U U' V V' h1 hal h2 h => Got.mv r U U' V V' h1 hal h2 h) ?_
  intro p e s m args below meth c s₁ X0 hexec hbytes hml hret hlk hnm hown hh0 W hP
  obtain ⟨rfl, hB, f1, f2, hA, s1, hz, l0, l2, hp⟩ := hP
  have c1 : Steps p.tables e below (s₁.setTop (entryFrame m #[.ref a, .ref b] 2)) (s₁.setTop (mkF m 0 #[.val (.ref a), .val (.ref b)] [])) := entry rfl
  have c2 : Steps p.tables e below (s₁.setTop (entryFrame m #[.ref a, .ref b] 2)) (s₁.setTop (mkF m 6 #[.val (.ref a), .val (.ref b)] [.null, .int (Int32.ofNat A.slots.size), .int 0, .ref b, .ref a])) := c1.trans (by
    refine XS.aloadN X0.here hexec rfl (hb hbytes d0) rfl rfl ?_
    refine XS.aloadN X0.here hexec rfl (hb hbytes d1) rfl rfl ?_
    refine iconstV X0.here hexec rfl 0 (hb hbytes d2) (by decide) ?_
    refine XS.aloadN X0.here hexec rfl (hb hbytes d3) rfl rfl ?_
    refine X0.alen hexec (hA.1.mv X0.warmed.alike hh0) rfl rfl (hb hbytes d4) ?_
    refine XS.aconstNull X0.here hexec rfl (hb hbytes d5) ?_
    exact Steps.refl _)
  obtain ⟨v3, T3, X3, E3, g3⟩ := X0.callN hexec (New4.law l a D fV fC b A z 0 A.slots.size) rfl hown (wks W (initW "java/lang/String" 27 New4.yN)) (W New4.tab (by simp only [site, List.mem_cons, List.mem_append, true_or, or_true])) (W := 0) (Nat.le_of_ble_eq_true rfl) (Nat.le_of_ble_eq_true rfl) (Nat.le_refl _) (by show 0 + A.slots.size ≤ A.slots.size; omega) (g := (mkF m 6 #[.val (.ref a), .val (.ref b)] [.null, .int (Int32.ofNat A.slots.size), .int (Int32.ofNat 0), .ref b, .ref a])) rfl (by rw [hml]; rfl) c2 (argsL := [.ref b, .int (Int32.ofNat 0), .int (Int32.ofNat A.slots.size), .null]) (rest := []) rfl rfl (by show 2 * 0 + 0 ≤ _; decide) (hb hbytes d6) (⟨rfl, hB.mv X0.warmed.alike hh0, f1.al X0.warmed.alike, f2.al X0.warmed.alike, hA.mv X0.warmed.alike hh0, s1.there X0.warmed.alike hh0, hz, l0, by omega, l2, fun i hi => by rw [Nat.zero_add]; exact hp i hi⟩)
  have e0 := Got.mv _ s₁ s _ _ hh0.symm (Vm.Alike.refl _) rfl E3
  obtain rfl := e0.1
  have c4 : Steps p.tables e below (s₁.setTop (entryFrame m #[.ref a, .ref b] 2)) (T3.setTop (mkF m 9 #[.val (.ref a), .val (.ref b)] [])) := g3
  exact ⟨T3, none, _, _, _, X3, by simp, rfl, by omega, (fun _ => rfl), e0, fun fs hl => c4.trans (X3.returnOut hexec hret (hb hbytes d9) hl)⟩
theorem pays {l : Launch} {R : Room} {p : Program} {e : Env} {below : List Frame} {s : State} {sargs : Array Value} {len W : Nat} (a : Addr) (D : Cell) (fV fC : Field) (b : Addr) (A : Cell) (z : Int32) (htab : tab.before sargs s = true) (hfr : 4 ≤ R.frames) (hlo : W + 65 ≤ R.locals) :
    Back l R p e below s sargs yN len W (fun A₁ a₁ => A₁.cells + 1 ≤ R.cells ∧ A₁.slots + A.slots.size ≤ R.slots ∧ P a D fV fC b A z a₁ A₁.U) (fun A₁ _ v₁ B₁ => E a D fV fC A v₁ A₁.U B₁.U ∧ B₁.locs = A₁.locs ++ [⟨a, fC.slot⟩, ⟨a, fV.slot⟩] ∧ B₁.cells = A₁.cells + 1 ∧ B₁.slots = A₁.slots + A.slots.size) :=
  (law l a D fV fC b A z).pays htab hfr (by omega)
end New1
/-- the byte, read back as charAt reads it, is the char -/
theorem lo8_mask {x : Int32} (h0 : ¬ x < 0) (h1 : ¬ 255 < x) : lo8 x &&& 255 = x := by
  have t : ∀ k : Fin 256, lo8 (Int32.ofNat k.val) &&& 255 = Int32.ofNat k.val := by decide +kernel
  rw [Int32.lt_iff_toInt_lt] at h0 h1
  have e0 : (0 : Int32).toInt = 0 := rfl
  have e1 : (255 : Int32).toInt = 255 := rfl
  obtain ⟨k, hk⟩ : ∃ k : Nat, x.toInt = k := ⟨x.toInt.toNat, by omega⟩
  have hx : x = Int32.ofNat k := Int32.toInt_inj.mp (by rw [hk, Int32.toInt_ofNat_small (by omega)])
  rw [hx]
  exact t ⟨k, by omega⟩
end StrChars
namespace StrChars.Road
open Jvm Sem ClassFile Op Lib Jvm.Stand Jvm.Free Jvm.Free.XT
open Jvm.Lib.Cold (StaticIs)
abbrev ST : String := "java/lang/String"
/-- every table word that New1's law asks, flat -/
abbrev words : List Jvm.Cond := [.code New1.yN New1.yB 2 none, .initialized ST, .methodLink ST 27 New4.yN, .instanceMethod New4.yN,
  .code New4.yN New4.yB 6 none, .fieldLink ST 38 ST "COMPACT_STRINGS" "Z", .laysFinal ST ST "value" "[B", .fieldLink ST 9 ST "value" "[B", .laysFinal ST ST "coder" "B", .fieldLink ST 15 ST "coder" "B",
  .methodLink ST 1 Lib.objectInit, .instanceMethod Lib.objectInit, .code Lib.objectInit ⟨#[0xb1]⟩ 1 none, .methodLink ST 177 Cmp3.yN, .static Cmp3.yN, .methodLink ST 47 CodL.yN, .static CodL.yN,
  .code Cmp3.yN Cmp3.yB 6 (some (.array .byte)), .initialized U16, .arrayClass .byte, .methodLink U16 115 Cmp5.yN, .static Cmp5.yN, .code Cmp5.yN Cmp5.yB 7 (some .int), .code CodL.yN CodL.yB 2 (some .byte)]
theorem tab_of {a : Array Value} {s : State} (h : ∀ w ∈ words, w.before a s = true) : New1.tab.before a s = true := by
  have h5 : Cmp5.tab.before a s = true := unparts (wk h (.code Cmp5.yN Cmp5.yB 7 (some .int))) (wks h (.initialized Cmp5.yN.cls :: Cmp5.site))
  have hc : CodL.tab.before a s = true := unparts (wk h (.code CodL.yN CodL.yB 2 (some .byte))) (wks h (.initialized CodL.yN.cls :: CodL.site))
  have q5 : ∀ w ∈ Cmp5.tab :: words, w.before a s = true := fun w hw => (List.mem_cons.mp hw).elim (fun e => e ▸ h5) (h w)
  have h3 : Cmp3.tab.before a s = true := unparts (wk q5 (.code Cmp3.yN Cmp3.yB 6 (some (.array .byte)))) (wks q5 (.initialized Cmp3.yN.cls :: Cmp3.site))
  have q3 : ∀ w ∈ Cmp3.tab :: CodL.tab :: words, w.before a s = true := fun w hw => (List.mem_cons.mp hw).elim (fun e => e ▸ h3) fun hw => (List.mem_cons.mp hw).elim (fun e => e ▸ hc) (h w)
  have h4 : New4.tab.before a s = true := unparts (wk q3 (.code New4.yN New4.yB 6 none)) (wks q3 (.initialized New4.yN.cls :: New4.site))
  have q4 : ∀ w ∈ New4.tab :: words, w.before a s = true := fun w hw => (List.mem_cons.mp hw).elim (fun e => e ▸ h4) (h w)
  exact unparts (wk q4 (.code New1.yN New1.yB 2 none)) (wks q4 (.initialized New1.yN.cls :: New1.site))
/-- the words ride from the start Z to the walk's own state -/
theorem moved {Z s : State} {a0 args : Array Value} (hZ : Z.Warmed39 s.vm) (hw : ∀ d ∈ words, d.before a0 Z = true) : ∀ d ∈ words, d.before args s = true := fun d hd => by
  have q := hw d hd
  have t : ∀ d ∈ words, d = .arrayClass .byte ∨ (d.onTables && d.keepsFace) = true := by decide +kernel
  rcases t d hd with rfl | t
  · exact RoadKit.mvA hZ q
  · exact RoadKit.mv hZ q t
/-- WHAT COMES BACK, over the tables of the start Z: h the heap at the call, h' behind it -/
def Q (Z : State) (x : Addr) (A : Cell) (h : Heap) (v : Option Value) (h' : Heap) (L : List Loc) : Prop := v = none ∧ (∀ y ∈ L, y.base = x) ∧ RoadKit.Keep h h' [x] ∧ h'.size = h.size + 1 ∧ RoadKit.Exa Z h' x ST ∧ RoadKit.Fld Z h' x ST "value" "[B" (.ref h.size) ∧ RoadKit.Fld Z h' x ST "coder" "B" (.int 0) ∧
  (∃ V : Cell, RoadKit.Arr Z h' h.size V .byte ∧ V.vm = .none ∧ Z.vm.findClass "[B" = some V.cls ∧ V.slots.size = A.slots.size ∧ ∀ j, j < A.slots.size → V.slots[j]? = some (.int (lo8 (cv A j)))) ∧
  ∀ (O n d : String) (w : Value), RoadKit.Fld Z h x O n d w → RoadKit.slotOf Z O n d ≠ RoadKit.slotOf Z ST "value" "[B" → RoadKit.slotOf Z O n d ≠ RoadKit.slotOf Z ST "coder" "B" → RoadKit.Fld Z h' x O n d w
/-- **new String(chars) AT A CALL, IN THE ROAD'S FORM**: for specialBack behind newO: x the fresh String, b the char[] with the cell A -/
theorem back {p : Program} {l : Launch} {e : Env} {R : Room} {s : State} {args : Array Value} {below : List Frame} {len W : Nat} {Z : State} {a0 : Array Value} {h : Heap} (hZ : Z.Warmed39 s.vm) (hw : ∀ d ∈ words, d.before a0 Z = true) {kI : Nat} (wi : (Jvm.Cond.instantiable ST kI).before a0 Z = true)
    {x b : Addr} {A : Cell} {z : Int32} {v0 c0 : Value} (E : RoadKit.Exa Z h x ST) (V : RoadKit.Fld Z h x ST "value" "[B" v0) (C : RoadKit.Fld Z h x ST "coder" "B" c0) (K : RoadKit.Arr Z h b A .char) (hty : Typed .char A) (S : RoadKit.Sta Z h ST "COMPACT_STRINGS" "Z" (.int z)) (hz : ¬ z = 0)
    (l0 : 0 < A.slots.size) (l2 : A.slots.size ≤ 536870912) (hp : ∀ i, i < A.slots.size → ¬ 255 < cv A i) (hfr : 4 ≤ R.frames) (hlo : W + 65 ≤ R.locals) :
    Back l R p e below s args New1.yN len W (fun P a => a = #[.ref x, .ref b] ∧ P.U.heap = h ∧ P.cells + 1 ≤ R.cells ∧ P.slots + A.slots.size ≤ R.slots)
      (fun P _ v B => ∃ L, Q Z x A h v B.U.heap L ∧ B.locs = P.locs ++ L ∧ B.cells = P.cells + 1 ∧ B.slots = P.slots + A.slots.size) := by
  intro m meth c P g ig mk a X hg hsize hdg hW hn hp'
  obtain ⟨rfl, rfl, r1, r2⟩ := hp'
  have al : Z.vm.Alike P.U.vm := hZ.alike.trans X.warmed.alike
  obtain ⟨D, cfV, kV, iV, fV, hD, gV, stV, knV, obV, asV, slV⟩ := id V
  obtain ⟨D', cfC, kC, iC, fC, hD', gC, stC, -, -, asC, slC⟩ := id C
  cases hD.symm.trans hD'
  obtain ⟨D2, kD, e1, e2, e3, e4, e5⟩ := id E
  cases hD.symm.trans e1
  obtain ⟨c2, k2, i1, i2, i3, -⟩ := Cond.instantiable_spec wi
  cases e2.symm.trans i1
  cases e3.symm.trans i2
  obtain ⟨kU, u1, u2⟩ := al.2.2 _ _ e3
  have hB : Blank ST x D P.U := ⟨hD, ⟨knV, fun q hq => by rw [hq] at obV; cases obV⟩, by rw [al.findClass]; exact e2, kU, u1, by rw [u2]; exact i3, by rw [u2]; exact e5 i3⟩
  have F1 : Found ST "value" "[B" fV P.U := ⟨SBG.found_only al ⟨cfV, kV, iV, gV⟩, stV⟩
  have F2 : Found ST "coder" "B" fC P.U := ⟨SBG.found_only al ⟨cfC, kC, iC, gC⟩, stC⟩
  have hA : Ch b A P.U := ⟨⟨K.1, State.isArrayOf_alike al K.2.1, K.2.2, by omega⟩, hty⟩
  have hS : StaticIs P.U ST "COMPACT_STRINGS" "Z" (.int z) := by
    obtain ⟨cfS, iS, kS, fS, st, cS, t1, t2, t3, t4, t5, t6, t7⟩ := S
    exact StaticIs.there (s := { Z with heap := P.U.heap }) ⟨cfS, iS, kS, fS, st, cS, t1, t2, t3, t4, t5, (fun q => by rw [q] at t6; cases t6), t7⟩ al rfl
  obtain ⟨v, B, X', ⟨⟨hv, E', V', q1, q2, q3, q4, q5, q6, q7, q8, q9, q10, q11⟩, hl, hc, hs⟩, st⟩ := New1.pays x D fV fC b A z (tab_of (moved hZ hw)) hfr hlo m meth c P g ig mk _ X hg hsize hdg hW hn ⟨r1, r2, rfl, hB, F1, F2, hA, hS, hz, l0, l2, hp⟩
  have al' : Z.vm.Alike B.U.vm := hZ.alike.trans X'.warmed.alike
  have hsz : E'.slots.size = D.slots.size := by
    obtain ⟨-, -, -, kB, w1, w2, w3⟩ := q1
    obtain ⟨kB', y1, y2⟩ := al'.2.2 _ _ e3
    rw [q2.2.1] at w1
    cases w1.symm.trans y1
    rw [w3, e5 i3, y2]
  refine ⟨v, B, X', ⟨_, ⟨hv, ?_, ⟨by omega, fun y cy hy hn' => q10 y cy (by simpa using hn') hy, fun y cy hy => ?_⟩, q11, ⟨E', _, q1.1, by rw [q2.2.1]; exact e2, by rw [q2.2.1]; exact e3, by rw [q2.1]; exact obV, fun _ => by rw [hsz]; exact e5 i3⟩,
    ⟨E', cfV, kV, iV, fV, q1.1, gV, stV, by rw [q2.1]; exact knV, by rw [q2.1]; exact obV, by rw [q2.2.1]; exact asV, q3⟩, ⟨E', cfC, kC, iC, fC, q1.1, gC, stC, by rw [q2.1]; exact knV, by rw [q2.1]; exact obV, by rw [q2.2.1]; exact asC, q4⟩,
    ⟨V', ⟨q5.1, State.isArrayOf_alike al'.symm q5.2.1, q5.2.2.1⟩, q6, by rw [← al'.findClass]; exact q7, q8, fun j hj => by have := q9 j hj; rwa [Nat.zero_add] at this⟩, fun O n d w F n1 n2 => ?_⟩, hl, hc, hs⟩, st⟩
  · intro y hy
    simp only [List.mem_cons, List.not_mem_nil, or_false] at hy
    rcases hy with rfl | rfl <;> rfl
  · by_cases q : y = x
    · subst q
      cases hD.symm.trans hy
      exact ⟨E', q1.1, q2.2.1, q2.1, hsz⟩
    · exact ⟨cy, q10 y cy q hy, rfl, rfl, rfl⟩
  · obtain ⟨D3, cf, k, i, f, g1, g2, g3, g4, g5, g6, g7⟩ := F
    cases hD.symm.trans g1
    simp only [RoadKit.slotOf, g2, gV, gC, Option.map_some, Option.getD_some] at n1 n2
    exact ⟨E', cf, k, i, f, q1.1, g2, g3, by rw [q2.1]; exact g4, by rw [q2.1]; exact g5, by rw [q2.2.1]; exact g6, by rw [q2.2.2 f.slot (by simp [n1, n2])]; exact g7⟩
end StrChars.Road
namespace StrChars.Road
open Jvm Sem ClassFile Op Lib Jvm.Stand Jvm.Free Jvm.Free.XT
/-- WHAT COMES BACK, the byte[] as a list of values -/
def QA (Z : State) (x : Addr) (zn : Int32) (cs : List Int32) (h : Heap) (v : Option Value) (h' : Heap) (L : List Loc) : Prop := v = none ∧ (∀ y ∈ L, y.base = x) ∧ RoadKit.Keep h h' [x] ∧ h'.size = h.size + 1 ∧ RoadKit.Exa Z h' x ST ∧ RoadKit.Fld Z h' x ST "value" "[B" (.ref h.size) ∧ RoadKit.Fld Z h' x ST "coder" "B" (.int 0) ∧
  (∃ kb, Z.vm.findClass "[B" = some kb ∧ RoadKit.Arv Z h' h.size kb .byte zn (cs.map fun c => .int (lo8 c)) (.int 0)) ∧
  ∀ (O n d : String) (w : Value), RoadKit.Fld Z h x O n d w → RoadKit.slotOf Z O n d ≠ RoadKit.slotOf Z ST "value" "[B" → RoadKit.slotOf Z O n d ≠ RoadKit.slotOf Z ST "coder" "B" → RoadKit.Fld Z h' x O n d w
/-- **new String(chars) AT A CALL, THE ARRAYS AS LISTS**: the char[] at b holds cs, not empty, no char above 255 -/
theorem backArv {p : Program} {l : Launch} {e : Env} {R : Room} {s : State} {args : Array Value} {below : List Frame} {len W : Nat} {Z : State} {a0 : Array Value} {h : Heap} (hZ : Z.Warmed39 s.vm) (hw : ∀ d ∈ words, d.before a0 Z = true) {kI : Nat} (wi : (Jvm.Cond.instantiable ST kI).before a0 Z = true)
    {x b : Addr} {k : ClassId} {zn z : Int32} {cs : List Int32} {dv v0 c0 : Value} (E : RoadKit.Exa Z h x ST) (V : RoadKit.Fld Z h x ST "value" "[B" v0) (C : RoadKit.Fld Z h x ST "coder" "B" c0) (K : RoadKit.Arv Z h b k .char zn (cs.map Value.int) dv) (S : RoadKit.Sta Z h ST "COMPACT_STRINGS" "Z" (.int z)) (hz : ¬ z = 0)
    (hlen : zn.toNatClampNeg = cs.length) (h0 : 0 < cs.length) (hbig : cs.length ≤ 536870912) (hall : ∀ c ∈ cs, ¬ 255 < c) (hfr : 4 ≤ R.frames) (hlo : W + 65 ≤ R.locals) :
    Back l R p e below s args New1.yN len W (fun P a => a = #[.ref x, .ref b] ∧ P.U.heap = h ∧ P.cells + 1 ≤ R.cells ∧ P.slots + cs.length ≤ R.slots)
      (fun P _ v B => ∃ L, QA Z x zn cs h v B.U.heap L ∧ B.locs = P.locs ++ L ∧ B.cells = P.cells + 1 ∧ B.slots = P.slots + cs.length) := by
  obtain ⟨A, K1, K2, K3, K4, K5, K6⟩ := K
  have e : A.slots.size = cs.length := K3.trans hlen
  have hat : ∀ (i : Nat) (hi : i < cs.length), A.slots[i]? = some (.int cs[i]) := fun i hi => by rw [K5 i (by omega)]; simp [List.getD_eq_getElem?_getD, hi]
  have hcv : ∀ (i : Nat) (hi : i < cs.length), cv A i = cs[i] := fun i hi => by unfold cv; rw [hat i hi]
  have hty : Typed .char A := fun i v hv => by
    have hi : i < A.slots.size := (Array.getElem?_eq_some_iff.mp hv).1
    have q := K5 i hi
    rw [hv] at q
    rw [Option.some.inj q]
    exact K6 i hi
  refine Back.mono (back hZ hw wi E V C K1 hty S hz (by omega) (by omega) (fun i hi => by rw [hcv i (by omega)]; exact hall _ (List.getElem_mem _)) hfr hlo) (fun P a hp => ⟨hp.1, hp.2.1, hp.2.2.1, by rw [e]; exact hp.2.2.2⟩) (fun P a v B hp hq => ?_)
  obtain ⟨L, ⟨q1, q2, q3, q4, q5, q6, q7, ⟨V', v1, v2, v3, v4, v5⟩, q9⟩, hl, hc, hs⟩ := hq
  refine ⟨L, ⟨q1, q2, q3, q4, q5, q6, q7, ⟨V'.cls, v3, V', v1, rfl, by rw [v4, e, hlen], K4, fun i hi => ?_, fun i hi => ?_⟩, q9⟩, hl, hc, by rw [hs, e]⟩
  · have hi' : i < cs.length := by omega
    rw [v5 i (by omega), hcv i hi']; simp [List.getD_eq_getElem?_getD, hi']
  · have hi' : i < cs.length := by omega
    simp only [List.getD_eq_getElem?_getD, List.getElem?_map, List.getElem?_eq_getElem hi', Option.map_some, Option.getD_some]
    exact fits_lo8 _
end StrChars.Road
namespace StrChars.Road
open Jvm Sem ClassFile Op Lib Jvm.Stand Jvm.Free Jvm.Free.XT
/-- WHAT COMES BACK, in the writer's own shape -/
def QV (Z : State) (x : Addr) (N : Int32) (bs : List Int32) (h : Heap) (n0 : Nat) (v : Option Value) (h' : Heap) (L : List Loc) : Prop := v = none ∧ RoadKit.Fr n0 L ∧ RoadKit.Keep h h' [x] ∧ RoadKit.Exa Z h' x ST ∧ RoadKit.Fld Z h' x ST "coder" "B" (.int 0) ∧
  ∃ (t : Addr) (kb : ClassId), n0 ≤ t ∧ h.size ≤ t ∧ ¬ t = x ∧ RoadKit.Fld Z h' x ST "value" "[B" (.ref t) ∧ RoadKit.Arv Z h' t kb .byte N (bs.map Value.int) (.int 0)
/-- **new String(chars) AT A CALL, FOR THE WRITER**: a char[] of n known ints, each 0 to 255 -/
theorem backV {p : Program} {l : Launch} {e : Env} {R : Room} {s : State} {args : Array Value} {below : List Frame} {len W : Nat} {Z : State} {a0 : Array Value} {h : Heap} (hZ : Z.Warmed39 s.vm) (hw : ∀ d ∈ words, d.before a0 Z = true) {kI : Nat} (wi : (Jvm.Cond.instantiable ST kI).before a0 Z = true)
    {x b : Addr} {kC : ClassId} {cs bs : List Int32} {d v0 c0 : Value} {z N : Int32} {n n0 : Nat} (hx0 : n0 ≤ x) (hh0 : n0 ≤ h.size) (E : RoadKit.Exa Z h x ST) (V : RoadKit.Fld Z h x ST "value" "[B" v0) (C : RoadKit.Fld Z h x ST "coder" "B" c0) (K : RoadKit.Arv Z h b kC .char N (cs.map Value.int) d) (S : RoadKit.Sta Z h ST "COMPACT_STRINGS" "Z" (.int z)) (hz : ¬ z = 0)
    (hn : cs.length = n) (hN : N = Int32.ofNat n) (l0 : 0 < n) (l2 : n ≤ 4000) (hp : ∀ c ∈ cs, ¬ c < 0 ∧ ¬ (255 : Int32) < c) (hb : bs = cs.map (fun c => c.toInt8.toInt32)) (hfr : 4 ≤ R.frames) (hlo : W + 65 ≤ R.locals) :
    Back l R p e below s args (⟨"java/lang/String", "<init>", "([C)V"⟩ : MethodName) len W (fun P a => a = #[.ref x, .ref b] ∧ P.U.heap = h ∧ P.cells + 1 ≤ R.cells ∧ P.slots + n ≤ R.slots)
      (fun P _ v B => ∃ L, QV Z x N bs h n0 v B.U.heap L ∧ B.locs = P.locs ++ L ∧ B.cells = P.cells + 1 ∧ B.slots = P.slots + n) := by
  subst hn hN hb
  refine Back.mono (backArv hZ hw wi E V C K S hz (n32 (by omega)) l0 (by omega) (fun c hc => (hp c hc).2) hfr hlo) (fun P a hp => hp) (fun P a v B hp hq => ?_)
  obtain ⟨L, ⟨q1, q2, q3, q4, q5, q6, q7, ⟨kb, v1, v2⟩, q9⟩, hl, hc, hs⟩ := hq
  exact ⟨L, ⟨q1, fun y hy => by rw [q2 y hy]; exact hx0, q3, q5, q7, h.size, kb, hh0, Nat.le_refl _, Nat.ne_of_gt E.lt, q6, by rw [List.map_map]; exact v2⟩, hl, hc, hs⟩
end StrChars.Road
namespace StrChars
open Jvm Sem ClassFile Op Lib Jvm.Stand Jvm.Free.XT Jvm.Free.ALB Jvm.Free.JM Jvm.Free
open Jvm.Lib.Cold (StaticIs)
def hi8 (x : Int32) : Int32 := lo8 (x >>> ((8 : Int32) &&& 31))
/-- what StringUTF16.getChar makes of two bytes -/
def pairCh (u v : Int32) : Int32 := (((u &&& 255) <<< ((0 : Int32) &&& 31)) ||| ((v &&& 255) <<< ((8 : Int32) &&& 31))).toUInt32.toUInt16.toUInt32.toInt32
theorem lo8_and (x : Int32) : (lo8 x &&& 255).toBitVec.toNat = x.toBitVec.toNat % 256 := by
  have h : (lo8 x).toBitVec = (x.toBitVec.signExtend 8).signExtend 32 := by rw [lo8, Int8.toBitVec_toInt32, Int32.toBitVec_toInt8]
  rw [Int32.toBitVec_and, BitVec.toNat_and, h]
  have e : ((x.toBitVec.signExtend 8).signExtend 32).toNat % 256 = x.toBitVec.toNat % 256 := by
    rw [BitVec.toNat_signExtend]
    have hlt := x.toBitVec.isLt
    simp only [BitVec.toNat_setWidth, BitVec.toNat_signExtend]
    split <;> split <;> omega
  rw [← e]
  exact Nat.and_two_pow_sub_one_eq_mod _ 8
theorem pair_says {c : Int32} (h0 : ¬ c < 0) (h1 : ¬ 65535 < c) : pairCh (lo8 c) (hi8 c) = c := by
  rw [Int32.lt_iff_toInt_lt] at h0 h1
  have e0 : (0 : Int32).toInt = 0 := rfl
  have e1 : (65535 : Int32).toInt = 65535 := rfl
  have hc : c.toInt = c.toBitVec.toNat := by
    have := c.toBitVec.isLt
    have e : c.toInt = c.toBitVec.toInt := rfl
    rw [e] at h0 h1
    rw [e]
    rw [BitVec.toInt_eq_toNat_cond] at h0 h1 ⊢
    split at h0 <;> split <;> omega
  have hn : c.toBitVec.toNat < 65536 := by omega
  have a1 := lo8_and c
  have a2 : (hi8 c &&& 255).toBitVec.toNat = c.toBitVec.toNat / 256 := by
    rw [hi8, lo8_and]
    have e : ((8 : Int32) &&& 31) = 8 := by decide
    rw [e, Int32.toBitVec_shiftRight]
    have e2 : ((8 : Int32).toBitVec.smod 32) = 8#32 := by decide
    rw [e2, BitVec.sshiftRight_eq', BitVec.toNat_sshiftRight_of_msb_false (by rw [BitVec.msb_eq_false_iff_two_mul_lt]; omega)]
    show c.toBitVec.toNat >>> 8 % 256 = _
    rw [Nat.shiftRight_eq_div_pow]
    omega
  unfold pairCh
  apply Int32.toBitVec_inj.mp
  apply BitVec.eq_of_toNat_eq
  have f0 : ((0 : Int32) &&& 31) = 0 := by decide
  have f8 : ((8 : Int32) &&& 31) = 8 := by decide
  rw [f0, f8]
  have g : (((lo8 c &&& 255) <<< (0 : Int32)) ||| ((hi8 c &&& 255) <<< (8 : Int32))).toBitVec.toNat = c.toBitVec.toNat := by
    rw [Int32.toBitVec_or, Int32.toBitVec_shiftLeft, Int32.toBitVec_shiftLeft]
    have s0 : ((0 : Int32).toBitVec.smod 32) = 0#32 := by decide
    have s8 : ((8 : Int32).toBitVec.smod 32) = 8#32 := by decide
    rw [s0, s8, BitVec.toNat_or]
    simp only [BitVec.shiftLeft_eq', BitVec.toNat_shiftLeft, a1, a2]
    show (c.toBitVec.toNat % 256) <<< 0 % 2 ^ 32 ||| (c.toBitVec.toNat / 256) <<< 8 % 2 ^ 32 = _
    rw [Nat.shiftLeft_zero, Nat.mod_eq_of_lt (show c.toBitVec.toNat % 256 < 2 ^ 32 by omega), Nat.mod_eq_of_lt (show (c.toBitVec.toNat / 256) <<< 8 < 2 ^ 32 by rw [Nat.shiftLeft_eq]; omega), Nat.or_comm, ← Nat.shiftLeft_add_eq_or_of_lt (by omega), Nat.shiftLeft_eq]
    omega
  show BitVec.toNat (((((lo8 c &&& 255) <<< (0 : Int32)) ||| ((hi8 c &&& 255) <<< (8 : Int32))).toBitVec.setWidth 16).setWidth 32) = _
  rw [BitVec.toNat_setWidth, BitVec.toNat_setWidth, g]
  omega
end StrChars
namespace StrChars
open Jvm Sem ClassFile Op Lib Jvm.Stand Jvm.Free.XT Jvm.Free.ALB Jvm.Free.JM Jvm.Free
open Jvm.Lib.Cold (StaticIs)
/-- the array's cell V codes the n chars f 0 .. f (n - 1) by the coder cd, as the JDK does: coder 1 just where some char is above 255 -/
def Cod (cd : Int32) (n : Nat) (f : Nat → Int32) (V : Cell) : Prop := (cd = 0 ∧ V.slots.size = n ∧ ∀ j, j < n → V.slots[j]? = some (.int (lo8 (f j))) ∧ ¬ 255 < f j) ∨ (cd = 1 ∧ V.slots.size = 2 * n ∧ (∀ j, j < n → V.slots[2 * j]? = some (.int (lo8 (f j))) ∧ V.slots[2 * j + 1]? = some (.int (hi8 (f j)))) ∧ ∃ j, j < n ∧ 255 < f j)
/-- **x is a String of the n chars f 0 .. f (n - 1)**, Latin-1 or UTF-16; its array at t has the cell V -/
def Txt (x t : Addr) (V : Cell) (cd : Int32) (n : Nat) (f : Nat → Int32) (U : State) : Prop := Exact "java/lang/String" x U ∧ Has x "java/lang/String" "value" "[B" (.ref t) U ∧ Has x "java/lang/String" "coder" "B" (.int cd) U ∧ XT.Arr .byte t V U ∧ Cod cd n f V ∧ ∀ j, j < n → ¬ f j < 0 ∧ ¬ 65535 < f j
theorem Txt.mv {x t : Addr} {V : Cell} {cd : Int32} {n : Nat} {f : Nat → Int32} {U U' : State} (h : Txt x t V cd n f U) (hal : U.vm.Alike U'.vm) (hh : U'.heap = U.heap) : Txt x t V cd n f U' := ⟨h.1.mv hal hh, h.2.1.mv hal hh, h.2.2.1.mv hal hh, h.2.2.2.1.mv hal hh, h.2.2.2.2⟩
end StrChars
namespace StrChars.Road
open Jvm Sem ClassFile Op Lib Jvm.Stand Jvm.Free Jvm.Free.XT
open Jvm.Lib.Cold (StaticIs)
theorem consq {a : Array Value} {s : State} {c : Jvm.Cond} {L : List Jvm.Cond} (h0 : c.before a s = true) (h : ∀ w ∈ L, w.before a s = true) : ∀ w ∈ c :: L, w.before a s = true := fun w hw => (List.mem_cons.mp hw).elim (fun e => e ▸ h0) (h w)
/-- the bytes of the chars cs, low before high -/
def wideBytes : List Int32 → List Value
  | [] => []
  | c :: cs => .int (lo8 c) :: .int (hi8 c) :: wideBytes cs
theorem wide_lo (d : Value) : ∀ (cs : List Int32) (j : Nat), j < cs.length → (wideBytes cs).getD (2 * j) d = .int (lo8 (cs.getD j 0))
  | [], j, h => absurd h (Nat.not_lt_zero j)
  | c :: cs, 0, _ => rfl
  | c :: cs, j + 1, h => by
    have q := wide_lo d cs j (by simpa using h)
    rw [show 2 * (j + 1) = 2 * j + 1 + 1 from by omega]
    simpa [wideBytes] using q
theorem wide_hi (d : Value) : ∀ (cs : List Int32) (j : Nat), j < cs.length → (wideBytes cs).getD (2 * j + 1) d = .int (hi8 (cs.getD j 0))
  | [], j, h => absurd h (Nat.not_lt_zero j)
  | c :: cs, 0, _ => rfl
  | c :: cs, j + 1, h => by
    have q := wide_hi d cs j (by simpa using h)
    rw [show 2 * (j + 1) + 1 = 2 * j + 1 + 1 + 1 from by omega]
    simpa [wideBytes] using q
theorem low_at (d : Value) (cs : List Int32) (j : Nat) (h : j < cs.length) : (cs.map fun c => Value.int (lo8 c)).getD j d = .int (lo8 (cs.getD j 0)) := by
  simp [List.getD_eq_getElem?_getD, h]
/-- an array of N2 bytes vs codes the chars cs by the coder cd -/
def CodA (cs : List Int32) (cd N2 : Int32) (vs : List Value) : Prop := (cd = 0 ∧ N2 = Int32.ofNat cs.length ∧ vs = (cs.map fun c => Value.int (lo8 c)) ∧ ∀ c ∈ cs, ¬ 255 < c) ∨ (cd = 1 ∧ N2 = Int32.ofNat (2 * cs.length) ∧ vs = wideBytes cs ∧ ∃ c ∈ cs, 255 < c)
theorem CodA.cod {cs : List Int32} {cd N2 : Int32} {vs : List Value} {V : Cell} (h : CodA cs cd N2 vs) (hn : 2 * cs.length < 2 ^ 31) (hs : V.slots.size = N2.toNatClampNeg) (hv : RoadKit.Has V vs (.int 0)) : Cod cd cs.length (fun j => cs.getD j 0) V := by
  rcases h with ⟨rfl, rfl, rfl, h⟩ | ⟨rfl, rfl, rfl, c, hc, hw⟩
  · rw [n32 (by omega)] at hs
    exact Or.inl ⟨rfl, hs, fun j hj => ⟨by rw [hv j (by omega), low_at _ _ _ hj], by
      have e : cs.getD j 0 = cs[j] := by simp [List.getD_eq_getElem?_getD, hj]
      show ¬ 255 < cs.getD j 0
      rw [e]; exact h _ (List.getElem_mem _)⟩⟩
  · rw [n32 (by omega)] at hs
    obtain ⟨j, hj, rfl⟩ := List.getElem_of_mem hc
    exact Or.inr ⟨rfl, hs, fun j hj => ⟨by rw [hv _ (by omega), wide_lo _ _ _ hj], by rw [hv _ (by omega), wide_hi _ _ _ hj]⟩, j, hj, by
      have e : cs.getD j 0 = cs[j] := by simp [List.getD_eq_getElem?_getD, hj]
      show 255 < cs.getD j 0
      rw [e]; exact hw⟩
/-- an object of exactly java/lang/String, its two fields found: as the laws ask it -/
theorem strObj {Z U : State} {a0 : Array Value} {kI : Nat} (wi : (Jvm.Cond.instantiable ST kI).before a0 Z = true) (al : Z.vm.Alike U.vm) {x : Addr} {v0 c0 : Value} (E : RoadKit.Exa Z U.heap x ST) (V : RoadKit.Fld Z U.heap x ST "value" "[B" v0) (C : RoadKit.Fld Z U.heap x ST "coder" "B" c0) :
    ∃ (D : Cell) (fV fC : Field), Blank ST x D U ∧ Found ST "value" "[B" fV U ∧ Found ST "coder" "B" fC U ∧ D.slots[fV.slot]? = some v0 ∧ D.slots[fC.slot]? = some c0 ∧ RoadKit.slotOf Z ST "value" "[B" = fV.slot ∧ RoadKit.slotOf Z ST "coder" "B" = fC.slot := by
  obtain ⟨D, cfV, kV, iV, fV, hD, gV, stV, knV, obV, asV, slV⟩ := V
  obtain ⟨D', cfC, kC, iC, fC, hD', gC, stC, -, -, asC, slC⟩ := C
  cases hD.symm.trans hD'
  obtain ⟨D2, kD, e1, e2, e3, e4, e5⟩ := E
  cases hD.symm.trans e1
  obtain ⟨c2, k2, i1, i2, i3, -⟩ := Cond.instantiable_spec wi
  cases e2.symm.trans i1
  cases e3.symm.trans i2
  obtain ⟨kU, u1, u2⟩ := al.2.2 _ _ e3
  exact ⟨D, fV, fC, ⟨hD, ⟨knV, fun q hq => by rw [hq] at obV; cases obV⟩, by rw [al.findClass]; exact e2, kU, u1, by rw [u2]; exact i3, by rw [u2]; exact e5 i3⟩, ⟨SBG.found_only al ⟨cfV, kV, iV, gV⟩, stV⟩, ⟨SBG.found_only al ⟨cfC, kC, iC, gC⟩, stC⟩, slV, slC, by simp [RoadKit.slotOf, gV], by simp [RoadKit.slotOf, gC]⟩
theorem sta_is {Z U : State} (al : Z.vm.Alike U.vm) {C n d : String} {v : Value} (S : RoadKit.Sta Z U.heap C n d v) : StaticIs U C n d v := by
  obtain ⟨cfS, iS, kS, fS, st, cS, t1, t2, t3, t4, t5, t6, t7⟩ := S
  exact StaticIs.there (s := { Z with heap := U.heap }) ⟨cfS, iS, kS, fS, st, cS, t1, t2, t3, t4, t5, (fun q => by rw [q] at t6; cases t6), t7⟩ al rfl
end StrChars.Road
namespace StrChars
open Jvm Sem ClassFile Op Lib Jvm.Stand Jvm.Free.XT Jvm.Free.ALB Jvm.Free.JM Jvm.Free
open Jvm.Lib.Cold (StaticIs)
/-- what place i of a byte[]'s cell holds -/
def yv (A : Cell) (i : Nat) : Int32 := match A.slots[i]? with | some (.int x) => x | _ => 0
theorem yv_get {a : Addr} {A : Cell} {U : State} (h : XT.Arr .byte a A U) (ht : Typed .byte A) {i : Nat} (hi : i < A.slots.size) : A.slots[i]? = some (.int (yv A i)) := by
  have e := Array.getElem?_eq_getElem hi
  have f := ht i _ e
  unfold yv; rw [e]
  generalize A.slots[i] = v at f
  cases v <;> simp [fits] at f ⊢
/-- the two arrays are equal, place for place -/
def EqC (A B : Cell) : Prop := A.slots.size = B.slots.size ∧ ∀ i, i < A.slots.size → yv A i = yv B i
/-- a boolean that says whether p -/
def Says01 (q : Prop) (r : Option Value) (s u : State) : Prop := ∃ v : Int32, r = some (.int v) ∧ u.heap = s.heap ∧ ((v = 1 ∧ q) ∨ (v = 0 ∧ ¬ q))
theorem Says01.mv {q : Prop} : ∀ r (U U' V V' : State), U'.heap = U.heap → V.vm.Alike V'.vm → V'.heap = V.heap → Says01 q r U V → Says01 q r U' V' :=
  fun r U U' V V' h1 _ h2 ⟨v, a, b, c⟩ => ⟨v, a, by rw [h1, h2]; exact b, c⟩
namespace LEq
def yN : MethodName := ⟨"java/lang/StringLatin1", "equals", "([B[B)Z"⟩
abbrev yB : ByteArray := jdk_43_method_13_code
theorem d0 : decode yB 0 = .ok (.aload_n 0, 1) := by decide +kernel
theorem d1 : decode yB 1 = .ok (.arraylength, 1) := by decide +kernel
theorem d2 : decode yB 2 = .ok (.aload_n 1, 1) := by decide +kernel
theorem d3 : decode yB 3 = .ok (.arraylength, 1) := by decide +kernel
theorem d4 : decode yB 4 = .ok (.if_icmp (.ne) 30, 3) := by decide +kernel
theorem d7 : decode yB 7 = .ok (.iconst 0, 1) := by decide +kernel
theorem d8 : decode yB 8 = .ok (.istore_n 2, 1) := by decide +kernel
theorem d9 : decode yB 9 = .ok (.iload_n 2, 1) := by decide +kernel
theorem d10 : decode yB 10 = .ok (.aload_n 0, 1) := by decide +kernel
theorem d11 : decode yB 11 = .ok (.arraylength, 1) := by decide +kernel
theorem d12 : decode yB 12 = .ok (.if_icmp (.ge) 20, 3) := by decide +kernel
theorem d15 : decode yB 15 = .ok (.aload_n 0, 1) := by decide +kernel
theorem d16 : decode yB 16 = .ok (.iload_n 2, 1) := by decide +kernel
theorem d17 : decode yB 17 = .ok (.baload, 1) := by decide +kernel
theorem d18 : decode yB 18 = .ok (.aload_n 1, 1) := by decide +kernel
theorem d19 : decode yB 19 = .ok (.iload_n 2, 1) := by decide +kernel
theorem d20 : decode yB 20 = .ok (.baload, 1) := by decide +kernel
theorem d21 : decode yB 21 = .ok (.if_icmp (.eq) 5, 3) := by decide +kernel
theorem d24 : decode yB 24 = .ok (.iconst 0, 1) := by decide +kernel
theorem d25 : decode yB 25 = .ok (.ireturn, 1) := by decide +kernel
theorem d26 : decode yB 26 = .ok (.iinc 2 1, 3) := by decide +kernel
theorem d29 : decode yB 29 = .ok (.goto (-20), 3) := by decide +kernel
theorem d32 : decode yB 32 = .ok (.iconst 1, 1) := by decide +kernel
theorem d33 : decode yB 33 = .ok (.ireturn, 1) := by decide +kernel
theorem d34 : decode yB 34 = .ok (.iconst 0, 1) := by decide +kernel
theorem d35 : decode yB 35 = .ok (.ireturn, 1) := by decide +kernel
def site : List Cond := []
def tab : Cond := tabOf yN yB 3 (some .boolean) site
def P (a : Addr) (A : Cell) (b : Addr) (B : Cell) (args : Array Value) (s : State) : Prop := args = #[.ref a, .ref b] ∧ XT.Arr .byte a A s ∧ Typed .byte A ∧ XT.Arr .byte b B s ∧ Typed .byte B
/-- whether two byte[] are equal, place for place -/
theorem law (l : Launch) (a : Addr) (A : Cell) (b : Addr) (B : Cell) : Law l yN 2 2 0 0 yB 3 (some .boolean) site (P a A b B) (Says01 (EqC A B)) [] 0 0 := by
  refine Law.of_walk (plainFor_of_name (by decide +kernel)) (by decide +kernel) (by decide +kernel) (by decide) (fun _ _ h => by rw [h.1]; rfl) (fun _ U U' hal hh h => ⟨h.1, h.2.1.mv hal hh, h.2.2.1, h.2.2.2.1.mv hal hh, h.2.2.2.2⟩) (fun r U U' V V' h1 hal h2 h => Says01.mv r U U' V V' h1 hal h2 h) ?_
  intro p e s m args below meth c s₁ X0 hexec hbytes hml hret hlk hnm hown hh0 W hP
  obtain ⟨rfl, hA, tA, hB, tB⟩ := hP
  have a31 := hA.2.2.2
  have b31 := hB.2.2.2
  have hA0 := hA.mv X0.warmed.alike hh0
  have hB0 := hB.mv X0.warmed.alike hh0
  have c1 : Steps p.tables e below (s₁.setTop (entryFrame m #[.ref a, .ref b] 3)) (s₁.setTop (mkF m 0 #[.val (.ref a), .val (.ref b), .unset] [])) := entry rfl
  have c2 : Steps p.tables e below (s₁.setTop (entryFrame m #[.ref a, .ref b] 3)) (s₁.setTop (mkF m 4 #[.val (.ref a), .val (.ref b), .unset] [.int (Int32.ofNat B.slots.size), .int (Int32.ofNat A.slots.size)])) := c1.trans (by
    refine XS.aloadN X0.here hexec rfl (hb hbytes d0) rfl rfl ?_
    refine X0.alen hexec hA0 rfl rfl (hb hbytes d1) ?_
    refine XS.aloadN X0.here hexec rfl (hb hbytes d2) rfl rfl ?_
    refine X0.alen hexec hB0 rfl rfl (hb hbytes d3) ?_
    exact Steps.refl _)
  by_cases hs : A.slots.size = B.slots.size
  · have c3 : Steps p.tables e below (s₁.setTop (entryFrame m #[.ref a, .ref b] 3)) (s₁.setTop (mkF m 9 #[.val (.ref a), .val (.ref b), .val (.int 0)] [])) := c2.trans (by
      refine XS.icmpNo X0.here hexec rfl (hb hbytes d4) rfl (ii_ne_f (by rw [hs])) ?_
      refine iconstV X0.here hexec rfl 0 (hb hbytes d7) (by decide) ?_
      refine XS.istoreN X0.here hexec rfl (hb hbytes d8) rfl rfl ?_
      exact Steps.refl _)
    have loop : ∀ (r i : Nat), i + r = A.slots.size → (∀ j, j < i → yv A j = yv B j) → Steps p.tables e below (s₁.setTop (entryFrame m #[.ref a, .ref b] 3)) (s₁.setTop (mkF m 9 #[.val (.ref a), .val (.ref b), .val (.int (Int32.ofNat i))] [])) → ∃ (pc : Nat) (Ls : Array Slot) (v : Int32), (pc = 25 ∨ pc = 33) ∧ ((v = 1 ∧ EqC A B) ∨ (v = 0 ∧ ¬ EqC A B)) ∧ Steps p.tables e below (s₁.setTop (entryFrame m #[.ref a, .ref b] 3)) (s₁.setTop (mkF m pc Ls [.int v])) := by
      intro r
      induction r with
      | zero =>
        intro i hi he cl
        exact ⟨33, _, 1, Or.inr rfl, Or.inl ⟨rfl, hs, fun j hj => he j (by omega)⟩, cl.trans (by
          refine XS.iloadN X0.here hexec rfl (hb hbytes d9) rfl ?_
          refine XS.aloadN X0.here hexec rfl (hb hbytes d10) rfl rfl ?_
          refine X0.alen hexec hA0 rfl rfl (hb hbytes d11) ?_
          refine XS.icmpYes X0.here hexec rfl (pc0 := 12) rfl (hb hbytes d12) rfl (ii_ge_t (nlt32 (by omega) (by omega))) (by decide) rfl ?_
          refine iconstV X0.here hexec rfl 1 (hb hbytes d32) (by decide) ?_
          exact Steps.refl _)⟩
      | succ r ih =>
        intro i hi he cl
        have c4 : Steps p.tables e below (s₁.setTop (entryFrame m #[.ref a, .ref b] 3)) (s₁.setTop (mkF m 21 #[.val (.ref a), .val (.ref b), .val (.int (Int32.ofNat i))] [.int (yv B i), .int (yv A i)])) := cl.trans (by
          refine XS.iloadN X0.here hexec rfl (hb hbytes d9) rfl ?_
          refine XS.aloadN X0.here hexec rfl (hb hbytes d10) rfl rfl ?_
          refine X0.alen hexec hA0 rfl rfl (hb hbytes d11) ?_
          refine XS.icmpNo X0.here hexec rfl (hb hbytes d12) rfl (ii_ge_f (lt32 (by omega) (by omega))) ?_
          refine XS.aloadN X0.here hexec rfl (hb hbytes d15) rfl rfl ?_
          refine XS.iloadN X0.here hexec rfl (hb hbytes d16) rfl ?_
          refine X0.aget hexec hA0 rfl (yv_get hA tA (i := i) (by omega)) rfl rfl (hb hbytes d17) ?_
          refine XS.aloadN X0.here hexec rfl (hb hbytes d18) rfl rfl ?_
          refine XS.iloadN X0.here hexec rfl (hb hbytes d19) rfl ?_
          refine X0.aget hexec hB0 rfl (yv_get hB tB (i := i) (by omega)) rfl rfl (hb hbytes d20) ?_
          exact Steps.refl _)
        by_cases hv : yv A i = yv B i
        · have c5 : Steps p.tables e below (s₁.setTop (entryFrame m #[.ref a, .ref b] 3)) (s₁.setTop (mkF m 9 #[.val (.ref a), .val (.ref b), .val (.int (Int32.ofNat i + 1))] [])) := c4.trans (by
            refine XS.icmpYes X0.here hexec rfl (pc0 := 21) rfl (hb hbytes d21) rfl (ii_eq_t hv) (by decide) rfl ?_
            refine iincV X0.here hexec rfl 1 (hb hbytes d26) (by decide) rfl rfl ?_
            refine XS.goto X0.here hexec rfl (pc0 := 29) rfl (hb hbytes d29) (by decide) rfl ?_
            exact Steps.refl _)
          rw [succ32] at c5
          exact ih (i + 1) (by omega) (fun j hj => by
            by_cases e : j = i
            · rw [e]; exact hv
            · exact he j (by omega)) c5
        · exact ⟨25, _, 0, Or.inl rfl, Or.inr ⟨rfl, fun q => hv (q.2 i (by omega))⟩, c4.trans (by
            refine XS.icmpNo X0.here hexec rfl (hb hbytes d21) rfl (ii_eq_f hv) ?_
            refine iconstV X0.here hexec rfl 0 (hb hbytes d24) (by decide) ?_
            exact Steps.refl _)⟩
    obtain ⟨pc, Ls, v, hpc, hv, cz⟩ := loop A.slots.size 0 (by omega) (fun j hj => absurd hj (Nat.not_lt_zero j)) c3
    have nv : narrow .boolean (.int v) = .int v := by rcases hv with ⟨rfl, -⟩ | ⟨rfl, -⟩ <;> rfl
    rcases hpc with rfl | rfl
    · exact ⟨s₁, some (.int v), _, _, _, X0, rfl, rfl, rfl, (fun h => by cases h), ⟨v, rfl, hh0, hv⟩, fun fs hl => cz.trans (X0.ireturnOut hexec hret nv (Or.inr (Or.inl rfl)) (hb hbytes d25) hl)⟩
    · exact ⟨s₁, some (.int v), _, _, _, X0, rfl, rfl, rfl, (fun h => by cases h), ⟨v, rfl, hh0, hv⟩, fun fs hl => cz.trans (X0.ireturnOut hexec hret nv (Or.inr (Or.inl rfl)) (hb hbytes d33) hl)⟩
  · have c3 : Steps p.tables e below (s₁.setTop (entryFrame m #[.ref a, .ref b] 3)) (s₁.setTop (mkF m 35 #[.val (.ref a), .val (.ref b), .unset] [.int 0])) := c2.trans (by
      refine XS.icmpYes X0.here hexec rfl (pc0 := 4) rfl (hb hbytes d4) rfl (ii_ne_t (ne32 a31 b31 hs)) (by decide) rfl ?_
      refine iconstV X0.here hexec rfl 0 (hb hbytes d34) (by decide) ?_
      exact Steps.refl _)
    exact ⟨s₁, some (.int 0), _, _, _, X0, rfl, rfl, rfl, (fun h => by cases h), ⟨0, rfl, hh0, Or.inr ⟨rfl, fun q => hs q.1⟩⟩, fun fs hl => c3.trans (X0.ireturnOut hexec hret rfl (Or.inr (Or.inl rfl)) (hb hbytes d35) hl)⟩
end LEq
theorem Cod.ty {cd : Int32} {n : Nat} {f : Nat → Int32} {V : Cell} (h : Cod cd n f V) : Typed .byte V := fun i v hv => by
  have hi : i < V.slots.size := (Array.getElem?_eq_some_iff.mp hv).1
  rcases h with ⟨-, k1, k2⟩ | ⟨-, k1, k2, -⟩
  · rw [(k2 i (by omega)).1] at hv; cases hv; exact fits_lo8 _
  · rcases Nat.mod_two_eq_zero_or_one i with e | e
    · obtain ⟨j, rfl⟩ : ∃ j, i = 2 * j := ⟨i / 2, by omega⟩
      rw [(k2 j (by omega)).1] at hv; cases hv; exact fits_lo8 _
    · obtain ⟨j, rfl⟩ : ∃ j, i = 2 * j + 1 := ⟨i / 2, by omega⟩
      rw [(k2 j (by omega)).2] at hv; cases hv; exact fits_lo8 _
/-- the same text -/
def SameT (n : Nat) (f : Nat → Int32) (k : Nat) (g : Nat → Int32) : Prop := n = k ∧ ∀ j, j < n → f j = g j
theorem lo8_inj {x y : Int32} (h0 : ¬ x < 0) (h1 : ¬ 255 < x) (k0 : ¬ y < 0) (k1 : ¬ 255 < y) (h : lo8 x = lo8 y) : x = y := by
  rw [← lo8_mask h0 h1, ← lo8_mask k0 k1, h]
/-- arrays coded by one coder are equal just where the texts are -/
theorem Cod.eqv {cd : Int32} {n k : Nat} {f g : Nat → Int32} {V V' : Cell} (h : Cod cd n f V) (h' : Cod cd k g V') (hf : ∀ j, j < n → ¬ f j < 0 ∧ ¬ 65535 < f j) (hg : ∀ j, j < k → ¬ g j < 0 ∧ ¬ 65535 < g j) : EqC V V' ↔ SameT n f k g := by
  have yvv : ∀ {W : Cell} {i : Nat} {x : Int32}, W.slots[i]? = some (.int x) → yv W i = x := fun q => by unfold yv; rw [q]
  rcases h with ⟨rfl, k1, k2⟩ | ⟨rfl, k1, k2, -⟩
  · rcases h' with ⟨-, m1, m2⟩ | ⟨e, -⟩
    · constructor
      · rintro ⟨e1, e2⟩
        refine ⟨by omega, fun j hj => ?_⟩
        have q := e2 j (by omega)
        rw [yvv (k2 j hj).1, yvv (m2 j (by omega)).1] at q
        exact lo8_inj (hf j hj).1 (k2 j hj).2 (hg j (by omega)).1 (m2 j (by omega)).2 q
      · rintro ⟨rfl, e2⟩
        refine ⟨by omega, fun j hj => ?_⟩
        rw [yvv (k2 j (by omega)).1, yvv (m2 j (by omega)).1, e2 j (by omega)]
    · exact absurd e (by decide)
  · rcases h' with ⟨e, -⟩ | ⟨-, m1, m2, -⟩
    · exact absurd e (by decide)
    · constructor
      · rintro ⟨e1, e2⟩
        refine ⟨by omega, fun j hj => ?_⟩
        have q1 := e2 (2 * j) (by omega)
        have q2 := e2 (2 * j + 1) (by omega)
        rw [yvv (k2 j hj).1, yvv (m2 j (by omega)).1] at q1
        rw [yvv (k2 j hj).2, yvv (m2 j (by omega)).2] at q2
        rw [← pair_says (hf j hj).1 (hf j hj).2, ← pair_says (hg j (by omega)).1 (hg j (by omega)).2, q1, q2]
      · rintro ⟨rfl, e2⟩
        refine ⟨by omega, fun i hi => ?_⟩
        rcases Nat.mod_two_eq_zero_or_one i with e | e
        · obtain ⟨j, rfl⟩ : ∃ j, i = 2 * j := ⟨i / 2, by omega⟩
          rw [yvv (k2 j (by omega)).1, yvv (m2 j (by omega)).1, e2 j (by omega)]
        · obtain ⟨j, rfl⟩ : ∃ j, i = 2 * j + 1 := ⟨i / 2, by omega⟩
          rw [yvv (k2 j (by omega)).2, yvv (m2 j (by omega)).2, e2 j (by omega)]
/-- two codings differ: so do the texts -/
theorem Cod.dif {cd cd' : Int32} {n k : Nat} {f g : Nat → Int32} {V V' : Cell} (h : Cod cd n f V) (h' : Cod cd' k g V') (hne : ¬ cd = cd') : ¬ SameT n f k g := by
  rintro ⟨rfl, e⟩
  rcases h with ⟨rfl, -, k2⟩ | ⟨rfl, -, -, j, hj, hw⟩
  · rcases h' with ⟨rfl, -⟩ | ⟨-, -, -, j, hj, hw⟩
    · exact hne rfl
    · exact (k2 j hj).2 (by rw [e j hj]; exact hw)
  · rcases h' with ⟨-, -, m2⟩ | ⟨rfl, -⟩
    · exact (m2 j hj).2 (by rw [← e j hj]; exact hw)
    · exact hne rfl
/-- an object of exactly C is an instance of C -/
theorem cinst {p : Program} {l : Launch} {e : Env} {R : Room} {s : State} {m : MethodId} {args : Array Value} {below : List Frame} {meth : Method} {c : Code} {T : State} {locs : List Loc} {cells slots : Nat} (X : Stand p l e R s m args below meth c T locs cells slots) (hexec : p.tables.exec = Jvm.exec) {own C : String} {index : Nat} (hown : s.vm.findClass own = some m.cls) (hlink : (Cond.classLink own index C).before args s = true) {a : Addr} (hE : Exact C a T)
    {g : JFrame} (hg : g.method = m) {rest : List Value} (hstack : g.stack = .ref a :: rest) (hdg : decode c.code g.pc = .ok (.instanceof index, 3)) :
    ∃ T', Stand p l e R s m args below meth c T' locs cells slots ∧ T'.heap = T.heap ∧ ∀ target, Steps p.tables e below (T'.setTop { g with pc := g.pc + 3, stack := .int 1 :: rest }) target → Steps p.tables e below (T.setTop g) target := by
  obtain ⟨cB, h1, D, h2, h3, h4⟩ := hE
  have h1' : s.vm.findClass C = some cB := by rw [← X.warmed.alike.findClass]; exact h1
  obtain ⟨vm', X', st⟩ := X.instanceofYes hexec hown hlink h2 h4 h1' (by rw [h3]; exact Jvm.Free.SB.assignable_self _ _) hg hstack hdg
  exact ⟨_, X', rfl, st⟩
theorem cself {p : Program} {l : Launch} {e : Env} {R : Room} {s : State} {m : MethodId} {args : Array Value} {below : List Frame} {meth : Method} {c : Code} {T : State} {locs : List Loc} {cells slots : Nat} (X : Stand p l e R s m args below meth c T locs cells slots) (hexec : p.tables.exec = Jvm.exec) {own C : String} {index : Nat} (hown : s.vm.findClass own = some m.cls) (hlink : (Cond.classLink own index C).before args s = true) {a : Addr} (hE : Exact C a T)
    {g : JFrame} (hg : g.method = m) {rest : List Value} (hstack : g.stack = .ref a :: rest) (hdg : decode c.code g.pc = .ok (.checkcast index, 3)) :
    ∃ T', Stand p l e R s m args below meth c T' locs cells slots ∧ T'.heap = T.heap ∧ ∀ target, Steps p.tables e below (T'.setTop { g with pc := g.pc + 3, stack := .ref a :: rest }) target → Steps p.tables e below (T.setTop g) target := by
  obtain ⟨cB, h1, D, h2, h3, h4⟩ := hE
  have h1' : s.vm.findClass C = some cB := by rw [← X.warmed.alike.findClass]; exact h1
  obtain ⟨vm', X', st⟩ := X.checkcastYes hexec hown hlink h2 h4 h1' (by rw [h3]; exact Jvm.Free.SB.assignable_self _ _) hg hstack hdg
  exact ⟨_, X', rfl, fun t h => st t (by rw [← hstack] at h; exact h)⟩
namespace SEq
def yN : MethodName := ⟨"java/lang/String", "equals", "(Ljava/lang/Object;)Z"⟩
abbrev yB : ByteArray := jdk_42_method_66_code
theorem d0 : decode yB 0 = .ok (.aload_n 0, 1) := by decide +kernel
theorem d1 : decode yB 1 = .ok (.aload_n 1, 1) := by decide +kernel
theorem d2 : decode yB 2 = .ok (.if_acmp (.ne) 5, 3) := by decide +kernel
theorem d5 : decode yB 5 = .ok (.iconst 1, 1) := by decide +kernel
theorem d6 : decode yB 6 = .ok (.ireturn, 1) := by decide +kernel
theorem d7 : decode yB 7 = .ok (.aload_n 1, 1) := by decide +kernel
theorem d8 : decode yB 8 = .ok (.instanceof 10, 3) := by decide +kernel
theorem d11 : decode yB 11 = .ok (.ifCond (.eq) 43, 3) := by decide +kernel
theorem d14 : decode yB 14 = .ok (.aload_n 1, 1) := by decide +kernel
theorem d15 : decode yB 15 = .ok (.checkcast 10, 3) := by decide +kernel
theorem d18 : decode yB 18 = .ok (.astore_n 2, 1) := by decide +kernel
theorem d19 : decode yB 19 = .ok (.getstatic 38, 3) := by decide +kernel
theorem d22 : decode yB 22 = .ok (.ifCond (.eq) 14, 3) := by decide +kernel
theorem d25 : decode yB 25 = .ok (.aload_n 0, 1) := by decide +kernel
theorem d26 : decode yB 26 = .ok (.getfield 15, 3) := by decide +kernel
theorem d29 : decode yB 29 = .ok (.aload_n 2, 1) := by decide +kernel
theorem d30 : decode yB 30 = .ok (.getfield 15, 3) := by decide +kernel
theorem d33 : decode yB 33 = .ok (.if_icmp (.ne) 21, 3) := by decide +kernel
theorem d36 : decode yB 36 = .ok (.aload_n 0, 1) := by decide +kernel
theorem d37 : decode yB 37 = .ok (.getfield 9, 3) := by decide +kernel
theorem d40 : decode yB 40 = .ok (.aload_n 2, 1) := by decide +kernel
theorem d41 : decode yB 41 = .ok (.getfield 9, 3) := by decide +kernel
theorem d44 : decode yB 44 = .ok (.invokestatic 541, 3) := by decide +kernel
theorem d47 : decode yB 47 = .ok (.ifCond (.eq) 7, 3) := by decide +kernel
theorem d50 : decode yB 50 = .ok (.iconst 1, 1) := by decide +kernel
theorem d51 : decode yB 51 = .ok (.goto 4, 3) := by decide +kernel
theorem d54 : decode yB 54 = .ok (.iconst 0, 1) := by decide +kernel
theorem d55 : decode yB 55 = .ok (.ireturn, 1) := by decide +kernel
def site : List Cond := [.classLink "java/lang/String" 10 "java/lang/String", .fieldLink "java/lang/String" 38 "java/lang/String" "COMPACT_STRINGS" "Z", .fieldLink "java/lang/String" 15 "java/lang/String" "coder" "B", .fieldLink "java/lang/String" 9 "java/lang/String" "value" "[B", LEq.tab] ++ staticW "java/lang/String" 541 LEq.yN
def tab : Cond := tabOf yN yB 3 (some .boolean) site
def P (x t : Addr) (V : Cell) (cd : Int32) (n : Nat) (f : Nat → Int32) (y t' : Addr) (V' : Cell) (cd' : Int32) (k : Nat) (g : Nat → Int32) (z : Int32) (args : Array Value) (s : State) : Prop := args = #[.ref x, .ref y] ∧ Txt x t V cd n f s ∧ Txt y t' V' cd' k g s ∧ StaticIs s "java/lang/String" "COMPACT_STRINGS" "Z" (.int z) ∧ ¬ z = 0
/-- equals(Object) of two Strings: whether the texts are the same -/
theorem law (l : Launch) (x t : Addr) (V : Cell) (cd : Int32) (n : Nat) (f : Nat → Int32) (y t' : Addr) (V' : Cell) (cd' : Int32) (k : Nat) (g : Nat → Int32) (z : Int32) : Law l yN 2 1 1 14 yB 3 (some .boolean) site (P x t V cd n f y t' V' cd' k g z) (Says01 (SameT n f k g)) [] 0 0 := by
  refine Law.of_walk (plainFor_of_name (by decide +kernel)) (by decide +kernel) (by decide +kernel) (by decide) (fun _ _ h => by rw [h.1]; rfl) (fun _ U U' hal hh h => ⟨h.1, h.2.1.mv hal hh, h.2.2.1.mv hal hh, h.2.2.2.1.there hal hh, h.2.2.2.2⟩) (fun r U U' V V' h1 hal h2 h => Says01.mv r U U' V V' h1 hal h2 h) ?_
  intro p e s m args below meth c s₁ X0 hexec hbytes hml hret hlk hnm hown hh0 W hP
  obtain ⟨rfl, hx, hy, s1, hz⟩ := hP
  have c1 : Steps p.tables e below (s₁.setTop (entryFrame m #[.ref x, .ref y] 3)) (s₁.setTop (mkF m 2 #[.val (.ref x), .val (.ref y), .unset] [.ref y, .ref x])) := Steps.trans (entry rfl) (by
    show Steps p.tables e below (s₁.setTop (mkF m 0 #[.val (.ref x), .val (.ref y), .unset] [])) _
    refine XS.aloadN X0.here hexec rfl (hb hbytes d0) rfl rfl ?_
    refine XS.aloadN X0.here hexec rfl (hb hbytes d1) rfl rfl ?_
    exact Steps.refl _)
  by_cases hxy : x = y
  · have c2 : Steps p.tables e below (s₁.setTop (entryFrame m #[.ref x, .ref y] 3)) (s₁.setTop (mkF m 6 #[.val (.ref x), .val (.ref y), .unset] [.int 1])) := c1.trans (by
      refine acmpNo X0.here hexec rfl (hb hbytes d2) rfl rfl rfl (by simp [acmp, hxy]) ?_
      refine iconstV X0.here hexec rfl 1 (hb hbytes d5) (by decide) ?_
      exact Steps.refl _)
    subst hxy
    have ec : cd = cd' := by
      obtain ⟨D, fd, a1, a2, a3⟩ := hx.2.2.1
      obtain ⟨D', fd', b1, b2, b3⟩ := hy.2.2.1
      cases a1.symm.trans b1
      obtain ⟨q1, q2, q3, q4⟩ := a2.1
      obtain ⟨r1, r2, r3, r4⟩ := b2.1
      cases q4.symm.trans r4
      cases a3.symm.trans b3; rfl
    have et : t = t' := by
      obtain ⟨D, fd, a1, a2, a3⟩ := hx.2.1
      obtain ⟨D', fd', b1, b2, b3⟩ := hy.2.1
      cases a1.symm.trans b1
      obtain ⟨q1, q2, q3, q4⟩ := a2.1
      obtain ⟨r1, r2, r3, r4⟩ := b2.1
      cases q4.symm.trans r4
      cases a3.symm.trans b3; rfl
    subst ec et
    have ev : V = V' := by cases hx.2.2.2.1.1.symm.trans hy.2.2.2.1.1; rfl
    subst ev
    have hs : SameT n f k g := (Cod.eqv hx.2.2.2.2.1 hy.2.2.2.2.1 hx.2.2.2.2.2 hy.2.2.2.2.2).mp ⟨rfl, fun _ _ => rfl⟩
    exact ⟨s₁, some (.int 1), _, _, _, X0, rfl, rfl, rfl, (fun h => by cases h), ⟨1, rfl, hh0, Or.inl ⟨rfl, hs⟩⟩, fun fs hl => c2.trans (X0.ireturnOut hexec hret rfl (Or.inr (Or.inl rfl)) (hb hbytes d6) hl)⟩
  · have c2 : Steps p.tables e below (s₁.setTop (entryFrame m #[.ref x, .ref y] 3)) (s₁.setTop (mkF m 8 #[.val (.ref x), .val (.ref y), .unset] [.ref y])) := c1.trans (by
      refine acmpYes X0.here hexec rfl (pc0 := 2) rfl (hb hbytes d2) rfl rfl rfl (by simp [acmp, hxy]) (by decide) rfl ?_
      refine XS.aloadN X0.here hexec rfl (hb hbytes d7) rfl rfl ?_
      exact Steps.refl _)
    obtain ⟨T3, X3, q3, st3⟩ := cinst X0 hexec hown (wk W (.classLink "java/lang/String" 10 "java/lang/String")) (hy.mv X0.warmed.alike hh0).1 (g := (mkF m 8 #[.val (.ref x), .val (.ref y), .unset] [.ref y])) rfl (rest := []) rfl (hb hbytes d8)
    have hh3 := q3.trans hh0
    have c4 : Steps p.tables e below (s₁.setTop (entryFrame m #[.ref x, .ref y] 3)) (T3.setTop (mkF m 15 #[.val (.ref x), .val (.ref y), .unset] [.ref y])) := (c2.trans (st3 _ (Steps.refl _))).trans (by
      refine XS.ifNo X3.here hexec rfl (hb hbytes d11) rfl (i0_eq_f (by decide)) ?_
      refine XS.aloadN X3.here hexec rfl (hb hbytes d14) rfl rfl ?_
      exact Steps.refl _)
    obtain ⟨T5, X5, q5, st5⟩ := cself X3 hexec hown (wk W (.classLink "java/lang/String" 10 "java/lang/String")) (hy.mv X3.warmed.alike hh3).1 (g := (mkF m 15 #[.val (.ref x), .val (.ref y), .unset] [.ref y])) rfl (rest := []) rfl (hb hbytes d15)
    have hh5 := q5.trans hh3
    have c6 : Steps p.tables e below (s₁.setTop (entryFrame m #[.ref x, .ref y] 3)) (T5.setTop (mkF m 19 #[.val (.ref x), .val (.ref y), .val (.ref y)] [])) := (c4.trans (st5 _ (Steps.refl _))).trans (by
      refine XS.astoreN X5.here hexec rfl (hb hbytes d18) rfl rfl rfl ?_
      exact Steps.refl _)
    obtain ⟨T7, X7, q7, st7⟩ := X5.sget hexec hown (wk W (.fieldLink "java/lang/String" 38 "java/lang/String" "COMPACT_STRINGS" "Z")) s1 (fun _ _ h => by rw [hh5]; exact h) (g := (mkF m 19 #[.val (.ref x), .val (.ref y), .val (.ref y)] [])) rfl (hb hbytes d19)
    have hh7 := q7.trans hh5
    have c8 : Steps p.tables e below (s₁.setTop (entryFrame m #[.ref x, .ref y] 3)) (T7.setTop (mkF m 26 #[.val (.ref x), .val (.ref y), .val (.ref y)] [.ref x])) := (c6.trans (st7 _ (Steps.refl _))).trans (by
      refine XS.ifNo X7.here hexec rfl (hb hbytes d22) rfl (i0_eq_f hz) ?_
      refine XS.aloadN X7.here hexec rfl (hb hbytes d25) rfl rfl ?_
      exact Steps.refl _)
    obtain ⟨T9, X9, q9, st9⟩ := X7.hget hexec hown (wk W (.fieldLink "java/lang/String" 15 "java/lang/String" "coder" "B")) (hx.mv X7.warmed.alike hh7).2.2.1 (g := (mkF m 26 #[.val (.ref x), .val (.ref y), .val (.ref y)] [.ref x])) rfl (rest := []) rfl (hb hbytes d26)
    have hh9 := q9.trans hh7
    have c10 : Steps p.tables e below (s₁.setTop (entryFrame m #[.ref x, .ref y] 3)) (T9.setTop (mkF m 30 #[.val (.ref x), .val (.ref y), .val (.ref y)] [.ref y, .int cd])) := (c8.trans (st9 _ (Steps.refl _))).trans (by
      refine XS.aloadN X9.here hexec rfl (hb hbytes d29) rfl rfl ?_
      exact Steps.refl _)
    obtain ⟨T11, X11, q11, st11⟩ := X9.hget hexec hown (wk W (.fieldLink "java/lang/String" 15 "java/lang/String" "coder" "B")) (hy.mv X9.warmed.alike hh9).2.2.1 (g := (mkF m 30 #[.val (.ref x), .val (.ref y), .val (.ref y)] [.ref y, .int cd])) rfl (rest := [.int cd]) rfl (hb hbytes d30)
    have hh11 := q11.trans hh9
    have c12 : Steps p.tables e below (s₁.setTop (entryFrame m #[.ref x, .ref y] 3)) (T11.setTop (mkF m 33 #[.val (.ref x), .val (.ref y), .val (.ref y)] [.int cd', .int cd])) := c10.trans (st11 _ (Steps.refl _))
    by_cases hcd : cd = cd'
    · subst hcd
      have c13 : Steps p.tables e below (s₁.setTop (entryFrame m #[.ref x, .ref y] 3)) (T11.setTop (mkF m 37 #[.val (.ref x), .val (.ref y), .val (.ref y)] [.ref x])) := c12.trans (by
        refine XS.icmpNo X11.here hexec rfl (hb hbytes d33) rfl (ii_ne_f rfl) ?_
        refine XS.aloadN X11.here hexec rfl (hb hbytes d36) rfl rfl ?_
        exact Steps.refl _)
      obtain ⟨T14, X14, q14, st14⟩ := X11.hget hexec hown (wk W (.fieldLink "java/lang/String" 9 "java/lang/String" "value" "[B")) (hx.mv X11.warmed.alike hh11).2.1 (g := (mkF m 37 #[.val (.ref x), .val (.ref y), .val (.ref y)] [.ref x])) rfl (rest := []) rfl (hb hbytes d37)
      have hh14 := q14.trans hh11
      have c15 : Steps p.tables e below (s₁.setTop (entryFrame m #[.ref x, .ref y] 3)) (T14.setTop (mkF m 41 #[.val (.ref x), .val (.ref y), .val (.ref y)] [.ref y, .ref t])) := (c13.trans (st14 _ (Steps.refl _))).trans (by
        refine XS.aloadN X14.here hexec rfl (hb hbytes d40) rfl rfl ?_
        exact Steps.refl _)
      obtain ⟨T16, X16, q16, st16⟩ := X14.hget hexec hown (wk W (.fieldLink "java/lang/String" 9 "java/lang/String" "value" "[B")) (hy.mv X14.warmed.alike hh14).2.1 (g := (mkF m 41 #[.val (.ref x), .val (.ref y), .val (.ref y)] [.ref y, .ref t])) rfl (rest := [.ref t]) rfl (hb hbytes d41)
      have hh16 := q16.trans hh14
      have c17 : Steps p.tables e below (s₁.setTop (entryFrame m #[.ref x, .ref y] 3)) (T16.setTop (mkF m 44 #[.val (.ref x), .val (.ref y), .val (.ref y)] [.ref t', .ref t])) := c15.trans (st16 _ (Steps.refl _))
      obtain ⟨v18, T18, X18, E18, g18⟩ := X16.callS hexec (LEq.law l t V t' V') hown (wks W (staticW "java/lang/String" 541 LEq.yN)) (wk W LEq.tab) (W := 0) (Nat.le_of_ble_eq_true rfl) (Nat.le_of_ble_eq_true rfl) (Nat.le_refl _) (Nat.le_refl _) (g := (mkF m 44 #[.val (.ref x), .val (.ref y), .val (.ref y)] [.ref t', .ref t])) rfl (by rw [hml]; rfl) c17 (argsL := [.ref t, .ref t']) (rest := []) rfl rfl (by show 2 * 0 + 0 ≤ _; decide) (hb hbytes d44) (⟨rfl, hx.2.2.2.1.mv X16.warmed.alike hh16, hx.2.2.2.2.1.ty, hy.2.2.2.1.mv X16.warmed.alike hh16, hy.2.2.2.2.1.ty⟩)
      obtain ⟨v, rfl, q18, hv⟩ := E18
      have iff := Cod.eqv hx.2.2.2.2.1 hy.2.2.2.2.1 hx.2.2.2.2.2 hy.2.2.2.2.2
      rcases hv with ⟨rfl, he⟩ | ⟨rfl, he⟩
      · have c19 : Steps p.tables e below (s₁.setTop (entryFrame m #[.ref x, .ref y] 3)) (T18.setTop (mkF m 55 #[.val (.ref x), .val (.ref y), .val (.ref y)] [.int 1])) := Steps.trans g18 (by
          refine XS.ifNo X18.here hexec rfl (hb hbytes d47) rfl (i0_eq_f (by decide)) ?_
          refine iconstV X18.here hexec rfl 1 (hb hbytes d50) (by decide) ?_
          refine XS.goto X18.here hexec rfl (pc0 := 51) rfl (hb hbytes d51) (by decide) rfl ?_
          exact Steps.refl _)
        exact ⟨T18, some (.int 1), _, _, _, X18, rfl, rfl, rfl, (fun h => by cases h), ⟨1, rfl, q18.trans hh16, Or.inl ⟨rfl, iff.mp he⟩⟩, fun fs hl => c19.trans (X18.ireturnOut hexec hret rfl (Or.inr (Or.inl rfl)) (hb hbytes d55) hl)⟩
      · have c19 : Steps p.tables e below (s₁.setTop (entryFrame m #[.ref x, .ref y] 3)) (T18.setTop (mkF m 55 #[.val (.ref x), .val (.ref y), .val (.ref y)] [.int 0])) := Steps.trans g18 (by
          refine XS.ifYes X18.here hexec rfl (pc0 := 47) rfl (hb hbytes d47) rfl (i0_eq_t rfl) (by decide) rfl ?_
          refine iconstV X18.here hexec rfl 0 (hb hbytes d54) (by decide) ?_
          exact Steps.refl _)
        exact ⟨T18, some (.int 0), _, _, _, X18, rfl, rfl, rfl, (fun h => by cases h), ⟨0, rfl, q18.trans hh16, Or.inr ⟨rfl, fun q => he (iff.mpr q)⟩⟩, fun fs hl => c19.trans (X18.ireturnOut hexec hret rfl (Or.inr (Or.inl rfl)) (hb hbytes d55) hl)⟩
    · have c13 : Steps p.tables e below (s₁.setTop (entryFrame m #[.ref x, .ref y] 3)) (T11.setTop (mkF m 55 #[.val (.ref x), .val (.ref y), .val (.ref y)] [.int 0])) := c12.trans (by
        refine XS.icmpYes X11.here hexec rfl (pc0 := 33) rfl (hb hbytes d33) rfl (ii_ne_t hcd) (by decide) rfl ?_
        refine iconstV X11.here hexec rfl 0 (hb hbytes d54) (by decide) ?_
        exact Steps.refl _)
      exact ⟨T11, some (.int 0), _, _, _, X11, rfl, rfl, rfl, (fun h => by cases h), ⟨0, rfl, hh11, Or.inr ⟨rfl, Cod.dif hx.2.2.2.2.1 hy.2.2.2.2.1 hcd⟩⟩, fun fs hl => c13.trans (X11.ireturnOut hexec hret rfl (Or.inr (Or.inl rfl)) (hb hbytes d55) hl)⟩
theorem pays {l : Launch} {R : Room} {p : Program} {e : Env} {below : List Frame} {s : State} {sargs : Array Value} {len W : Nat} (x t : Addr) (V : Cell) (cd : Int32) (n : Nat) (f : Nat → Int32) (y t' : Addr) (V' : Cell) (cd' : Int32) (k : Nat) (g : Nat → Int32) (z : Int32) (htab : tab.before sargs s = true) (hfr : 2 ≤ R.frames) (hlo : W + 28 ≤ R.locals) :
    Back l R p e below s sargs yN len W (fun A₁ a₁ => A₁.cells + 0 ≤ R.cells ∧ A₁.slots + 0 ≤ R.slots ∧ P x t V cd n f y t' V' cd' k g z a₁ A₁.U) (fun A₁ _ v₁ B₁ => Says01 (SameT n f k g) v₁ A₁.U B₁.U ∧ B₁.locs = A₁.locs ++ [] ∧ B₁.cells = A₁.cells + 0 ∧ B₁.slots = A₁.slots + 0) :=
  (law l x t V cd n f y t' V' cd' k g z).pays htab hfr (by omega)
end SEq
end StrChars
namespace StrChars.Road
open Jvm Sem ClassFile Op Lib Jvm.Stand Jvm.Free Jvm.Free.XT
open Jvm.Lib.Cold (StaticIs)
/-- the words of String.equals(Object) -/
abbrev wordsEq : List Jvm.Cond := [.code SEq.yN SEq.yB 3 (some .boolean), .initialized ST, .classLink ST 10 ST, .fieldLink ST 38 ST "COMPACT_STRINGS" "Z", .fieldLink ST 15 ST "coder" "B", .fieldLink ST 9 ST "value" "[B", .methodLink ST 541 LEq.yN, .static LEq.yN, .code LEq.yN LEq.yB 3 (some .boolean), .initialized "java/lang/StringLatin1"]
theorem tabEq_of {a : Array Value} {s : State} (h : ∀ w ∈ wordsEq, w.before a s = true) : SEq.tab.before a s = true := by
  have hl : LEq.tab.before a s = true := unparts (wk h (.code LEq.yN LEq.yB 3 (some .boolean))) (wks h (.initialized LEq.yN.cls :: LEq.site))
  have q := consq hl h
  exact unparts (wk q (.code SEq.yN SEq.yB 3 (some .boolean))) (wks q (.initialized SEq.yN.cls :: SEq.site))
theorem movedEq {Z s : State} {a0 args : Array Value} (hZ : Z.Warmed39 s.vm) (hw : ∀ d ∈ wordsEq, d.before a0 Z = true) : ∀ d ∈ wordsEq, d.before args s = true := fun d hd => by
  have t : ∀ d ∈ wordsEq, (d.onTables && d.keepsFace) = true := by decide +kernel
  exact RoadKit.mv hZ (hw d hd) (t d hd)
/-- the road's facts of a String, as the laws ask it -/
theorem txt_of {Z U : State} {a0 : Array Value} {kI : Nat} (wi : (Jvm.Cond.instantiable ST kI).before a0 Z = true) (al : Z.vm.Alike U.vm) {x t : Addr} {kb : ClassId} {cs : List Int32} {cd N2 : Int32} {vs : List Value} (E : RoadKit.Exa Z U.heap x ST) (V : RoadKit.Fld Z U.heap x ST "value" "[B" (.ref t)) (C : RoadKit.Fld Z U.heap x ST "coder" "B" (.int cd)) (K : RoadKit.Arv Z U.heap t kb .byte N2 vs (.int 0)) (hc : CodA cs cd N2 vs) (hb : ∀ c ∈ cs, ¬ c < 0 ∧ ¬ (65535 : Int32) < c) (l2 : cs.length ≤ 4000) :
    ∃ A, Txt x t A cd cs.length (fun j => cs.getD j 0) U := by
  obtain ⟨A, K1, K2, K3, K4, K5, K6⟩ := K
  have hcod := hc.cod (by omega) K3 K5
  obtain ⟨D, fV, fC, hB, F1, F2, g1, g2, -, -⟩ := strObj wi al E V C
  exact ⟨A, ⟨_, hB.2.2.1, D, hB.1, rfl, by cases q : D.vm <;> first | rfl | exact absurd q (hB.2.1.2 _)⟩, Has.of hB F1 g1, Has.of hB F2 g2, ⟨K1.1, State.isArrayOf_alike al K1.2.1, K1.2.2, by rcases hcod with ⟨-, q, -⟩ | ⟨-, q, -⟩ <;> omega⟩, hcod, fun j hj => by
    have e : cs.getD j 0 = cs[j] := by simp [List.getD_eq_getElem?_getD, hj]
    show ¬ cs.getD j 0 < 0 ∧ ¬ 65535 < cs.getD j 0
    rw [e]; exact hb _ (List.getElem_mem _)⟩
theorem same_list (cs ds : List Int32) : SameT cs.length (fun j => cs.getD j 0) ds.length (fun j => ds.getD j 0) ↔ cs = ds := by
  constructor
  · rintro ⟨e, q⟩
    refine List.ext_getElem e fun j h1 h2 => ?_
    have := q j h1
    simpa [List.getD_eq_getElem?_getD, h1, h2] using this
  · rintro rfl
    exact ⟨rfl, fun _ _ => rfl⟩
/-- **equals(Object) OF TWO SUCH STRINGS**: 1 just where the chars are the same -/
theorem eqW {p : Program} {l : Launch} {e : Env} {R : Room} {s : State} {args : Array Value} {below : List Frame} {len W : Nat} {Z : State} {a0 : Array Value} {h : Heap} (hZ : Z.Warmed39 s.vm) (hw : ∀ d ∈ wordsEq, d.before a0 Z = true) {kI : Nat} (wi : (Jvm.Cond.instantiable ST kI).before a0 Z = true)
    {x t : Addr} {kb : ClassId} {cs : List Int32} {cd N2 : Int32} {vs : List Value} (E : RoadKit.Exa Z h x ST) (V : RoadKit.Fld Z h x ST "value" "[B" (.ref t)) (C : RoadKit.Fld Z h x ST "coder" "B" (.int cd)) (K : RoadKit.Arv Z h t kb .byte N2 vs (.int 0)) (hc : CodA cs cd N2 vs) (hb : ∀ c ∈ cs, ¬ c < 0 ∧ ¬ (65535 : Int32) < c) (l2 : cs.length ≤ 4000)
    {y t' : Addr} {kb' : ClassId} {ds : List Int32} {cd' N2' : Int32} {vs' : List Value} (E' : RoadKit.Exa Z h y ST) (V' : RoadKit.Fld Z h y ST "value" "[B" (.ref t')) (C' : RoadKit.Fld Z h y ST "coder" "B" (.int cd')) (K' : RoadKit.Arv Z h t' kb' .byte N2' vs' (.int 0)) (hc' : CodA ds cd' N2' vs') (hb' : ∀ c ∈ ds, ¬ c < 0 ∧ ¬ (65535 : Int32) < c) (l2' : ds.length ≤ 4000)
    {z : Int32} (S : RoadKit.Sta Z h ST "COMPACT_STRINGS" "Z" (.int z)) (hz : ¬ z = 0) (hfr : 2 ≤ R.frames) (hlo : W + 28 ≤ R.locals) :
    Back l R p e below s args (⟨"java/lang/String", "equals", "(Ljava/lang/Object;)Z"⟩ : MethodName) len W (fun P a => a = #[.ref x, .ref y] ∧ P.U.heap = h ∧ P.cells + 0 ≤ R.cells ∧ P.slots + 0 ≤ R.slots)
      (fun P _ v B => ∃ L, (((v = some (.int 1) ∧ cs = ds) ∨ (v = some (.int 0) ∧ ¬ cs = ds)) ∧ L = [] ∧ B.U.heap = h) ∧ B.locs = P.locs ++ L ∧ B.cells = P.cells + 0 ∧ B.slots = P.slots + 0) := by
  intro m meth c P g ig mk a X hg hsize hdg hW hn hp'
  obtain ⟨rfl, rfl, r1, r2⟩ := hp'
  have al : Z.vm.Alike P.U.vm := hZ.alike.trans X.warmed.alike
  obtain ⟨A, hx⟩ := txt_of wi al E V C K hc hb l2
  obtain ⟨A', hy⟩ := txt_of wi al E' V' C' K' hc' hb' l2'
  obtain ⟨v, B, X', ⟨⟨w, hv, hh, hq⟩, hl, hk, hs⟩, st⟩ := SEq.pays x t A cd cs.length (fun j => cs.getD j 0) y t' A' cd' ds.length (fun j => ds.getD j 0) z (tabEq_of (movedEq hZ hw)) hfr hlo m meth c P g ig mk _ X hg hsize hdg hW hn ⟨r1, r2, rfl, hx, hy, sta_is al S, hz⟩
  refine ⟨v, B, X', ⟨[], ⟨?_, rfl, hh⟩, hl, hk, hs⟩, st⟩
  rcases hq with ⟨rfl, q⟩ | ⟨rfl, q⟩
  · exact Or.inl ⟨hv, (same_list cs ds).mp q⟩
  · exact Or.inr ⟨hv, fun e => q ((same_list cs ds).mpr e)⟩
end StrChars.Road
namespace StrChars.Road
open Jvm Sem ClassFile Op Lib Jvm.Stand Jvm.Free Jvm.Free.XT
open Jvm.Lib.Cold (StaticIs)
/-- what backV says of its String, as the contracts of this text ask it: cs's low bytes, coder 0 -/
theorem codOf {cs : List Int32} {n : Nat} (hn : cs.length = n) (hb : ∀ c ∈ cs, ¬ 255 < c) : CodA cs 0 (Int32.ofNat n) ((cs.map lo8).map Value.int) := Or.inl ⟨rfl, by rw [hn], by simp [List.map_map, Function.comp_def], hb⟩
end StrChars.Road
end Jvm.Pilot.@@N@@
namespace Jvm.Pilot.@@N@@
open Jvm Jvm.ClassFile Sem Op Lib Jvm.Free Jvm.Stand Jvm.LawKit Jvm.RoadKit Bundle Jvm.Pilot.@@N@@.Jvm.D
section OwnKit
variable {p : Program} {l : Launch} {e : Env} {R : Room} {s : State} {m : MethodId} {args : Array Value} {below : List Frame} {meth : Method} {c : Code} {T : State} {locs : List Loc} {cells slots : Nat}
/-- the walk from t comes back with what Q says -/
def Fin (p : Program) (e : Env) (below : List Frame) (s : State) (Q : Option Value → Heap → List Loc → Prop) (C S : Nat) (t : State) : Prop :=
  ∃ s₂ o, Steps p.tables e below t s₂ ∧ s₂.status = .running ∧ Ended s₂ below o ∧ ∃ v L, o = .returned v ∧ Q v s₂.heap L ∧ FrameEnd s o s₂ L C S
theorem Fin.by {Q : Option Value → Heap → List Loc → Prop} {C S : Nat} {a b : State} (h : ∀ t, Steps p.tables e below b t → Steps p.tables e below a t) (k : Fin p e below s Q C S b) : Fin p e below s Q C S a := by
  obtain ⟨s₂, o, h1, h2⟩ := k; exact ⟨s₂, o, h _ h1, h2⟩
theorem Fin.byS {Q : Option Value → Heap → List Loc → Prop} {C S : Nat} {a b : State} (h : Steps p.tables e below a b) (k : Fin p e below s Q C S b) : Fin p e below s Q C S a := Fin.by (fun _ k => h.trans k) k
theorem Fin.start {Q : Option Value → Heap → List Loc → Prop} {C S : Nat} {g g' : JFrame} (q : g = g') (k : Fin p e below s Q C S (T.setTop g')) :
    ∃ s₂ o, Steps p.tables e below (T.setTop g) s₂ ∧ s₂.status = .running ∧ Ended s₂ below o ∧ ∃ v L, o = .returned v ∧ Q v s₂.heap L ∧ FrameEnd s o s₂ L C S := by
  subst q; exact k
theorem Fin.ret {Q : Option Value → Heap → List Loc → Prop} {C S : Nat} {v : Option Value} {g : JFrame} (X : Stand p l e R s m args below meth c T locs cells slots) (hv : meth.sig.returnType = none → v = none) (hl : meth.locks = false)
    (hq : Q v T.heap locs) (hc : cells ≤ C) (hs : slots ≤ S) (st : ∀ fs, (∀ (f : JFrame) (acts : List Action), f.method = m → f.locked = none → f.entered = [] → (doReturn e (T.setTop f) acts v).1 = T.setFrames fs) → Steps p.tables e below (T.setTop g) (T.setFrames fs)) :
    Fin p e below s Q C S (T.setTop g) := by
  obtain ⟨fs, hr, hrun, hended, hW, hsame⟩ := X.leave hv hl
  exact ⟨_, _, st fs hr, hrun, hended, _, _, rfl, hq, ⟨_, rfl⟩, hW, hsame.mono hc hs⟩
theorem retI (X : Stand p l e R s m args below meth c T locs cells slots) (hx : p.tables.exec = Jvm.exec) {pc : Nat} {Ls : Array Slot} {z : Int32} {rest : List Value} (hret : meth.sig.returnType = some .int) (hd : decode c.code pc = .ok (.ireturn, 1)) {fs : List Frame}
    (hl : ∀ (f : JFrame) (acts : List Action), f.method = m → f.locked = none → f.entered = [] → (doReturn e (T.setTop f) acts (some (.int z))).1 = T.setFrames fs) : Steps p.tables e below (T.setTop (mkF m pc Ls (.int z :: rest))) (T.setFrames fs) :=
  retOut X hx hret rfl (Or.inl ⟨rfl, Or.inl rfl, _, rfl⟩) hd hl
theorem retA (X : Stand p l e R s m args below meth c T locs cells slots) (hx : p.tables.exec = Jvm.exec) {pc : Nat} {Ls : Array Slot} {w : Value} {t : FieldType} {rest : List Value} (hret : meth.sig.returnType = some t) (ht : t.isReference = true) (hw : w.isRef = true) (hd : decode c.code pc = .ok (.areturn, 1)) {fs : List Frame}
    (hl : ∀ (f : JFrame) (acts : List Action), f.method = m → f.locked = none → f.entered = [] → (doReturn e (T.setTop f) acts (some w)).1 = T.setFrames fs) : Steps p.tables e below (T.setTop (mkF m pc Ls (w :: rest))) (T.setFrames fs) :=
  retOut X hx hret (by cases t <;> first | (cases ht; done) | rfl) (Or.inr (Or.inr (Or.inr (Or.inr ⟨rfl, ht, hw⟩)))) hd hl
theorem retJ (X : Stand p l e R s m args below meth c T locs cells slots) (hx : p.tables.exec = Jvm.exec) {pc : Nat} {Ls : Array Slot} {z : Int64} {rest : List Value} (hret : meth.sig.returnType = some .long) (hd : decode c.code pc = .ok (.lreturn, 1)) {fs : List Frame}
    (hl : ∀ (f : JFrame) (acts : List Action), f.method = m → f.locked = none → f.entered = [] → (doReturn e (T.setTop f) acts (some (.long z))).1 = T.setFrames fs) : Steps p.tables e below (T.setTop (mkF m pc Ls (.long z :: rest))) (T.setFrames fs) :=
  retOut X hx hret rfl (Or.inr (Or.inl ⟨rfl, rfl, _, rfl⟩)) hd hl
theorem XnullYes {target : State} (X : Stand p l e R s m args below meth c T locs cells slots) (hx : p.tables.exec = Jvm.exec) {g : JFrame} (hg : g.method = m) {v : Value} {rest : List Value} {o : Int} {pc0 pc' : Nat} (hv : v = .null) (hpc : g.pc = pc0) (hd : decode c.code g.pc = .ok (.ifnull o, 3)) (hs : g.stack = v :: rest) (ho : 0 ≤ (pc0 : Int) + o) (hp : ((pc0 : Int) + o).toNat = pc')
    (k : Steps p.tables e below (T.setTop { g with pc := pc', stack := rest }) target) : Steps p.tables e below (T.setTop g) target := by subst hv; exact XS.ifnullYes X.here hx hg hpc hd hs ho hp k
theorem XnullNo {target : State} (X : Stand p l e R s m args below meth c T locs cells slots) (hx : p.tables.exec = Jvm.exec) {g : JFrame} (hg : g.method = m) {v : Value} {a : Addr} {rest : List Value} {o : Int} (hv : v = .ref a) (hd : decode c.code g.pc = .ok (.ifnull o, 3)) (hs : g.stack = v :: rest)
    (k : Steps p.tables e below (T.setTop { g with pc := g.pc + 3, stack := rest }) target) : Steps p.tables e below (T.setTop g) target := by subst hv; exact XS.ifnullNo X.here hx hg hd hs k
theorem XnonnullYes {target : State} (X : Stand p l e R s m args below meth c T locs cells slots) (hx : p.tables.exec = Jvm.exec) {g : JFrame} (hg : g.method = m) {v : Value} {a : Addr} {rest : List Value} {o : Int} {pc0 pc' : Nat} (hv : v = .ref a) (hpc : g.pc = pc0) (hd : decode c.code g.pc = .ok (.ifnonnull o, 3)) (hs : g.stack = v :: rest) (ho : 0 ≤ (pc0 : Int) + o) (hp : ((pc0 : Int) + o).toNat = pc')
    (k : Steps p.tables e below (T.setTop { g with pc := pc', stack := rest }) target) : Steps p.tables e below (T.setTop g) target := by subst hv; exact XS.ifnonnullYes X.here hx hg hpc hd hs ho hp k
theorem XnonnullNo {target : State} (X : Stand p l e R s m args below meth c T locs cells slots) (hx : p.tables.exec = Jvm.exec) {g : JFrame} (hg : g.method = m) {v : Value} {rest : List Value} {o : Int} (hv : v = .null) (hd : decode c.code g.pc = .ok (.ifnonnull o, 3)) (hs : g.stack = v :: rest)
    (k : Steps p.tables e below (T.setTop { g with pc := g.pc + 3, stack := rest }) target) : Steps p.tables e below (T.setTop g) target := by subst hv; exact XS.ifnonnullNo X.here hx hg hd hs k
theorem cat_ref {v : Value} (h : v.isRef = true) : v.category = 1 := by rcases ref_cases h with rfl | ⟨a, rfl⟩ <;> rfl
theorem nar_ref (C : String) {v : Value} (h : v.isRef = true) : narrow (.object C) v = v := rfl
theorem fits_obj {C : String} {v : Value} (h : v.isRef = true) : fits (.object C) v = true := by rcases ref_cases h with rfl | ⟨a, rfl⟩ <;> rfl
end OwnKit
theorem own_and255 (x : Int32) : ¬ (x &&& 255) < 0 ∧ ¬ (255 : Int32) < (x &&& 255) := by
  have h := c_and x 255 (by decide)
  have h255 : (255 : Int32).toInt = 255 := by decide
  have h0 : (0 : Int32).toInt = 0 := by decide
  constructor
  · rw [Int32.lt_iff_toInt_lt]; omega
  · rw [Int32.lt_iff_toInt_lt]; omega
theorem own_c255 (x : Int32) : ¬ (nar .char ((x &&& (255 : Int32)).toUInt32.toUInt16.toUInt32.toInt32)) < 0 ∧ ¬ (255 : Int32) < (nar .char ((x &&& (255 : Int32)).toUInt32.toUInt16.toUInt32.toInt32)) := by
  rw [show nar .char ((x &&& (255 : Int32)).toUInt32.toUInt16.toUInt32.toInt32) = x &&& 255 from by simp only [nar, i2c_mask]]; exact own_and255 x
theorem own_cons {P : Int32 → Prop} {a : Int32} {L : List Int32} (h : P a) (k : ∀ c ∈ L, P c) : ∀ c ∈ a :: L, P c := fun c hc => (List.mem_cons.mp hc).elim (fun q => q ▸ h) (k c)
theorem own_nil {P : Int32 → Prop} : ∀ c ∈ ([] : List Int32), P c := fun _ h => nomatch h
theorem own_up {cs : List Int32} (h : ∀ c ∈ cs, ¬ c < 0 ∧ ¬ (255 : Int32) < c) : ∀ c ∈ cs, ¬ c < 0 ∧ ¬ (65535 : Int32) < c := fun c hc => ⟨(h c hc).1, fun q => (h c hc).2 (Int32.lt_trans (by decide) q)⟩
theorem own_words : ∀ d ∈ StrChars.Road.words, d ∈ tables_1 := by decide +kernel
theorem own_wordsEq : ∀ d ∈ StrChars.Road.wordsEq, d ∈ tables_1 := by decide +kernel
theorem own_len {t : Term} {s : State} {args : Array Value} {a : Addr} {c : Cell} {ty : FieldType} {n : Int32} (ev : t.eval args s none [] s = some (.ref a)) (A : Arr s s.heap a c ty) (h : (Jvm.Cond.eq (.length t) (.int n)).value args s none s [] = some true) : c.slots.size < 2 ^ 31 ∧ c.slots.size.toInt32 = n := by
  obtain ⟨x, y, hx, hy, -, -⟩ := cmp_v (Or.inl h)
  have hp : c.vm.isStatics = false := Arr.plain A
  obtain ⟨h1, ⟨h2, k, hk, comp, hkind⟩, h3⟩ := A
  have hA : s.arrayAt? a = some c := by simp [State.arrayAt?, h1, hk, hkind, h3, hp]
  have hlt : c.slots.size < 2 ^ 31 := by
    apply Classical.byContradiction; intro q
    simp [Term.eval, ev, hA] at hx
    omega
  exact ⟨hlt, gotT (Cond.eq_ints (len_f ev hA hlt) (Term.int_eval n)) h⟩
theorem own_eqv {x y : Term} {s : State} {args : Array Value} {v : Value} (h : (Jvm.Cond.eq x y).value args s none s [] = some true) (hy : y.eval args s none [] s = some v) (hk : (match v with | .float _ | .double _ | .retAddr _ => false | _ => true) = true) : x.eval args s none [] s = some v := by
  cases hx : x.eval args s none [] s with
  | none => simp [Jvm.Cond.value, hx] at h
  | some u => cases u <;> cases v <;> simp [Jvm.Cond.value, hx, hy] at h hk ⊢ <;> exact h
theorem own_eqi {x : Term} {s : State} {args : Array Value} {n : Int32} (h : (Jvm.Cond.eq x (.int n)).value args s none s [] = some true) : x.eval args s none [] s = some (.int n) := own_eqv h (Term.int_eval n) rfl
theorem own_elem {t u : Term} {s : State} {args : Array Value} {a : Addr} {c : Cell} {ty : FieldType} {n : Int32} {v : Value} (ev : t.eval args s none [] s = some (.ref a)) (A : Arr s s.heap a c ty) (h : (Jvm.Cond.eq (.elem t (.int n)) u).value args s none s [] = some true) (hu : u.eval args s none [] s = some v) (hk : (match v with | .float _ | .double _ | .retAddr _ => false | _ => true) = true) : c.slots[n.toNatClampNeg]? = some v :=
  (elem_in (own_eqv h hu hk) ev (Term.int_eval n) A.1).2
theorem d_prog_2_method_1_0 : decode prog_2_method_1_code 0 = .ok (.getstatic 10, 3) := by decide +kernel
theorem d_prog_2_method_1_3 : decode prog_2_method_1_code 3 = .ok (.invokevirtual 14, 3) := by decide +kernel
theorem d_prog_2_method_1_6 : decode prog_2_method_1_code 6 = .ok (.checkcast 15, 3) := by decide +kernel
theorem d_prog_2_method_1_9 : decode prog_2_method_1_code 9 = .ok (.areturn, 1) := by decide +kernel
theorem pn_com_example_portcullis_portcullis_AccessRule_Permissions : plainName "com/example/portcullis/portcullis/AccessRule$Permissions" = true := by first | (simp [plainName, overriddenIn]; done) | decide +kernel
def Q_val (Z : State) (aV : Addr) (kV : ClassId) (aR : Addr) (aW : Addr) (h0 : Heap) (n0 : Nat) (vv_ : Option Value) (hh_ : Heap) (LL_ : List Loc) : Prop := ∃ (t : Addr), vv_ = some (.ref t) ∧ Fr n0 LL_ ∧ Keep h0 hh_ [] ∧ h0.size ≤ t ∧ Arv Z hh_ t kV (.object "com/example/portcullis/portcullis/AccessRule$Permissions") (2 : Int32) [(.ref aR), (.ref aW)] .null
set_option maxRecDepth 65536 in
set_option maxHeartbeats 40000000 in
theorem rm_val (l : Launch) (Z : State) (a0 : Array Value) (hw : ∀ d ∈ tables_1, d.before a0 Z = true) (ws : List Jvm.Cond) (aV : Addr) (kV : ClassId) (aR : Addr) (aW : Addr) (h0 : Heap) (n0 : Nat) (Z0 : n0 ≤ h0.size) (S2 : Sta Z Z.heap "com/example/portcullis/portcullis/AccessRule$Permissions" "$VALUES" "[Lcom/example/portcullis/portcullis/AccessRule$Permissions;" (.ref aV)) (OL : Old Z n0 h0) (VE : Exa Z Z.heap aV "[Lcom/example/portcullis/portcullis/AccessRule$Permissions;") (VA : Arv Z Z.heap aV kV (.object "com/example/portcullis/portcullis/AccessRule$Permissions") (2 : Int32) [(.ref aR), (.ref aW)] .null) :
    MetFree l (⟨"com/example/portcullis/portcullis/AccessRule$Permissions", "values", "()[Lcom/example/portcullis/portcullis/AccessRule$Permissions;"⟩ : MethodName) (head1 (Jvm.Cond.code (⟨"com/example/portcullis/portcullis/AccessRule$Permissions", "values", "()[Lcom/example/portcullis/portcullis/AccessRule$Permissions;"⟩ : MethodName) prog_2_method_1_code 0 (some (.array (.object "com/example/portcullis/portcullis/AccessRule$Permissions"))) :: ws) ({ frames := 1, cells := 1, slots := 2, locals := 14 } : Room)) (fun aa_ U => aa_ = #[] ∧ Z.Warmed39 U.vm ∧ U.heap = h0) (fun _ _ _ _ _ => True) (fun _ U o U' => ∃ vv_ LL_, o = .returned vv_ ∧ Q_val Z aV kV aR aW h0 n0 vv_ U'.heap LL_ ∧ FrameEnd U o U' LL_ 1 2) := by
  refine MetFree.of_bodySF (plainFor_of_name pn_com_example_portcullis_portcullis_AccessRule_Permissions) hisR ?_
  intro p e s m args below meth c s₁ Bd hml0 hP hK
  obtain ⟨rfl, hZ, hh⟩ := hP
  have hx := Bd.exec
  have hby := Bd.bytes
  have hml : c.maxLocals = 0 := hml0
  have hown : s.vm.findClass "com/example/portcullis/portcullis/AccessRule$Permissions" = some m.cls := findClass_of_methodNamed Bd.named
  have hnm := (name_of_methodNamed Bd.named Bd.method).1
  have X0 : Stand p l e ({ frames := 1, cells := 1, slots := 2, locals := 14 } : Room) s m #[] below meth c s₁ [] 0 0 := Stand.of_body Bd
  have e0 : s₁.heap = h0 := by rw [← hh, Bd.state]; rfl
  have N0 := Fr.nil n0
  have ef : entryFrame m #[] 0 = mkF m 0 #[] [] := by first | (simp [entryFrame, mkF, argsToLocals, Value.category]; done) | rfl
  refine Fin.start (Q := Q_val Z aV kV aR aW h0 n0) ef ?_
  show Fin _ _ _ _ _ _ _ (s₁.setTop (mkF m 0 #[] []))
  obtain ⟨T101, X101, e101, st101⟩ := getS X0 hx hZ (host := "") hown (hw _ (List.mem_of_getElem? (i := 37) rfl)) Via.refl e0 (S2.ext OL.2) (g := (mkF m 0 #[] [])) rfl (hb hby d_prog_2_method_1_0)
  refine Fin.by (fun t k => st101 t k) ?_
  show Fin _ _ _ _ _ _ _ (T101.setTop (mkF m 3 #[] [(.ref aV)]))
  have E102 : Exa Z h0 aV "[Lcom/example/portcullis/portcullis/AccessRule$Permissions;" := VE.ext OL.2
  have A103 : Arv Z h0 aV kV (.object "com/example/portcullis/portcullis/AccessRule$Permissions") (2 : Int32) [(.ref aR), (.ref aW)] .null := VA.ext OL.2
  obtain ⟨T104, h104, X104, e104, E104, A104, B104, st104⟩ := cloneH X101 hx hZ hown (hw _ (List.mem_of_getElem? (i := 39) rfl)) (hw _ (List.mem_of_getElem? (i := 40) rfl)) (hw _ (List.mem_of_getElem? (i := 44) rfl)) (hw _ (List.mem_of_getElem? (i := 42) rfl)) (hw _ (List.mem_of_getElem? (i := 43) rfl)) (hw _ (List.mem_of_getElem? (i := 45) rfl)) e101 (Arv.arh A103) E102 (g := (mkF m 3 #[] [(.ref aV)])) rfl (by rw [hml]; rfl) rfl (hb hby d_prog_2_method_1_3) (by decide) (W := 0) (cap := 2) (by show 2 * 0 + _ ≤ _; exact Nat.le_of_eq rfl) (by decide) (by decide) (by decide) (by decide)
  obtain ⟨a104, g104⟩ : ∃ z, z = h0.size := ⟨_, rfl⟩
  rw [← g104] at A104 B104 st104
  refine Fin.by (fun t k => st104 t k) ?_
  have V104 : Arv Z h104 a104 kV (.object "com/example/portcullis/portcullis/AccessRule$Permissions") (2 : Int32) [(.ref aR), (.ref aW)] .null := A104
  show Fin _ _ _ _ _ _ _ (T104.setTop (mkF m 6 #[] [(.ref a104)]))
  obtain ⟨T105, X105, e105, st105⟩ := castY X104 hx hZ hown (hw _ (List.mem_of_getElem? (i := 49) rfl)) e104 (Ins.self B104) (g := (mkF m 6 #[] [(.ref a104)])) rfl rfl (hb hby d_prog_2_method_1_6)
  refine Fin.by (fun t k => st105 t k) ?_
  show Fin _ _ _ _ _ _ _ (T105.setTop (mkF m 9 #[] [(.ref a104)]))
  have kp106 : Keep h0 h104 [] := (Keep.refl h0 []).ext E104
  exact Fin.ret (v := some (.ref a104)) X105 (fun h => by rw [Bd.returns] at h; cases h) Bd.notSynchronized (by rw [e105]; exact ⟨a104, rfl, N0, kp106, (Nat.le_trans (Nat.le_refl _) (Nat.le_of_eq g104.symm)), V104⟩) (by decide) (by decide) (fun fs hr => retA X105 hx Bd.returns rfl rfl (hb hby d_prog_2_method_1_9) hr)
theorem own_hR : ∀ c ∈ ([114] : List Int32), ¬ c < 0 ∧ ¬ (255 : Int32) < c := by decide
theorem own_hW : ∀ c ∈ ([114, 119] : List Int32), ¬ c < 0 ∧ ¬ (255 : Int32) < c := by decide
theorem pd_5 : parseMethodDescriptor "()[Lcom/example/portcullis/portcullis/AccessRule$Permissions;" = some ⟨[], some (.array (.object "com/example/portcullis/portcullis/AccessRule$Permissions"))⟩ := by decide +kernel
theorem d_prog_2_method_4_0 : decode prog_2_method_4_code 0 = .ok (.invokestatic 36, 3) := by decide +kernel
theorem d_prog_2_method_4_3 : decode prog_2_method_4_code 3 = .ok (.astore_n 1, 1) := by decide +kernel
theorem d_prog_2_method_4_4 : decode prog_2_method_4_code 4 = .ok (.aload_n 1, 1) := by decide +kernel
theorem d_prog_2_method_4_5 : decode prog_2_method_4_code 5 = .ok (.arraylength, 1) := by decide +kernel
theorem d_prog_2_method_4_6 : decode prog_2_method_4_code 6 = .ok (.istore_n 2, 1) := by decide +kernel
theorem d_prog_2_method_4_7 : decode prog_2_method_4_code 7 = .ok (.iconst 0, 1) := by decide +kernel
theorem d_prog_2_method_4_8 : decode prog_2_method_4_code 8 = .ok (.istore_n 3, 1) := by decide +kernel
theorem d_prog_2_method_4_9 : decode prog_2_method_4_code 9 = .ok (.iload_n 3, 1) := by decide +kernel
theorem d_prog_2_method_4_10 : decode prog_2_method_4_code 10 = .ok (.iload_n 2, 1) := by decide +kernel
theorem d_prog_2_method_4_11 : decode prog_2_method_4_code 11 = .ok (.if_icmp .ge 29, 3) := by decide +kernel
theorem d_prog_2_method_4_14 : decode prog_2_method_4_code 14 = .ok (.aload_n 1, 1) := by decide +kernel
theorem d_prog_2_method_4_15 : decode prog_2_method_4_code 15 = .ok (.iload_n 3, 1) := by decide +kernel
theorem d_prog_2_method_4_16 : decode prog_2_method_4_code 16 = .ok (.aaload, 1) := by decide +kernel
theorem d_prog_2_method_4_17 : decode prog_2_method_4_code 17 = .ok (.astore 4, 2) := by decide +kernel
theorem d_prog_2_method_4_19 : decode prog_2_method_4_code 19 = .ok (.aload 4, 2) := by decide +kernel
theorem d_prog_2_method_4_21 : decode prog_2_method_4_code 21 = .ok (.getfield 29, 3) := by decide +kernel
theorem d_prog_2_method_4_24 : decode prog_2_method_4_code 24 = .ok (.aload_n 0, 1) := by decide +kernel
theorem pd_23 : parseMethodDescriptor "(Ljava/lang/Object;)Z" = some ⟨[(.object "java/lang/Object")], some .boolean⟩ := by decide +kernel
theorem d_prog_2_method_4_25 : decode prog_2_method_4_code 25 = .ok (.invokevirtual 40, 3) := by decide +kernel
theorem d_prog_2_method_4_28 : decode prog_2_method_4_code 28 = .ok (.ifCond .eq 6, 3) := by decide +kernel
theorem d_prog_2_method_4_31 : decode prog_2_method_4_code 31 = .ok (.aload 4, 2) := by decide +kernel
theorem d_prog_2_method_4_33 : decode prog_2_method_4_code 33 = .ok (.areturn, 1) := by decide +kernel
def Q_ofR (Z : State) (x : Addr) (t : Addr) (kb : ClassId) (cs : List Int32) (G1 : Int32) (aV : Addr) (kV : ClassId) (aR : Addr) (aW : Addr) (wR : Addr) (tR : Addr) (kR : ClassId) (wW : Addr) (tW : Addr) (kW : ClassId) (h0 : Heap) (n0 : Nat) (vv_ : Option Value) (hh_ : Heap) (LL_ : List Loc) : Prop := vv_ = some (.ref aR) ∧ Fr n0 LL_ ∧ Keep h0 hh_ []
set_option maxRecDepth 65536 in
set_option maxHeartbeats 40000000 in
theorem rm_ofR (l : Launch) (Z : State) (a0 : Array Value) (hw : ∀ d ∈ tables_1, d.before a0 Z = true) (ws : List Jvm.Cond) (x : Addr) (t : Addr) (kb : ClassId) (cs : List Int32) (G1 : Int32) (aV : Addr) (kV : ClassId) (aR : Addr) (aW : Addr) (wR : Addr) (tR : Addr) (kR : ClassId) (wW : Addr) (tW : Addr) (kW : ClassId) (h0 : Heap) (n0 : Nat) (Z0 : n0 ≤ h0.size) (hcs : cs = ([114] : List Int32)) (hbs : ∀ c ∈ cs, ¬ c < 0 ∧ ¬ (255 : Int32) < c) (E0 : Exa Z h0 x "java/lang/String") (F0 : Fld Z h0 x "java/lang/String" "value" "[B" (.ref t)) (F1 : Fld Z h0 x "java/lang/String" "coder" "B" (.int (0 : Int32))) (A0 : Arv Z h0 t kb .byte (1 : Int32) ((cs.map (fun c => c.toInt8.toInt32)).map Value.int) (.int 0)) (S1 : Sta Z Z.heap "java/lang/String" "COMPACT_STRINGS" "Z" (.int G1)) (P1 : ¬ G1 = 0) (S2 : Sta Z Z.heap "com/example/portcullis/portcullis/AccessRule$Permissions" "$VALUES" "[Lcom/example/portcullis/portcullis/AccessRule$Permissions;" (.ref aV)) (OL : Old Z n0 h0) (VE : Exa Z Z.heap aV "[Lcom/example/portcullis/portcullis/AccessRule$Permissions;") (VA : Arv Z Z.heap aV kV (.object "com/example/portcullis/portcullis/AccessRule$Permissions") (2 : Int32) [(.ref aR), (.ref aW)] .null) (R0 : Fld Z Z.heap aR "com/example/portcullis/portcullis/AccessRule$Permissions" "word" "Ljava/lang/String;" (.ref wR)) (R1 : Exa Z Z.heap wR "java/lang/String") (R2 : Fld Z Z.heap wR "java/lang/String" "value" "[B" (.ref tR)) (R3 : Fld Z Z.heap wR "java/lang/String" "coder" "B" (.int (0 : Int32))) (R4 : Arv Z Z.heap tR kR .byte (1 : Int32) ((([114] : List Int32).map (fun c => c.toInt8.toInt32)).map Value.int) (.int 0)) (W0 : Fld Z Z.heap aW "com/example/portcullis/portcullis/AccessRule$Permissions" "word" "Ljava/lang/String;" (.ref wW)) (W1 : Exa Z Z.heap wW "java/lang/String") (W2 : Fld Z Z.heap wW "java/lang/String" "value" "[B" (.ref tW)) (W3 : Fld Z Z.heap wW "java/lang/String" "coder" "B" (.int (0 : Int32))) (W4 : Arv Z Z.heap tW kW .byte (2 : Int32) ((([114, 119] : List Int32).map (fun c => c.toInt8.toInt32)).map Value.int) (.int 0)) :
    MetFree l (⟨"com/example/portcullis/portcullis/AccessRule$Permissions", "of", "(Ljava/lang/String;)Lcom/example/portcullis/portcullis/AccessRule$Permissions;"⟩ : MethodName) (head1 (Jvm.Cond.code (⟨"com/example/portcullis/portcullis/AccessRule$Permissions", "of", "(Ljava/lang/String;)Lcom/example/portcullis/portcullis/AccessRule$Permissions;"⟩ : MethodName) prog_2_method_4_code 5 (some (.object "com/example/portcullis/portcullis/AccessRule$Permissions")) :: ws) ({ frames := 2, cells := 1, slots := 2, locals := 28 } : Room)) (fun aa_ U => aa_ = #[(.ref x)] ∧ Z.Warmed39 U.vm ∧ U.heap = h0) (fun _ _ _ _ _ => True) (fun _ U o U' => ∃ vv_ LL_, o = .returned vv_ ∧ Q_ofR Z x t kb cs G1 aV kV aR aW wR tR kR wW tW kW h0 n0 vv_ U'.heap LL_ ∧ FrameEnd U o U' LL_ 1 2) := by
  refine MetFree.of_bodySF (plainFor_of_name pn_com_example_portcullis_portcullis_AccessRule_Permissions) hisR ?_
  intro p e s m args below meth c s₁ Bd hml0 hP hK
  obtain ⟨rfl, hZ, hh⟩ := hP
  have hx := Bd.exec
  have hby := Bd.bytes
  have hml : c.maxLocals = 5 := hml0
  have hown : s.vm.findClass "com/example/portcullis/portcullis/AccessRule$Permissions" = some m.cls := findClass_of_methodNamed Bd.named
  have hnm := (name_of_methodNamed Bd.named Bd.method).1
  have X0 : Stand p l e ({ frames := 2, cells := 1, slots := 2, locals := 28 } : Room) s m #[(.ref x)] below meth c s₁ [] 0 0 := Stand.of_body Bd
  have e0 : s₁.heap = h0 := by rw [← hh, Bd.state]; rfl
  have N0 := Fr.nil n0
  have ef : entryFrame m #[(.ref x)] 5 = mkF m 0 #[.val (.ref x), .unset, .unset, .unset, .unset] [] := by first | (simp [entryFrame, mkF, argsToLocals, Value.category]; done) | rfl
  refine Fin.start (Q := Q_ofR Z x t kb cs G1 aV kV aR aW wR tR kR wW tW kW h0 n0) ef ?_
  show Fin _ _ _ _ _ _ _ (s₁.setTop (mkF m 0 #[.val (.ref x), .unset, .unset, .unset, .unset] []))
  obtain ⟨v101, _, ⟨T101, L101, k101, n101⟩, -, X101, ⟨Lc101, hQ101, l101, y101, z101⟩, st101⟩ := Jvm.LawKit.callS X0 hx (y := (⟨"com/example/portcullis/portcullis/AccessRule$Permissions", "values", "()[Lcom/example/portcullis/portcullis/AccessRule$Permissions;"⟩ : MethodName)) hown (mvT hZ (hw _ (List.mem_of_getElem? (i := 34) rfl))) (mvT hZ (hw _ (List.mem_of_getElem? (i := 35) rfl))) (mvT hZ (hw _ (List.mem_of_getElem? (i := 32) rfl))) (mvT hZ (hw _ (List.mem_of_getElem? (i := 36) rfl))) (by decide) (backOf (W := 0) (rm_val l Z a0 hw [] aV kV aR aW h0 n0 Z0 S2 OL VE VA) hZ (hw _ (List.mem_of_getElem? (i := 36) rfl)) (hw _ (List.mem_of_getElem? (i := 32) rfl)) (by decide) (by decide)) (g := (mkF m 0 #[.val (.ref x), .unset, .unset, .unset, .unset] [])) rfl (by rw [hml]; rfl) (argsL := []) (rest := []) (lenOf pd_5 rfl) rfl (by show 2 * 0 + _ ≤ _; exact Nat.le_of_eq rfl) (hb hby d_prog_2_method_4_0) (fun _ _ => ⟨rfl, e0, (by decide : 0 + 1 ≤ _), (by decide : 0 + 2 ≤ _)⟩)
  dsimp only [Pt.U, Pt.locs, Pt.cells, Pt.slots] at X101 l101 y101 z101 st101 hQ101
  subst l101 y101 z101
  obtain ⟨t102, rfl, Nq101, p101_0, p101_1, p101_2⟩ := hQ101
  have N101_ := Fr.app N0 Nq101
  refine Fin.by (fun t k => st101 t k) ?_
  show Fin _ _ _ _ _ _ _ (T101.setTop (mkF m 3 #[.val (.ref x), .unset, .unset, .unset, .unset] [(.ref t102)]))
  refine Fin.by (fun t k => XS.astoreN X101.here hx rfl (hb hby d_prog_2_method_4_3) rfl rfl (l' := #[.val (.ref x), .val (.ref t102), .unset, .unset, .unset]) rfl k) ?_
  show Fin _ _ _ _ _ _ _ (T101.setTop (mkF m 4 #[.val (.ref x), .val (.ref t102), .unset, .unset, .unset] []))
  refine Fin.by (fun t k => XS.aloadN X101.here hx rfl (hb hby d_prog_2_method_4_4) rfl rfl k) ?_
  show Fin _ _ _ _ _ _ _ (T101.setTop (mkF m 5 #[.val (.ref x), .val (.ref t102), .unset, .unset, .unset] [(.ref t102)]))
  obtain ⟨cl103, Ar103, q103, S103, N103, H103, G103⟩ := id p101_2
  refine Fin.by (fun t k => X101.arraylength hx (Ar103.1) (State.isArrayOf_alike hZ.alike Ar103.2.1) (g := (mkF m 5 #[.val (.ref x), .val (.ref t102), .unset, .unset, .unset] [(.ref t102)])) rfl rfl (hb hby d_prog_2_method_4_5) _ k) ?_
  rw [len_of S103 N103]
  show Fin _ _ _ _ _ _ _ (T101.setTop (mkF m 6 #[.val (.ref x), .val (.ref t102), .unset, .unset, .unset] [(.int (2 : Int32))]))
  refine Fin.by (fun t k => XS.istoreN X101.here hx rfl (hb hby d_prog_2_method_4_6) rfl (l' := #[.val (.ref x), .val (.ref t102), .val (.int (2 : Int32)), .unset, .unset]) rfl k) ?_
  show Fin _ _ _ _ _ _ _ (T101.setTop (mkF m 7 #[.val (.ref x), .val (.ref t102), .val (.int (2 : Int32)), .unset, .unset] []))
  refine Fin.by (fun t k => XS.iconst X101.here hx rfl (hb hby d_prog_2_method_4_7) k) ?_
  show Fin _ _ _ _ _ _ _ (T101.setTop (mkF m 8 #[.val (.ref x), .val (.ref t102), .val (.int (2 : Int32)), .unset, .unset] [(.int (0 : Int32))]))
  refine Fin.by (fun t k => XS.istoreN X101.here hx rfl (hb hby d_prog_2_method_4_8) rfl (l' := #[.val (.ref x), .val (.ref t102), .val (.int (2 : Int32)), .val (.int (0 : Int32)), .unset]) rfl k) ?_
  show Fin _ _ _ _ _ _ _ (T101.setTop (mkF m 9 #[.val (.ref x), .val (.ref t102), .val (.int (2 : Int32)), .val (.int (0 : Int32)), .unset] []))
  refine Fin.by (fun t k => XS.iloadN X101.here hx rfl (hb hby d_prog_2_method_4_9) rfl k) ?_
  show Fin _ _ _ _ _ _ _ (T101.setTop (mkF m 10 #[.val (.ref x), .val (.ref t102), .val (.int (2 : Int32)), .val (.int (0 : Int32)), .unset] [(.int (0 : Int32))]))
  refine Fin.by (fun t k => XS.iloadN X101.here hx rfl (hb hby d_prog_2_method_4_10) rfl k) ?_
  show Fin _ _ _ _ _ _ _ (T101.setTop (mkF m 11 #[.val (.ref x), .val (.ref t102), .val (.int (2 : Int32)), .val (.int (0 : Int32)), .unset] [(.int (2 : Int32)), (.int (0 : Int32))]))
  refine Fin.by (fun t k => XS.icmpNo X101.here hx rfl (hb hby d_prog_2_method_4_11) rfl (tlt (by decide : (0 : Int32) < (2 : Int32))).2.1 k) ?_
  show Fin _ _ _ _ _ _ _ (T101.setTop (mkF m 14 #[.val (.ref x), .val (.ref t102), .val (.int (2 : Int32)), .val (.int (0 : Int32)), .unset] []))
  refine Fin.by (fun t k => XS.aloadN X101.here hx rfl (hb hby d_prog_2_method_4_14) rfl rfl k) ?_
  show Fin _ _ _ _ _ _ _ (T101.setTop (mkF m 15 #[.val (.ref x), .val (.ref t102), .val (.int (2 : Int32)), .val (.int (0 : Int32)), .unset] [(.ref t102)]))
  refine Fin.by (fun t k => XS.iloadN X101.here hx rfl (hb hby d_prog_2_method_4_15) rfl k) ?_
  show Fin _ _ _ _ _ _ _ (T101.setTop (mkF m 16 #[.val (.ref x), .val (.ref t102), .val (.int (2 : Int32)), .val (.int (0 : Int32)), .unset] [(.int (0 : Int32)), (.ref t102)]))
  obtain ⟨cl104, Ar104, q104, S104, N104, H104, G104⟩ := id p101_2
  have hin104 : ¬ ((0 : Int32) < 0 ∨ cl104.slots.size ≤ (0 : Int32).toNatClampNeg) := inb_of S104 ⟨by decide, by decide⟩
  refine Fin.by (fun t k => X101.aaload hx (j := (0 : Int32)) (v := (.ref aR)) (Ar104.1) (State.isArrayOf_alike hZ.alike Ar104.2.1) rfl Ar104.2.2 hin104 (Has.at H104 hin104 rfl) (g := (mkF m 16 #[.val (.ref x), .val (.ref t102), .val (.int (2 : Int32)), .val (.int (0 : Int32)), .unset] [(.int (0 : Int32)), (.ref t102)])) rfl rfl (hb hby d_prog_2_method_4_16) _ k) ?_
  show Fin _ _ _ _ _ _ _ (T101.setTop (mkF m 17 #[.val (.ref x), .val (.ref t102), .val (.int (2 : Int32)), .val (.int (0 : Int32)), .unset] [(.ref aR)]))
  refine Fin.by (fun t k => XS.astore X101.here hx rfl (hb hby d_prog_2_method_4_17) rfl rfl (l' := #[.val (.ref x), .val (.ref t102), .val (.int (2 : Int32)), .val (.int (0 : Int32)), .val (.ref aR)]) rfl k) ?_
  show Fin _ _ _ _ _ _ _ (T101.setTop (mkF m 19 #[.val (.ref x), .val (.ref t102), .val (.int (2 : Int32)), .val (.int (0 : Int32)), .val (.ref aR)] []))
  refine Fin.by (fun t k => XS.aload X101.here hx rfl (hb hby d_prog_2_method_4_19) rfl rfl k) ?_
  show Fin _ _ _ _ _ _ _ (T101.setTop (mkF m 21 #[.val (.ref x), .val (.ref t102), .val (.int (2 : Int32)), .val (.int (0 : Int32)), .val (.ref aR)] [(.ref aR)]))
  have O105 : Old Z n0 T101.heap := (OL.keep p101_0 all0)
  have F106 : Fld Z T101.heap aR "com/example/portcullis/portcullis/AccessRule$Permissions" "word" "Ljava/lang/String;" (.ref wR) := R0.ext O105.2
  obtain ⟨T107, X107, e107, st107⟩ := getF X101 hx hZ hown (host := "") (Or.inl (hw _ (List.mem_of_getElem? (i := 51) rfl))) Via.refl rfl F106 (g := (mkF m 21 #[.val (.ref x), .val (.ref t102), .val (.int (2 : Int32)), .val (.int (0 : Int32)), .val (.ref aR)] [(.ref aR)])) rfl rfl (hb hby d_prog_2_method_4_21)
  refine Fin.by (fun t k => st107 t k) ?_
  show Fin _ _ _ _ _ _ _ (T107.setTop (mkF m 24 #[.val (.ref x), .val (.ref t102), .val (.int (2 : Int32)), .val (.int (0 : Int32)), .val (.ref aR)] [(.ref wR)]))
  refine Fin.by (fun t k => XS.aloadN X107.here hx rfl (hb hby d_prog_2_method_4_24) rfl rfl k) ?_
  show Fin _ _ _ _ _ _ _ (T107.setTop (mkF m 25 #[.val (.ref x), .val (.ref t102), .val (.int (2 : Int32)), .val (.int (0 : Int32)), .val (.ref aR)] [(.ref x), (.ref wR)]))
  have E108 : Exa Z T101.heap wR "java/lang/String" := R1.ext O105.2
  have F109 : Fld Z T101.heap wR "java/lang/String" "value" "[B" (.ref tR) := R2.ext O105.2
  have F110 : Fld Z T101.heap wR "java/lang/String" "coder" "B" (.int (0 : Int32)) := R3.ext O105.2
  have A111 : Arv Z T101.heap tR kR .byte (1 : Int32) ((([114] : List Int32).map (fun c => c.toInt8.toInt32)).map Value.int) (.int 0) := R4.ext O105.2
  have E112 : Exa Z T101.heap x "java/lang/String" := (E0.keep p101_0)
  have F113 : Fld Z T101.heap x "java/lang/String" "value" "[B" (.ref t) := (F0.keep p101_0 nin0)
  have F114 : Fld Z T101.heap x "java/lang/String" "coder" "B" (.int (0 : Int32)) := (F1.keep p101_0 nin0)
  have A115 : Arv Z T101.heap t kb .byte (1 : Int32) ((cs.map (fun c => c.toInt8.toInt32)).map Value.int) (.int 0) := (A0.keep p101_0 nin0)
  obtain ⟨cq116, kq116, qa116, qb116, qc116⟩ := isOf hZ e107 E108
  obtain ⟨v116, _, ⟨T116, L116, k116, n116⟩, -, X116, ⟨Lc116, hQ116, l116, y116, z116⟩, st116⟩ := X107.virtualBack hx (y := (⟨"java/lang/String", "equals", "(Ljava/lang/Object;)Z"⟩ : MethodName)) (z := (⟨"java/lang/String", "equals", "(Ljava/lang/Object;)Z"⟩ : MethodName)) hown (mvT hZ (hw _ (List.mem_of_getElem? (i := 53) rfl))) (mvT hZ (hw _ (List.mem_of_getElem? (i := 54) rfl))) (notFace_of_selects (args := #[]) (mvT hZ (hw _ (List.mem_of_getElem? (i := 56) rfl)))) (mvT hZ (hw _ (List.mem_of_getElem? (i := 56) rfl))) (mvT hZ (hw _ (List.mem_of_getElem? (i := 55) rfl))) (by decide) (StrChars.Road.eqW (W := 0) hZ (fun d hd => hw d (own_wordsEq d hd)) (kI := 4) (hw _ (List.mem_of_getElem? (i := 2) rfl)) E108 F109 F110 A111 (StrChars.Road.codOf (cs := ([114] : List Int32)) (n := 1) rfl (fun c hc => (own_hR c hc).2)) (own_up own_hR) (Nat.le_of_ble_eq_true rfl) E112 F113 F114 A115 (StrChars.Road.codOf (cs := cs) (n := 1) (by rw [hcs]; rfl) (fun c hc => (hbs c hc).2)) (own_up hbs) (by rw [hcs]; decide) (S1.ext O105.2) P1 (by decide) (by decide)) qa116 qc116 (g := (mkF m 25 #[.val (.ref x), .val (.ref t102), .val (.int (2 : Int32)), .val (.int (0 : Int32)), .val (.ref aR)] [(.ref x), (.ref wR)])) rfl (by rw [hml]; rfl) (Steps.refl _) (argsL := [(.ref x)]) (rest := []) (lenOf pd_23 rfl) rfl (by show 2 * 0 + _ ≤ _; exact Nat.le_of_eq rfl) (hb hby d_prog_2_method_4_25) (fun _ _ => ⟨rfl, e107, (by decide : 1 + 0 ≤ _), (by decide : 2 + 0 ≤ _)⟩)
  dsimp only [Pt.U, Pt.locs, Pt.cells, Pt.slots] at X116 l116 y116 z116 st116 hQ116
  subst l116 y116 z116
  obtain ⟨hv116, hL116, e116⟩ := hQ116
  subst hL116
  have N116_ := Fr.app N101_ (Fr.nil n0)
  obtain rfl : v116 = some (.int (1 : Int32)) := hv116.elim (fun q => q.1) (fun q => absurd (hcs.symm) q.2)
  refine Fin.byS st116 ?_
  show Fin _ _ _ _ _ _ _ (T116.setTop (mkF m 28 #[.val (.ref x), .val (.ref t102), .val (.int (2 : Int32)), .val (.int (0 : Int32)), .val (.ref aR)] [(.int (1 : Int32))]))
  refine Fin.by (fun t k => XS.ifNo X116.here hx rfl (hb hby d_prog_2_method_4_28) rfl ((if0 _ _).trans (feq (by decide : ¬ (1 : Int32) = (0 : Int32))).1) k) ?_
  show Fin _ _ _ _ _ _ _ (T116.setTop (mkF m 31 #[.val (.ref x), .val (.ref t102), .val (.int (2 : Int32)), .val (.int (0 : Int32)), .val (.ref aR)] []))
  refine Fin.by (fun t k => XS.aload X116.here hx rfl (hb hby d_prog_2_method_4_31) rfl rfl k) ?_
  show Fin _ _ _ _ _ _ _ (T116.setTop (mkF m 33 #[.val (.ref x), .val (.ref t102), .val (.int (2 : Int32)), .val (.int (0 : Int32)), .val (.ref aR)] [(.ref aR)]))
  have kp117 : Keep h0 T101.heap [] := (Keep.refl h0 []).trans p101_0 all0
  exact Fin.ret (v := some (.ref aR)) X116 (fun h => by rw [Bd.returns] at h; cases h) Bd.notSynchronized (by rw [e116]; exact ⟨rfl, N116_, kp117⟩) (by decide) (by decide) (fun fs hr => retA X116 hx Bd.returns rfl rfl (hb hby d_prog_2_method_4_33) hr)
theorem d_prog_2_method_4_34 : decode prog_2_method_4_code 34 = .ok (.iinc 3 1, 3) := by decide +kernel
theorem d_prog_2_method_4_37 : decode prog_2_method_4_code 37 = .ok (.goto (-28), 3) := by decide +kernel
def Q_ofW (Z : State) (x : Addr) (t : Addr) (kb : ClassId) (cs : List Int32) (G1 : Int32) (aV : Addr) (kV : ClassId) (aR : Addr) (aW : Addr) (wR : Addr) (tR : Addr) (kR : ClassId) (wW : Addr) (tW : Addr) (kW : ClassId) (h0 : Heap) (n0 : Nat) (vv_ : Option Value) (hh_ : Heap) (LL_ : List Loc) : Prop := vv_ = some (.ref aW) ∧ Fr n0 LL_ ∧ Keep h0 hh_ []
set_option maxRecDepth 65536 in
set_option maxHeartbeats 40000000 in
theorem rm_ofW (l : Launch) (Z : State) (a0 : Array Value) (hw : ∀ d ∈ tables_1, d.before a0 Z = true) (ws : List Jvm.Cond) (x : Addr) (t : Addr) (kb : ClassId) (cs : List Int32) (G1 : Int32) (aV : Addr) (kV : ClassId) (aR : Addr) (aW : Addr) (wR : Addr) (tR : Addr) (kR : ClassId) (wW : Addr) (tW : Addr) (kW : ClassId) (h0 : Heap) (n0 : Nat) (Z0 : n0 ≤ h0.size) (hcs : cs = ([114, 119] : List Int32)) (hbs : ∀ c ∈ cs, ¬ c < 0 ∧ ¬ (255 : Int32) < c) (E0 : Exa Z h0 x "java/lang/String") (F0 : Fld Z h0 x "java/lang/String" "value" "[B" (.ref t)) (F1 : Fld Z h0 x "java/lang/String" "coder" "B" (.int (0 : Int32))) (A0 : Arv Z h0 t kb .byte (2 : Int32) ((cs.map (fun c => c.toInt8.toInt32)).map Value.int) (.int 0)) (S1 : Sta Z Z.heap "java/lang/String" "COMPACT_STRINGS" "Z" (.int G1)) (P1 : ¬ G1 = 0) (S2 : Sta Z Z.heap "com/example/portcullis/portcullis/AccessRule$Permissions" "$VALUES" "[Lcom/example/portcullis/portcullis/AccessRule$Permissions;" (.ref aV)) (OL : Old Z n0 h0) (VE : Exa Z Z.heap aV "[Lcom/example/portcullis/portcullis/AccessRule$Permissions;") (VA : Arv Z Z.heap aV kV (.object "com/example/portcullis/portcullis/AccessRule$Permissions") (2 : Int32) [(.ref aR), (.ref aW)] .null) (R0 : Fld Z Z.heap aR "com/example/portcullis/portcullis/AccessRule$Permissions" "word" "Ljava/lang/String;" (.ref wR)) (R1 : Exa Z Z.heap wR "java/lang/String") (R2 : Fld Z Z.heap wR "java/lang/String" "value" "[B" (.ref tR)) (R3 : Fld Z Z.heap wR "java/lang/String" "coder" "B" (.int (0 : Int32))) (R4 : Arv Z Z.heap tR kR .byte (1 : Int32) ((([114] : List Int32).map (fun c => c.toInt8.toInt32)).map Value.int) (.int 0)) (W0 : Fld Z Z.heap aW "com/example/portcullis/portcullis/AccessRule$Permissions" "word" "Ljava/lang/String;" (.ref wW)) (W1 : Exa Z Z.heap wW "java/lang/String") (W2 : Fld Z Z.heap wW "java/lang/String" "value" "[B" (.ref tW)) (W3 : Fld Z Z.heap wW "java/lang/String" "coder" "B" (.int (0 : Int32))) (W4 : Arv Z Z.heap tW kW .byte (2 : Int32) ((([114, 119] : List Int32).map (fun c => c.toInt8.toInt32)).map Value.int) (.int 0)) :
    MetFree l (⟨"com/example/portcullis/portcullis/AccessRule$Permissions", "of", "(Ljava/lang/String;)Lcom/example/portcullis/portcullis/AccessRule$Permissions;"⟩ : MethodName) (head1 (Jvm.Cond.code (⟨"com/example/portcullis/portcullis/AccessRule$Permissions", "of", "(Ljava/lang/String;)Lcom/example/portcullis/portcullis/AccessRule$Permissions;"⟩ : MethodName) prog_2_method_4_code 5 (some (.object "com/example/portcullis/portcullis/AccessRule$Permissions")) :: ws) ({ frames := 2, cells := 1, slots := 2, locals := 28 } : Room)) (fun aa_ U => aa_ = #[(.ref x)] ∧ Z.Warmed39 U.vm ∧ U.heap = h0) (fun _ _ _ _ _ => True) (fun _ U o U' => ∃ vv_ LL_, o = .returned vv_ ∧ Q_ofW Z x t kb cs G1 aV kV aR aW wR tR kR wW tW kW h0 n0 vv_ U'.heap LL_ ∧ FrameEnd U o U' LL_ 1 2) := by
  refine MetFree.of_bodySF (plainFor_of_name pn_com_example_portcullis_portcullis_AccessRule_Permissions) hisR ?_
  intro p e s m args below meth c s₁ Bd hml0 hP hK
  obtain ⟨rfl, hZ, hh⟩ := hP
  have hx := Bd.exec
  have hby := Bd.bytes
  have hml : c.maxLocals = 5 := hml0
  have hown : s.vm.findClass "com/example/portcullis/portcullis/AccessRule$Permissions" = some m.cls := findClass_of_methodNamed Bd.named
  have hnm := (name_of_methodNamed Bd.named Bd.method).1
  have X0 : Stand p l e ({ frames := 2, cells := 1, slots := 2, locals := 28 } : Room) s m #[(.ref x)] below meth c s₁ [] 0 0 := Stand.of_body Bd
  have e0 : s₁.heap = h0 := by rw [← hh, Bd.state]; rfl
  have N0 := Fr.nil n0
  have ef : entryFrame m #[(.ref x)] 5 = mkF m 0 #[.val (.ref x), .unset, .unset, .unset, .unset] [] := by first | (simp [entryFrame, mkF, argsToLocals, Value.category]; done) | rfl
  refine Fin.start (Q := Q_ofW Z x t kb cs G1 aV kV aR aW wR tR kR wW tW kW h0 n0) ef ?_
  show Fin _ _ _ _ _ _ _ (s₁.setTop (mkF m 0 #[.val (.ref x), .unset, .unset, .unset, .unset] []))
  obtain ⟨v101, _, ⟨T101, L101, k101, n101⟩, -, X101, ⟨Lc101, hQ101, l101, y101, z101⟩, st101⟩ := Jvm.LawKit.callS X0 hx (y := (⟨"com/example/portcullis/portcullis/AccessRule$Permissions", "values", "()[Lcom/example/portcullis/portcullis/AccessRule$Permissions;"⟩ : MethodName)) hown (mvT hZ (hw _ (List.mem_of_getElem? (i := 34) rfl))) (mvT hZ (hw _ (List.mem_of_getElem? (i := 35) rfl))) (mvT hZ (hw _ (List.mem_of_getElem? (i := 32) rfl))) (mvT hZ (hw _ (List.mem_of_getElem? (i := 36) rfl))) (by decide) (backOf (W := 0) (rm_val l Z a0 hw [] aV kV aR aW h0 n0 Z0 S2 OL VE VA) hZ (hw _ (List.mem_of_getElem? (i := 36) rfl)) (hw _ (List.mem_of_getElem? (i := 32) rfl)) (by decide) (by decide)) (g := (mkF m 0 #[.val (.ref x), .unset, .unset, .unset, .unset] [])) rfl (by rw [hml]; rfl) (argsL := []) (rest := []) (lenOf pd_5 rfl) rfl (by show 2 * 0 + _ ≤ _; exact Nat.le_of_eq rfl) (hb hby d_prog_2_method_4_0) (fun _ _ => ⟨rfl, e0, (by decide : 0 + 1 ≤ _), (by decide : 0 + 2 ≤ _)⟩)
  dsimp only [Pt.U, Pt.locs, Pt.cells, Pt.slots] at X101 l101 y101 z101 st101 hQ101
  subst l101 y101 z101
  obtain ⟨t102, rfl, Nq101, p101_0, p101_1, p101_2⟩ := hQ101
  have N101_ := Fr.app N0 Nq101
  refine Fin.by (fun t k => st101 t k) ?_
  show Fin _ _ _ _ _ _ _ (T101.setTop (mkF m 3 #[.val (.ref x), .unset, .unset, .unset, .unset] [(.ref t102)]))
  refine Fin.by (fun t k => XS.astoreN X101.here hx rfl (hb hby d_prog_2_method_4_3) rfl rfl (l' := #[.val (.ref x), .val (.ref t102), .unset, .unset, .unset]) rfl k) ?_
  show Fin _ _ _ _ _ _ _ (T101.setTop (mkF m 4 #[.val (.ref x), .val (.ref t102), .unset, .unset, .unset] []))
  refine Fin.by (fun t k => XS.aloadN X101.here hx rfl (hb hby d_prog_2_method_4_4) rfl rfl k) ?_
  show Fin _ _ _ _ _ _ _ (T101.setTop (mkF m 5 #[.val (.ref x), .val (.ref t102), .unset, .unset, .unset] [(.ref t102)]))
  obtain ⟨cl103, Ar103, q103, S103, N103, H103, G103⟩ := id p101_2
  refine Fin.by (fun t k => X101.arraylength hx (Ar103.1) (State.isArrayOf_alike hZ.alike Ar103.2.1) (g := (mkF m 5 #[.val (.ref x), .val (.ref t102), .unset, .unset, .unset] [(.ref t102)])) rfl rfl (hb hby d_prog_2_method_4_5) _ k) ?_
  rw [len_of S103 N103]
  show Fin _ _ _ _ _ _ _ (T101.setTop (mkF m 6 #[.val (.ref x), .val (.ref t102), .unset, .unset, .unset] [(.int (2 : Int32))]))
  refine Fin.by (fun t k => XS.istoreN X101.here hx rfl (hb hby d_prog_2_method_4_6) rfl (l' := #[.val (.ref x), .val (.ref t102), .val (.int (2 : Int32)), .unset, .unset]) rfl k) ?_
  show Fin _ _ _ _ _ _ _ (T101.setTop (mkF m 7 #[.val (.ref x), .val (.ref t102), .val (.int (2 : Int32)), .unset, .unset] []))
  refine Fin.by (fun t k => XS.iconst X101.here hx rfl (hb hby d_prog_2_method_4_7) k) ?_
  show Fin _ _ _ _ _ _ _ (T101.setTop (mkF m 8 #[.val (.ref x), .val (.ref t102), .val (.int (2 : Int32)), .unset, .unset] [(.int (0 : Int32))]))
  refine Fin.by (fun t k => XS.istoreN X101.here hx rfl (hb hby d_prog_2_method_4_8) rfl (l' := #[.val (.ref x), .val (.ref t102), .val (.int (2 : Int32)), .val (.int (0 : Int32)), .unset]) rfl k) ?_
  show Fin _ _ _ _ _ _ _ (T101.setTop (mkF m 9 #[.val (.ref x), .val (.ref t102), .val (.int (2 : Int32)), .val (.int (0 : Int32)), .unset] []))
  refine Fin.by (fun t k => XS.iloadN X101.here hx rfl (hb hby d_prog_2_method_4_9) rfl k) ?_
  show Fin _ _ _ _ _ _ _ (T101.setTop (mkF m 10 #[.val (.ref x), .val (.ref t102), .val (.int (2 : Int32)), .val (.int (0 : Int32)), .unset] [(.int (0 : Int32))]))
  refine Fin.by (fun t k => XS.iloadN X101.here hx rfl (hb hby d_prog_2_method_4_10) rfl k) ?_
  show Fin _ _ _ _ _ _ _ (T101.setTop (mkF m 11 #[.val (.ref x), .val (.ref t102), .val (.int (2 : Int32)), .val (.int (0 : Int32)), .unset] [(.int (2 : Int32)), (.int (0 : Int32))]))
  refine Fin.by (fun t k => XS.icmpNo X101.here hx rfl (hb hby d_prog_2_method_4_11) rfl (tlt (by decide : (0 : Int32) < (2 : Int32))).2.1 k) ?_
  show Fin _ _ _ _ _ _ _ (T101.setTop (mkF m 14 #[.val (.ref x), .val (.ref t102), .val (.int (2 : Int32)), .val (.int (0 : Int32)), .unset] []))
  refine Fin.by (fun t k => XS.aloadN X101.here hx rfl (hb hby d_prog_2_method_4_14) rfl rfl k) ?_
  show Fin _ _ _ _ _ _ _ (T101.setTop (mkF m 15 #[.val (.ref x), .val (.ref t102), .val (.int (2 : Int32)), .val (.int (0 : Int32)), .unset] [(.ref t102)]))
  refine Fin.by (fun t k => XS.iloadN X101.here hx rfl (hb hby d_prog_2_method_4_15) rfl k) ?_
  show Fin _ _ _ _ _ _ _ (T101.setTop (mkF m 16 #[.val (.ref x), .val (.ref t102), .val (.int (2 : Int32)), .val (.int (0 : Int32)), .unset] [(.int (0 : Int32)), (.ref t102)]))
  obtain ⟨cl104, Ar104, q104, S104, N104, H104, G104⟩ := id p101_2
  have hin104 : ¬ ((0 : Int32) < 0 ∨ cl104.slots.size ≤ (0 : Int32).toNatClampNeg) := inb_of S104 ⟨by decide, by decide⟩
  refine Fin.by (fun t k => X101.aaload hx (j := (0 : Int32)) (v := (.ref aR)) (Ar104.1) (State.isArrayOf_alike hZ.alike Ar104.2.1) rfl Ar104.2.2 hin104 (Has.at H104 hin104 rfl) (g := (mkF m 16 #[.val (.ref x), .val (.ref t102), .val (.int (2 : Int32)), .val (.int (0 : Int32)), .unset] [(.int (0 : Int32)), (.ref t102)])) rfl rfl (hb hby d_prog_2_method_4_16) _ k) ?_
  show Fin _ _ _ _ _ _ _ (T101.setTop (mkF m 17 #[.val (.ref x), .val (.ref t102), .val (.int (2 : Int32)), .val (.int (0 : Int32)), .unset] [(.ref aR)]))
  refine Fin.by (fun t k => XS.astore X101.here hx rfl (hb hby d_prog_2_method_4_17) rfl rfl (l' := #[.val (.ref x), .val (.ref t102), .val (.int (2 : Int32)), .val (.int (0 : Int32)), .val (.ref aR)]) rfl k) ?_
  show Fin _ _ _ _ _ _ _ (T101.setTop (mkF m 19 #[.val (.ref x), .val (.ref t102), .val (.int (2 : Int32)), .val (.int (0 : Int32)), .val (.ref aR)] []))
  refine Fin.by (fun t k => XS.aload X101.here hx rfl (hb hby d_prog_2_method_4_19) rfl rfl k) ?_
  show Fin _ _ _ _ _ _ _ (T101.setTop (mkF m 21 #[.val (.ref x), .val (.ref t102), .val (.int (2 : Int32)), .val (.int (0 : Int32)), .val (.ref aR)] [(.ref aR)]))
  have O105 : Old Z n0 T101.heap := (OL.keep p101_0 all0)
  have F106 : Fld Z T101.heap aR "com/example/portcullis/portcullis/AccessRule$Permissions" "word" "Ljava/lang/String;" (.ref wR) := R0.ext O105.2
  obtain ⟨T107, X107, e107, st107⟩ := getF X101 hx hZ hown (host := "") (Or.inl (hw _ (List.mem_of_getElem? (i := 51) rfl))) Via.refl rfl F106 (g := (mkF m 21 #[.val (.ref x), .val (.ref t102), .val (.int (2 : Int32)), .val (.int (0 : Int32)), .val (.ref aR)] [(.ref aR)])) rfl rfl (hb hby d_prog_2_method_4_21)
  refine Fin.by (fun t k => st107 t k) ?_
  show Fin _ _ _ _ _ _ _ (T107.setTop (mkF m 24 #[.val (.ref x), .val (.ref t102), .val (.int (2 : Int32)), .val (.int (0 : Int32)), .val (.ref aR)] [(.ref wR)]))
  refine Fin.by (fun t k => XS.aloadN X107.here hx rfl (hb hby d_prog_2_method_4_24) rfl rfl k) ?_
  show Fin _ _ _ _ _ _ _ (T107.setTop (mkF m 25 #[.val (.ref x), .val (.ref t102), .val (.int (2 : Int32)), .val (.int (0 : Int32)), .val (.ref aR)] [(.ref x), (.ref wR)]))
  have E108 : Exa Z T101.heap wR "java/lang/String" := R1.ext O105.2
  have F109 : Fld Z T101.heap wR "java/lang/String" "value" "[B" (.ref tR) := R2.ext O105.2
  have F110 : Fld Z T101.heap wR "java/lang/String" "coder" "B" (.int (0 : Int32)) := R3.ext O105.2
  have A111 : Arv Z T101.heap tR kR .byte (1 : Int32) ((([114] : List Int32).map (fun c => c.toInt8.toInt32)).map Value.int) (.int 0) := R4.ext O105.2
  have E112 : Exa Z T101.heap x "java/lang/String" := (E0.keep p101_0)
  have F113 : Fld Z T101.heap x "java/lang/String" "value" "[B" (.ref t) := (F0.keep p101_0 nin0)
  have F114 : Fld Z T101.heap x "java/lang/String" "coder" "B" (.int (0 : Int32)) := (F1.keep p101_0 nin0)
  have A115 : Arv Z T101.heap t kb .byte (2 : Int32) ((cs.map (fun c => c.toInt8.toInt32)).map Value.int) (.int 0) := (A0.keep p101_0 nin0)
  obtain ⟨cq116, kq116, qa116, qb116, qc116⟩ := isOf hZ e107 E108
  obtain ⟨v116, _, ⟨T116, L116, k116, n116⟩, -, X116, ⟨Lc116, hQ116, l116, y116, z116⟩, st116⟩ := X107.virtualBack hx (y := (⟨"java/lang/String", "equals", "(Ljava/lang/Object;)Z"⟩ : MethodName)) (z := (⟨"java/lang/String", "equals", "(Ljava/lang/Object;)Z"⟩ : MethodName)) hown (mvT hZ (hw _ (List.mem_of_getElem? (i := 53) rfl))) (mvT hZ (hw _ (List.mem_of_getElem? (i := 54) rfl))) (notFace_of_selects (args := #[]) (mvT hZ (hw _ (List.mem_of_getElem? (i := 56) rfl)))) (mvT hZ (hw _ (List.mem_of_getElem? (i := 56) rfl))) (mvT hZ (hw _ (List.mem_of_getElem? (i := 55) rfl))) (by decide) (StrChars.Road.eqW (W := 0) hZ (fun d hd => hw d (own_wordsEq d hd)) (kI := 4) (hw _ (List.mem_of_getElem? (i := 2) rfl)) E108 F109 F110 A111 (StrChars.Road.codOf (cs := ([114] : List Int32)) (n := 1) rfl (fun c hc => (own_hR c hc).2)) (own_up own_hR) (Nat.le_of_ble_eq_true rfl) E112 F113 F114 A115 (StrChars.Road.codOf (cs := cs) (n := 2) (by rw [hcs]; rfl) (fun c hc => (hbs c hc).2)) (own_up hbs) (by rw [hcs]; decide) (S1.ext O105.2) P1 (by decide) (by decide)) qa116 qc116 (g := (mkF m 25 #[.val (.ref x), .val (.ref t102), .val (.int (2 : Int32)), .val (.int (0 : Int32)), .val (.ref aR)] [(.ref x), (.ref wR)])) rfl (by rw [hml]; rfl) (Steps.refl _) (argsL := [(.ref x)]) (rest := []) (lenOf pd_23 rfl) rfl (by show 2 * 0 + _ ≤ _; exact Nat.le_of_eq rfl) (hb hby d_prog_2_method_4_25) (fun _ _ => ⟨rfl, e107, (by decide : 1 + 0 ≤ _), (by decide : 2 + 0 ≤ _)⟩)
  dsimp only [Pt.U, Pt.locs, Pt.cells, Pt.slots] at X116 l116 y116 z116 st116 hQ116
  subst l116 y116 z116
  obtain ⟨hv116, hL116, e116⟩ := hQ116
  subst hL116
  have N116_ := Fr.app N101_ (Fr.nil n0)
  obtain rfl : v116 = some (.int (0 : Int32)) := hv116.elim (fun q => absurd q.2 (by rw [hcs]; decide)) (fun q => q.1)
  refine Fin.byS st116 ?_
  show Fin _ _ _ _ _ _ _ (T116.setTop (mkF m 28 #[.val (.ref x), .val (.ref t102), .val (.int (2 : Int32)), .val (.int (0 : Int32)), .val (.ref aR)] [(.int (0 : Int32))]))
  refine Fin.by (fun t k => XS.ifYes X116.here hx rfl (pc0 := 28) (pc' := 34) rfl (hb hby d_prog_2_method_4_28) rfl ((if0 _ _).trans (teq (rfl : (0 : Int32) = (0 : Int32))).1) (by decide) (by decide) k) ?_
  show Fin _ _ _ _ _ _ _ (T116.setTop (mkF m 34 #[.val (.ref x), .val (.ref t102), .val (.int (2 : Int32)), .val (.int (0 : Int32)), .val (.ref aR)] []))
  refine Fin.by (fun t k => XS.iinc X116.here hx rfl (hb hby d_prog_2_method_4_34) rfl (l' := #[.val (.ref x), .val (.ref t102), .val (.int (2 : Int32)), .val (.int (1 : Int32)), .val (.ref aR)]) rfl k) ?_
  show Fin _ _ _ _ _ _ _ (T116.setTop (mkF m 37 #[.val (.ref x), .val (.ref t102), .val (.int (2 : Int32)), .val (.int (1 : Int32)), .val (.ref aR)] []))
  refine Fin.by (fun t k => XS.goto X116.here hx rfl (pc0 := 37) (pc' := 9) rfl (hb hby d_prog_2_method_4_37) (by decide) (by decide) k) ?_
  show Fin _ _ _ _ _ _ _ (T116.setTop (mkF m 9 #[.val (.ref x), .val (.ref t102), .val (.int (2 : Int32)), .val (.int (1 : Int32)), .val (.ref aR)] []))
  refine Fin.by (fun t k => XS.iloadN X116.here hx rfl (hb hby d_prog_2_method_4_9) rfl k) ?_
  show Fin _ _ _ _ _ _ _ (T116.setTop (mkF m 10 #[.val (.ref x), .val (.ref t102), .val (.int (2 : Int32)), .val (.int (1 : Int32)), .val (.ref aR)] [(.int (1 : Int32))]))
  refine Fin.by (fun t k => XS.iloadN X116.here hx rfl (hb hby d_prog_2_method_4_10) rfl k) ?_
  show Fin _ _ _ _ _ _ _ (T116.setTop (mkF m 11 #[.val (.ref x), .val (.ref t102), .val (.int (2 : Int32)), .val (.int (1 : Int32)), .val (.ref aR)] [(.int (2 : Int32)), (.int (1 : Int32))]))
  refine Fin.by (fun t k => XS.icmpNo X116.here hx rfl (hb hby d_prog_2_method_4_11) rfl (tlt (by decide : (1 : Int32) < (2 : Int32))).2.1 k) ?_
  show Fin _ _ _ _ _ _ _ (T116.setTop (mkF m 14 #[.val (.ref x), .val (.ref t102), .val (.int (2 : Int32)), .val (.int (1 : Int32)), .val (.ref aR)] []))
  refine Fin.by (fun t k => XS.aloadN X116.here hx rfl (hb hby d_prog_2_method_4_14) rfl rfl k) ?_
  show Fin _ _ _ _ _ _ _ (T116.setTop (mkF m 15 #[.val (.ref x), .val (.ref t102), .val (.int (2 : Int32)), .val (.int (1 : Int32)), .val (.ref aR)] [(.ref t102)]))
  refine Fin.by (fun t k => XS.iloadN X116.here hx rfl (hb hby d_prog_2_method_4_15) rfl k) ?_
  show Fin _ _ _ _ _ _ _ (T116.setTop (mkF m 16 #[.val (.ref x), .val (.ref t102), .val (.int (2 : Int32)), .val (.int (1 : Int32)), .val (.ref aR)] [(.int (1 : Int32)), (.ref t102)]))
  obtain ⟨cl117, Ar117, q117, S117, N117, H117, G117⟩ := id p101_2
  have hin117 : ¬ ((1 : Int32) < 0 ∨ cl117.slots.size ≤ (1 : Int32).toNatClampNeg) := inb_of S117 ⟨by decide, by decide⟩
  refine Fin.by (fun t k => X116.aaload hx (j := (1 : Int32)) (v := (.ref aW)) (by rw [e116]; exact Ar117.1) (State.isArrayOf_alike hZ.alike Ar117.2.1) rfl Ar117.2.2 hin117 (Has.at H117 hin117 rfl) (g := (mkF m 16 #[.val (.ref x), .val (.ref t102), .val (.int (2 : Int32)), .val (.int (1 : Int32)), .val (.ref aR)] [(.int (1 : Int32)), (.ref t102)])) rfl rfl (hb hby d_prog_2_method_4_16) _ k) ?_
  show Fin _ _ _ _ _ _ _ (T116.setTop (mkF m 17 #[.val (.ref x), .val (.ref t102), .val (.int (2 : Int32)), .val (.int (1 : Int32)), .val (.ref aR)] [(.ref aW)]))
  refine Fin.by (fun t k => XS.astore X116.here hx rfl (hb hby d_prog_2_method_4_17) rfl rfl (l' := #[.val (.ref x), .val (.ref t102), .val (.int (2 : Int32)), .val (.int (1 : Int32)), .val (.ref aW)]) rfl k) ?_
  show Fin _ _ _ _ _ _ _ (T116.setTop (mkF m 19 #[.val (.ref x), .val (.ref t102), .val (.int (2 : Int32)), .val (.int (1 : Int32)), .val (.ref aW)] []))
  refine Fin.by (fun t k => XS.aload X116.here hx rfl (hb hby d_prog_2_method_4_19) rfl rfl k) ?_
  show Fin _ _ _ _ _ _ _ (T116.setTop (mkF m 21 #[.val (.ref x), .val (.ref t102), .val (.int (2 : Int32)), .val (.int (1 : Int32)), .val (.ref aW)] [(.ref aW)]))
  have F118 : Fld Z T101.heap aW "com/example/portcullis/portcullis/AccessRule$Permissions" "word" "Ljava/lang/String;" (.ref wW) := W0.ext O105.2
  obtain ⟨T119, X119, e119, st119⟩ := getF X116 hx hZ hown (host := "") (Or.inl (hw _ (List.mem_of_getElem? (i := 51) rfl))) Via.refl e116 F118 (g := (mkF m 21 #[.val (.ref x), .val (.ref t102), .val (.int (2 : Int32)), .val (.int (1 : Int32)), .val (.ref aW)] [(.ref aW)])) rfl rfl (hb hby d_prog_2_method_4_21)
  refine Fin.by (fun t k => st119 t k) ?_
  show Fin _ _ _ _ _ _ _ (T119.setTop (mkF m 24 #[.val (.ref x), .val (.ref t102), .val (.int (2 : Int32)), .val (.int (1 : Int32)), .val (.ref aW)] [(.ref wW)]))
  refine Fin.by (fun t k => XS.aloadN X119.here hx rfl (hb hby d_prog_2_method_4_24) rfl rfl k) ?_
  show Fin _ _ _ _ _ _ _ (T119.setTop (mkF m 25 #[.val (.ref x), .val (.ref t102), .val (.int (2 : Int32)), .val (.int (1 : Int32)), .val (.ref aW)] [(.ref x), (.ref wW)]))
  have E120 : Exa Z T101.heap wW "java/lang/String" := W1.ext O105.2
  have F121 : Fld Z T101.heap wW "java/lang/String" "value" "[B" (.ref tW) := W2.ext O105.2
  have F122 : Fld Z T101.heap wW "java/lang/String" "coder" "B" (.int (0 : Int32)) := W3.ext O105.2
  have A123 : Arv Z T101.heap tW kW .byte (2 : Int32) ((([114, 119] : List Int32).map (fun c => c.toInt8.toInt32)).map Value.int) (.int 0) := W4.ext O105.2
  obtain ⟨cq124, kq124, qa124, qb124, qc124⟩ := isOf hZ e119 E120
  obtain ⟨v124, _, ⟨T124, L124, k124, n124⟩, -, X124, ⟨Lc124, hQ124, l124, y124, z124⟩, st124⟩ := X119.virtualBack hx (y := (⟨"java/lang/String", "equals", "(Ljava/lang/Object;)Z"⟩ : MethodName)) (z := (⟨"java/lang/String", "equals", "(Ljava/lang/Object;)Z"⟩ : MethodName)) hown (mvT hZ (hw _ (List.mem_of_getElem? (i := 53) rfl))) (mvT hZ (hw _ (List.mem_of_getElem? (i := 54) rfl))) (notFace_of_selects (args := #[]) (mvT hZ (hw _ (List.mem_of_getElem? (i := 56) rfl)))) (mvT hZ (hw _ (List.mem_of_getElem? (i := 56) rfl))) (mvT hZ (hw _ (List.mem_of_getElem? (i := 55) rfl))) (by decide) (StrChars.Road.eqW (W := 0) hZ (fun d hd => hw d (own_wordsEq d hd)) (kI := 4) (hw _ (List.mem_of_getElem? (i := 2) rfl)) E120 F121 F122 A123 (StrChars.Road.codOf (cs := ([114, 119] : List Int32)) (n := 2) rfl (fun c hc => (own_hW c hc).2)) (own_up own_hW) (Nat.le_of_ble_eq_true rfl) E112 F113 F114 A115 (StrChars.Road.codOf (cs := cs) (n := 2) (by rw [hcs]; rfl) (fun c hc => (hbs c hc).2)) (own_up hbs) (by rw [hcs]; decide) (S1.ext O105.2) P1 (by decide) (by decide)) qa124 qc124 (g := (mkF m 25 #[.val (.ref x), .val (.ref t102), .val (.int (2 : Int32)), .val (.int (1 : Int32)), .val (.ref aW)] [(.ref x), (.ref wW)])) rfl (by rw [hml]; rfl) (Steps.refl _) (argsL := [(.ref x)]) (rest := []) (lenOf pd_23 rfl) rfl (by show 2 * 0 + _ ≤ _; exact Nat.le_of_eq rfl) (hb hby d_prog_2_method_4_25) (fun _ _ => ⟨rfl, e119, (by decide : 1 + 0 ≤ _), (by decide : 2 + 0 ≤ _)⟩)
  dsimp only [Pt.U, Pt.locs, Pt.cells, Pt.slots] at X124 l124 y124 z124 st124 hQ124
  subst l124 y124 z124
  obtain ⟨hv124, hL124, e124⟩ := hQ124
  subst hL124
  have N124_ := Fr.app N116_ (Fr.nil n0)
  obtain rfl : v124 = some (.int (1 : Int32)) := hv124.elim (fun q => q.1) (fun q => absurd (hcs.symm) q.2)
  refine Fin.byS st124 ?_
  show Fin _ _ _ _ _ _ _ (T124.setTop (mkF m 28 #[.val (.ref x), .val (.ref t102), .val (.int (2 : Int32)), .val (.int (1 : Int32)), .val (.ref aW)] [(.int (1 : Int32))]))
  refine Fin.by (fun t k => XS.ifNo X124.here hx rfl (hb hby d_prog_2_method_4_28) rfl ((if0 _ _).trans (feq (by decide : ¬ (1 : Int32) = (0 : Int32))).1) k) ?_
  show Fin _ _ _ _ _ _ _ (T124.setTop (mkF m 31 #[.val (.ref x), .val (.ref t102), .val (.int (2 : Int32)), .val (.int (1 : Int32)), .val (.ref aW)] []))
  refine Fin.by (fun t k => XS.aload X124.here hx rfl (hb hby d_prog_2_method_4_31) rfl rfl k) ?_
  show Fin _ _ _ _ _ _ _ (T124.setTop (mkF m 33 #[.val (.ref x), .val (.ref t102), .val (.int (2 : Int32)), .val (.int (1 : Int32)), .val (.ref aW)] [(.ref aW)]))
  have kp125 : Keep h0 T101.heap [] := (Keep.refl h0 []).trans p101_0 all0
  exact Fin.ret (v := some (.ref aW)) X124 (fun h => by rw [Bd.returns] at h; cases h) Bd.notSynchronized (by rw [e124]; exact ⟨rfl, N124_, kp125⟩) (by decide) (by decide) (fun fs hr => retA X124 hx Bd.returns rfl rfl (hb hby d_prog_2_method_4_33) hr)
theorem pd_30 : parseMethodDescriptor "([C)V" = some ⟨[(.array .char)], none⟩ := by decide +kernel
theorem pd_31 : parseMethodDescriptor "(Ljava/lang/String;)Lcom/example/portcullis/portcullis/AccessRule$Permissions;" = some ⟨[(.object "java/lang/String")], some (.object "com/example/portcullis/portcullis/AccessRule$Permissions")⟩ := by decide +kernel
theorem pn_com_example_portcullis_portcullis_PermissionsOfPinLaw : plainName "com/example/portcullis/portcullis/PermissionsOfPinLaw" = true := by first | (simp [plainName, overriddenIn]; done) | decide +kernel
def Q_law (Z : State) (p1 : Int32) (p2 : Int32) (p3 : Int32) (G1 : Int32) (aV : Addr) (kV : ClassId) (aR : Addr) (aW : Addr) (wR : Addr) (tR : Addr) (kR : ClassId) (wW : Addr) (tW : Addr) (kW : ClassId) (h0 : Heap) (n0 : Nat) (vv_ : Option Value) (hh_ : Heap) (LL_ : List Loc) : Prop := vv_ = some (.int (1 : Int32)) ∧ Fr n0 LL_
set_option maxRecDepth 65536 in
set_option maxHeartbeats 40000000 in
theorem rm_law (l : Launch) (Z : State) (a0 : Array Value) (hw : ∀ d ∈ tables_1, d.before a0 Z = true) (ws : List Jvm.Cond) (p1 : Int32) (p2 : Int32) (p3 : Int32) (G1 : Int32) (aV : Addr) (kV : ClassId) (aR : Addr) (aW : Addr) (wR : Addr) (tR : Addr) (kR : ClassId) (wW : Addr) (tW : Addr) (kW : ClassId) (h0 : Heap) (n0 : Nat) (Z0 : n0 ≤ h0.size) (S1 : Sta Z Z.heap "java/lang/String" "COMPACT_STRINGS" "Z" (.int G1)) (P1 : ¬ G1 = 0) (S2 : Sta Z Z.heap "com/example/portcullis/portcullis/AccessRule$Permissions" "$VALUES" "[Lcom/example/portcullis/portcullis/AccessRule$Permissions;" (.ref aV)) (OL : Old Z n0 h0) (VE : Exa Z Z.heap aV "[Lcom/example/portcullis/portcullis/AccessRule$Permissions;") (VA : Arv Z Z.heap aV kV (.object "com/example/portcullis/portcullis/AccessRule$Permissions") (2 : Int32) [(.ref aR), (.ref aW)] .null) (S3 : Sta Z Z.heap "com/example/portcullis/portcullis/AccessRule$Permissions" "READ" "Lcom/example/portcullis/portcullis/AccessRule$Permissions;" (.ref aR)) (S4 : Sta Z Z.heap "com/example/portcullis/portcullis/AccessRule$Permissions" "READ_WRITE" "Lcom/example/portcullis/portcullis/AccessRule$Permissions;" (.ref aW)) (R0 : Fld Z Z.heap aR "com/example/portcullis/portcullis/AccessRule$Permissions" "word" "Ljava/lang/String;" (.ref wR)) (R1 : Exa Z Z.heap wR "java/lang/String") (R2 : Fld Z Z.heap wR "java/lang/String" "value" "[B" (.ref tR)) (R3 : Fld Z Z.heap wR "java/lang/String" "coder" "B" (.int (0 : Int32))) (R4 : Arv Z Z.heap tR kR .byte (1 : Int32) ((([114] : List Int32).map (fun c => c.toInt8.toInt32)).map Value.int) (.int 0)) (W0 : Fld Z Z.heap aW "com/example/portcullis/portcullis/AccessRule$Permissions" "word" "Ljava/lang/String;" (.ref wW)) (W1 : Exa Z Z.heap wW "java/lang/String") (W2 : Fld Z Z.heap wW "java/lang/String" "value" "[B" (.ref tW)) (W3 : Fld Z Z.heap wW "java/lang/String" "coder" "B" (.int (0 : Int32))) (W4 : Arv Z Z.heap tW kW .byte (2 : Int32) ((([114, 119] : List Int32).map (fun c => c.toInt8.toInt32)).map Value.int) (.int 0)) :
    MetFree l x (head1 (Jvm.Cond.code x code maxLocals ret :: ws) room_1) (fun aa_ U => aa_ = #[(.int p1), (.int p2), (.int p3)] ∧ Z.Warmed39 U.vm ∧ U.heap = h0) (fun _ _ _ _ _ => True) (fun _ U o U' => ∃ vv_ LL_, o = .returned vv_ ∧ Q_law Z p1 p2 p3 G1 aV kV aR aW wR tR kR wW tW kW h0 n0 vv_ U'.heap LL_ ∧ FrameEnd U o U' LL_ 16 128) := by
  refine MetFree.of_bodySF (plainFor_of_name pn_com_example_portcullis_portcullis_PermissionsOfPinLaw) hisR ?_
  intro p e s m args below meth c s₁ Bd hml0 hP hK
  obtain ⟨rfl, hZ, hh⟩ := hP
  have hx := Bd.exec
  have hby := Bd.bytes
  have hml : c.maxLocals = 10 := hml0
  have hown : s.vm.findClass "com/example/portcullis/portcullis/PermissionsOfPinLaw" = some m.cls := findClass_of_methodNamed Bd.named
  have hnm := (name_of_methodNamed Bd.named Bd.method).1
  have X0 : Stand p l e room_1 s m #[(.int p1), (.int p2), (.int p3)] below meth c s₁ [] 0 0 := Stand.of_body Bd
  have e0 : s₁.heap = h0 := by rw [← hh, Bd.state]; rfl
  have N0 := Fr.nil n0
  have ef : entryFrame m #[(.int p1), (.int p2), (.int p3)] maxLocals = mkF m 0 #[.val (.int p1), .val (.int p2), .val (.int p3), .unset, .unset, .unset, .unset, .unset, .unset, .unset] [] := by first | (simp [entryFrame, mkF, argsToLocals, Value.category, maxLocals]; done) | rfl
  refine Fin.start (Q := Q_law Z p1 p2 p3 G1 aV kV aR aW wR tR kR wW tW kW h0 n0) ef ?_
  show Fin _ _ _ _ _ _ _ (s₁.setTop (mkF m 0 #[.val (.int p1), .val (.int p2), .val (.int p3), .unset, .unset, .unset, .unset, .unset, .unset, .unset] []))
  refine Fin.by (fun t k => XS.iloadN X0.here hx rfl (hb hby at_0) rfl k) ?_
  show Fin _ _ _ _ _ _ _ (s₁.setTop (mkF m 1 #[.val (.int p1), .val (.int p2), .val (.int p3), .unset, .unset, .unset, .unset, .unset, .unset, .unset] [(.int p1)]))
  refine Fin.by (fun t k => XS.iconst X0.here hx rfl (hb hby at_1) k) ?_
  show Fin _ _ _ _ _ _ _ (s₁.setTop (mkF m 2 #[.val (.int p1), .val (.int p2), .val (.int p3), .unset, .unset, .unset, .unset, .unset, .unset, .unset] [(.int (3 : Int32)), (.int p1)]))
  refine Fin.by (fun t k => XS.iand X0.here hx rfl (hb hby at_2) rfl k) ?_
  show Fin _ _ _ _ _ _ _ (s₁.setTop (mkF m 3 #[.val (.int p1), .val (.int p2), .val (.int p3), .unset, .unset, .unset, .unset, .unset, .unset, .unset] [(.int (p1 &&& (3 : Int32)))]))
  refine Fin.by (fun t k => XS.istoreN X0.here hx rfl (hb hby at_3) rfl (l' := #[.val (.int p1), .val (.int p2), .val (.int p3), .val (.int (p1 &&& (3 : Int32))), .unset, .unset, .unset, .unset, .unset, .unset]) rfl k) ?_
  show Fin _ _ _ _ _ _ _ (s₁.setTop (mkF m 4 #[.val (.int p1), .val (.int p2), .val (.int p3), .val (.int (p1 &&& (3 : Int32))), .unset, .unset, .unset, .unset, .unset, .unset] []))
  refine Fin.by (fun t k => XS.iloadN X0.here hx rfl (hb hby at_4) rfl k) ?_
  show Fin _ _ _ _ _ _ _ (s₁.setTop (mkF m 5 #[.val (.int p1), .val (.int p2), .val (.int p3), .val (.int (p1 &&& (3 : Int32))), .unset, .unset, .unset, .unset, .unset, .unset] [(.int (p1 &&& (3 : Int32)))]))
  have J1 : ∀ (T101 : State) (h102 : Heap) (lc103 : List Loc) (b : Addr) (kb0 : ClassId) (c0 : Int32), Stand p l e room_1 s m #[(.int p1), (.int p2), (.int p3)] below meth c T101 lc103 1 2 → T101.heap = h102 → Fr n0 lc103 → Keep h0 h102 [] → h0.size ≤ b → Arv Z h102 b kb0 .char (1 : Int32) [(.int c0)] (.int (0 : Int32)) → ¬ c0 < 0 ∧ ¬ (255 : Int32) < c0 → Fin p e below s (Q_law Z p1 p2 p3 G1 aV kV aR aW wR tR kR wW tW kW h0 n0) 16 128 (T101.setTop (mkF m 90 #[.val (.int p1), .val (.int p2), .val (.int p3), .val (.int (p1 &&& (3 : Int32))), .val (.ref b), .unset, .unset, .unset, .unset, .unset] [])) := by
    intro T101 h102 lc103 b kb0 c0 X104 e105 N106 K107 hgb Vb hc0
    obtain ⟨T108, h108, X108, e108, E108, A108, D108, -, st108⟩ := newO X104 hx hZ hown (hw _ (List.mem_of_getElem? (i := 1) rfl)) (hw _ (List.mem_of_getElem? (i := 2) rfl)) (hw _ (List.mem_of_getElem? (i := 3) rfl)) e105 (g := (mkF m 90 #[.val (.int p1), .val (.int p2), .val (.int p3), .val (.int (p1 &&& (3 : Int32))), .val (.ref b), .unset, .unset, .unset, .unset, .unset] [])) rfl (hb hby at_90) (by decide) (by decide)
    obtain ⟨a108, g108⟩ : ∃ z, z = h102.size := ⟨_, rfl⟩
    rw [← g108] at A108 D108 st108
    refine Fin.by (fun t k => st108 t k) ?_
    show Fin _ _ _ _ _ _ _ (T108.setTop (mkF m 93 #[.val (.int p1), .val (.int p2), .val (.int p3), .val (.int (p1 &&& (3 : Int32))), .val (.ref b), .unset, .unset, .unset, .unset, .unset] [(.ref a108)]))
    refine Fin.by (fun t k => XS.dup X108.here hx rfl (hb hby at_93) rfl rfl k) ?_
    show Fin _ _ _ _ _ _ _ (T108.setTop (mkF m 94 #[.val (.int p1), .val (.int p2), .val (.int p3), .val (.int (p1 &&& (3 : Int32))), .val (.ref b), .unset, .unset, .unset, .unset, .unset] [(.ref a108), (.ref a108)]))
    refine Fin.by (fun t k => XS.aload X108.here hx rfl (hb hby at_94) rfl rfl k) ?_
    show Fin _ _ _ _ _ _ _ (T108.setTop (mkF m 96 #[.val (.int p1), .val (.int p2), .val (.int p3), .val (.int (p1 &&& (3 : Int32))), .val (.ref b), .unset, .unset, .unset, .unset, .unset] [(.ref b), (.ref a108), (.ref a108)]))
    have A109 : Arv Z h108 b kb0 .char (1 : Int32) [(.int c0)] (.int (0 : Int32)) := (Vb.ext E108)
    have z111 : n0 ≤ h102.size := Nat.le_trans Z0 K107.1
    have g110 : n0 ≤ a108 := Nat.le_trans z111 (Nat.le_of_eq g108.symm)
    have z112 : n0 ≤ h108.size := Nat.le_trans Z0 (Nat.le_trans K107.1 E108.1)
    have O113 : Old Z n0 h108 := ((OL.keep K107 all0).ext E108)
    obtain ⟨v114, _, ⟨T114, L114, k114, n114⟩, -, X114, ⟨Lc114, hQ114, l114, y114, z114⟩, st114⟩ := X108.specialBack hx (y := (⟨"java/lang/String", "<init>", "([C)V"⟩ : MethodName)) rfl hown (mvT hZ (hw _ (List.mem_of_getElem? (i := 4) rfl))) (mvT hZ (hw _ (List.mem_of_getElem? (i := 5) rfl))) (mvT hZ (hw _ (List.mem_of_getElem? (i := 6) rfl))) (by decide) (StrChars.Road.backV (W := 1) hZ (fun d hd => hw d (own_words d hd)) (kI := 4) (hw _ (List.mem_of_getElem? (i := 2) rfl)) (cs := ([c0] : List Int32)) (bs := ([c0] : List Int32).map (fun c => c.toInt8.toInt32)) (n := 1) g110 z112 A108 (D108 (Or.inr (hw _ (List.mem_of_getElem? (i := 29) rfl))) (ty := (.array .byte)) (by decide) : Fld Z h108 a108 "java/lang/String" "value" "[B" .null) (D108 (Or.inr (hw _ (List.mem_of_getElem? (i := 27) rfl))) (ty := .byte) (by decide) : Fld Z h108 a108 "java/lang/String" "coder" "B" (.int (0 : Int32))) A109 (S1.ext O113.2) P1 rfl rfl (by decide) (by decide) (own_cons hc0 own_nil) rfl (by decide) (by decide)) (g := (mkF m 96 #[.val (.int p1), .val (.int p2), .val (.int p3), .val (.int (p1 &&& (3 : Int32))), .val (.ref b), .unset, .unset, .unset, .unset, .unset] [(.ref b), (.ref a108), (.ref a108)])) rfl (by rw [hml]; rfl) (Steps.refl _) (a := a108) (argsL := [(.ref b)]) (rest := [(.ref a108)]) (lenOf pd_30 rfl) rfl (by show 2 * 0 + _ ≤ _; exact Nat.le_of_eq rfl) (hb hby at_96) (fun _ _ => ⟨rfl, e108, (by decide : 2 + 1 ≤ _), (by decide : 6 + 1 ≤ _)⟩)
    dsimp only [Pt.U, Pt.locs, Pt.cells, Pt.slots] at X114 l114 y114 z114 st114 hQ114
    subst l114 y114 z114
    obtain ⟨rfl, Nq114, K114, E114, C114, t114, kb114, gt114, ht114, nt114, V114, A114⟩ := hQ114
    have N114_ := Fr.app N106 Nq114
    refine Fin.byS st114 ?_
    show Fin _ _ _ _ _ _ _ (T114.setTop (mkF m 99 #[.val (.int p1), .val (.int p2), .val (.int p3), .val (.int (p1 &&& (3 : Int32))), .val (.ref b), .unset, .unset, .unset, .unset, .unset] [(.ref a108)]))
    have hpx : ∀ c ∈ ([c0] : List Int32), ¬ c < 0 ∧ ¬ (255 : Int32) < c := (own_cons hc0 own_nil)
    refine Fin.by (fun t k => XS.astore X114.here hx rfl (hb hby at_99) rfl rfl (l' := #[.val (.int p1), .val (.int p2), .val (.int p3), .val (.int (p1 &&& (3 : Int32))), .val (.ref b), .val (.ref a108), .unset, .unset, .unset, .unset]) rfl k) ?_
    show Fin _ _ _ _ _ _ _ (T114.setTop (mkF m 101 #[.val (.int p1), .val (.int p2), .val (.int p3), .val (.int (p1 &&& (3 : Int32))), .val (.ref b), .val (.ref a108), .unset, .unset, .unset, .unset] []))
    refine Fin.by (fun t k => XS.aload X114.here hx rfl (hb hby at_101) rfl rfl k) ?_
    show Fin _ _ _ _ _ _ _ (T114.setTop (mkF m 103 #[.val (.int p1), .val (.int p2), .val (.int p3), .val (.int (p1 &&& (3 : Int32))), .val (.ref b), .val (.ref a108), .unset, .unset, .unset, .unset] [(.ref b)]))
    have ne115 : b ≠ a108 := Nat.ne_of_lt (Nat.lt_of_lt_of_le Vb.lt (Nat.le_of_eq g108.symm))
    have A116 : Arv Z T114.heap b kb0 .char (1 : Int32) [(.int c0)] (.int (0 : Int32)) := (A109.keep K114 (ninS ne115 nin0))
    obtain ⟨cl117, Ar117, q117, S117, N117, H117, G117⟩ := id A116
    refine Fin.by (fun t k => X114.arraylength hx (Ar117.1) (State.isArrayOf_alike hZ.alike Ar117.2.1) (g := (mkF m 103 #[.val (.int p1), .val (.int p2), .val (.int p3), .val (.int (p1 &&& (3 : Int32))), .val (.ref b), .val (.ref a108), .unset, .unset, .unset, .unset] [(.ref b)])) rfl rfl (hb hby at_103) _ k) ?_
    rw [len_of S117 N117]
    show Fin _ _ _ _ _ _ _ (T114.setTop (mkF m 104 #[.val (.int p1), .val (.int p2), .val (.int p3), .val (.int (p1 &&& (3 : Int32))), .val (.ref b), .val (.ref a108), .unset, .unset, .unset, .unset] [(.int (1 : Int32))]))
    refine Fin.by (fun t k => XS.iconst X114.here hx rfl (hb hby at_104) k) ?_
    show Fin _ _ _ _ _ _ _ (T114.setTop (mkF m 105 #[.val (.int p1), .val (.int p2), .val (.int p3), .val (.int (p1 &&& (3 : Int32))), .val (.ref b), .val (.ref a108), .unset, .unset, .unset, .unset] [(.int (1 : Int32)), (.int (1 : Int32))]))
    refine Fin.by (fun t k => XS.icmpNo X114.here hx rfl (hb hby at_105) rfl (teq (rfl : (1 : Int32) = (1 : Int32))).2 k) ?_
    show Fin _ _ _ _ _ _ _ (T114.setTop (mkF m 108 #[.val (.int p1), .val (.int p2), .val (.int p3), .val (.int (p1 &&& (3 : Int32))), .val (.ref b), .val (.ref a108), .unset, .unset, .unset, .unset] []))
    refine Fin.by (fun t k => XS.aload X114.here hx rfl (hb hby at_108) rfl rfl k) ?_
    show Fin _ _ _ _ _ _ _ (T114.setTop (mkF m 110 #[.val (.int p1), .val (.int p2), .val (.int p3), .val (.int (p1 &&& (3 : Int32))), .val (.ref b), .val (.ref a108), .unset, .unset, .unset, .unset] [(.ref b)]))
    refine Fin.by (fun t k => XS.iconst X114.here hx rfl (hb hby at_110) k) ?_
    show Fin _ _ _ _ _ _ _ (T114.setTop (mkF m 111 #[.val (.int p1), .val (.int p2), .val (.int p3), .val (.int (p1 &&& (3 : Int32))), .val (.ref b), .val (.ref a108), .unset, .unset, .unset, .unset] [(.int (0 : Int32)), (.ref b)]))
    obtain ⟨cl118, Ar118, q118, S118, N118, H118, G118⟩ := id A116
    have hin118 : ¬ ((0 : Int32) < 0 ∨ cl118.slots.size ≤ (0 : Int32).toNatClampNeg) := inb_of S118 ⟨by decide, by decide⟩
    refine Fin.by (fun t k => X114.caload hx (j := (0 : Int32)) (v := (.int c0)) (Ar118.1) (State.isArrayOf_alike hZ.alike Ar118.2.1) Ar118.2.2 hin118 (Has.at H118 hin118 rfl) (g := (mkF m 111 #[.val (.int p1), .val (.int p2), .val (.int p3), .val (.int (p1 &&& (3 : Int32))), .val (.ref b), .val (.ref a108), .unset, .unset, .unset, .unset] [(.int (0 : Int32)), (.ref b)])) rfl rfl (hb hby at_111) _ k) ?_
    show Fin _ _ _ _ _ _ _ (T114.setTop (mkF m 112 #[.val (.int p1), .val (.int p2), .val (.int p3), .val (.int (p1 &&& (3 : Int32))), .val (.ref b), .val (.ref a108), .unset, .unset, .unset, .unset] [(.int c0)]))
    refine Fin.by (fun t k => XS.bipush X114.here hx rfl (hb hby at_112) k) ?_
    show Fin _ _ _ _ _ _ _ (T114.setTop (mkF m 114 #[.val (.int p1), .val (.int p2), .val (.int p3), .val (.int (p1 &&& (3 : Int32))), .val (.ref b), .val (.ref a108), .unset, .unset, .unset, .unset] [(.int (114 : Int32)), (.int c0)]))
    by_cases q0 : c0 = (114 : Int32)
    · refine Fin.by (fun t k => XS.icmpNo X114.here hx rfl (hb hby at_114) rfl (teq q0).2 k) ?_
      show Fin _ _ _ _ _ _ _ (T114.setTop (mkF m 117 #[.val (.int p1), .val (.int p2), .val (.int p3), .val (.int (p1 &&& (3 : Int32))), .val (.ref b), .val (.ref a108), .unset, .unset, .unset, .unset] []))
      refine Fin.by (fun t k => XS.iconst X114.here hx rfl (hb hby at_117) k) ?_
      show Fin _ _ _ _ _ _ _ (T114.setTop (mkF m 118 #[.val (.int p1), .val (.int p2), .val (.int p3), .val (.int (p1 &&& (3 : Int32))), .val (.ref b), .val (.ref a108), .unset, .unset, .unset, .unset] [(.int (1 : Int32))]))
      refine Fin.by (fun t k => XS.goto X114.here hx rfl (pc0 := 118) (pc' := 122) rfl (hb hby at_118) (by decide) (by decide) k) ?_
      show Fin _ _ _ _ _ _ _ (T114.setTop (mkF m 122 #[.val (.int p1), .val (.int p2), .val (.int p3), .val (.int (p1 &&& (3 : Int32))), .val (.ref b), .val (.ref a108), .unset, .unset, .unset, .unset] [(.int (1 : Int32))]))
      refine Fin.by (fun t k => XS.istore X114.here hx rfl (hb hby at_122) rfl (l' := #[.val (.int p1), .val (.int p2), .val (.int p3), .val (.int (p1 &&& (3 : Int32))), .val (.ref b), .val (.ref a108), .val (.int (1 : Int32)), .unset, .unset, .unset]) rfl k) ?_
      show Fin _ _ _ _ _ _ _ (T114.setTop (mkF m 124 #[.val (.int p1), .val (.int p2), .val (.int p3), .val (.int (p1 &&& (3 : Int32))), .val (.ref b), .val (.ref a108), .val (.int (1 : Int32)), .unset, .unset, .unset] []))
      refine Fin.by (fun t k => XS.aload X114.here hx rfl (hb hby at_124) rfl rfl k) ?_
      show Fin _ _ _ _ _ _ _ (T114.setTop (mkF m 126 #[.val (.int p1), .val (.int p2), .val (.int p3), .val (.int (p1 &&& (3 : Int32))), .val (.ref b), .val (.ref a108), .val (.int (1 : Int32)), .unset, .unset, .unset] [(.ref b)]))
      obtain ⟨cl119, Ar119, q119, S119, N119, H119, G119⟩ := id A116
      refine Fin.by (fun t k => X114.arraylength hx (Ar119.1) (State.isArrayOf_alike hZ.alike Ar119.2.1) (g := (mkF m 126 #[.val (.int p1), .val (.int p2), .val (.int p3), .val (.int (p1 &&& (3 : Int32))), .val (.ref b), .val (.ref a108), .val (.int (1 : Int32)), .unset, .unset, .unset] [(.ref b)])) rfl rfl (hb hby at_126) _ k) ?_
      rw [len_of S119 N119]
      show Fin _ _ _ _ _ _ _ (T114.setTop (mkF m 127 #[.val (.int p1), .val (.int p2), .val (.int p3), .val (.int (p1 &&& (3 : Int32))), .val (.ref b), .val (.ref a108), .val (.int (1 : Int32)), .unset, .unset, .unset] [(.int (1 : Int32))]))
      refine Fin.by (fun t k => XS.iconst X114.here hx rfl (hb hby at_127) k) ?_
      show Fin _ _ _ _ _ _ _ (T114.setTop (mkF m 128 #[.val (.int p1), .val (.int p2), .val (.int p3), .val (.int (p1 &&& (3 : Int32))), .val (.ref b), .val (.ref a108), .val (.int (1 : Int32)), .unset, .unset, .unset] [(.int (2 : Int32)), (.int (1 : Int32))]))
      refine Fin.by (fun t k => XS.icmpYes X114.here hx rfl (pc0 := 128) (pc' := 153) rfl (hb hby at_128) rfl (feq (by decide : ¬ (1 : Int32) = (2 : Int32))).2 (by decide) (by decide) k) ?_
      show Fin _ _ _ _ _ _ _ (T114.setTop (mkF m 153 #[.val (.int p1), .val (.int p2), .val (.int p3), .val (.int (p1 &&& (3 : Int32))), .val (.ref b), .val (.ref a108), .val (.int (1 : Int32)), .unset, .unset, .unset] []))
      refine Fin.by (fun t k => XS.iconst X114.here hx rfl (hb hby at_153) k) ?_
      show Fin _ _ _ _ _ _ _ (T114.setTop (mkF m 154 #[.val (.int p1), .val (.int p2), .val (.int p3), .val (.int (p1 &&& (3 : Int32))), .val (.ref b), .val (.ref a108), .val (.int (1 : Int32)), .unset, .unset, .unset] [(.int (0 : Int32))]))
      refine Fin.by (fun t k => XS.istore X114.here hx rfl (hb hby at_154) rfl (l' := #[.val (.int p1), .val (.int p2), .val (.int p3), .val (.int (p1 &&& (3 : Int32))), .val (.ref b), .val (.ref a108), .val (.int (1 : Int32)), .val (.int (0 : Int32)), .unset, .unset]) rfl k) ?_
      show Fin _ _ _ _ _ _ _ (T114.setTop (mkF m 156 #[.val (.int p1), .val (.int p2), .val (.int p3), .val (.int (p1 &&& (3 : Int32))), .val (.ref b), .val (.ref a108), .val (.int (1 : Int32)), .val (.int (0 : Int32)), .unset, .unset] []))
      refine Fin.by (fun t k => XS.iload X114.here hx rfl (hb hby at_156) rfl k) ?_
      show Fin _ _ _ _ _ _ _ (T114.setTop (mkF m 158 #[.val (.int p1), .val (.int p2), .val (.int p3), .val (.int (p1 &&& (3 : Int32))), .val (.ref b), .val (.ref a108), .val (.int (1 : Int32)), .val (.int (0 : Int32)), .unset, .unset] [(.int (1 : Int32))]))
      refine Fin.by (fun t k => XS.ifYes X114.here hx rfl (pc0 := 158) (pc' := 168) rfl (hb hby at_158) rfl ((if0 _ _).trans (feq (by decide : ¬ (1 : Int32) = (0 : Int32))).2) (by decide) (by decide) k) ?_
      show Fin _ _ _ _ _ _ _ (T114.setTop (mkF m 168 #[.val (.int p1), .val (.int p2), .val (.int p3), .val (.int (p1 &&& (3 : Int32))), .val (.ref b), .val (.ref a108), .val (.int (1 : Int32)), .val (.int (0 : Int32)), .unset, .unset] []))
      refine Fin.by (fun t k => XS.aload X114.here hx rfl (hb hby at_168) rfl rfl k) ?_
      show Fin _ _ _ _ _ _ _ (T114.setTop (mkF m 170 #[.val (.int p1), .val (.int p2), .val (.int p3), .val (.int (p1 &&& (3 : Int32))), .val (.ref b), .val (.ref a108), .val (.int (1 : Int32)), .val (.int (0 : Int32)), .unset, .unset] [(.ref a108)]))
      have O120 : Old Z n0 T114.heap := (O113.keep K114 (allS g110 all0))
      have z121 : n0 ≤ T114.heap.size := Nat.le_trans z112 K114.1
      obtain ⟨v122, _, ⟨T122, L122, k122, n122⟩, -, X122, ⟨Lc122, hQ122, l122, y122, z122⟩, st122⟩ := Jvm.LawKit.callS X114 hx (y := (⟨"com/example/portcullis/portcullis/AccessRule$Permissions", "of", "(Ljava/lang/String;)Lcom/example/portcullis/portcullis/AccessRule$Permissions;"⟩ : MethodName)) hown (mvT hZ (hw _ (List.mem_of_getElem? (i := 30) rfl))) (mvT hZ (hw _ (List.mem_of_getElem? (i := 31) rfl))) (mvT hZ (hw _ (List.mem_of_getElem? (i := 32) rfl))) (mvT hZ (hw _ (List.mem_of_getElem? (i := 33) rfl))) (by decide) (backOf (W := 0) (rm_ofR l Z a0 hw [] a108 t114 kb114 ([c0] : List Int32) G1 aV kV aR aW wR tR kR wW tW kW T114.heap n0 z121 (by rw [q0]) (own_cons hc0 own_nil) E114 V114 C114 A114 S1 P1 S2 O120 VE VA R0 R1 R2 R3 R4 W0 W1 W2 W3 W4) hZ (hw _ (List.mem_of_getElem? (i := 33) rfl)) (hw _ (List.mem_of_getElem? (i := 32) rfl)) (by decide) (by decide)) (g := (mkF m 170 #[.val (.int p1), .val (.int p2), .val (.int p3), .val (.int (p1 &&& (3 : Int32))), .val (.ref b), .val (.ref a108), .val (.int (1 : Int32)), .val (.int (0 : Int32)), .unset, .unset] [(.ref a108)])) rfl (by rw [hml]; rfl) (argsL := [(.ref a108)]) (rest := []) (lenOf pd_31 rfl) rfl (by show 2 * 0 + _ ≤ _; exact Nat.le_of_eq rfl) (hb hby at_170) (fun _ _ => ⟨rfl, rfl, (by decide : 3 + 1 ≤ _), (by decide : 7 + 2 ≤ _)⟩)
      dsimp only [Pt.U, Pt.locs, Pt.cells, Pt.slots] at X122 l122 y122 z122 st122 hQ122
      subst l122 y122 z122
      obtain ⟨rfl, Nq122, p122_0⟩ := hQ122
      have N122_ := Fr.app N114_ Nq122
      refine Fin.by (fun t k => st122 t k) ?_
      show Fin _ _ _ _ _ _ _ (T122.setTop (mkF m 173 #[.val (.int p1), .val (.int p2), .val (.int p3), .val (.int (p1 &&& (3 : Int32))), .val (.ref b), .val (.ref a108), .val (.int (1 : Int32)), .val (.int (0 : Int32)), .unset, .unset] [(.ref aR)]))
      refine Fin.by (fun t k => XS.astore X122.here hx rfl (hb hby at_173) rfl rfl (l' := #[.val (.int p1), .val (.int p2), .val (.int p3), .val (.int (p1 &&& (3 : Int32))), .val (.ref b), .val (.ref a108), .val (.int (1 : Int32)), .val (.int (0 : Int32)), .val (.ref aR), .unset]) rfl k) ?_
      show Fin _ _ _ _ _ _ _ (T122.setTop (mkF m 175 #[.val (.int p1), .val (.int p2), .val (.int p3), .val (.int (p1 &&& (3 : Int32))), .val (.ref b), .val (.ref a108), .val (.int (1 : Int32)), .val (.int (0 : Int32)), .val (.ref aR), .unset] []))
      refine Fin.by (fun t k => XS.iload X122.here hx rfl (hb hby at_175) rfl k) ?_
      show Fin _ _ _ _ _ _ _ (T122.setTop (mkF m 177 #[.val (.int p1), .val (.int p2), .val (.int p3), .val (.int (p1 &&& (3 : Int32))), .val (.ref b), .val (.ref a108), .val (.int (1 : Int32)), .val (.int (0 : Int32)), .val (.ref aR), .unset] [(.int (1 : Int32))]))
      refine Fin.by (fun t k => XS.ifNo X122.here hx rfl (hb hby at_177) rfl ((if0 _ _).trans (feq (by decide : ¬ (1 : Int32) = (0 : Int32))).1) k) ?_
      show Fin _ _ _ _ _ _ _ (T122.setTop (mkF m 180 #[.val (.int p1), .val (.int p2), .val (.int p3), .val (.int (p1 &&& (3 : Int32))), .val (.ref b), .val (.ref a108), .val (.int (1 : Int32)), .val (.int (0 : Int32)), .val (.ref aR), .unset] []))
      have O123 : Old Z n0 T122.heap := (O120.keep p122_0 all0)
      obtain ⟨T124, X124, e124, st124⟩ := getS X122 hx hZ (host := "") hown (hw _ (List.mem_of_getElem? (i := 63) rfl)) Via.refl rfl (S3.ext O123.2) (g := (mkF m 180 #[.val (.int p1), .val (.int p2), .val (.int p3), .val (.int (p1 &&& (3 : Int32))), .val (.ref b), .val (.ref a108), .val (.int (1 : Int32)), .val (.int (0 : Int32)), .val (.ref aR), .unset] [])) rfl (hb hby at_180)
      refine Fin.by (fun t k => st124 t k) ?_
      show Fin _ _ _ _ _ _ _ (T124.setTop (mkF m 183 #[.val (.int p1), .val (.int p2), .val (.int p3), .val (.int (p1 &&& (3 : Int32))), .val (.ref b), .val (.ref a108), .val (.int (1 : Int32)), .val (.int (0 : Int32)), .val (.ref aR), .unset] [(.ref aR)]))
      refine Fin.by (fun t k => XS.goto X124.here hx rfl (pc0 := 183) (pc' := 189) rfl (hb hby at_183) (by decide) (by decide) k) ?_
      show Fin _ _ _ _ _ _ _ (T124.setTop (mkF m 189 #[.val (.int p1), .val (.int p2), .val (.int p3), .val (.int (p1 &&& (3 : Int32))), .val (.ref b), .val (.ref a108), .val (.int (1 : Int32)), .val (.int (0 : Int32)), .val (.ref aR), .unset] [(.ref aR)]))
      refine Fin.by (fun t k => XS.astore X124.here hx rfl (hb hby at_189) rfl rfl (l' := #[.val (.int p1), .val (.int p2), .val (.int p3), .val (.int (p1 &&& (3 : Int32))), .val (.ref b), .val (.ref a108), .val (.int (1 : Int32)), .val (.int (0 : Int32)), .val (.ref aR), .val (.ref aR)]) rfl k) ?_
      show Fin _ _ _ _ _ _ _ (T124.setTop (mkF m 191 #[.val (.int p1), .val (.int p2), .val (.int p3), .val (.int (p1 &&& (3 : Int32))), .val (.ref b), .val (.ref a108), .val (.int (1 : Int32)), .val (.int (0 : Int32)), .val (.ref aR), .val (.ref aR)] []))
      refine Fin.by (fun t k => XS.aload X124.here hx rfl (hb hby at_191) rfl rfl k) ?_
      show Fin _ _ _ _ _ _ _ (T124.setTop (mkF m 193 #[.val (.int p1), .val (.int p2), .val (.int p3), .val (.int (p1 &&& (3 : Int32))), .val (.ref b), .val (.ref a108), .val (.int (1 : Int32)), .val (.int (0 : Int32)), .val (.ref aR), .val (.ref aR)] [(.ref aR)]))
      refine Fin.by (fun t k => XS.aload X124.here hx rfl (hb hby at_193) rfl rfl k) ?_
      show Fin _ _ _ _ _ _ _ (T124.setTop (mkF m 195 #[.val (.int p1), .val (.int p2), .val (.int p3), .val (.int (p1 &&& (3 : Int32))), .val (.ref b), .val (.ref a108), .val (.int (1 : Int32)), .val (.int (0 : Int32)), .val (.ref aR), .val (.ref aR)] [(.ref aR), (.ref aR)]))
      refine Fin.by (fun t k => Jvm.RoadKit.acmp (g := (mkF m 195 #[.val (.int p1), .val (.int p2), .val (.int p3), .val (.int (p1 &&& (3 : Int32))), .val (.ref b), .val (.ref a108), .val (.int (1 : Int32)), .val (.int (0 : Int32)), .val (.ref aR), .val (.ref aR)] [(.ref aR), (.ref aR)])) X124 hx rfl rfl rfl (pc0 := 195) (pc' := 198) (same := true) rfl (hb hby at_195) rfl (decide_eq_true rfl) (by decide) (by decide) k) ?_
      show Fin _ _ _ _ _ _ _ (T124.setTop (mkF m 198 #[.val (.int p1), .val (.int p2), .val (.int p3), .val (.int (p1 &&& (3 : Int32))), .val (.ref b), .val (.ref a108), .val (.int (1 : Int32)), .val (.int (0 : Int32)), .val (.ref aR), .val (.ref aR)] []))
      refine Fin.by (fun t k => XS.aload X124.here hx rfl (hb hby at_198) rfl rfl k) ?_
      show Fin _ _ _ _ _ _ _ (T124.setTop (mkF m 200 #[.val (.int p1), .val (.int p2), .val (.int p3), .val (.int (p1 &&& (3 : Int32))), .val (.ref b), .val (.ref a108), .val (.int (1 : Int32)), .val (.int (0 : Int32)), .val (.ref aR), .val (.ref aR)] [(.ref aR)]))
      have F125 : Fld Z T122.heap aR "com/example/portcullis/portcullis/AccessRule$Permissions" "word" "Ljava/lang/String;" (.ref wR) := R0.ext O123.2
      obtain ⟨T126, X126, e126, st126⟩ := getF X124 hx hZ hown (host := "") (Or.inl (hw _ (List.mem_of_getElem? (i := 64) rfl))) Via.refl e124 F125 (g := (mkF m 200 #[.val (.int p1), .val (.int p2), .val (.int p3), .val (.int (p1 &&& (3 : Int32))), .val (.ref b), .val (.ref a108), .val (.int (1 : Int32)), .val (.int (0 : Int32)), .val (.ref aR), .val (.ref aR)] [(.ref aR)])) rfl rfl (hb hby at_200)
      refine Fin.by (fun t k => st126 t k) ?_
      show Fin _ _ _ _ _ _ _ (T126.setTop (mkF m 203 #[.val (.int p1), .val (.int p2), .val (.int p3), .val (.int (p1 &&& (3 : Int32))), .val (.ref b), .val (.ref a108), .val (.int (1 : Int32)), .val (.int (0 : Int32)), .val (.ref aR), .val (.ref aR)] [(.ref wR)]))
      refine Fin.by (fun t k => XS.aload X126.here hx rfl (hb hby at_203) rfl rfl k) ?_
      show Fin _ _ _ _ _ _ _ (T126.setTop (mkF m 205 #[.val (.int p1), .val (.int p2), .val (.int p3), .val (.int (p1 &&& (3 : Int32))), .val (.ref b), .val (.ref a108), .val (.int (1 : Int32)), .val (.int (0 : Int32)), .val (.ref aR), .val (.ref aR)] [(.ref a108), (.ref wR)]))
      have E127 : Exa Z T122.heap wR "java/lang/String" := R1.ext O123.2
      have F128 : Fld Z T122.heap wR "java/lang/String" "value" "[B" (.ref tR) := R2.ext O123.2
      have F129 : Fld Z T122.heap wR "java/lang/String" "coder" "B" (.int (0 : Int32)) := R3.ext O123.2
      have A130 : Arv Z T122.heap tR kR .byte (1 : Int32) ((([114] : List Int32).map (fun c => c.toInt8.toInt32)).map Value.int) (.int 0) := R4.ext O123.2
      have E131 : Exa Z T122.heap a108 "java/lang/String" := (E114.keep p122_0)
      have F132 : Fld Z T122.heap a108 "java/lang/String" "value" "[B" (.ref t114) := (V114.keep p122_0 nin0)
      have F133 : Fld Z T122.heap a108 "java/lang/String" "coder" "B" (.int (0 : Int32)) := (C114.keep p122_0 nin0)
      have A134 : Arv Z T122.heap t114 kb114 .byte (1 : Int32) ((([c0] : List Int32).map (fun c => c.toInt8.toInt32)).map Value.int) (.int 0) := (A114.keep p122_0 nin0)
      obtain ⟨cq135, kq135, qa135, qb135, qc135⟩ := isOf hZ e126 E127
      obtain ⟨v135, _, ⟨T135, L135, k135, n135⟩, -, X135, ⟨Lc135, hQ135, l135, y135, z135⟩, st135⟩ := X126.virtualBack hx (y := (⟨"java/lang/String", "equals", "(Ljava/lang/Object;)Z"⟩ : MethodName)) (z := (⟨"java/lang/String", "equals", "(Ljava/lang/Object;)Z"⟩ : MethodName)) hown (mvT hZ (hw _ (List.mem_of_getElem? (i := 65) rfl))) (mvT hZ (hw _ (List.mem_of_getElem? (i := 54) rfl))) (notFace_of_selects (args := #[]) (mvT hZ (hw _ (List.mem_of_getElem? (i := 56) rfl)))) (mvT hZ (hw _ (List.mem_of_getElem? (i := 56) rfl))) (mvT hZ (hw _ (List.mem_of_getElem? (i := 55) rfl))) (by decide) (StrChars.Road.eqW (W := 0) hZ (fun d hd => hw d (own_wordsEq d hd)) (kI := 4) (hw _ (List.mem_of_getElem? (i := 2) rfl)) E127 F128 F129 A130 (StrChars.Road.codOf (cs := ([114] : List Int32)) (n := 1) rfl (fun c hc => (own_hR c hc).2)) (own_up own_hR) (Nat.le_of_ble_eq_true rfl) E131 F132 F133 A134 (StrChars.Road.codOf (cs := ([c0] : List Int32)) (n := 1) rfl (fun c hc => (hpx c hc).2)) (own_up hpx) (Nat.le_of_ble_eq_true rfl) (S1.ext O123.2) P1 (by decide) (by decide)) qa135 qc135 (g := (mkF m 205 #[.val (.int p1), .val (.int p2), .val (.int p3), .val (.int (p1 &&& (3 : Int32))), .val (.ref b), .val (.ref a108), .val (.int (1 : Int32)), .val (.int (0 : Int32)), .val (.ref aR), .val (.ref aR)] [(.ref a108), (.ref wR)])) rfl (by rw [hml]; rfl) (Steps.refl _) (argsL := [(.ref a108)]) (rest := []) (lenOf pd_23 rfl) rfl (by show 2 * 0 + _ ≤ _; exact Nat.le_of_eq rfl) (hb hby at_205) (fun _ _ => ⟨rfl, e126, (by decide : 4 + 0 ≤ _), (by decide : 9 + 0 ≤ _)⟩)
      dsimp only [Pt.U, Pt.locs, Pt.cells, Pt.slots] at X135 l135 y135 z135 st135 hQ135
      subst l135 y135 z135
      obtain ⟨hv135, hL135, e135⟩ := hQ135
      subst hL135
      have N135_ := Fr.app N122_ (Fr.nil n0)
      obtain rfl : v135 = some (.int (1 : Int32)) := hv135.elim (fun q => q.1) (fun q => absurd (by rw [q0]) q.2)
      refine Fin.byS st135 ?_
      show Fin _ _ _ _ _ _ _ (T135.setTop (mkF m 208 #[.val (.int p1), .val (.int p2), .val (.int p3), .val (.int (p1 &&& (3 : Int32))), .val (.ref b), .val (.ref a108), .val (.int (1 : Int32)), .val (.int (0 : Int32)), .val (.ref aR), .val (.ref aR)] [(.int (1 : Int32))]))
      refine Fin.by (fun t k => XS.ifNo X135.here hx rfl (hb hby at_208) rfl ((if0 _ _).trans (feq (by decide : ¬ (1 : Int32) = (0 : Int32))).1) k) ?_
      show Fin _ _ _ _ _ _ _ (T135.setTop (mkF m 211 #[.val (.int p1), .val (.int p2), .val (.int p3), .val (.int (p1 &&& (3 : Int32))), .val (.ref b), .val (.ref a108), .val (.int (1 : Int32)), .val (.int (0 : Int32)), .val (.ref aR), .val (.ref aR)] []))
      refine Fin.by (fun t k => XS.iconst X135.here hx rfl (hb hby at_211) k) ?_
      show Fin _ _ _ _ _ _ _ (T135.setTop (mkF m 212 #[.val (.int p1), .val (.int p2), .val (.int p3), .val (.int (p1 &&& (3 : Int32))), .val (.ref b), .val (.ref a108), .val (.int (1 : Int32)), .val (.int (0 : Int32)), .val (.ref aR), .val (.ref aR)] [(.int (1 : Int32))]))
      refine Fin.by (fun t k => XS.goto X135.here hx rfl (pc0 := 212) (pc' := 216) rfl (hb hby at_212) (by decide) (by decide) k) ?_
      show Fin _ _ _ _ _ _ _ (T135.setTop (mkF m 216 #[.val (.int p1), .val (.int p2), .val (.int p3), .val (.int (p1 &&& (3 : Int32))), .val (.ref b), .val (.ref a108), .val (.int (1 : Int32)), .val (.int (0 : Int32)), .val (.ref aR), .val (.ref aR)] [(.int (1 : Int32))]))
      exact Fin.ret (v := some (.int (nar .boolean (1 : Int32)))) X135 (fun h => by rw [Bd.returns] at h; cases h) Bd.notSynchronized (by rw [e135]; exact ⟨rfl, N135_⟩) (by decide) (by decide) (fun fs hr => retN X135 hx (t := .boolean) Bd.returns (by simp) (hb hby at_216) hr)
    · refine Fin.by (fun t k => XS.icmpYes X114.here hx rfl (pc0 := 114) (pc' := 121) rfl (hb hby at_114) rfl (feq q0).2 (by decide) (by decide) k) ?_
      show Fin _ _ _ _ _ _ _ (T114.setTop (mkF m 121 #[.val (.int p1), .val (.int p2), .val (.int p3), .val (.int (p1 &&& (3 : Int32))), .val (.ref b), .val (.ref a108), .unset, .unset, .unset, .unset] []))
      refine Fin.by (fun t k => XS.iconst X114.here hx rfl (hb hby at_121) k) ?_
      show Fin _ _ _ _ _ _ _ (T114.setTop (mkF m 122 #[.val (.int p1), .val (.int p2), .val (.int p3), .val (.int (p1 &&& (3 : Int32))), .val (.ref b), .val (.ref a108), .unset, .unset, .unset, .unset] [(.int (0 : Int32))]))
      refine Fin.by (fun t k => XS.istore X114.here hx rfl (hb hby at_122) rfl (l' := #[.val (.int p1), .val (.int p2), .val (.int p3), .val (.int (p1 &&& (3 : Int32))), .val (.ref b), .val (.ref a108), .val (.int (0 : Int32)), .unset, .unset, .unset]) rfl k) ?_
      show Fin _ _ _ _ _ _ _ (T114.setTop (mkF m 124 #[.val (.int p1), .val (.int p2), .val (.int p3), .val (.int (p1 &&& (3 : Int32))), .val (.ref b), .val (.ref a108), .val (.int (0 : Int32)), .unset, .unset, .unset] []))
      refine Fin.by (fun t k => XS.aload X114.here hx rfl (hb hby at_124) rfl rfl k) ?_
      show Fin _ _ _ _ _ _ _ (T114.setTop (mkF m 126 #[.val (.int p1), .val (.int p2), .val (.int p3), .val (.int (p1 &&& (3 : Int32))), .val (.ref b), .val (.ref a108), .val (.int (0 : Int32)), .unset, .unset, .unset] [(.ref b)]))
      obtain ⟨cl136, Ar136, q136, S136, N136, H136, G136⟩ := id A116
      refine Fin.by (fun t k => X114.arraylength hx (Ar136.1) (State.isArrayOf_alike hZ.alike Ar136.2.1) (g := (mkF m 126 #[.val (.int p1), .val (.int p2), .val (.int p3), .val (.int (p1 &&& (3 : Int32))), .val (.ref b), .val (.ref a108), .val (.int (0 : Int32)), .unset, .unset, .unset] [(.ref b)])) rfl rfl (hb hby at_126) _ k) ?_
      rw [len_of S136 N136]
      show Fin _ _ _ _ _ _ _ (T114.setTop (mkF m 127 #[.val (.int p1), .val (.int p2), .val (.int p3), .val (.int (p1 &&& (3 : Int32))), .val (.ref b), .val (.ref a108), .val (.int (0 : Int32)), .unset, .unset, .unset] [(.int (1 : Int32))]))
      refine Fin.by (fun t k => XS.iconst X114.here hx rfl (hb hby at_127) k) ?_
      show Fin _ _ _ _ _ _ _ (T114.setTop (mkF m 128 #[.val (.int p1), .val (.int p2), .val (.int p3), .val (.int (p1 &&& (3 : Int32))), .val (.ref b), .val (.ref a108), .val (.int (0 : Int32)), .unset, .unset, .unset] [(.int (2 : Int32)), (.int (1 : Int32))]))
      refine Fin.by (fun t k => XS.icmpYes X114.here hx rfl (pc0 := 128) (pc' := 153) rfl (hb hby at_128) rfl (feq (by decide : ¬ (1 : Int32) = (2 : Int32))).2 (by decide) (by decide) k) ?_
      show Fin _ _ _ _ _ _ _ (T114.setTop (mkF m 153 #[.val (.int p1), .val (.int p2), .val (.int p3), .val (.int (p1 &&& (3 : Int32))), .val (.ref b), .val (.ref a108), .val (.int (0 : Int32)), .unset, .unset, .unset] []))
      refine Fin.by (fun t k => XS.iconst X114.here hx rfl (hb hby at_153) k) ?_
      show Fin _ _ _ _ _ _ _ (T114.setTop (mkF m 154 #[.val (.int p1), .val (.int p2), .val (.int p3), .val (.int (p1 &&& (3 : Int32))), .val (.ref b), .val (.ref a108), .val (.int (0 : Int32)), .unset, .unset, .unset] [(.int (0 : Int32))]))
      refine Fin.by (fun t k => XS.istore X114.here hx rfl (hb hby at_154) rfl (l' := #[.val (.int p1), .val (.int p2), .val (.int p3), .val (.int (p1 &&& (3 : Int32))), .val (.ref b), .val (.ref a108), .val (.int (0 : Int32)), .val (.int (0 : Int32)), .unset, .unset]) rfl k) ?_
      show Fin _ _ _ _ _ _ _ (T114.setTop (mkF m 156 #[.val (.int p1), .val (.int p2), .val (.int p3), .val (.int (p1 &&& (3 : Int32))), .val (.ref b), .val (.ref a108), .val (.int (0 : Int32)), .val (.int (0 : Int32)), .unset, .unset] []))
      refine Fin.by (fun t k => XS.iload X114.here hx rfl (hb hby at_156) rfl k) ?_
      show Fin _ _ _ _ _ _ _ (T114.setTop (mkF m 158 #[.val (.int p1), .val (.int p2), .val (.int p3), .val (.int (p1 &&& (3 : Int32))), .val (.ref b), .val (.ref a108), .val (.int (0 : Int32)), .val (.int (0 : Int32)), .unset, .unset] [(.int (0 : Int32))]))
      refine Fin.by (fun t k => XS.ifNo X114.here hx rfl (hb hby at_158) rfl ((if0 _ _).trans (teq (rfl : (0 : Int32) = (0 : Int32))).2) k) ?_
      show Fin _ _ _ _ _ _ _ (T114.setTop (mkF m 161 #[.val (.int p1), .val (.int p2), .val (.int p3), .val (.int (p1 &&& (3 : Int32))), .val (.ref b), .val (.ref a108), .val (.int (0 : Int32)), .val (.int (0 : Int32)), .unset, .unset] []))
      refine Fin.by (fun t k => XS.iload X114.here hx rfl (hb hby at_161) rfl k) ?_
      show Fin _ _ _ _ _ _ _ (T114.setTop (mkF m 163 #[.val (.int p1), .val (.int p2), .val (.int p3), .val (.int (p1 &&& (3 : Int32))), .val (.ref b), .val (.ref a108), .val (.int (0 : Int32)), .val (.int (0 : Int32)), .unset, .unset] [(.int (0 : Int32))]))
      refine Fin.by (fun t k => XS.ifNo X114.here hx rfl (hb hby at_163) rfl ((if0 _ _).trans (teq (rfl : (0 : Int32) = (0 : Int32))).2) k) ?_
      show Fin _ _ _ _ _ _ _ (T114.setTop (mkF m 166 #[.val (.int p1), .val (.int p2), .val (.int p3), .val (.int (p1 &&& (3 : Int32))), .val (.ref b), .val (.ref a108), .val (.int (0 : Int32)), .val (.int (0 : Int32)), .unset, .unset] []))
      refine Fin.by (fun t k => XS.iconst X114.here hx rfl (hb hby at_166) k) ?_
      show Fin _ _ _ _ _ _ _ (T114.setTop (mkF m 167 #[.val (.int p1), .val (.int p2), .val (.int p3), .val (.int (p1 &&& (3 : Int32))), .val (.ref b), .val (.ref a108), .val (.int (0 : Int32)), .val (.int (0 : Int32)), .unset, .unset] [(.int (1 : Int32))]))
      exact Fin.ret (v := some (.int (nar .boolean (1 : Int32)))) X114 (fun h => by rw [Bd.returns] at h; cases h) Bd.notSynchronized (⟨rfl, N114_⟩) (by decide) (by decide) (fun fs hr => retN X114 hx (t := .boolean) Bd.returns (by simp) (hb hby at_167) hr)
  have J2 : ∀ (T137 : State) (h138 : Heap) (lc139 : List Loc) (b : Addr) (kb0 : ClassId) (c0 : Int32) (c1 : Int32), Stand p l e room_1 s m #[(.int p1), (.int p2), (.int p3)] below meth c T137 lc139 1 2 → T137.heap = h138 → Fr n0 lc139 → Keep h0 h138 [] → h0.size ≤ b → Arv Z h138 b kb0 .char (2 : Int32) [(.int c0), (.int c1)] (.int (0 : Int32)) → ¬ c0 < 0 ∧ ¬ (255 : Int32) < c0 → ¬ c1 < 0 ∧ ¬ (255 : Int32) < c1 → Fin p e below s (Q_law Z p1 p2 p3 G1 aV kV aR aW wR tR kR wW tW kW h0 n0) 16 128 (T137.setTop (mkF m 90 #[.val (.int p1), .val (.int p2), .val (.int p3), .val (.int (p1 &&& (3 : Int32))), .val (.ref b), .unset, .unset, .unset, .unset, .unset] [])) := by
    intro T137 h138 lc139 b kb0 c0 c1 X140 e141 N142 K143 hgb Vb hc0 hc1
    obtain ⟨T144, h144, X144, e144, E144, A144, D144, -, st144⟩ := newO X140 hx hZ hown (hw _ (List.mem_of_getElem? (i := 1) rfl)) (hw _ (List.mem_of_getElem? (i := 2) rfl)) (hw _ (List.mem_of_getElem? (i := 3) rfl)) e141 (g := (mkF m 90 #[.val (.int p1), .val (.int p2), .val (.int p3), .val (.int (p1 &&& (3 : Int32))), .val (.ref b), .unset, .unset, .unset, .unset, .unset] [])) rfl (hb hby at_90) (by decide) (by decide)
    obtain ⟨a144, g144⟩ : ∃ z, z = h138.size := ⟨_, rfl⟩
    rw [← g144] at A144 D144 st144
    refine Fin.by (fun t k => st144 t k) ?_
    show Fin _ _ _ _ _ _ _ (T144.setTop (mkF m 93 #[.val (.int p1), .val (.int p2), .val (.int p3), .val (.int (p1 &&& (3 : Int32))), .val (.ref b), .unset, .unset, .unset, .unset, .unset] [(.ref a144)]))
    refine Fin.by (fun t k => XS.dup X144.here hx rfl (hb hby at_93) rfl rfl k) ?_
    show Fin _ _ _ _ _ _ _ (T144.setTop (mkF m 94 #[.val (.int p1), .val (.int p2), .val (.int p3), .val (.int (p1 &&& (3 : Int32))), .val (.ref b), .unset, .unset, .unset, .unset, .unset] [(.ref a144), (.ref a144)]))
    refine Fin.by (fun t k => XS.aload X144.here hx rfl (hb hby at_94) rfl rfl k) ?_
    show Fin _ _ _ _ _ _ _ (T144.setTop (mkF m 96 #[.val (.int p1), .val (.int p2), .val (.int p3), .val (.int (p1 &&& (3 : Int32))), .val (.ref b), .unset, .unset, .unset, .unset, .unset] [(.ref b), (.ref a144), (.ref a144)]))
    have A145 : Arv Z h144 b kb0 .char (2 : Int32) [(.int c0), (.int c1)] (.int (0 : Int32)) := (Vb.ext E144)
    have z147 : n0 ≤ h138.size := Nat.le_trans Z0 K143.1
    have g146 : n0 ≤ a144 := Nat.le_trans z147 (Nat.le_of_eq g144.symm)
    have z148 : n0 ≤ h144.size := Nat.le_trans Z0 (Nat.le_trans K143.1 E144.1)
    have O149 : Old Z n0 h144 := ((OL.keep K143 all0).ext E144)
    obtain ⟨v150, _, ⟨T150, L150, k150, n150⟩, -, X150, ⟨Lc150, hQ150, l150, y150, z150⟩, st150⟩ := X144.specialBack hx (y := (⟨"java/lang/String", "<init>", "([C)V"⟩ : MethodName)) rfl hown (mvT hZ (hw _ (List.mem_of_getElem? (i := 4) rfl))) (mvT hZ (hw _ (List.mem_of_getElem? (i := 5) rfl))) (mvT hZ (hw _ (List.mem_of_getElem? (i := 6) rfl))) (by decide) (StrChars.Road.backV (W := 1) hZ (fun d hd => hw d (own_words d hd)) (kI := 4) (hw _ (List.mem_of_getElem? (i := 2) rfl)) (cs := ([c0, c1] : List Int32)) (bs := ([c0, c1] : List Int32).map (fun c => c.toInt8.toInt32)) (n := 2) g146 z148 A144 (D144 (Or.inr (hw _ (List.mem_of_getElem? (i := 29) rfl))) (ty := (.array .byte)) (by decide) : Fld Z h144 a144 "java/lang/String" "value" "[B" .null) (D144 (Or.inr (hw _ (List.mem_of_getElem? (i := 27) rfl))) (ty := .byte) (by decide) : Fld Z h144 a144 "java/lang/String" "coder" "B" (.int (0 : Int32))) A145 (S1.ext O149.2) P1 rfl rfl (by decide) (by decide) (own_cons hc0 (own_cons hc1 own_nil)) rfl (by decide) (by decide)) (g := (mkF m 96 #[.val (.int p1), .val (.int p2), .val (.int p3), .val (.int (p1 &&& (3 : Int32))), .val (.ref b), .unset, .unset, .unset, .unset, .unset] [(.ref b), (.ref a144), (.ref a144)])) rfl (by rw [hml]; rfl) (Steps.refl _) (a := a144) (argsL := [(.ref b)]) (rest := [(.ref a144)]) (lenOf pd_30 rfl) rfl (by show 2 * 0 + _ ≤ _; exact Nat.le_of_eq rfl) (hb hby at_96) (fun _ _ => ⟨rfl, e144, (by decide : 2 + 1 ≤ _), (by decide : 6 + 2 ≤ _)⟩)
    dsimp only [Pt.U, Pt.locs, Pt.cells, Pt.slots] at X150 l150 y150 z150 st150 hQ150
    subst l150 y150 z150
    obtain ⟨rfl, Nq150, K150, E150, C150, t150, kb150, gt150, ht150, nt150, V150, A150⟩ := hQ150
    have N150_ := Fr.app N142 Nq150
    refine Fin.byS st150 ?_
    show Fin _ _ _ _ _ _ _ (T150.setTop (mkF m 99 #[.val (.int p1), .val (.int p2), .val (.int p3), .val (.int (p1 &&& (3 : Int32))), .val (.ref b), .unset, .unset, .unset, .unset, .unset] [(.ref a144)]))
    have hpx : ∀ c ∈ ([c0, c1] : List Int32), ¬ c < 0 ∧ ¬ (255 : Int32) < c := (own_cons hc0 (own_cons hc1 own_nil))
    refine Fin.by (fun t k => XS.astore X150.here hx rfl (hb hby at_99) rfl rfl (l' := #[.val (.int p1), .val (.int p2), .val (.int p3), .val (.int (p1 &&& (3 : Int32))), .val (.ref b), .val (.ref a144), .unset, .unset, .unset, .unset]) rfl k) ?_
    show Fin _ _ _ _ _ _ _ (T150.setTop (mkF m 101 #[.val (.int p1), .val (.int p2), .val (.int p3), .val (.int (p1 &&& (3 : Int32))), .val (.ref b), .val (.ref a144), .unset, .unset, .unset, .unset] []))
    refine Fin.by (fun t k => XS.aload X150.here hx rfl (hb hby at_101) rfl rfl k) ?_
    show Fin _ _ _ _ _ _ _ (T150.setTop (mkF m 103 #[.val (.int p1), .val (.int p2), .val (.int p3), .val (.int (p1 &&& (3 : Int32))), .val (.ref b), .val (.ref a144), .unset, .unset, .unset, .unset] [(.ref b)]))
    have ne151 : b ≠ a144 := Nat.ne_of_lt (Nat.lt_of_lt_of_le Vb.lt (Nat.le_of_eq g144.symm))
    have A152 : Arv Z T150.heap b kb0 .char (2 : Int32) [(.int c0), (.int c1)] (.int (0 : Int32)) := (A145.keep K150 (ninS ne151 nin0))
    obtain ⟨cl153, Ar153, q153, S153, N153, H153, G153⟩ := id A152
    refine Fin.by (fun t k => X150.arraylength hx (Ar153.1) (State.isArrayOf_alike hZ.alike Ar153.2.1) (g := (mkF m 103 #[.val (.int p1), .val (.int p2), .val (.int p3), .val (.int (p1 &&& (3 : Int32))), .val (.ref b), .val (.ref a144), .unset, .unset, .unset, .unset] [(.ref b)])) rfl rfl (hb hby at_103) _ k) ?_
    rw [len_of S153 N153]
    show Fin _ _ _ _ _ _ _ (T150.setTop (mkF m 104 #[.val (.int p1), .val (.int p2), .val (.int p3), .val (.int (p1 &&& (3 : Int32))), .val (.ref b), .val (.ref a144), .unset, .unset, .unset, .unset] [(.int (2 : Int32))]))
    refine Fin.by (fun t k => XS.iconst X150.here hx rfl (hb hby at_104) k) ?_
    show Fin _ _ _ _ _ _ _ (T150.setTop (mkF m 105 #[.val (.int p1), .val (.int p2), .val (.int p3), .val (.int (p1 &&& (3 : Int32))), .val (.ref b), .val (.ref a144), .unset, .unset, .unset, .unset] [(.int (1 : Int32)), (.int (2 : Int32))]))
    refine Fin.by (fun t k => XS.icmpYes X150.here hx rfl (pc0 := 105) (pc' := 121) rfl (hb hby at_105) rfl (feq (by decide : ¬ (2 : Int32) = (1 : Int32))).2 (by decide) (by decide) k) ?_
    show Fin _ _ _ _ _ _ _ (T150.setTop (mkF m 121 #[.val (.int p1), .val (.int p2), .val (.int p3), .val (.int (p1 &&& (3 : Int32))), .val (.ref b), .val (.ref a144), .unset, .unset, .unset, .unset] []))
    refine Fin.by (fun t k => XS.iconst X150.here hx rfl (hb hby at_121) k) ?_
    show Fin _ _ _ _ _ _ _ (T150.setTop (mkF m 122 #[.val (.int p1), .val (.int p2), .val (.int p3), .val (.int (p1 &&& (3 : Int32))), .val (.ref b), .val (.ref a144), .unset, .unset, .unset, .unset] [(.int (0 : Int32))]))
    refine Fin.by (fun t k => XS.istore X150.here hx rfl (hb hby at_122) rfl (l' := #[.val (.int p1), .val (.int p2), .val (.int p3), .val (.int (p1 &&& (3 : Int32))), .val (.ref b), .val (.ref a144), .val (.int (0 : Int32)), .unset, .unset, .unset]) rfl k) ?_
    show Fin _ _ _ _ _ _ _ (T150.setTop (mkF m 124 #[.val (.int p1), .val (.int p2), .val (.int p3), .val (.int (p1 &&& (3 : Int32))), .val (.ref b), .val (.ref a144), .val (.int (0 : Int32)), .unset, .unset, .unset] []))
    refine Fin.by (fun t k => XS.aload X150.here hx rfl (hb hby at_124) rfl rfl k) ?_
    show Fin _ _ _ _ _ _ _ (T150.setTop (mkF m 126 #[.val (.int p1), .val (.int p2), .val (.int p3), .val (.int (p1 &&& (3 : Int32))), .val (.ref b), .val (.ref a144), .val (.int (0 : Int32)), .unset, .unset, .unset] [(.ref b)]))
    obtain ⟨cl154, Ar154, q154, S154, N154, H154, G154⟩ := id A152
    refine Fin.by (fun t k => X150.arraylength hx (Ar154.1) (State.isArrayOf_alike hZ.alike Ar154.2.1) (g := (mkF m 126 #[.val (.int p1), .val (.int p2), .val (.int p3), .val (.int (p1 &&& (3 : Int32))), .val (.ref b), .val (.ref a144), .val (.int (0 : Int32)), .unset, .unset, .unset] [(.ref b)])) rfl rfl (hb hby at_126) _ k) ?_
    rw [len_of S154 N154]
    show Fin _ _ _ _ _ _ _ (T150.setTop (mkF m 127 #[.val (.int p1), .val (.int p2), .val (.int p3), .val (.int (p1 &&& (3 : Int32))), .val (.ref b), .val (.ref a144), .val (.int (0 : Int32)), .unset, .unset, .unset] [(.int (2 : Int32))]))
    refine Fin.by (fun t k => XS.iconst X150.here hx rfl (hb hby at_127) k) ?_
    show Fin _ _ _ _ _ _ _ (T150.setTop (mkF m 128 #[.val (.int p1), .val (.int p2), .val (.int p3), .val (.int (p1 &&& (3 : Int32))), .val (.ref b), .val (.ref a144), .val (.int (0 : Int32)), .unset, .unset, .unset] [(.int (2 : Int32)), (.int (2 : Int32))]))
    refine Fin.by (fun t k => XS.icmpNo X150.here hx rfl (hb hby at_128) rfl (teq (rfl : (2 : Int32) = (2 : Int32))).2 k) ?_
    show Fin _ _ _ _ _ _ _ (T150.setTop (mkF m 131 #[.val (.int p1), .val (.int p2), .val (.int p3), .val (.int (p1 &&& (3 : Int32))), .val (.ref b), .val (.ref a144), .val (.int (0 : Int32)), .unset, .unset, .unset] []))
    refine Fin.by (fun t k => XS.aload X150.here hx rfl (hb hby at_131) rfl rfl k) ?_
    show Fin _ _ _ _ _ _ _ (T150.setTop (mkF m 133 #[.val (.int p1), .val (.int p2), .val (.int p3), .val (.int (p1 &&& (3 : Int32))), .val (.ref b), .val (.ref a144), .val (.int (0 : Int32)), .unset, .unset, .unset] [(.ref b)]))
    refine Fin.by (fun t k => XS.iconst X150.here hx rfl (hb hby at_133) k) ?_
    show Fin _ _ _ _ _ _ _ (T150.setTop (mkF m 134 #[.val (.int p1), .val (.int p2), .val (.int p3), .val (.int (p1 &&& (3 : Int32))), .val (.ref b), .val (.ref a144), .val (.int (0 : Int32)), .unset, .unset, .unset] [(.int (0 : Int32)), (.ref b)]))
    obtain ⟨cl155, Ar155, q155, S155, N155, H155, G155⟩ := id A152
    have hin155 : ¬ ((0 : Int32) < 0 ∨ cl155.slots.size ≤ (0 : Int32).toNatClampNeg) := inb_of S155 ⟨by decide, by decide⟩
    refine Fin.by (fun t k => X150.caload hx (j := (0 : Int32)) (v := (.int c0)) (Ar155.1) (State.isArrayOf_alike hZ.alike Ar155.2.1) Ar155.2.2 hin155 (Has.at H155 hin155 rfl) (g := (mkF m 134 #[.val (.int p1), .val (.int p2), .val (.int p3), .val (.int (p1 &&& (3 : Int32))), .val (.ref b), .val (.ref a144), .val (.int (0 : Int32)), .unset, .unset, .unset] [(.int (0 : Int32)), (.ref b)])) rfl rfl (hb hby at_134) _ k) ?_
    show Fin _ _ _ _ _ _ _ (T150.setTop (mkF m 135 #[.val (.int p1), .val (.int p2), .val (.int p3), .val (.int (p1 &&& (3 : Int32))), .val (.ref b), .val (.ref a144), .val (.int (0 : Int32)), .unset, .unset, .unset] [(.int c0)]))
    refine Fin.by (fun t k => XS.bipush X150.here hx rfl (hb hby at_135) k) ?_
    show Fin _ _ _ _ _ _ _ (T150.setTop (mkF m 137 #[.val (.int p1), .val (.int p2), .val (.int p3), .val (.int (p1 &&& (3 : Int32))), .val (.ref b), .val (.ref a144), .val (.int (0 : Int32)), .unset, .unset, .unset] [(.int (114 : Int32)), (.int c0)]))
    by_cases q0 : c0 = (114 : Int32)
    · refine Fin.by (fun t k => XS.icmpNo X150.here hx rfl (hb hby at_137) rfl (teq q0).2 k) ?_
      show Fin _ _ _ _ _ _ _ (T150.setTop (mkF m 140 #[.val (.int p1), .val (.int p2), .val (.int p3), .val (.int (p1 &&& (3 : Int32))), .val (.ref b), .val (.ref a144), .val (.int (0 : Int32)), .unset, .unset, .unset] []))
      refine Fin.by (fun t k => XS.aload X150.here hx rfl (hb hby at_140) rfl rfl k) ?_
      show Fin _ _ _ _ _ _ _ (T150.setTop (mkF m 142 #[.val (.int p1), .val (.int p2), .val (.int p3), .val (.int (p1 &&& (3 : Int32))), .val (.ref b), .val (.ref a144), .val (.int (0 : Int32)), .unset, .unset, .unset] [(.ref b)]))
      refine Fin.by (fun t k => XS.iconst X150.here hx rfl (hb hby at_142) k) ?_
      show Fin _ _ _ _ _ _ _ (T150.setTop (mkF m 143 #[.val (.int p1), .val (.int p2), .val (.int p3), .val (.int (p1 &&& (3 : Int32))), .val (.ref b), .val (.ref a144), .val (.int (0 : Int32)), .unset, .unset, .unset] [(.int (1 : Int32)), (.ref b)]))
      obtain ⟨cl156, Ar156, q156, S156, N156, H156, G156⟩ := id A152
      have hin156 : ¬ ((1 : Int32) < 0 ∨ cl156.slots.size ≤ (1 : Int32).toNatClampNeg) := inb_of S156 ⟨by decide, by decide⟩
      refine Fin.by (fun t k => X150.caload hx (j := (1 : Int32)) (v := (.int c1)) (Ar156.1) (State.isArrayOf_alike hZ.alike Ar156.2.1) Ar156.2.2 hin156 (Has.at H156 hin156 rfl) (g := (mkF m 143 #[.val (.int p1), .val (.int p2), .val (.int p3), .val (.int (p1 &&& (3 : Int32))), .val (.ref b), .val (.ref a144), .val (.int (0 : Int32)), .unset, .unset, .unset] [(.int (1 : Int32)), (.ref b)])) rfl rfl (hb hby at_143) _ k) ?_
      show Fin _ _ _ _ _ _ _ (T150.setTop (mkF m 144 #[.val (.int p1), .val (.int p2), .val (.int p3), .val (.int (p1 &&& (3 : Int32))), .val (.ref b), .val (.ref a144), .val (.int (0 : Int32)), .unset, .unset, .unset] [(.int c1)]))
      refine Fin.by (fun t k => XS.bipush X150.here hx rfl (hb hby at_144) k) ?_
      show Fin _ _ _ _ _ _ _ (T150.setTop (mkF m 146 #[.val (.int p1), .val (.int p2), .val (.int p3), .val (.int (p1 &&& (3 : Int32))), .val (.ref b), .val (.ref a144), .val (.int (0 : Int32)), .unset, .unset, .unset] [(.int (119 : Int32)), (.int c1)]))
      by_cases q1 : c1 = (119 : Int32)
      · refine Fin.by (fun t k => XS.icmpNo X150.here hx rfl (hb hby at_146) rfl (teq q1).2 k) ?_
        show Fin _ _ _ _ _ _ _ (T150.setTop (mkF m 149 #[.val (.int p1), .val (.int p2), .val (.int p3), .val (.int (p1 &&& (3 : Int32))), .val (.ref b), .val (.ref a144), .val (.int (0 : Int32)), .unset, .unset, .unset] []))
        refine Fin.by (fun t k => XS.iconst X150.here hx rfl (hb hby at_149) k) ?_
        show Fin _ _ _ _ _ _ _ (T150.setTop (mkF m 150 #[.val (.int p1), .val (.int p2), .val (.int p3), .val (.int (p1 &&& (3 : Int32))), .val (.ref b), .val (.ref a144), .val (.int (0 : Int32)), .unset, .unset, .unset] [(.int (1 : Int32))]))
        refine Fin.by (fun t k => XS.goto X150.here hx rfl (pc0 := 150) (pc' := 154) rfl (hb hby at_150) (by decide) (by decide) k) ?_
        show Fin _ _ _ _ _ _ _ (T150.setTop (mkF m 154 #[.val (.int p1), .val (.int p2), .val (.int p3), .val (.int (p1 &&& (3 : Int32))), .val (.ref b), .val (.ref a144), .val (.int (0 : Int32)), .unset, .unset, .unset] [(.int (1 : Int32))]))
        refine Fin.by (fun t k => XS.istore X150.here hx rfl (hb hby at_154) rfl (l' := #[.val (.int p1), .val (.int p2), .val (.int p3), .val (.int (p1 &&& (3 : Int32))), .val (.ref b), .val (.ref a144), .val (.int (0 : Int32)), .val (.int (1 : Int32)), .unset, .unset]) rfl k) ?_
        show Fin _ _ _ _ _ _ _ (T150.setTop (mkF m 156 #[.val (.int p1), .val (.int p2), .val (.int p3), .val (.int (p1 &&& (3 : Int32))), .val (.ref b), .val (.ref a144), .val (.int (0 : Int32)), .val (.int (1 : Int32)), .unset, .unset] []))
        refine Fin.by (fun t k => XS.iload X150.here hx rfl (hb hby at_156) rfl k) ?_
        show Fin _ _ _ _ _ _ _ (T150.setTop (mkF m 158 #[.val (.int p1), .val (.int p2), .val (.int p3), .val (.int (p1 &&& (3 : Int32))), .val (.ref b), .val (.ref a144), .val (.int (0 : Int32)), .val (.int (1 : Int32)), .unset, .unset] [(.int (0 : Int32))]))
        refine Fin.by (fun t k => XS.ifNo X150.here hx rfl (hb hby at_158) rfl ((if0 _ _).trans (teq (rfl : (0 : Int32) = (0 : Int32))).2) k) ?_
        show Fin _ _ _ _ _ _ _ (T150.setTop (mkF m 161 #[.val (.int p1), .val (.int p2), .val (.int p3), .val (.int (p1 &&& (3 : Int32))), .val (.ref b), .val (.ref a144), .val (.int (0 : Int32)), .val (.int (1 : Int32)), .unset, .unset] []))
        refine Fin.by (fun t k => XS.iload X150.here hx rfl (hb hby at_161) rfl k) ?_
        show Fin _ _ _ _ _ _ _ (T150.setTop (mkF m 163 #[.val (.int p1), .val (.int p2), .val (.int p3), .val (.int (p1 &&& (3 : Int32))), .val (.ref b), .val (.ref a144), .val (.int (0 : Int32)), .val (.int (1 : Int32)), .unset, .unset] [(.int (1 : Int32))]))
        refine Fin.by (fun t k => XS.ifYes X150.here hx rfl (pc0 := 163) (pc' := 168) rfl (hb hby at_163) rfl ((if0 _ _).trans (feq (by decide : ¬ (1 : Int32) = (0 : Int32))).2) (by decide) (by decide) k) ?_
        show Fin _ _ _ _ _ _ _ (T150.setTop (mkF m 168 #[.val (.int p1), .val (.int p2), .val (.int p3), .val (.int (p1 &&& (3 : Int32))), .val (.ref b), .val (.ref a144), .val (.int (0 : Int32)), .val (.int (1 : Int32)), .unset, .unset] []))
        refine Fin.by (fun t k => XS.aload X150.here hx rfl (hb hby at_168) rfl rfl k) ?_
        show Fin _ _ _ _ _ _ _ (T150.setTop (mkF m 170 #[.val (.int p1), .val (.int p2), .val (.int p3), .val (.int (p1 &&& (3 : Int32))), .val (.ref b), .val (.ref a144), .val (.int (0 : Int32)), .val (.int (1 : Int32)), .unset, .unset] [(.ref a144)]))
        have O157 : Old Z n0 T150.heap := (O149.keep K150 (allS g146 all0))
        have z158 : n0 ≤ T150.heap.size := Nat.le_trans z148 K150.1
        obtain ⟨v159, _, ⟨T159, L159, k159, n159⟩, -, X159, ⟨Lc159, hQ159, l159, y159, z159⟩, st159⟩ := Jvm.LawKit.callS X150 hx (y := (⟨"com/example/portcullis/portcullis/AccessRule$Permissions", "of", "(Ljava/lang/String;)Lcom/example/portcullis/portcullis/AccessRule$Permissions;"⟩ : MethodName)) hown (mvT hZ (hw _ (List.mem_of_getElem? (i := 30) rfl))) (mvT hZ (hw _ (List.mem_of_getElem? (i := 31) rfl))) (mvT hZ (hw _ (List.mem_of_getElem? (i := 32) rfl))) (mvT hZ (hw _ (List.mem_of_getElem? (i := 33) rfl))) (by decide) (backOf (W := 0) (rm_ofW l Z a0 hw [] a144 t150 kb150 ([c0, c1] : List Int32) G1 aV kV aR aW wR tR kR wW tW kW T150.heap n0 z158 (by rw [q0, q1]) (own_cons hc0 (own_cons hc1 own_nil)) E150 V150 C150 A150 S1 P1 S2 O157 VE VA R0 R1 R2 R3 R4 W0 W1 W2 W3 W4) hZ (hw _ (List.mem_of_getElem? (i := 33) rfl)) (hw _ (List.mem_of_getElem? (i := 32) rfl)) (by decide) (by decide)) (g := (mkF m 170 #[.val (.int p1), .val (.int p2), .val (.int p3), .val (.int (p1 &&& (3 : Int32))), .val (.ref b), .val (.ref a144), .val (.int (0 : Int32)), .val (.int (1 : Int32)), .unset, .unset] [(.ref a144)])) rfl (by rw [hml]; rfl) (argsL := [(.ref a144)]) (rest := []) (lenOf pd_31 rfl) rfl (by show 2 * 0 + _ ≤ _; exact Nat.le_of_eq rfl) (hb hby at_170) (fun _ _ => ⟨rfl, rfl, (by decide : 3 + 1 ≤ _), (by decide : 8 + 2 ≤ _)⟩)
        dsimp only [Pt.U, Pt.locs, Pt.cells, Pt.slots] at X159 l159 y159 z159 st159 hQ159
        subst l159 y159 z159
        obtain ⟨rfl, Nq159, p159_0⟩ := hQ159
        have N159_ := Fr.app N150_ Nq159
        refine Fin.by (fun t k => st159 t k) ?_
        show Fin _ _ _ _ _ _ _ (T159.setTop (mkF m 173 #[.val (.int p1), .val (.int p2), .val (.int p3), .val (.int (p1 &&& (3 : Int32))), .val (.ref b), .val (.ref a144), .val (.int (0 : Int32)), .val (.int (1 : Int32)), .unset, .unset] [(.ref aW)]))
        refine Fin.by (fun t k => XS.astore X159.here hx rfl (hb hby at_173) rfl rfl (l' := #[.val (.int p1), .val (.int p2), .val (.int p3), .val (.int (p1 &&& (3 : Int32))), .val (.ref b), .val (.ref a144), .val (.int (0 : Int32)), .val (.int (1 : Int32)), .val (.ref aW), .unset]) rfl k) ?_
        show Fin _ _ _ _ _ _ _ (T159.setTop (mkF m 175 #[.val (.int p1), .val (.int p2), .val (.int p3), .val (.int (p1 &&& (3 : Int32))), .val (.ref b), .val (.ref a144), .val (.int (0 : Int32)), .val (.int (1 : Int32)), .val (.ref aW), .unset] []))
        refine Fin.by (fun t k => XS.iload X159.here hx rfl (hb hby at_175) rfl k) ?_
        show Fin _ _ _ _ _ _ _ (T159.setTop (mkF m 177 #[.val (.int p1), .val (.int p2), .val (.int p3), .val (.int (p1 &&& (3 : Int32))), .val (.ref b), .val (.ref a144), .val (.int (0 : Int32)), .val (.int (1 : Int32)), .val (.ref aW), .unset] [(.int (0 : Int32))]))
        refine Fin.by (fun t k => XS.ifYes X159.here hx rfl (pc0 := 177) (pc' := 186) rfl (hb hby at_177) rfl ((if0 _ _).trans (teq (rfl : (0 : Int32) = (0 : Int32))).1) (by decide) (by decide) k) ?_
        show Fin _ _ _ _ _ _ _ (T159.setTop (mkF m 186 #[.val (.int p1), .val (.int p2), .val (.int p3), .val (.int (p1 &&& (3 : Int32))), .val (.ref b), .val (.ref a144), .val (.int (0 : Int32)), .val (.int (1 : Int32)), .val (.ref aW), .unset] []))
        have O160 : Old Z n0 T159.heap := (O157.keep p159_0 all0)
        obtain ⟨T161, X161, e161, st161⟩ := getS X159 hx hZ (host := "") hown (hw _ (List.mem_of_getElem? (i := 66) rfl)) Via.refl rfl (S4.ext O160.2) (g := (mkF m 186 #[.val (.int p1), .val (.int p2), .val (.int p3), .val (.int (p1 &&& (3 : Int32))), .val (.ref b), .val (.ref a144), .val (.int (0 : Int32)), .val (.int (1 : Int32)), .val (.ref aW), .unset] [])) rfl (hb hby at_186)
        refine Fin.by (fun t k => st161 t k) ?_
        show Fin _ _ _ _ _ _ _ (T161.setTop (mkF m 189 #[.val (.int p1), .val (.int p2), .val (.int p3), .val (.int (p1 &&& (3 : Int32))), .val (.ref b), .val (.ref a144), .val (.int (0 : Int32)), .val (.int (1 : Int32)), .val (.ref aW), .unset] [(.ref aW)]))
        refine Fin.by (fun t k => XS.astore X161.here hx rfl (hb hby at_189) rfl rfl (l' := #[.val (.int p1), .val (.int p2), .val (.int p3), .val (.int (p1 &&& (3 : Int32))), .val (.ref b), .val (.ref a144), .val (.int (0 : Int32)), .val (.int (1 : Int32)), .val (.ref aW), .val (.ref aW)]) rfl k) ?_
        show Fin _ _ _ _ _ _ _ (T161.setTop (mkF m 191 #[.val (.int p1), .val (.int p2), .val (.int p3), .val (.int (p1 &&& (3 : Int32))), .val (.ref b), .val (.ref a144), .val (.int (0 : Int32)), .val (.int (1 : Int32)), .val (.ref aW), .val (.ref aW)] []))
        refine Fin.by (fun t k => XS.aload X161.here hx rfl (hb hby at_191) rfl rfl k) ?_
        show Fin _ _ _ _ _ _ _ (T161.setTop (mkF m 193 #[.val (.int p1), .val (.int p2), .val (.int p3), .val (.int (p1 &&& (3 : Int32))), .val (.ref b), .val (.ref a144), .val (.int (0 : Int32)), .val (.int (1 : Int32)), .val (.ref aW), .val (.ref aW)] [(.ref aW)]))
        refine Fin.by (fun t k => XS.aload X161.here hx rfl (hb hby at_193) rfl rfl k) ?_
        show Fin _ _ _ _ _ _ _ (T161.setTop (mkF m 195 #[.val (.int p1), .val (.int p2), .val (.int p3), .val (.int (p1 &&& (3 : Int32))), .val (.ref b), .val (.ref a144), .val (.int (0 : Int32)), .val (.int (1 : Int32)), .val (.ref aW), .val (.ref aW)] [(.ref aW), (.ref aW)]))
        refine Fin.by (fun t k => Jvm.RoadKit.acmp (g := (mkF m 195 #[.val (.int p1), .val (.int p2), .val (.int p3), .val (.int (p1 &&& (3 : Int32))), .val (.ref b), .val (.ref a144), .val (.int (0 : Int32)), .val (.int (1 : Int32)), .val (.ref aW), .val (.ref aW)] [(.ref aW), (.ref aW)])) X161 hx rfl rfl rfl (pc0 := 195) (pc' := 198) (same := true) rfl (hb hby at_195) rfl (decide_eq_true rfl) (by decide) (by decide) k) ?_
        show Fin _ _ _ _ _ _ _ (T161.setTop (mkF m 198 #[.val (.int p1), .val (.int p2), .val (.int p3), .val (.int (p1 &&& (3 : Int32))), .val (.ref b), .val (.ref a144), .val (.int (0 : Int32)), .val (.int (1 : Int32)), .val (.ref aW), .val (.ref aW)] []))
        refine Fin.by (fun t k => XS.aload X161.here hx rfl (hb hby at_198) rfl rfl k) ?_
        show Fin _ _ _ _ _ _ _ (T161.setTop (mkF m 200 #[.val (.int p1), .val (.int p2), .val (.int p3), .val (.int (p1 &&& (3 : Int32))), .val (.ref b), .val (.ref a144), .val (.int (0 : Int32)), .val (.int (1 : Int32)), .val (.ref aW), .val (.ref aW)] [(.ref aW)]))
        have F162 : Fld Z T159.heap aW "com/example/portcullis/portcullis/AccessRule$Permissions" "word" "Ljava/lang/String;" (.ref wW) := W0.ext O160.2
        obtain ⟨T163, X163, e163, st163⟩ := getF X161 hx hZ hown (host := "") (Or.inl (hw _ (List.mem_of_getElem? (i := 64) rfl))) Via.refl e161 F162 (g := (mkF m 200 #[.val (.int p1), .val (.int p2), .val (.int p3), .val (.int (p1 &&& (3 : Int32))), .val (.ref b), .val (.ref a144), .val (.int (0 : Int32)), .val (.int (1 : Int32)), .val (.ref aW), .val (.ref aW)] [(.ref aW)])) rfl rfl (hb hby at_200)
        refine Fin.by (fun t k => st163 t k) ?_
        show Fin _ _ _ _ _ _ _ (T163.setTop (mkF m 203 #[.val (.int p1), .val (.int p2), .val (.int p3), .val (.int (p1 &&& (3 : Int32))), .val (.ref b), .val (.ref a144), .val (.int (0 : Int32)), .val (.int (1 : Int32)), .val (.ref aW), .val (.ref aW)] [(.ref wW)]))
        refine Fin.by (fun t k => XS.aload X163.here hx rfl (hb hby at_203) rfl rfl k) ?_
        show Fin _ _ _ _ _ _ _ (T163.setTop (mkF m 205 #[.val (.int p1), .val (.int p2), .val (.int p3), .val (.int (p1 &&& (3 : Int32))), .val (.ref b), .val (.ref a144), .val (.int (0 : Int32)), .val (.int (1 : Int32)), .val (.ref aW), .val (.ref aW)] [(.ref a144), (.ref wW)]))
        have E164 : Exa Z T159.heap wW "java/lang/String" := W1.ext O160.2
        have F165 : Fld Z T159.heap wW "java/lang/String" "value" "[B" (.ref tW) := W2.ext O160.2
        have F166 : Fld Z T159.heap wW "java/lang/String" "coder" "B" (.int (0 : Int32)) := W3.ext O160.2
        have A167 : Arv Z T159.heap tW kW .byte (2 : Int32) ((([114, 119] : List Int32).map (fun c => c.toInt8.toInt32)).map Value.int) (.int 0) := W4.ext O160.2
        have E168 : Exa Z T159.heap a144 "java/lang/String" := (E150.keep p159_0)
        have F169 : Fld Z T159.heap a144 "java/lang/String" "value" "[B" (.ref t150) := (V150.keep p159_0 nin0)
        have F170 : Fld Z T159.heap a144 "java/lang/String" "coder" "B" (.int (0 : Int32)) := (C150.keep p159_0 nin0)
        have A171 : Arv Z T159.heap t150 kb150 .byte (2 : Int32) ((([c0, c1] : List Int32).map (fun c => c.toInt8.toInt32)).map Value.int) (.int 0) := (A150.keep p159_0 nin0)
        obtain ⟨cq172, kq172, qa172, qb172, qc172⟩ := isOf hZ e163 E164
        obtain ⟨v172, _, ⟨T172, L172, k172, n172⟩, -, X172, ⟨Lc172, hQ172, l172, y172, z172⟩, st172⟩ := X163.virtualBack hx (y := (⟨"java/lang/String", "equals", "(Ljava/lang/Object;)Z"⟩ : MethodName)) (z := (⟨"java/lang/String", "equals", "(Ljava/lang/Object;)Z"⟩ : MethodName)) hown (mvT hZ (hw _ (List.mem_of_getElem? (i := 65) rfl))) (mvT hZ (hw _ (List.mem_of_getElem? (i := 54) rfl))) (notFace_of_selects (args := #[]) (mvT hZ (hw _ (List.mem_of_getElem? (i := 56) rfl)))) (mvT hZ (hw _ (List.mem_of_getElem? (i := 56) rfl))) (mvT hZ (hw _ (List.mem_of_getElem? (i := 55) rfl))) (by decide) (StrChars.Road.eqW (W := 0) hZ (fun d hd => hw d (own_wordsEq d hd)) (kI := 4) (hw _ (List.mem_of_getElem? (i := 2) rfl)) E164 F165 F166 A167 (StrChars.Road.codOf (cs := ([114, 119] : List Int32)) (n := 2) rfl (fun c hc => (own_hW c hc).2)) (own_up own_hW) (Nat.le_of_ble_eq_true rfl) E168 F169 F170 A171 (StrChars.Road.codOf (cs := ([c0, c1] : List Int32)) (n := 2) rfl (fun c hc => (hpx c hc).2)) (own_up hpx) (Nat.le_of_ble_eq_true rfl) (S1.ext O160.2) P1 (by decide) (by decide)) qa172 qc172 (g := (mkF m 205 #[.val (.int p1), .val (.int p2), .val (.int p3), .val (.int (p1 &&& (3 : Int32))), .val (.ref b), .val (.ref a144), .val (.int (0 : Int32)), .val (.int (1 : Int32)), .val (.ref aW), .val (.ref aW)] [(.ref a144), (.ref wW)])) rfl (by rw [hml]; rfl) (Steps.refl _) (argsL := [(.ref a144)]) (rest := []) (lenOf pd_23 rfl) rfl (by show 2 * 0 + _ ≤ _; exact Nat.le_of_eq rfl) (hb hby at_205) (fun _ _ => ⟨rfl, e163, (by decide : 4 + 0 ≤ _), (by decide : 10 + 0 ≤ _)⟩)
        dsimp only [Pt.U, Pt.locs, Pt.cells, Pt.slots] at X172 l172 y172 z172 st172 hQ172
        subst l172 y172 z172
        obtain ⟨hv172, hL172, e172⟩ := hQ172
        subst hL172
        have N172_ := Fr.app N159_ (Fr.nil n0)
        obtain rfl : v172 = some (.int (1 : Int32)) := hv172.elim (fun q => q.1) (fun q => absurd (by rw [q0, q1]) q.2)
        refine Fin.byS st172 ?_
        show Fin _ _ _ _ _ _ _ (T172.setTop (mkF m 208 #[.val (.int p1), .val (.int p2), .val (.int p3), .val (.int (p1 &&& (3 : Int32))), .val (.ref b), .val (.ref a144), .val (.int (0 : Int32)), .val (.int (1 : Int32)), .val (.ref aW), .val (.ref aW)] [(.int (1 : Int32))]))
        refine Fin.by (fun t k => XS.ifNo X172.here hx rfl (hb hby at_208) rfl ((if0 _ _).trans (feq (by decide : ¬ (1 : Int32) = (0 : Int32))).1) k) ?_
        show Fin _ _ _ _ _ _ _ (T172.setTop (mkF m 211 #[.val (.int p1), .val (.int p2), .val (.int p3), .val (.int (p1 &&& (3 : Int32))), .val (.ref b), .val (.ref a144), .val (.int (0 : Int32)), .val (.int (1 : Int32)), .val (.ref aW), .val (.ref aW)] []))
        refine Fin.by (fun t k => XS.iconst X172.here hx rfl (hb hby at_211) k) ?_
        show Fin _ _ _ _ _ _ _ (T172.setTop (mkF m 212 #[.val (.int p1), .val (.int p2), .val (.int p3), .val (.int (p1 &&& (3 : Int32))), .val (.ref b), .val (.ref a144), .val (.int (0 : Int32)), .val (.int (1 : Int32)), .val (.ref aW), .val (.ref aW)] [(.int (1 : Int32))]))
        refine Fin.by (fun t k => XS.goto X172.here hx rfl (pc0 := 212) (pc' := 216) rfl (hb hby at_212) (by decide) (by decide) k) ?_
        show Fin _ _ _ _ _ _ _ (T172.setTop (mkF m 216 #[.val (.int p1), .val (.int p2), .val (.int p3), .val (.int (p1 &&& (3 : Int32))), .val (.ref b), .val (.ref a144), .val (.int (0 : Int32)), .val (.int (1 : Int32)), .val (.ref aW), .val (.ref aW)] [(.int (1 : Int32))]))
        exact Fin.ret (v := some (.int (nar .boolean (1 : Int32)))) X172 (fun h => by rw [Bd.returns] at h; cases h) Bd.notSynchronized (by rw [e172]; exact ⟨rfl, N172_⟩) (by decide) (by decide) (fun fs hr => retN X172 hx (t := .boolean) Bd.returns (by simp) (hb hby at_216) hr)
      · refine Fin.by (fun t k => XS.icmpYes X150.here hx rfl (pc0 := 146) (pc' := 153) rfl (hb hby at_146) rfl (feq q1).2 (by decide) (by decide) k) ?_
        show Fin _ _ _ _ _ _ _ (T150.setTop (mkF m 153 #[.val (.int p1), .val (.int p2), .val (.int p3), .val (.int (p1 &&& (3 : Int32))), .val (.ref b), .val (.ref a144), .val (.int (0 : Int32)), .unset, .unset, .unset] []))
        refine Fin.by (fun t k => XS.iconst X150.here hx rfl (hb hby at_153) k) ?_
        show Fin _ _ _ _ _ _ _ (T150.setTop (mkF m 154 #[.val (.int p1), .val (.int p2), .val (.int p3), .val (.int (p1 &&& (3 : Int32))), .val (.ref b), .val (.ref a144), .val (.int (0 : Int32)), .unset, .unset, .unset] [(.int (0 : Int32))]))
        refine Fin.by (fun t k => XS.istore X150.here hx rfl (hb hby at_154) rfl (l' := #[.val (.int p1), .val (.int p2), .val (.int p3), .val (.int (p1 &&& (3 : Int32))), .val (.ref b), .val (.ref a144), .val (.int (0 : Int32)), .val (.int (0 : Int32)), .unset, .unset]) rfl k) ?_
        show Fin _ _ _ _ _ _ _ (T150.setTop (mkF m 156 #[.val (.int p1), .val (.int p2), .val (.int p3), .val (.int (p1 &&& (3 : Int32))), .val (.ref b), .val (.ref a144), .val (.int (0 : Int32)), .val (.int (0 : Int32)), .unset, .unset] []))
        refine Fin.by (fun t k => XS.iload X150.here hx rfl (hb hby at_156) rfl k) ?_
        show Fin _ _ _ _ _ _ _ (T150.setTop (mkF m 158 #[.val (.int p1), .val (.int p2), .val (.int p3), .val (.int (p1 &&& (3 : Int32))), .val (.ref b), .val (.ref a144), .val (.int (0 : Int32)), .val (.int (0 : Int32)), .unset, .unset] [(.int (0 : Int32))]))
        refine Fin.by (fun t k => XS.ifNo X150.here hx rfl (hb hby at_158) rfl ((if0 _ _).trans (teq (rfl : (0 : Int32) = (0 : Int32))).2) k) ?_
        show Fin _ _ _ _ _ _ _ (T150.setTop (mkF m 161 #[.val (.int p1), .val (.int p2), .val (.int p3), .val (.int (p1 &&& (3 : Int32))), .val (.ref b), .val (.ref a144), .val (.int (0 : Int32)), .val (.int (0 : Int32)), .unset, .unset] []))
        refine Fin.by (fun t k => XS.iload X150.here hx rfl (hb hby at_161) rfl k) ?_
        show Fin _ _ _ _ _ _ _ (T150.setTop (mkF m 163 #[.val (.int p1), .val (.int p2), .val (.int p3), .val (.int (p1 &&& (3 : Int32))), .val (.ref b), .val (.ref a144), .val (.int (0 : Int32)), .val (.int (0 : Int32)), .unset, .unset] [(.int (0 : Int32))]))
        refine Fin.by (fun t k => XS.ifNo X150.here hx rfl (hb hby at_163) rfl ((if0 _ _).trans (teq (rfl : (0 : Int32) = (0 : Int32))).2) k) ?_
        show Fin _ _ _ _ _ _ _ (T150.setTop (mkF m 166 #[.val (.int p1), .val (.int p2), .val (.int p3), .val (.int (p1 &&& (3 : Int32))), .val (.ref b), .val (.ref a144), .val (.int (0 : Int32)), .val (.int (0 : Int32)), .unset, .unset] []))
        refine Fin.by (fun t k => XS.iconst X150.here hx rfl (hb hby at_166) k) ?_
        show Fin _ _ _ _ _ _ _ (T150.setTop (mkF m 167 #[.val (.int p1), .val (.int p2), .val (.int p3), .val (.int (p1 &&& (3 : Int32))), .val (.ref b), .val (.ref a144), .val (.int (0 : Int32)), .val (.int (0 : Int32)), .unset, .unset] [(.int (1 : Int32))]))
        exact Fin.ret (v := some (.int (nar .boolean (1 : Int32)))) X150 (fun h => by rw [Bd.returns] at h; cases h) Bd.notSynchronized (⟨rfl, N150_⟩) (by decide) (by decide) (fun fs hr => retN X150 hx (t := .boolean) Bd.returns (by simp) (hb hby at_167) hr)
    · refine Fin.by (fun t k => XS.icmpYes X150.here hx rfl (pc0 := 137) (pc' := 153) rfl (hb hby at_137) rfl (feq q0).2 (by decide) (by decide) k) ?_
      show Fin _ _ _ _ _ _ _ (T150.setTop (mkF m 153 #[.val (.int p1), .val (.int p2), .val (.int p3), .val (.int (p1 &&& (3 : Int32))), .val (.ref b), .val (.ref a144), .val (.int (0 : Int32)), .unset, .unset, .unset] []))
      refine Fin.by (fun t k => XS.iconst X150.here hx rfl (hb hby at_153) k) ?_
      show Fin _ _ _ _ _ _ _ (T150.setTop (mkF m 154 #[.val (.int p1), .val (.int p2), .val (.int p3), .val (.int (p1 &&& (3 : Int32))), .val (.ref b), .val (.ref a144), .val (.int (0 : Int32)), .unset, .unset, .unset] [(.int (0 : Int32))]))
      refine Fin.by (fun t k => XS.istore X150.here hx rfl (hb hby at_154) rfl (l' := #[.val (.int p1), .val (.int p2), .val (.int p3), .val (.int (p1 &&& (3 : Int32))), .val (.ref b), .val (.ref a144), .val (.int (0 : Int32)), .val (.int (0 : Int32)), .unset, .unset]) rfl k) ?_
      show Fin _ _ _ _ _ _ _ (T150.setTop (mkF m 156 #[.val (.int p1), .val (.int p2), .val (.int p3), .val (.int (p1 &&& (3 : Int32))), .val (.ref b), .val (.ref a144), .val (.int (0 : Int32)), .val (.int (0 : Int32)), .unset, .unset] []))
      refine Fin.by (fun t k => XS.iload X150.here hx rfl (hb hby at_156) rfl k) ?_
      show Fin _ _ _ _ _ _ _ (T150.setTop (mkF m 158 #[.val (.int p1), .val (.int p2), .val (.int p3), .val (.int (p1 &&& (3 : Int32))), .val (.ref b), .val (.ref a144), .val (.int (0 : Int32)), .val (.int (0 : Int32)), .unset, .unset] [(.int (0 : Int32))]))
      refine Fin.by (fun t k => XS.ifNo X150.here hx rfl (hb hby at_158) rfl ((if0 _ _).trans (teq (rfl : (0 : Int32) = (0 : Int32))).2) k) ?_
      show Fin _ _ _ _ _ _ _ (T150.setTop (mkF m 161 #[.val (.int p1), .val (.int p2), .val (.int p3), .val (.int (p1 &&& (3 : Int32))), .val (.ref b), .val (.ref a144), .val (.int (0 : Int32)), .val (.int (0 : Int32)), .unset, .unset] []))
      refine Fin.by (fun t k => XS.iload X150.here hx rfl (hb hby at_161) rfl k) ?_
      show Fin _ _ _ _ _ _ _ (T150.setTop (mkF m 163 #[.val (.int p1), .val (.int p2), .val (.int p3), .val (.int (p1 &&& (3 : Int32))), .val (.ref b), .val (.ref a144), .val (.int (0 : Int32)), .val (.int (0 : Int32)), .unset, .unset] [(.int (0 : Int32))]))
      refine Fin.by (fun t k => XS.ifNo X150.here hx rfl (hb hby at_163) rfl ((if0 _ _).trans (teq (rfl : (0 : Int32) = (0 : Int32))).2) k) ?_
      show Fin _ _ _ _ _ _ _ (T150.setTop (mkF m 166 #[.val (.int p1), .val (.int p2), .val (.int p3), .val (.int (p1 &&& (3 : Int32))), .val (.ref b), .val (.ref a144), .val (.int (0 : Int32)), .val (.int (0 : Int32)), .unset, .unset] []))
      refine Fin.by (fun t k => XS.iconst X150.here hx rfl (hb hby at_166) k) ?_
      show Fin _ _ _ _ _ _ _ (T150.setTop (mkF m 167 #[.val (.int p1), .val (.int p2), .val (.int p3), .val (.int (p1 &&& (3 : Int32))), .val (.ref b), .val (.ref a144), .val (.int (0 : Int32)), .val (.int (0 : Int32)), .unset, .unset] [(.int (1 : Int32))]))
      exact Fin.ret (v := some (.int (nar .boolean (1 : Int32)))) X150 (fun h => by rw [Bd.returns] at h; cases h) Bd.notSynchronized (⟨rfl, N150_⟩) (by decide) (by decide) (fun fs hr => retN X150 hx (t := .boolean) Bd.returns (by simp) (hb hby at_167) hr)
  by_cases h5 : (p1 &&& (3 : Int32)) = (0 : Int32)
  · refine Fin.by (fun t k => XS.ifNo X0.here hx rfl (hb hby at_5) rfl ((if0 _ _).trans (teq h5).2) k) ?_
    show Fin _ _ _ _ _ _ _ (s₁.setTop (mkF m 8 #[.val (.int p1), .val (.int p2), .val (.int p3), .val (.int (p1 &&& (3 : Int32))), .unset, .unset, .unset, .unset, .unset, .unset] []))
    refine Fin.by (fun t k => XS.iconst X0.here hx rfl (hb hby at_8) k) ?_
    show Fin _ _ _ _ _ _ _ (s₁.setTop (mkF m 9 #[.val (.int p1), .val (.int p2), .val (.int p3), .val (.int (p1 &&& (3 : Int32))), .unset, .unset, .unset, .unset, .unset, .unset] [(.int (1 : Int32))]))
    obtain ⟨T173, h173, k173, X173, e173, E173, A173, st173⟩ := newP X0 hx hZ (hw _ (List.mem_of_getElem? (i := 0) rfl)) e0 (g := (mkF m 9 #[.val (.int p1), .val (.int p2), .val (.int p3), .val (.int (p1 &&& (3 : Int32))), .unset, .unset, .unset, .unset, .unset, .unset] [(.int (1 : Int32))])) rfl (hb hby at_9) rfl (by decide) (cap := 1) (by decide) (by decide) (by decide) (by decide)
    obtain ⟨a173, g173⟩ : ∃ z, z = h0.size := ⟨_, rfl⟩
    rw [← g173] at A173 st173
    refine Fin.by (fun t k => st173 t k) ?_
    have V173 : Arv Z h173 a173 k173 .char (1 : Int32) [(.int (0 : Int32))] (.int (0 : Int32)) := (Arv.new A173 (by decide)).pad (pad_rep [] (.int (0 : Int32)) 1)
    show Fin _ _ _ _ _ _ _ (T173.setTop (mkF m 11 #[.val (.int p1), .val (.int p2), .val (.int p3), .val (.int (p1 &&& (3 : Int32))), .unset, .unset, .unset, .unset, .unset, .unset] [(.ref a173)]))
    refine Fin.by (fun t k => XS.dup X173.here hx rfl (hb hby at_11) rfl rfl k) ?_
    show Fin _ _ _ _ _ _ _ (T173.setTop (mkF m 12 #[.val (.int p1), .val (.int p2), .val (.int p3), .val (.int (p1 &&& (3 : Int32))), .unset, .unset, .unset, .unset, .unset, .unset] [(.ref a173), (.ref a173)]))
    refine Fin.by (fun t k => XS.iconst X173.here hx rfl (hb hby at_12) k) ?_
    show Fin _ _ _ _ _ _ _ (T173.setTop (mkF m 13 #[.val (.int p1), .val (.int p2), .val (.int p3), .val (.int (p1 &&& (3 : Int32))), .unset, .unset, .unset, .unset, .unset, .unset] [(.int (0 : Int32)), (.ref a173), (.ref a173)]))
    refine Fin.by (fun t k => XS.bipush X173.here hx rfl (hb hby at_13) k) ?_
    show Fin _ _ _ _ _ _ _ (T173.setTop (mkF m 15 #[.val (.int p1), .val (.int p2), .val (.int p3), .val (.int (p1 &&& (3 : Int32))), .unset, .unset, .unset, .unset, .unset, .unset] [(.int (114 : Int32)), (.int (0 : Int32)), (.ref a173), (.ref a173)]))
    obtain ⟨cl174, Ar174, q174, S174, N174, H174, G174⟩ := id V173
    obtain ⟨T174, h174, X174, e174, W174, st174⟩ := stC X173 hx hZ e173 Ar174 (j := (0 : Int32)) (inb_of S174 ⟨by decide, by decide⟩) (g := (mkF m 15 #[.val (.int p1), .val (.int p2), .val (.int p3), .val (.int (p1 &&& (3 : Int32))), .unset, .unset, .unset, .unset, .unset, .unset] [(.int (114 : Int32)), (.int (0 : Int32)), (.ref a173), (.ref a173)])) rfl rfl (hb hby at_15)
    have V174 : Arv Z h174 a173 k173 .char (1 : Int32) [(.int (nar .char (114 : Int32)))] (.int (0 : Int32)) := Arv.set Ar174 q174 S174 N174 H174 G174 (fits_nar_char _) W174 0 rfl (Nat.le_of_ble_eq_true rfl)
    have g175 : n0 ≤ a173 := Nat.le_trans Z0 (Nat.le_of_eq g173.symm)
    refine Fin.by (fun t k => st174 t k) ?_
    have N174_ := Fr.snoc X174 N0 g175
    show Fin _ _ _ _ _ _ _ (T174.setTop (mkF m 16 #[.val (.int p1), .val (.int p2), .val (.int p3), .val (.int (p1 &&& (3 : Int32))), .unset, .unset, .unset, .unset, .unset, .unset] [(.ref a173)]))
    refine Fin.by (fun t k => XS.astore X174.here hx rfl (hb hby at_16) rfl rfl (l' := #[.val (.int p1), .val (.int p2), .val (.int p3), .val (.int (p1 &&& (3 : Int32))), .val (.ref a173), .unset, .unset, .unset, .unset, .unset]) rfl k) ?_
    show Fin _ _ _ _ _ _ _ (T174.setTop (mkF m 18 #[.val (.int p1), .val (.int p2), .val (.int p3), .val (.int (p1 &&& (3 : Int32))), .val (.ref a173), .unset, .unset, .unset, .unset, .unset] []))
    refine Fin.by (fun t k => XS.goto X174.here hx rfl (pc0 := 18) (pc' := 90) rfl (hb hby at_18) (by decide) (by decide) k) ?_
    show Fin _ _ _ _ _ _ _ (T174.setTop (mkF m 90 #[.val (.int p1), .val (.int p2), .val (.int p3), .val (.int (p1 &&& (3 : Int32))), .val (.ref a173), .unset, .unset, .unset, .unset, .unset] []))
    have kp176 : Keep h0 h173 [] := (Keep.refl h0 []).ext E173
    have kp177 : Keep h0 h174 [] := kp176.wr W174 (Or.inr (Nat.le_trans (Nat.le_refl _) (Nat.le_of_eq g173.symm)))
    exact J1 T174 h174 _ a173 k173 (nar .char (114 : Int32)) (X174.more (by decide) (by decide)) e174 N174_ kp177 (Nat.le_trans (Nat.le_refl _) (Nat.le_of_eq g173.symm)) V174 (by decide)
  · refine Fin.by (fun t k => XS.ifYes X0.here hx rfl (pc0 := 5) (pc' := 21) rfl (hb hby at_5) rfl ((if0 _ _).trans (feq h5).2) (by decide) (by decide) k) ?_
    show Fin _ _ _ _ _ _ _ (s₁.setTop (mkF m 21 #[.val (.int p1), .val (.int p2), .val (.int p3), .val (.int (p1 &&& (3 : Int32))), .unset, .unset, .unset, .unset, .unset, .unset] []))
    refine Fin.by (fun t k => XS.iloadN X0.here hx rfl (hb hby at_21) rfl k) ?_
    show Fin _ _ _ _ _ _ _ (s₁.setTop (mkF m 22 #[.val (.int p1), .val (.int p2), .val (.int p3), .val (.int (p1 &&& (3 : Int32))), .unset, .unset, .unset, .unset, .unset, .unset] [(.int (p1 &&& (3 : Int32)))]))
    refine Fin.by (fun t k => XS.iconst X0.here hx rfl (hb hby at_22) k) ?_
    show Fin _ _ _ _ _ _ _ (s₁.setTop (mkF m 23 #[.val (.int p1), .val (.int p2), .val (.int p3), .val (.int (p1 &&& (3 : Int32))), .unset, .unset, .unset, .unset, .unset, .unset] [(.int (1 : Int32)), (.int (p1 &&& (3 : Int32)))]))
    by_cases h23 : (p1 &&& (3 : Int32)) = (1 : Int32)
    · refine Fin.by (fun t k => XS.icmpNo X0.here hx rfl (hb hby at_23) rfl (teq h23).2 k) ?_
      show Fin _ _ _ _ _ _ _ (s₁.setTop (mkF m 26 #[.val (.int p1), .val (.int p2), .val (.int p3), .val (.int (p1 &&& (3 : Int32))), .unset, .unset, .unset, .unset, .unset, .unset] []))
      refine Fin.by (fun t k => XS.iconst X0.here hx rfl (hb hby at_26) k) ?_
      show Fin _ _ _ _ _ _ _ (s₁.setTop (mkF m 27 #[.val (.int p1), .val (.int p2), .val (.int p3), .val (.int (p1 &&& (3 : Int32))), .unset, .unset, .unset, .unset, .unset, .unset] [(.int (2 : Int32))]))
      obtain ⟨T178, h178, k178, X178, e178, E178, A178, st178⟩ := newP X0 hx hZ (hw _ (List.mem_of_getElem? (i := 0) rfl)) e0 (g := (mkF m 27 #[.val (.int p1), .val (.int p2), .val (.int p3), .val (.int (p1 &&& (3 : Int32))), .unset, .unset, .unset, .unset, .unset, .unset] [(.int (2 : Int32))])) rfl (hb hby at_27) rfl (by decide) (cap := 2) (by decide) (by decide) (by decide) (by decide)
      obtain ⟨a178, g178⟩ : ∃ z, z = h0.size := ⟨_, rfl⟩
      rw [← g178] at A178 st178
      refine Fin.by (fun t k => st178 t k) ?_
      have V178 : Arv Z h178 a178 k178 .char (2 : Int32) [(.int (0 : Int32)), (.int (0 : Int32))] (.int (0 : Int32)) := (Arv.new A178 (by decide)).pad (pad_rep [] (.int (0 : Int32)) 2)
      show Fin _ _ _ _ _ _ _ (T178.setTop (mkF m 29 #[.val (.int p1), .val (.int p2), .val (.int p3), .val (.int (p1 &&& (3 : Int32))), .unset, .unset, .unset, .unset, .unset, .unset] [(.ref a178)]))
      refine Fin.by (fun t k => XS.dup X178.here hx rfl (hb hby at_29) rfl rfl k) ?_
      show Fin _ _ _ _ _ _ _ (T178.setTop (mkF m 30 #[.val (.int p1), .val (.int p2), .val (.int p3), .val (.int (p1 &&& (3 : Int32))), .unset, .unset, .unset, .unset, .unset, .unset] [(.ref a178), (.ref a178)]))
      refine Fin.by (fun t k => XS.iconst X178.here hx rfl (hb hby at_30) k) ?_
      show Fin _ _ _ _ _ _ _ (T178.setTop (mkF m 31 #[.val (.int p1), .val (.int p2), .val (.int p3), .val (.int (p1 &&& (3 : Int32))), .unset, .unset, .unset, .unset, .unset, .unset] [(.int (0 : Int32)), (.ref a178), (.ref a178)]))
      refine Fin.by (fun t k => XS.bipush X178.here hx rfl (hb hby at_31) k) ?_
      show Fin _ _ _ _ _ _ _ (T178.setTop (mkF m 33 #[.val (.int p1), .val (.int p2), .val (.int p3), .val (.int (p1 &&& (3 : Int32))), .unset, .unset, .unset, .unset, .unset, .unset] [(.int (114 : Int32)), (.int (0 : Int32)), (.ref a178), (.ref a178)]))
      obtain ⟨cl179, Ar179, q179, S179, N179, H179, G179⟩ := id V178
      obtain ⟨T179, h179, X179, e179, W179, st179⟩ := stC X178 hx hZ e178 Ar179 (j := (0 : Int32)) (inb_of S179 ⟨by decide, by decide⟩) (g := (mkF m 33 #[.val (.int p1), .val (.int p2), .val (.int p3), .val (.int (p1 &&& (3 : Int32))), .unset, .unset, .unset, .unset, .unset, .unset] [(.int (114 : Int32)), (.int (0 : Int32)), (.ref a178), (.ref a178)])) rfl rfl (hb hby at_33)
      have V179 : Arv Z h179 a178 k178 .char (2 : Int32) [(.int (nar .char (114 : Int32))), (.int (0 : Int32))] (.int (0 : Int32)) := Arv.set Ar179 q179 S179 N179 H179 G179 (fits_nar_char _) W179 0 rfl (Nat.le_of_ble_eq_true rfl)
      have g180 : n0 ≤ a178 := Nat.le_trans Z0 (Nat.le_of_eq g178.symm)
      refine Fin.by (fun t k => st179 t k) ?_
      have N179_ := Fr.snoc X179 N0 g180
      show Fin _ _ _ _ _ _ _ (T179.setTop (mkF m 34 #[.val (.int p1), .val (.int p2), .val (.int p3), .val (.int (p1 &&& (3 : Int32))), .unset, .unset, .unset, .unset, .unset, .unset] [(.ref a178)]))
      refine Fin.by (fun t k => XS.dup X179.here hx rfl (hb hby at_34) rfl rfl k) ?_
      show Fin _ _ _ _ _ _ _ (T179.setTop (mkF m 35 #[.val (.int p1), .val (.int p2), .val (.int p3), .val (.int (p1 &&& (3 : Int32))), .unset, .unset, .unset, .unset, .unset, .unset] [(.ref a178), (.ref a178)]))
      refine Fin.by (fun t k => XS.iconst X179.here hx rfl (hb hby at_35) k) ?_
      show Fin _ _ _ _ _ _ _ (T179.setTop (mkF m 36 #[.val (.int p1), .val (.int p2), .val (.int p3), .val (.int (p1 &&& (3 : Int32))), .unset, .unset, .unset, .unset, .unset, .unset] [(.int (1 : Int32)), (.ref a178), (.ref a178)]))
      refine Fin.by (fun t k => XS.bipush X179.here hx rfl (hb hby at_36) k) ?_
      show Fin _ _ _ _ _ _ _ (T179.setTop (mkF m 38 #[.val (.int p1), .val (.int p2), .val (.int p3), .val (.int (p1 &&& (3 : Int32))), .unset, .unset, .unset, .unset, .unset, .unset] [(.int (119 : Int32)), (.int (1 : Int32)), (.ref a178), (.ref a178)]))
      obtain ⟨cl181, Ar181, q181, S181, N181, H181, G181⟩ := id V179
      obtain ⟨T181, h181, X181, e181, W181, st181⟩ := stC X179 hx hZ e179 Ar181 (j := (1 : Int32)) (inb_of S181 ⟨by decide, by decide⟩) (g := (mkF m 38 #[.val (.int p1), .val (.int p2), .val (.int p3), .val (.int (p1 &&& (3 : Int32))), .unset, .unset, .unset, .unset, .unset, .unset] [(.int (119 : Int32)), (.int (1 : Int32)), (.ref a178), (.ref a178)])) rfl rfl (hb hby at_38)
      have V181 : Arv Z h181 a178 k178 .char (2 : Int32) [(.int (nar .char (114 : Int32))), (.int (nar .char (119 : Int32)))] (.int (0 : Int32)) := Arv.set Ar181 q181 S181 N181 H181 G181 (fits_nar_char _) W181 1 rfl (Nat.le_of_ble_eq_true rfl)
      refine Fin.by (fun t k => st181 t k) ?_
      have N181_ := Fr.snoc X181 N179_ g180
      show Fin _ _ _ _ _ _ _ (T181.setTop (mkF m 39 #[.val (.int p1), .val (.int p2), .val (.int p3), .val (.int (p1 &&& (3 : Int32))), .unset, .unset, .unset, .unset, .unset, .unset] [(.ref a178)]))
      refine Fin.by (fun t k => XS.astore X181.here hx rfl (hb hby at_39) rfl rfl (l' := #[.val (.int p1), .val (.int p2), .val (.int p3), .val (.int (p1 &&& (3 : Int32))), .val (.ref a178), .unset, .unset, .unset, .unset, .unset]) rfl k) ?_
      show Fin _ _ _ _ _ _ _ (T181.setTop (mkF m 41 #[.val (.int p1), .val (.int p2), .val (.int p3), .val (.int (p1 &&& (3 : Int32))), .val (.ref a178), .unset, .unset, .unset, .unset, .unset] []))
      refine Fin.by (fun t k => XS.goto X181.here hx rfl (pc0 := 41) (pc' := 90) rfl (hb hby at_41) (by decide) (by decide) k) ?_
      show Fin _ _ _ _ _ _ _ (T181.setTop (mkF m 90 #[.val (.int p1), .val (.int p2), .val (.int p3), .val (.int (p1 &&& (3 : Int32))), .val (.ref a178), .unset, .unset, .unset, .unset, .unset] []))
      have kp182 : Keep h0 h178 [] := (Keep.refl h0 []).ext E178
      have kp183 : Keep h0 h179 [] := kp182.wr W179 (Or.inr (Nat.le_trans (Nat.le_refl _) (Nat.le_of_eq g178.symm)))
      have kp184 : Keep h0 h181 [] := kp183.wr W181 (Or.inr (Nat.le_trans (Nat.le_refl _) (Nat.le_of_eq g178.symm)))
      exact J2 T181 h181 _ a178 k178 (nar .char (114 : Int32)) (nar .char (119 : Int32)) X181 e181 N181_ kp184 (Nat.le_trans (Nat.le_refl _) (Nat.le_of_eq g178.symm)) V181 (by decide) (by decide)
    · refine Fin.by (fun t k => XS.icmpYes X0.here hx rfl (pc0 := 23) (pc' := 44) rfl (hb hby at_23) rfl (feq h23).2 (by decide) (by decide) k) ?_
      show Fin _ _ _ _ _ _ _ (s₁.setTop (mkF m 44 #[.val (.int p1), .val (.int p2), .val (.int p3), .val (.int (p1 &&& (3 : Int32))), .unset, .unset, .unset, .unset, .unset, .unset] []))
      refine Fin.by (fun t k => XS.iloadN X0.here hx rfl (hb hby at_44) rfl k) ?_
      show Fin _ _ _ _ _ _ _ (s₁.setTop (mkF m 45 #[.val (.int p1), .val (.int p2), .val (.int p3), .val (.int (p1 &&& (3 : Int32))), .unset, .unset, .unset, .unset, .unset, .unset] [(.int p1)]))
      refine Fin.by (fun t k => XS.iconst X0.here hx rfl (hb hby at_45) k) ?_
      show Fin _ _ _ _ _ _ _ (s₁.setTop (mkF m 46 #[.val (.int p1), .val (.int p2), .val (.int p3), .val (.int (p1 &&& (3 : Int32))), .unset, .unset, .unset, .unset, .unset, .unset] [(.int (4 : Int32)), (.int p1)]))
      refine Fin.by (fun t k => XS.iand X0.here hx rfl (hb hby at_46) rfl k) ?_
      show Fin _ _ _ _ _ _ _ (s₁.setTop (mkF m 47 #[.val (.int p1), .val (.int p2), .val (.int p3), .val (.int (p1 &&& (3 : Int32))), .unset, .unset, .unset, .unset, .unset, .unset] [(.int (p1 &&& (4 : Int32)))]))
      by_cases h47 : (p1 &&& (4 : Int32)) = (0 : Int32)
      · refine Fin.by (fun t k => XS.ifNo X0.here hx rfl (hb hby at_47) rfl ((if0 _ _).trans (teq h47).2) k) ?_
        show Fin _ _ _ _ _ _ _ (s₁.setTop (mkF m 50 #[.val (.int p1), .val (.int p2), .val (.int p3), .val (.int (p1 &&& (3 : Int32))), .unset, .unset, .unset, .unset, .unset, .unset] []))
        refine Fin.by (fun t k => XS.iconst X0.here hx rfl (hb hby at_50) k) ?_
        show Fin _ _ _ _ _ _ _ (s₁.setTop (mkF m 51 #[.val (.int p1), .val (.int p2), .val (.int p3), .val (.int (p1 &&& (3 : Int32))), .unset, .unset, .unset, .unset, .unset, .unset] [(.int (1 : Int32))]))
        obtain ⟨T185, h185, k185, X185, e185, E185, A185, st185⟩ := newP X0 hx hZ (hw _ (List.mem_of_getElem? (i := 0) rfl)) e0 (g := (mkF m 51 #[.val (.int p1), .val (.int p2), .val (.int p3), .val (.int (p1 &&& (3 : Int32))), .unset, .unset, .unset, .unset, .unset, .unset] [(.int (1 : Int32))])) rfl (hb hby at_51) rfl (by decide) (cap := 1) (by decide) (by decide) (by decide) (by decide)
        obtain ⟨a185, g185⟩ : ∃ z, z = h0.size := ⟨_, rfl⟩
        rw [← g185] at A185 st185
        refine Fin.by (fun t k => st185 t k) ?_
        have V185 : Arv Z h185 a185 k185 .char (1 : Int32) [(.int (0 : Int32))] (.int (0 : Int32)) := (Arv.new A185 (by decide)).pad (pad_rep [] (.int (0 : Int32)) 1)
        show Fin _ _ _ _ _ _ _ (T185.setTop (mkF m 53 #[.val (.int p1), .val (.int p2), .val (.int p3), .val (.int (p1 &&& (3 : Int32))), .unset, .unset, .unset, .unset, .unset, .unset] [(.ref a185)]))
        refine Fin.by (fun t k => XS.dup X185.here hx rfl (hb hby at_53) rfl rfl k) ?_
        show Fin _ _ _ _ _ _ _ (T185.setTop (mkF m 54 #[.val (.int p1), .val (.int p2), .val (.int p3), .val (.int (p1 &&& (3 : Int32))), .unset, .unset, .unset, .unset, .unset, .unset] [(.ref a185), (.ref a185)]))
        refine Fin.by (fun t k => XS.iconst X185.here hx rfl (hb hby at_54) k) ?_
        show Fin _ _ _ _ _ _ _ (T185.setTop (mkF m 55 #[.val (.int p1), .val (.int p2), .val (.int p3), .val (.int (p1 &&& (3 : Int32))), .unset, .unset, .unset, .unset, .unset, .unset] [(.int (0 : Int32)), (.ref a185), (.ref a185)]))
        refine Fin.by (fun t k => XS.iloadN X185.here hx rfl (hb hby at_55) rfl k) ?_
        show Fin _ _ _ _ _ _ _ (T185.setTop (mkF m 56 #[.val (.int p1), .val (.int p2), .val (.int p3), .val (.int (p1 &&& (3 : Int32))), .unset, .unset, .unset, .unset, .unset, .unset] [(.int p2), (.int (0 : Int32)), (.ref a185), (.ref a185)]))
        refine Fin.by (fun t k => XS.sipush X185.here hx rfl (hb hby at_56) k) ?_
        show Fin _ _ _ _ _ _ _ (T185.setTop (mkF m 59 #[.val (.int p1), .val (.int p2), .val (.int p3), .val (.int (p1 &&& (3 : Int32))), .unset, .unset, .unset, .unset, .unset, .unset] [(.int (255 : Int32)), (.int p2), (.int (0 : Int32)), (.ref a185), (.ref a185)]))
        refine Fin.by (fun t k => XS.iand X185.here hx rfl (hb hby at_59) rfl k) ?_
        show Fin _ _ _ _ _ _ _ (T185.setTop (mkF m 60 #[.val (.int p1), .val (.int p2), .val (.int p3), .val (.int (p1 &&& (3 : Int32))), .unset, .unset, .unset, .unset, .unset, .unset] [(.int (p2 &&& (255 : Int32))), (.int (0 : Int32)), (.ref a185), (.ref a185)]))
        refine Fin.by (fun t k => XS.i2c X185.here hx rfl (hb hby at_60) rfl k) ?_
        show Fin _ _ _ _ _ _ _ (T185.setTop (mkF m 61 #[.val (.int p1), .val (.int p2), .val (.int p3), .val (.int (p1 &&& (3 : Int32))), .unset, .unset, .unset, .unset, .unset, .unset] [(.int ((p2 &&& (255 : Int32)).toUInt32.toUInt16.toUInt32.toInt32)), (.int (0 : Int32)), (.ref a185), (.ref a185)]))
        obtain ⟨cl186, Ar186, q186, S186, N186, H186, G186⟩ := id V185
        obtain ⟨T186, h186, X186, e186, W186, st186⟩ := stC X185 hx hZ e185 Ar186 (j := (0 : Int32)) (inb_of S186 ⟨by decide, by decide⟩) (g := (mkF m 61 #[.val (.int p1), .val (.int p2), .val (.int p3), .val (.int (p1 &&& (3 : Int32))), .unset, .unset, .unset, .unset, .unset, .unset] [(.int ((p2 &&& (255 : Int32)).toUInt32.toUInt16.toUInt32.toInt32)), (.int (0 : Int32)), (.ref a185), (.ref a185)])) rfl rfl (hb hby at_61)
        have V186 : Arv Z h186 a185 k185 .char (1 : Int32) [(.int (nar .char ((p2 &&& (255 : Int32)).toUInt32.toUInt16.toUInt32.toInt32)))] (.int (0 : Int32)) := Arv.set Ar186 q186 S186 N186 H186 G186 (fits_nar_char _) W186 0 rfl (Nat.le_of_ble_eq_true rfl)
        have g187 : n0 ≤ a185 := Nat.le_trans Z0 (Nat.le_of_eq g185.symm)
        refine Fin.by (fun t k => st186 t k) ?_
        have N186_ := Fr.snoc X186 N0 g187
        show Fin _ _ _ _ _ _ _ (T186.setTop (mkF m 62 #[.val (.int p1), .val (.int p2), .val (.int p3), .val (.int (p1 &&& (3 : Int32))), .unset, .unset, .unset, .unset, .unset, .unset] [(.ref a185)]))
        refine Fin.by (fun t k => XS.astore X186.here hx rfl (hb hby at_62) rfl rfl (l' := #[.val (.int p1), .val (.int p2), .val (.int p3), .val (.int (p1 &&& (3 : Int32))), .val (.ref a185), .unset, .unset, .unset, .unset, .unset]) rfl k) ?_
        show Fin _ _ _ _ _ _ _ (T186.setTop (mkF m 64 #[.val (.int p1), .val (.int p2), .val (.int p3), .val (.int (p1 &&& (3 : Int32))), .val (.ref a185), .unset, .unset, .unset, .unset, .unset] []))
        refine Fin.by (fun t k => XS.goto X186.here hx rfl (pc0 := 64) (pc' := 90) rfl (hb hby at_64) (by decide) (by decide) k) ?_
        show Fin _ _ _ _ _ _ _ (T186.setTop (mkF m 90 #[.val (.int p1), .val (.int p2), .val (.int p3), .val (.int (p1 &&& (3 : Int32))), .val (.ref a185), .unset, .unset, .unset, .unset, .unset] []))
        have kp188 : Keep h0 h185 [] := (Keep.refl h0 []).ext E185
        have kp189 : Keep h0 h186 [] := kp188.wr W186 (Or.inr (Nat.le_trans (Nat.le_refl _) (Nat.le_of_eq g185.symm)))
        exact J1 T186 h186 _ a185 k185 (nar .char ((p2 &&& (255 : Int32)).toUInt32.toUInt16.toUInt32.toInt32)) (X186.more (by decide) (by decide)) e186 N186_ kp189 (Nat.le_trans (Nat.le_refl _) (Nat.le_of_eq g185.symm)) V186 (own_c255 _)
      · refine Fin.by (fun t k => XS.ifYes X0.here hx rfl (pc0 := 47) (pc' := 67) rfl (hb hby at_47) rfl ((if0 _ _).trans (feq h47).2) (by decide) (by decide) k) ?_
        show Fin _ _ _ _ _ _ _ (s₁.setTop (mkF m 67 #[.val (.int p1), .val (.int p2), .val (.int p3), .val (.int (p1 &&& (3 : Int32))), .unset, .unset, .unset, .unset, .unset, .unset] []))
        refine Fin.by (fun t k => XS.iconst X0.here hx rfl (hb hby at_67) k) ?_
        show Fin _ _ _ _ _ _ _ (s₁.setTop (mkF m 68 #[.val (.int p1), .val (.int p2), .val (.int p3), .val (.int (p1 &&& (3 : Int32))), .unset, .unset, .unset, .unset, .unset, .unset] [(.int (2 : Int32))]))
        obtain ⟨T190, h190, k190, X190, e190, E190, A190, st190⟩ := newP X0 hx hZ (hw _ (List.mem_of_getElem? (i := 0) rfl)) e0 (g := (mkF m 68 #[.val (.int p1), .val (.int p2), .val (.int p3), .val (.int (p1 &&& (3 : Int32))), .unset, .unset, .unset, .unset, .unset, .unset] [(.int (2 : Int32))])) rfl (hb hby at_68) rfl (by decide) (cap := 2) (by decide) (by decide) (by decide) (by decide)
        obtain ⟨a190, g190⟩ : ∃ z, z = h0.size := ⟨_, rfl⟩
        rw [← g190] at A190 st190
        refine Fin.by (fun t k => st190 t k) ?_
        have V190 : Arv Z h190 a190 k190 .char (2 : Int32) [(.int (0 : Int32)), (.int (0 : Int32))] (.int (0 : Int32)) := (Arv.new A190 (by decide)).pad (pad_rep [] (.int (0 : Int32)) 2)
        show Fin _ _ _ _ _ _ _ (T190.setTop (mkF m 70 #[.val (.int p1), .val (.int p2), .val (.int p3), .val (.int (p1 &&& (3 : Int32))), .unset, .unset, .unset, .unset, .unset, .unset] [(.ref a190)]))
        refine Fin.by (fun t k => XS.dup X190.here hx rfl (hb hby at_70) rfl rfl k) ?_
        show Fin _ _ _ _ _ _ _ (T190.setTop (mkF m 71 #[.val (.int p1), .val (.int p2), .val (.int p3), .val (.int (p1 &&& (3 : Int32))), .unset, .unset, .unset, .unset, .unset, .unset] [(.ref a190), (.ref a190)]))
        refine Fin.by (fun t k => XS.iconst X190.here hx rfl (hb hby at_71) k) ?_
        show Fin _ _ _ _ _ _ _ (T190.setTop (mkF m 72 #[.val (.int p1), .val (.int p2), .val (.int p3), .val (.int (p1 &&& (3 : Int32))), .unset, .unset, .unset, .unset, .unset, .unset] [(.int (0 : Int32)), (.ref a190), (.ref a190)]))
        refine Fin.by (fun t k => XS.iloadN X190.here hx rfl (hb hby at_72) rfl k) ?_
        show Fin _ _ _ _ _ _ _ (T190.setTop (mkF m 73 #[.val (.int p1), .val (.int p2), .val (.int p3), .val (.int (p1 &&& (3 : Int32))), .unset, .unset, .unset, .unset, .unset, .unset] [(.int p2), (.int (0 : Int32)), (.ref a190), (.ref a190)]))
        refine Fin.by (fun t k => XS.sipush X190.here hx rfl (hb hby at_73) k) ?_
        show Fin _ _ _ _ _ _ _ (T190.setTop (mkF m 76 #[.val (.int p1), .val (.int p2), .val (.int p3), .val (.int (p1 &&& (3 : Int32))), .unset, .unset, .unset, .unset, .unset, .unset] [(.int (255 : Int32)), (.int p2), (.int (0 : Int32)), (.ref a190), (.ref a190)]))
        refine Fin.by (fun t k => XS.iand X190.here hx rfl (hb hby at_76) rfl k) ?_
        show Fin _ _ _ _ _ _ _ (T190.setTop (mkF m 77 #[.val (.int p1), .val (.int p2), .val (.int p3), .val (.int (p1 &&& (3 : Int32))), .unset, .unset, .unset, .unset, .unset, .unset] [(.int (p2 &&& (255 : Int32))), (.int (0 : Int32)), (.ref a190), (.ref a190)]))
        refine Fin.by (fun t k => XS.i2c X190.here hx rfl (hb hby at_77) rfl k) ?_
        show Fin _ _ _ _ _ _ _ (T190.setTop (mkF m 78 #[.val (.int p1), .val (.int p2), .val (.int p3), .val (.int (p1 &&& (3 : Int32))), .unset, .unset, .unset, .unset, .unset, .unset] [(.int ((p2 &&& (255 : Int32)).toUInt32.toUInt16.toUInt32.toInt32)), (.int (0 : Int32)), (.ref a190), (.ref a190)]))
        obtain ⟨cl191, Ar191, q191, S191, N191, H191, G191⟩ := id V190
        obtain ⟨T191, h191, X191, e191, W191, st191⟩ := stC X190 hx hZ e190 Ar191 (j := (0 : Int32)) (inb_of S191 ⟨by decide, by decide⟩) (g := (mkF m 78 #[.val (.int p1), .val (.int p2), .val (.int p3), .val (.int (p1 &&& (3 : Int32))), .unset, .unset, .unset, .unset, .unset, .unset] [(.int ((p2 &&& (255 : Int32)).toUInt32.toUInt16.toUInt32.toInt32)), (.int (0 : Int32)), (.ref a190), (.ref a190)])) rfl rfl (hb hby at_78)
        have V191 : Arv Z h191 a190 k190 .char (2 : Int32) [(.int (nar .char ((p2 &&& (255 : Int32)).toUInt32.toUInt16.toUInt32.toInt32))), (.int (0 : Int32))] (.int (0 : Int32)) := Arv.set Ar191 q191 S191 N191 H191 G191 (fits_nar_char _) W191 0 rfl (Nat.le_of_ble_eq_true rfl)
        have g192 : n0 ≤ a190 := Nat.le_trans Z0 (Nat.le_of_eq g190.symm)
        refine Fin.by (fun t k => st191 t k) ?_
        have N191_ := Fr.snoc X191 N0 g192
        show Fin _ _ _ _ _ _ _ (T191.setTop (mkF m 79 #[.val (.int p1), .val (.int p2), .val (.int p3), .val (.int (p1 &&& (3 : Int32))), .unset, .unset, .unset, .unset, .unset, .unset] [(.ref a190)]))
        refine Fin.by (fun t k => XS.dup X191.here hx rfl (hb hby at_79) rfl rfl k) ?_
        show Fin _ _ _ _ _ _ _ (T191.setTop (mkF m 80 #[.val (.int p1), .val (.int p2), .val (.int p3), .val (.int (p1 &&& (3 : Int32))), .unset, .unset, .unset, .unset, .unset, .unset] [(.ref a190), (.ref a190)]))
        refine Fin.by (fun t k => XS.iconst X191.here hx rfl (hb hby at_80) k) ?_
        show Fin _ _ _ _ _ _ _ (T191.setTop (mkF m 81 #[.val (.int p1), .val (.int p2), .val (.int p3), .val (.int (p1 &&& (3 : Int32))), .unset, .unset, .unset, .unset, .unset, .unset] [(.int (1 : Int32)), (.ref a190), (.ref a190)]))
        refine Fin.by (fun t k => XS.iloadN X191.here hx rfl (hb hby at_81) rfl k) ?_
        show Fin _ _ _ _ _ _ _ (T191.setTop (mkF m 82 #[.val (.int p1), .val (.int p2), .val (.int p3), .val (.int (p1 &&& (3 : Int32))), .unset, .unset, .unset, .unset, .unset, .unset] [(.int p3), (.int (1 : Int32)), (.ref a190), (.ref a190)]))
        refine Fin.by (fun t k => XS.sipush X191.here hx rfl (hb hby at_82) k) ?_
        show Fin _ _ _ _ _ _ _ (T191.setTop (mkF m 85 #[.val (.int p1), .val (.int p2), .val (.int p3), .val (.int (p1 &&& (3 : Int32))), .unset, .unset, .unset, .unset, .unset, .unset] [(.int (255 : Int32)), (.int p3), (.int (1 : Int32)), (.ref a190), (.ref a190)]))
        refine Fin.by (fun t k => XS.iand X191.here hx rfl (hb hby at_85) rfl k) ?_
        show Fin _ _ _ _ _ _ _ (T191.setTop (mkF m 86 #[.val (.int p1), .val (.int p2), .val (.int p3), .val (.int (p1 &&& (3 : Int32))), .unset, .unset, .unset, .unset, .unset, .unset] [(.int (p3 &&& (255 : Int32))), (.int (1 : Int32)), (.ref a190), (.ref a190)]))
        refine Fin.by (fun t k => XS.i2c X191.here hx rfl (hb hby at_86) rfl k) ?_
        show Fin _ _ _ _ _ _ _ (T191.setTop (mkF m 87 #[.val (.int p1), .val (.int p2), .val (.int p3), .val (.int (p1 &&& (3 : Int32))), .unset, .unset, .unset, .unset, .unset, .unset] [(.int ((p3 &&& (255 : Int32)).toUInt32.toUInt16.toUInt32.toInt32)), (.int (1 : Int32)), (.ref a190), (.ref a190)]))
        obtain ⟨cl193, Ar193, q193, S193, N193, H193, G193⟩ := id V191
        obtain ⟨T193, h193, X193, e193, W193, st193⟩ := stC X191 hx hZ e191 Ar193 (j := (1 : Int32)) (inb_of S193 ⟨by decide, by decide⟩) (g := (mkF m 87 #[.val (.int p1), .val (.int p2), .val (.int p3), .val (.int (p1 &&& (3 : Int32))), .unset, .unset, .unset, .unset, .unset, .unset] [(.int ((p3 &&& (255 : Int32)).toUInt32.toUInt16.toUInt32.toInt32)), (.int (1 : Int32)), (.ref a190), (.ref a190)])) rfl rfl (hb hby at_87)
        have V193 : Arv Z h193 a190 k190 .char (2 : Int32) [(.int (nar .char ((p2 &&& (255 : Int32)).toUInt32.toUInt16.toUInt32.toInt32))), (.int (nar .char ((p3 &&& (255 : Int32)).toUInt32.toUInt16.toUInt32.toInt32)))] (.int (0 : Int32)) := Arv.set Ar193 q193 S193 N193 H193 G193 (fits_nar_char _) W193 1 rfl (Nat.le_of_ble_eq_true rfl)
        refine Fin.by (fun t k => st193 t k) ?_
        have N193_ := Fr.snoc X193 N191_ g192
        show Fin _ _ _ _ _ _ _ (T193.setTop (mkF m 88 #[.val (.int p1), .val (.int p2), .val (.int p3), .val (.int (p1 &&& (3 : Int32))), .unset, .unset, .unset, .unset, .unset, .unset] [(.ref a190)]))
        refine Fin.by (fun t k => XS.astore X193.here hx rfl (hb hby at_88) rfl rfl (l' := #[.val (.int p1), .val (.int p2), .val (.int p3), .val (.int (p1 &&& (3 : Int32))), .val (.ref a190), .unset, .unset, .unset, .unset, .unset]) rfl k) ?_
        show Fin _ _ _ _ _ _ _ (T193.setTop (mkF m 90 #[.val (.int p1), .val (.int p2), .val (.int p3), .val (.int (p1 &&& (3 : Int32))), .val (.ref a190), .unset, .unset, .unset, .unset, .unset] []))
        have kp194 : Keep h0 h190 [] := (Keep.refl h0 []).ext E190
        have kp195 : Keep h0 h191 [] := kp194.wr W191 (Or.inr (Nat.le_trans (Nat.le_refl _) (Nat.le_of_eq g190.symm)))
        have kp196 : Keep h0 h193 [] := kp195.wr W193 (Or.inr (Nat.le_trans (Nat.le_refl _) (Nat.le_of_eq g190.symm)))
        exact J2 T193 h193 _ a190 k190 (nar .char ((p2 &&& (255 : Int32)).toUInt32.toUInt16.toUInt32.toInt32)) (nar .char ((p3 &&& (255 : Int32)).toUInt32.toUInt16.toUInt32.toInt32)) X193 e193 N193_ kp196 (Nat.le_trans (Nat.le_refl _) (Nat.le_of_eq g190.symm)) V193 (own_c255 _) (own_c255 _)
set_option maxRecDepth 65536 in
set_option maxHeartbeats 40000000 in
theorem comes_1 {Post : Tables → Env → Array Value → State → Outcome → State → Prop} (hpost : ∀ tb e args s v u, (limb_1_1.after args s (.returned v) u = true ∧ limb_1_2.after args s (.returned v) u = true ∧ True) → FrameEnd s (.returned v) u (Jvm.fieldLocs frame_1_writes args s ++ Jvm.arrayLocs frame_1_arrays args s ++ Jvm.staticLocs frame_1_statics s) 16 128 → Post tb e args s (.returned v) u) :
    ArmFor flags0 classFile x code maxLocals ret World_1 tables_1 room_1 Calls_1 rest_1 Pre_1 Post := by
  intro l hfl _ _ p e ha hc hk s m args below hf hA hF happ hP
  obtain ⟨hcalls, hrest, hpre⟩ := hP
  obtain ⟨-, -, -, hnamed, -, -, -, hat⟩ := (Spec.applies_iff hf).mp happ
  obtain ⟨hg, hn⟩ := and_e (Cond.before_iff.mp (show (Jvm.Cond.and given_1 narrow_1).before args s = true from hpre))
  obtain ⟨q0, r0⟩ := and_e hg
  obtain ⟨q1, r1⟩ := and_e r0
  obtain ⟨q2, r2⟩ := and_e r1
  obtain ⟨w0, w1, w2, rfl⟩ : ∃ w0 w1 w2 : Value, args = #[w0, w1, w2] := by
    have hs : args.size = 3 := by simpa [Cond.value, given_1] using q0
    obtain ⟨L⟩ := args
    match L, hs with
    | [w0, w1, w2], _ => exact ⟨w0, w1, w2, rfl⟩
  have hw := fun d (hd : d ∈ tables_1) => atoms_spec (ws := Jvm.Cond.code x code maxLocals ret :: tables_1) hat d (List.mem_cons_of_mem _ hd)
  obtain ⟨hsets, hown0⟩ := atoms_of _ (rest_1_c_eq ▸ (show rest_1_c.before _ s = true from hrest))
  have hfit : Fit s := fun {y c} hc i hi => by
    obtain ⟨ha, rfl⟩ := Array.getElem?_eq_some_iff.mp hc
    have q := List.all_eq_true.mp ((Array.all_eq_true_iff_forall_mem.mp hF) _ (Array.getElem_mem ha)) i (List.mem_range.mpr hi)
    simpa [Array.getElem?_eq_getElem hi] using q
  obtain ⟨i0, e0⟩ := is_v q1
  obtain rfl : w0 = (.int i0) := Option.some.inj e0
  obtain ⟨i1, e1⟩ := is_v q2
  obtain rfl : w1 = (.int i1) := Option.some.inj e1
  obtain ⟨i2, e2⟩ := is_v r2
  obtain rfl : w2 = (.int i2) := Option.some.inj e2
  have nz_cs := not_v (Cond.before_iff.mp (hsets _ (List.mem_of_getElem? (i := 2) rfl)))
  obtain ⟨G1, ee_cs⟩ := is_v (Cond.before_iff.mp (hsets _ (List.mem_of_getElem? (i := 1) rfl)))
  have S1 : Sta s s.heap "java/lang/String" "COMPACT_STRINGS" "Z" (.int G1) := Sta.start ee_cs (Or.inl (hsets _ (List.mem_of_getElem? (i := 0) rfl)))
  have P1 : ¬ (G1 = (0 : Int32)) := gotF (Cond.eq_ints ee_cs (Term.int_eval (0))) nz_cs
  obtain ⟨n0, m0⟩ := and_e hn
  obtain ⟨n1, m1⟩ := and_e m0
  obtain ⟨n2, m2⟩ := and_e m1
  obtain ⟨n3, m3⟩ := and_e m2
  obtain ⟨n4, m4⟩ := and_e m3
  obtain ⟨n5, m5⟩ := and_e m4
  obtain ⟨n6, m6⟩ := and_e m5
  obtain ⟨n7, m7⟩ := and_e m6
  obtain ⟨n8, m8⟩ := and_e m7
  obtain ⟨n9, m9⟩ := and_e m8
  obtain ⟨n10, m10⟩ := and_e m9
  obtain ⟨n11, m11⟩ := and_e m10
  obtain ⟨n12, m12⟩ := and_e m11
  obtain ⟨n13, m13⟩ := and_e m12
  obtain ⟨n14, m14⟩ := and_e m13
  obtain ⟨n15, m15⟩ := and_e m14
  obtain ⟨n16, m16⟩ := and_e m15
  obtain ⟨aV, evV⟩ := arr_v n0
  have S2 : Sta s s.heap "com/example/portcullis/portcullis/AccessRule$Permissions" "$VALUES" "[Lcom/example/portcullis/portcullis/AccessRule$Permissions;" (.ref aV) := Sta.start evV (Or.inr ⟨(hw _ (List.mem_of_getElem? (i := 32) rfl)), (hw _ (List.mem_of_getElem? (i := 38) rfl))⟩)
  have VE : Exa s s.heap aV "[Lcom/example/portcullis/portcullis/AccessRule$Permissions;" := Exa.start evV n1
  obtain ⟨clV, AV⟩ := Arr.start evV n0
  obtain ⟨aR, evR⟩ := exa_v n3
  obtain ⟨aW, evW⟩ := exa_v n5
  have S3 : Sta s s.heap "com/example/portcullis/portcullis/AccessRule$Permissions" "READ" "Lcom/example/portcullis/portcullis/AccessRule$Permissions;" (.ref aR) := Sta.start evR (Or.inr ⟨(hw _ (List.mem_of_getElem? (i := 32) rfl)), (hw _ (List.mem_of_getElem? (i := 46) rfl))⟩)
  have S4 : Sta s s.heap "com/example/portcullis/portcullis/AccessRule$Permissions" "READ_WRITE" "Lcom/example/portcullis/portcullis/AccessRule$Permissions;" (.ref aW) := Sta.start evW (Or.inr ⟨(hw _ (List.mem_of_getElem? (i := 32) rfl)), (hw _ (List.mem_of_getElem? (i := 47) rfl))⟩)
  obtain ⟨lV1, lV2⟩ := own_len evV AV n2
  have e0V := own_elem (v := .ref aR) evV AV n4 evR rfl
  have e1V := own_elem (v := .ref aW) evV AV n6 evW rfl
  have VA : Arv s s.heap aV clV.cls (.object "com/example/portcullis/portcullis/AccessRule$Permissions") (2 : Int32) [(.ref aR), (.ref aW)] .null := Arv.start hfit AV lV1 lV2 (by decide) rfl ⟨e0V, e1V, trivial⟩
  obtain ⟨wR, evwR⟩ := exa_v n7
  have R0 : Fld s s.heap aR "com/example/portcullis/portcullis/AccessRule$Permissions" "word" "Ljava/lang/String;" (.ref wR) := Fld.start ((fld_at evR).symm.trans evwR)
  have R1 : Exa s s.heap wR "java/lang/String" := Exa.start evwR n7
  obtain ⟨tR, evtR⟩ := arr_v n9
  have R2 : Fld s s.heap wR "java/lang/String" "value" "[B" (.ref tR) := Fld.start ((fld_at evwR).symm.trans evtR)
  have R3 : Fld s s.heap wR "java/lang/String" "coder" "B" (.int (0 : Int32)) := Fld.start ((fld_at evwR).symm.trans (own_eqi n8))
  obtain ⟨cltR, AtR⟩ := Arr.start evtR n9
  obtain ⟨ltR1, ltR2⟩ := own_len evtR AtR n10
  have e0tR := own_elem (v := .int 114) evtR AtR n11 (Term.int_eval _) rfl
  have R4 : Arv s s.heap tR cltR.cls .byte (1 : Int32) ((([114] : List Int32).map (fun c => c.toInt8.toInt32)).map Value.int) (.int 0) := Arv.start hfit AtR ltR1 ltR2 (by decide) rfl ⟨e0tR, trivial⟩
  obtain ⟨wW, evwW⟩ := exa_v n12
  have W0 : Fld s s.heap aW "com/example/portcullis/portcullis/AccessRule$Permissions" "word" "Ljava/lang/String;" (.ref wW) := Fld.start ((fld_at evW).symm.trans evwW)
  have W1 : Exa s s.heap wW "java/lang/String" := Exa.start evwW n12
  obtain ⟨tW, evtW⟩ := arr_v n14
  have W2 : Fld s s.heap wW "java/lang/String" "value" "[B" (.ref tW) := Fld.start ((fld_at evwW).symm.trans evtW)
  have W3 : Fld s s.heap wW "java/lang/String" "coder" "B" (.int (0 : Int32)) := Fld.start ((fld_at evwW).symm.trans (own_eqi n13))
  obtain ⟨cltW, AtW⟩ := Arr.start evtW n14
  obtain ⟨ltW1, ltW2⟩ := own_len evtW AtW n15
  have e0tW := own_elem (v := .int 114) evtW AtW n16 (Term.int_eval _) rfl
  have e1tW := own_elem (v := .int 119) evtW AtW m16 (Term.int_eval _) rfl
  have W4 : Arv s s.heap tW cltW.cls .byte (2 : Int32) ((([114, 119] : List Int32).map (fun c => c.toInt8.toInt32)).map Value.int) (.int 0) := Arv.start hfit AtW ltW1 ltW2 (by decide) rfl ⟨e0tW, e1tW, trivial⟩
  obtain ⟨n, o, h1, h2, h3, _, L, rfl, ⟨rfl, N⟩, hq⟩ := rm_law l s _ hw tables_1 i0 i1 i2 G1 aV clV.cls aR aW wR tR cltR.cls wW tW cltW.cls s.heap s.heap.size (Nat.le_refl _) S1 P1 S2 (Old.start s) VE VA S3 S4 R0 R1 R2 R3 R4 W0 W1 W2 W3 W4 p e ha hc hk s m _ below hf ((Spec.applies_iff_loose hf).mp happ).1 ⟨rfl, State.Warmed39.refl s, rfl⟩ trivial
  refine ⟨n, _, h1, h2, h3, hpost _ _ _ _ _ _ ⟨Cond.after_iff.mpr rfl, Cond.after_iff.mpr (eq_i res_at (Term.int_eval (1)) rfl), trivial⟩ ⟨hq.1, hq.2.1, (hq.2.2.sift fun y hy => Or.inr (N y hy)).mono (by decide) (by decide)⟩⟩
theorem main_1_1 : Claimed_1_1 := comes_1 fun _ _ _ _ _ _ h hF => ⟨h.1, hF⟩
theorem main_1_2 : Claimed_1_2 := comes_1 fun _ _ _ _ _ _ h hF => ⟨h.2.1, hF⟩
end Jvm.Pilot.@@N@@
namespace Jvm.Pilot.@@N@@
open Jvm Jvm.ClassFile Sem Op Lib Jvm.Free Jvm.Stand Jvm.Pilot.@@N@@.Jvm.D
/-! MADE BY PROGRAM (witnessworld.py) out of the Statement's table words and the real class files: 22 classes; the members and pool entries that the words name. The judged class is class 1, her method 1. -/
namespace start1
open Jvm.ClassFile
def u (s : String) : CpInfo := .utf8 (stringToUtf16 s)
/-- a pool by its gaps: so many unusable entries, then the entry; so many at the end -/
def gap : Nat → List CpInfo → List CpInfo
  | 0, r => r
  | n + 1, r => .unusable :: gap n r
def poolList (es : List (Nat × CpInfo)) (last : Nat) : List CpInfo := es.foldr (fun e r => gap e.1 (e.2 :: r)) (gap last [])
def pool (es : List (Nat × CpInfo)) (last : Nat) : Array CpInfo := ⟨poolList es last⟩
def fileOf (pool : Array CpInfo) (this : Nat) (attrs : Array Attribute := #[]) (ms : Array MethodInfo := #[]) (fl : Nat := 33) (sup : Nat := 0) (ifs : Array Nat := #[]) (fds : Array FieldInfo := #[]) : ClassFile where
  minorVersion := 0
  majorVersion := 65
  constantPool := pool
  accessFlags := fl
  thisClass := this
  superClass := sup
  interfaces := ifs
  fields := fds
  methods := ms
  attributes := attrs
def plain (name : String) (sup : Option ClassId) : Class where
  name := name
  kind := .ordinary
  loader := none
  accessFlags := 33
  super := sup
  interfaces := #[]
  cf := none
  fields := #[]
  methods := #[]
  instanceTypes := #[]
  staticTypes := #[]
  resolved := #[]
  callSites := []
  init := .initialized
  statics := none
  mirror := none

def pool0 : Array CpInfo := pool [(5, u "<init>"), (0, u "()V"), (1, .class_ 10), (1, u "java/lang/Object"), (85, u "clone"), (0, u "()Ljava/lang/Object;")] 26

def k0c0 : Code := { maxStack := 0, maxLocals := 1, code := object_method_1_code, exceptionTable := #[], attributes := #[] }
def k0m0 : Method := { name := "<init>", desc := "()V", sig := { parameters := [], returnType := none }, accessFlags := 1, code := some k0c0 }
def k0m1 : Method := { name := "clone", desc := "()Ljava/lang/Object;", sig := { parameters := [], returnType := some (.object "java/lang/Object") }, accessFlags := 260, code := none }
/-- java/lang/Object -/
def k0 : Class := { plain "java/lang/Object" none with
  accessFlags := 33
  interfaces := #[]
  cf := some (fileOf pool0 8 #[] #[{ accessFlags := 1, nameIndex := 5, descriptorIndex := 6, attributes := #[] }, { accessFlags := 260, nameIndex := 96, descriptorIndex := 97, attributes := #[] }] 33 0 #[] #[])
  fields := #[]
  methods := #[k0m0, k0m1]
  instanceTypes := #[]
  staticTypes := #[]
  resolved := Array.replicate 124 none
  statics := none }

def pool1 : Array CpInfo := pool [(2, .class_ 4), (1, u "java/lang/Object"), (0, u "<init>"), (0, u "()V"), (0, .class_ 8), (0, u "java/lang/String"), (0, .methodref 7 10), (0, .nameAndType 5 11), (0, u "([C)V"), (0, .methodref 13 14), (0, .class_ 15), (0, .nameAndType 16 17), (0, u "com/example/portcullis/portcullis/AccessRule$Permissions"), (0, u "of"), (0, u "(Ljava/lang/String;)Lcom/example/portcullis/portcullis/AccessRule$Permissions;"), (0, .fieldref 13 19), (0, .nameAndType 20 21), (0, u "READ"), (0, u "Lcom/example/portcullis/portcullis/AccessRule$Permissions;"), (0, .fieldref 13 23), (0, .nameAndType 24 21), (0, u "READ_WRITE"), (0, .fieldref 13 26), (0, .nameAndType 27 28), (0, u "word"), (0, u "Ljava/lang/String;"), (0, .methodref 7 30), (0, .nameAndType 31 32), (0, u "equals"), (0, u "(Ljava/lang/Object;)Z"), (0, .class_ 34), (0, u "com/example/portcullis/portcullis/PermissionsOfPinLaw"), (2, u "law"), (0, u "(III)Z")] 12

def k1m0 : Method := { name := "<init>", desc := "()V", sig := { parameters := [], returnType := none }, accessFlags := 2, code := none }
def k1c1 : Code := { maxStack := 5, maxLocals := 10, code := code, exceptionTable := #[], attributes := #[] }
def k1m1 : Method := { name := "law", desc := "(III)Z", sig := { parameters := [.int, .int, .int], returnType := some .boolean }, accessFlags := 9, code := some k1c1 }
/-- com/example/portcullis/portcullis/PermissionsOfPinLaw -/
def k1 : Class := { plain "com/example/portcullis/portcullis/PermissionsOfPinLaw" (some 0) with
  accessFlags := 49
  interfaces := #[]
  cf := some (fileOf pool1 33 #[] #[{ accessFlags := 2, nameIndex := 5, descriptorIndex := 6, attributes := #[] }, { accessFlags := 9, nameIndex := 37, descriptorIndex := 38, attributes := #[] }] 49 2 #[] #[])
  fields := #[]
  methods := #[k1m0, k1m1]
  instanceTypes := #[]
  staticTypes := #[]
  resolved := Array.replicate 51 none
  statics := none }

def pool2 : Array CpInfo := pool [(1, .class_ 2), (0, u "java/io/Serializable"), (0, .class_ 4), (0, u "java/lang/Object")] 2

/-- java/io/Serializable -/
def k2 : Class := { plain "java/io/Serializable" (some 0) with
  accessFlags := 1537
  interfaces := #[]
  cf := some (fileOf pool2 1 #[] #[] 1537 3 #[] #[])
  fields := #[]
  methods := #[]
  instanceTypes := #[]
  staticTypes := #[]
  resolved := Array.replicate 7 none
  statics := none }

def pool3 : Array CpInfo := pool [(1, .class_ 2), (0, u "java/lang/Comparable"), (0, .class_ 4), (0, u "java/lang/Object")] 7

/-- java/lang/Comparable -/
def k3 : Class := { plain "java/lang/Comparable" (some 0) with
  accessFlags := 1537
  interfaces := #[]
  cf := some (fileOf pool3 1 #[] #[] 1537 3 #[] #[])
  fields := #[]
  methods := #[]
  instanceTypes := #[]
  staticTypes := #[]
  resolved := Array.replicate 12 none
  statics := none }

def pool4 : Array CpInfo := pool [(2, .class_ 4), (1, u "java/lang/CharSequence"), (42, .class_ 48), (0, u "java/lang/CharSequence$1CodePointIterator"), (10, .class_ 60), (0, u "java/lang/CharSequence$1CharIterator"), (5, .class_ 67), (0, u "java/lang/Object")] 63

/-- java/lang/CharSequence -/
def k4 : Class := { plain "java/lang/CharSequence" (some 0) with
  accessFlags := 1537
  interfaces := #[]
  cf := some (fileOf pool4 2 #[.nestMembers #[47, 59]] #[] 1537 66 #[] #[])
  fields := #[]
  methods := #[]
  instanceTypes := #[]
  staticTypes := #[]
  resolved := Array.replicate 131 none
  statics := none }

def pool5 : Array CpInfo := pool [(1, .class_ 2), (0, u "java/lang/constant/Constable"), (0, .class_ 4), (0, u "java/lang/Object")] 6

/-- java/lang/constant/Constable -/
def k5 : Class := { plain "java/lang/constant/Constable" (some 0) with
  accessFlags := 1537
  interfaces := #[]
  cf := some (fileOf pool5 1 #[] #[] 1537 3 #[] #[])
  fields := #[]
  methods := #[]
  instanceTypes := #[]
  staticTypes := #[]
  resolved := Array.replicate 11 none
  statics := none }

def pool6 : Array CpInfo := pool [(1, .class_ 2), (0, u "java/lang/constant/ConstantDesc"), (0, .class_ 4), (0, u "java/lang/Object")] 32

/-- java/lang/constant/ConstantDesc -/
def k6 : Class := { plain "java/lang/constant/ConstantDesc" (some 0) with
  accessFlags := 1537
  interfaces := #[]
  cf := some (fileOf pool6 1 #[] #[] 1537 3 #[] #[])
  fields := #[]
  methods := #[]
  instanceTypes := #[]
  staticTypes := #[]
  resolved := Array.replicate 37 none
  statics := none }

def pool7 : Array CpInfo := pool [(1, .methodref 2 3), (0, .class_ 4), (0, .nameAndType 5 6), (0, u "java/lang/Object"), (0, u "<init>"), (0, u "()V"), (2, .fieldref 10 11), (0, .class_ 12), (0, .nameAndType 13 14), (0, u "java/lang/String"), (0, u "value"), (0, u "[B"), (0, .fieldref 10 16), (0, .nameAndType 17 18), (0, u "coder"), (0, u "B"), (2, u "hash"), (0, u "I"), (2, u "hashIsZero"), (0, u "Z"), (0, .methodref 10 28), (0, .nameAndType 5 29), (0, u "([CIILjava/lang/Void;)V"), (8, .fieldref 10 39), (0, .nameAndType 40 26), (0, u "COMPACT_STRINGS"), (1, .class_ 44), (1, u "java/lang/StringUTF16"), (0, u "compress"), (1, .methodref 42 48), (0, .nameAndType 49 50), (0, u "coderFromArrayLen"), (0, u "([BI)B"), (56, .class_ 109), (1, u "java/lang/StringLatin1"), (67, .methodref 42 178), (0, .nameAndType 45 179), (0, u "([CII)[B"), (361, .methodref 107 542), (0, .nameAndType 543 544), (0, u "equals"), (0, u "([B[B)Z"), (28, u "(Ljava/lang/Object;)Z"), (1, .class_ 576), (0, u "java/lang/CharSequence"), (22, u "CASE_INSENSITIVE_ORDER"), (0, u "Ljava/util/Comparator;"), (409, u "([C)V"), (90, u "serialPersistentFields"), (0, u "[Ljava/io/ObjectStreamField;"), (0, .class_ 1104), (0, u "java/lang/String$CaseInsensitiveComparator"), (1, .class_ 1107), (0, u "java/io/Serializable"), (0, .class_ 1109), (0, u "java/lang/Comparable"), (0, .class_ 1111), (0, u "java/lang/constant/Constable"), (0, .class_ 1113), (0, u "java/lang/constant/ConstantDesc"), (2, u "serialVersionUID"), (0, u "J"), (3, u "REPL"), (0, u "C"), (2, u "LATIN1"), (1, u "UTF16")] 323

def k7m0 : Method := { name := "<init>", desc := "()V", sig := { parameters := [], returnType := none }, accessFlags := 1, code := none }
def k7c1 : Code := { maxStack := 5, maxLocals := 2, code := jdk_42_method_3_code, exceptionTable := #[], attributes := #[] }
def k7m1 : Method := { name := "<init>", desc := "([C)V", sig := { parameters := [(.array .char)], returnType := none }, accessFlags := 1, code := some k7c1 }
def k7c2 : Code := { maxStack := 2, maxLocals := 3, code := jdk_42_method_66_code, exceptionTable := #[], attributes := #[] }
def k7m2 : Method := { name := "equals", desc := "(Ljava/lang/Object;)Z", sig := { parameters := [(.object "java/lang/Object")], returnType := some .boolean }, accessFlags := 1, code := some k7c2 }
def k7c3 : Code := { maxStack := 4, maxLocals := 6, code := jdk_42_method_149_code, exceptionTable := #[], attributes := #[] }
def k7m3 : Method := { name := "<init>", desc := "([CIILjava/lang/Void;)V", sig := { parameters := [(.array .char), .int, .int, (.object "java/lang/Void")], returnType := none }, accessFlags := 2, code := some k7c3 }
/-- java/lang/String -/
def k7 : Class := { plain "java/lang/String" (some 0) with
  accessFlags := 49
  interfaces := #[2, 3, 4, 5, 6]
  cf := some (fileOf pool7 10 #[.nestMembers #[1103]] #[{ accessFlags := 1, nameIndex := 5, descriptorIndex := 6, attributes := #[] }, { accessFlags := 1, nameIndex := 5, descriptorIndex := 1010, attributes := #[] }, { accessFlags := 1, nameIndex := 543, descriptorIndex := 573, attributes := #[] }, { accessFlags := 2, nameIndex := 5, descriptorIndex := 29, attributes := #[] }] 49 2 #[1106, 1108, 575, 1110, 1112] #[{ accessFlags := 18, nameIndex := 13, descriptorIndex := 14, attributes := #[] }, { accessFlags := 18, nameIndex := 17, descriptorIndex := 18, attributes := #[] }, { accessFlags := 2, nameIndex := 21, descriptorIndex := 22, attributes := #[] }, { accessFlags := 2, nameIndex := 25, descriptorIndex := 26, attributes := #[] }, { accessFlags := 26, nameIndex := 1116, descriptorIndex := 1117, attributes := #[] }, { accessFlags := 24, nameIndex := 40, descriptorIndex := 26, attributes := #[] }, { accessFlags := 26, nameIndex := 1101, descriptorIndex := 1102, attributes := #[] }, { accessFlags := 26, nameIndex := 1121, descriptorIndex := 1122, attributes := #[] }, { accessFlags := 25, nameIndex := 599, descriptorIndex := 600, attributes := #[] }, { accessFlags := 24, nameIndex := 1125, descriptorIndex := 18, attributes := #[] }, { accessFlags := 24, nameIndex := 1127, descriptorIndex := 18, attributes := #[] }])
  fields := #[{ name := "value", type := (.array .byte), accessFlags := 18, slot := 0, constantValue := 0 }, { name := "coder", type := .byte, accessFlags := 18, slot := 1, constantValue := 0 }, { name := "hash", type := .int, accessFlags := 2, slot := 2, constantValue := 0 }, { name := "hashIsZero", type := .boolean, accessFlags := 2, slot := 3, constantValue := 0 }, { name := "serialVersionUID", type := .long, accessFlags := 26, slot := 0, constantValue := 0 }, { name := "COMPACT_STRINGS", type := .boolean, accessFlags := 24, slot := 1, constantValue := 0 }, { name := "serialPersistentFields", type := (.array (.object "java/io/ObjectStreamField")), accessFlags := 26, slot := 2, constantValue := 0 }, { name := "REPL", type := .char, accessFlags := 26, slot := 3, constantValue := 0 }, { name := "CASE_INSENSITIVE_ORDER", type := (.object "java/util/Comparator"), accessFlags := 25, slot := 4, constantValue := 0 }, { name := "LATIN1", type := .byte, accessFlags := 24, slot := 5, constantValue := 0 }, { name := "UTF16", type := .byte, accessFlags := 24, slot := 6, constantValue := 0 }]
  methods := #[k7m0, k7m1, k7m2, k7m3]
  instanceTypes := #[(.array .byte), .byte, .int, .boolean]
  staticTypes := #[.long, .boolean, (.array (.object "java/io/ObjectStreamField")), .char, (.object "java/util/Comparator"), .byte, .byte]
  resolved := Array.replicate 1451 none
  statics := some 0 }

def pool8 : Array CpInfo := pool [(6, .class_ 8), (1, u "java/lang/Object"), (0, u "<init>"), (0, u "()V"), (1, .class_ 14), (1, u "java/lang/StringUTF16"), (31, u "$assertionsDisabled"), (0, u "Z"), (13, u "HI_BYTE_SHIFT"), (0, u "I"), (2, u "LO_BYTE_SHIFT"), (49, .methodref 12 116), (0, .nameAndType 117 118), (0, u "compress"), (0, u "([CI[BII)I"), (3, u "([CII)[B"), (138, u "coderFromArrayLen"), (0, u "([BI)B"), (106, .class_ 371), (1, u "java/lang/StringUTF16$LinesSpliterator"), (58, u "MAX_LENGTH"), (196, .class_ 628), (0, u "java/lang/StringUTF16$CodePointsSpliterator"), (0, .class_ 630), (0, u "java/lang/StringUTF16$CharsSpliterator")] 4

def k8m0 : Method := { name := "<init>", desc := "()V", sig := { parameters := [], returnType := none }, accessFlags := 0, code := none }
def k8c1 : Code := { maxStack := 2, maxLocals := 2, code := jdk_52_method_15_code, exceptionTable := #[], attributes := #[] }
def k8m1 : Method := { name := "coderFromArrayLen", desc := "([BI)B", sig := { parameters := [(.array .byte), .int], returnType := some .byte }, accessFlags := 8, code := some k8c1 }
def k8c2 : Code := { maxStack := 5, maxLocals := 6, code := jdk_52_method_16_code, exceptionTable := #[], attributes := #[] }
def k8m2 : Method := { name := "compress", desc := "([CII)[B", sig := { parameters := [(.array .char), .int, .int], returnType := some (.array .byte) }, accessFlags := 9, code := some k8c2 }
def k8c3 : Code := { maxStack := 3, maxLocals := 7, code := jdk_52_method_21_code, exceptionTable := #[], attributes := #[] }
def k8m3 : Method := { name := "compress", desc := "([CI[BII)I", sig := { parameters := [(.array .char), .int, (.array .byte), .int, .int], returnType := some .int }, accessFlags := 9, code := some k8c3 }
/-- java/lang/StringUTF16 -/
def k8 : Class := { plain "java/lang/StringUTF16" (some 0) with
  accessFlags := 48
  interfaces := #[]
  cf := some (fileOf pool8 12 #[.nestMembers #[627, 629, 369]] #[{ accessFlags := 0, nameIndex := 9, descriptorIndex := 10, attributes := #[] }, { accessFlags := 8, nameIndex := 261, descriptorIndex := 262, attributes := #[] }, { accessFlags := 9, nameIndex := 117, descriptorIndex := 122, attributes := #[] }, { accessFlags := 9, nameIndex := 117, descriptorIndex := 118, attributes := #[] }] 48 6 #[] #[{ accessFlags := 26, nameIndex := 61, descriptorIndex := 62, attributes := #[] }, { accessFlags := 26, nameIndex := 65, descriptorIndex := 62, attributes := #[] }, { accessFlags := 24, nameIndex := 430, descriptorIndex := 62, attributes := #[] }, { accessFlags := 4120, nameIndex := 46, descriptorIndex := 47, attributes := #[] }])
  fields := #[{ name := "HI_BYTE_SHIFT", type := .int, accessFlags := 26, slot := 0, constantValue := 0 }, { name := "LO_BYTE_SHIFT", type := .int, accessFlags := 26, slot := 1, constantValue := 0 }, { name := "MAX_LENGTH", type := .int, accessFlags := 24, slot := 2, constantValue := 0 }, { name := "$assertionsDisabled", type := .boolean, accessFlags := 4120, slot := 3, constantValue := 0 }]
  methods := #[k8m0, k8m1, k8m2, k8m3]
  instanceTypes := #[]
  staticTypes := #[.int, .int, .int, .boolean]
  resolved := Array.replicate 635 none
  statics := none }

def pool9 : Array CpInfo := pool [(2, .class_ 4), (1, u "java/lang/Enum"), (0, u "name"), (0, u "Ljava/lang/String;"), (2, u "ordinal"), (0, u "I"), (1, .class_ 14), (1, u "java/lang/Object"), (4, u "hash"), (86, .class_ 108), (1, u "java/lang/Enum$EnumDesc"), (2, .class_ 112), (0, u "java/lang/constant/Constable"), (0, .class_ 114), (0, u "java/lang/Comparable"), (0, .class_ 116), (0, u "java/io/Serializable")] 87

/-- java/lang/Enum -/
def k9 : Class := { plain "java/lang/Enum" (some 0) with
  accessFlags := 1057
  interfaces := #[5, 3, 2]
  cf := some (fileOf pool9 2 #[.nestMembers #[106]] #[] 1057 12 #[111, 113, 115] #[{ accessFlags := 18, nameIndex := 5, descriptorIndex := 6, attributes := #[] }, { accessFlags := 18, nameIndex := 9, descriptorIndex := 10, attributes := #[] }, { accessFlags := 2, nameIndex := 19, descriptorIndex := 10, attributes := #[] }])
  fields := #[{ name := "name", type := (.object "java/lang/String"), accessFlags := 18, slot := 0, constantValue := 0 }, { name := "ordinal", type := .int, accessFlags := 18, slot := 1, constantValue := 0 }, { name := "hash", type := .int, accessFlags := 2, slot := 2, constantValue := 0 }]
  methods := #[]
  instanceTypes := #[(.object "java/lang/String"), .int, .int]
  staticTypes := #[]
  resolved := Array.replicate 204 none
  statics := none }

def pool10 : Array CpInfo := pool [(1, .class_ 2), (0, u "com/example/portcullis/portcullis/AccessRule$Permissions"), (2, u "READ"), (0, u "Lcom/example/portcullis/portcullis/AccessRule$Permissions;"), (2, u "READ_WRITE"), (0, .fieldref 1 11), (0, .nameAndType 12 13), (0, u "$VALUES"), (0, u "[Lcom/example/portcullis/portcullis/AccessRule$Permissions;"), (0, .methodref 15 16), (0, .class_ 13), (0, .nameAndType 17 18), (0, u "clone"), (0, u "()Ljava/lang/Object;"), (1, .class_ 22), (1, u "java/lang/Enum"), (6, .fieldref 1 30), (0, .nameAndType 31 32), (0, u "word"), (0, u "Ljava/lang/String;"), (2, u "act"), (0, .methodref 1 37), (0, .nameAndType 38 39), (0, u "values"), (0, u "()[Lcom/example/portcullis/portcullis/AccessRule$Permissions;"), (0, .methodref 41 42), (0, .class_ 43), (0, .nameAndType 44 45), (0, u "java/lang/String"), (0, u "equals"), (0, u "(Ljava/lang/Object;)Z"), (28, u "(Ljava/lang/String;)Lcom/example/portcullis/portcullis/AccessRule$Permissions;"), (3, u "of"), (8, .class_ 88), (0, u "com/example/portcullis/portcullis/AccessRule")] 16

def k10c0 : Code := { maxStack := 1, maxLocals := 0, code := prog_2_method_1_code, exceptionTable := #[], attributes := #[] }
def k10m0 : Method := { name := "values", desc := "()[Lcom/example/portcullis/portcullis/AccessRule$Permissions;", sig := { parameters := [], returnType := some (.array (.object "com/example/portcullis/portcullis/AccessRule$Permissions")) }, accessFlags := 9, code := some k10c0 }
def k10c1 : Code := { maxStack := 2, maxLocals := 5, code := prog_2_method_4_code, exceptionTable := #[], attributes := #[] }
def k10m1 : Method := { name := "of", desc := "(Ljava/lang/String;)Lcom/example/portcullis/portcullis/AccessRule$Permissions;", sig := { parameters := [(.object "java/lang/String")], returnType := some (.object "com/example/portcullis/portcullis/AccessRule$Permissions") }, accessFlags := 8, code := some k10c1 }
/-- com/example/portcullis/portcullis/AccessRule$Permissions -/
def k10 : Class := { plain "com/example/portcullis/portcullis/AccessRule$Permissions" (some 9) with
  accessFlags := 16432
  interfaces := #[]
  cf := some (fileOf pool10 1 #[.nestHost 87] #[{ accessFlags := 9, nameIndex := 38, descriptorIndex := 39, attributes := #[] }, { accessFlags := 8, nameIndex := 78, descriptorIndex := 74, attributes := #[] }] 16432 20 #[] #[{ accessFlags := 16409, nameIndex := 5, descriptorIndex := 6, attributes := #[] }, { accessFlags := 16409, nameIndex := 9, descriptorIndex := 6, attributes := #[] }, { accessFlags := 16, nameIndex := 31, descriptorIndex := 32, attributes := #[] }, { accessFlags := 16, nameIndex := 35, descriptorIndex := 32, attributes := #[] }, { accessFlags := 4122, nameIndex := 12, descriptorIndex := 13, attributes := #[] }])
  fields := #[{ name := "READ", type := (.object "com/example/portcullis/portcullis/AccessRule$Permissions"), accessFlags := 16409, slot := 0, constantValue := 0 }, { name := "READ_WRITE", type := (.object "com/example/portcullis/portcullis/AccessRule$Permissions"), accessFlags := 16409, slot := 1, constantValue := 0 }, { name := "word", type := (.object "java/lang/String"), accessFlags := 16, slot := 3, constantValue := 0 }, { name := "act", type := (.object "java/lang/String"), accessFlags := 16, slot := 4, constantValue := 0 }, { name := "$VALUES", type := (.array (.object "com/example/portcullis/portcullis/AccessRule$Permissions")), accessFlags := 4122, slot := 2, constantValue := 0 }]
  methods := #[k10m0, k10m1]
  instanceTypes := #[(.object "java/lang/String"), .int, .int, (.object "java/lang/String"), (.object "java/lang/String")]
  staticTypes := #[(.object "com/example/portcullis/portcullis/AccessRule$Permissions"), (.object "com/example/portcullis/portcullis/AccessRule$Permissions"), (.array (.object "com/example/portcullis/portcullis/AccessRule$Permissions"))]
  resolved := Array.replicate 105 none
  statics := some 1 }

def pool11 : Array CpInfo := pool [(1, .class_ 2), (0, u "java/lang/Cloneable"), (0, .class_ 4), (0, u "java/lang/Object")] 2

/-- java/lang/Cloneable -/
def k11 : Class := { plain "java/lang/Cloneable" (some 0) with
  accessFlags := 1537
  interfaces := #[]
  cf := some (fileOf pool11 1 #[] #[] 1537 3 #[] #[])
  fields := #[]
  methods := #[]
  instanceTypes := #[]
  staticTypes := #[]
  resolved := Array.replicate 7 none
  statics := none }

def pool12 : Array CpInfo := pool [(4, .class_ 6), (1, u "java/lang/Object"), (0, u "<init>"), (0, u "()V"), (5, .class_ 16), (1, u "java/lang/StringLatin1"), (104, u "$assertionsDisabled"), (0, u "Z"), (98, .class_ 223), (1, u "java/lang/StringLatin1$LinesSpliterator"), (57, u "equals"), (0, u "([B[B)Z"), (107, .class_ 391), (0, u "java/lang/StringLatin1$CharsSpliterator")] 3

def k12m0 : Method := { name := "<init>", desc := "()V", sig := { parameters := [], returnType := none }, accessFlags := 0, code := none }
def k12c1 : Code := { maxStack := 3, maxLocals := 3, code := jdk_43_method_13_code, exceptionTable := #[], attributes := #[] }
def k12m1 : Method := { name := "equals", desc := "([B[B)Z", sig := { parameters := [(.array .byte), (.array .byte)], returnType := some .boolean }, accessFlags := 9, code := some k12c1 }
/-- java/lang/StringLatin1 -/
def k12 : Class := { plain "java/lang/StringLatin1" (some 0) with
  accessFlags := 48
  interfaces := #[]
  cf := some (fileOf pool12 14 #[.nestMembers #[390, 221]] #[{ accessFlags := 0, nameIndex := 7, descriptorIndex := 8, attributes := #[] }, { accessFlags := 9, nameIndex := 281, descriptorIndex := 282, attributes := #[] }] 48 4 #[] #[{ accessFlags := 4120, nameIndex := 121, descriptorIndex := 122, attributes := #[] }])
  fields := #[{ name := "$assertionsDisabled", type := .boolean, accessFlags := 4120, slot := 0, constantValue := 0 }]
  methods := #[k12m0, k12m1]
  instanceTypes := #[]
  staticTypes := #[.boolean]
  resolved := Array.replicate 395 none
  statics := none }

def pool13 : Array CpInfo := pool [(2, .class_ 4), (1, u "java/lang/Object"), (0, u "<init>"), (0, u "()V"), (17, .class_ 26), (1, u "jdk/internal/util/Preconditions"), (28, .class_ 56), (0, u "jdk/internal/util/Preconditions$4"), (57, .class_ 115), (0, u "jdk/internal/util/Preconditions$1"), (7, u "SIOOBE_FORMATTER"), (0, u "Ljava/util/function/BiFunction;"), (0, .class_ 126), (0, u "jdk/internal/util/Preconditions$2"), (3, u "AIOOBE_FORMATTER"), (0, .class_ 132), (0, u "jdk/internal/util/Preconditions$3"), (3, u "IOOBE_FORMATTER")] 57

def k13m0 : Method := { name := "<init>", desc := "()V", sig := { parameters := [], returnType := none }, accessFlags := 1, code := none }
/-- jdk/internal/util/Preconditions -/
def k13 : Class := { plain "jdk/internal/util/Preconditions" (some 0) with
  accessFlags := 33
  interfaces := #[]
  cf := some (fileOf pool13 24 #[.nestMembers #[55, 131, 125, 114]] #[{ accessFlags := 1, nameIndex := 5, descriptorIndex := 6, attributes := #[] }] 33 2 #[] #[{ accessFlags := 25, nameIndex := 123, descriptorIndex := 124, attributes := #[] }, { accessFlags := 25, nameIndex := 130, descriptorIndex := 124, attributes := #[] }, { accessFlags := 25, nameIndex := 136, descriptorIndex := 124, attributes := #[] }])
  fields := #[{ name := "SIOOBE_FORMATTER", type := (.object "java/util/function/BiFunction"), accessFlags := 25, slot := 0, constantValue := 0 }, { name := "AIOOBE_FORMATTER", type := (.object "java/util/function/BiFunction"), accessFlags := 25, slot := 1, constantValue := 0 }, { name := "IOOBE_FORMATTER", type := (.object "java/util/function/BiFunction"), accessFlags := 25, slot := 2, constantValue := 0 }]
  methods := #[k13m0]
  instanceTypes := #[]
  staticTypes := #[(.object "java/util/function/BiFunction"), (.object "java/util/function/BiFunction"), (.object "java/util/function/BiFunction")]
  resolved := Array.replicate 194 none
  statics := some 2 }

def pool14 : Array CpInfo := pool [(9, u "<init>"), (6, .class_ 18), (1, u "java/lang/Object"), (0, u "()V"), (1, .class_ 23), (1, u "jdk/internal/util/ArraysSupport"), (0, u "LOG2_ARRAY_LONG_INDEX_SCALE"), (0, u "I"), (2, u "U"), (0, u "Ljdk/internal/misc/Unsafe;"), (8, u "BIG_ENDIAN"), (0, u "Z"), (8, u "LOG2_BYTE_BIT_SIZE"), (4, u "LOG2_ARRAY_INT_INDEX_SCALE"), (54, u "JLA"), (0, u "Ljdk/internal/access/JavaLangAccess;"), (11, u "LOG2_ARRAY_BOOLEAN_INDEX_SCALE"), (9, u "LOG2_ARRAY_BYTE_INDEX_SCALE"), (5, u "LOG2_ARRAY_CHAR_INDEX_SCALE"), (5, u "LOG2_ARRAY_SHORT_INDEX_SCALE"), (18, u "LOG2_ARRAY_FLOAT_INDEX_SCALE"), (24, u "LOG2_ARRAY_DOUBLE_INDEX_SCALE"), (89, u "T_BOOLEAN"), (2, u "T_CHAR"), (1, u "T_FLOAT"), (1, u "T_DOUBLE"), (1, u "T_BYTE"), (1, u "T_SHORT"), (1, u "T_INT"), (1, u "T_LONG"), (1, u "SOFT_MAX_ARRAY_LENGTH")] 83

def k14m0 : Method := { name := "<init>", desc := "()V", sig := { parameters := [], returnType := none }, accessFlags := 2, code := none }
/-- jdk/internal/util/ArraysSupport -/
def k14 : Class := { plain "jdk/internal/util/ArraysSupport" (some 0) with
  accessFlags := 33
  interfaces := #[]
  cf := some (fileOf pool14 21 #[] #[{ accessFlags := 2, nameIndex := 9, descriptorIndex := 19, attributes := #[] }] 33 16 #[] #[{ accessFlags := 24, nameIndex := 28, descriptorIndex := 29, attributes := #[] }, { accessFlags := 26, nameIndex := 38, descriptorIndex := 39, attributes := #[] }, { accessFlags := 25, nameIndex := 121, descriptorIndex := 25, attributes := #[] }, { accessFlags := 25, nameIndex := 131, descriptorIndex := 25, attributes := #[] }, { accessFlags := 25, nameIndex := 137, descriptorIndex := 25, attributes := #[] }, { accessFlags := 25, nameIndex := 143, descriptorIndex := 25, attributes := #[] }, { accessFlags := 25, nameIndex := 53, descriptorIndex := 25, attributes := #[] }, { accessFlags := 25, nameIndex := 24, descriptorIndex := 25, attributes := #[] }, { accessFlags := 25, nameIndex := 162, descriptorIndex := 25, attributes := #[] }, { accessFlags := 25, nameIndex := 187, descriptorIndex := 25, attributes := #[] }, { accessFlags := 26, nameIndex := 48, descriptorIndex := 25, attributes := #[] }, { accessFlags := 25, nameIndex := 277, descriptorIndex := 25, attributes := #[] }, { accessFlags := 25, nameIndex := 280, descriptorIndex := 25, attributes := #[] }, { accessFlags := 25, nameIndex := 282, descriptorIndex := 25, attributes := #[] }, { accessFlags := 25, nameIndex := 284, descriptorIndex := 25, attributes := #[] }, { accessFlags := 25, nameIndex := 286, descriptorIndex := 25, attributes := #[] }, { accessFlags := 25, nameIndex := 288, descriptorIndex := 25, attributes := #[] }, { accessFlags := 25, nameIndex := 290, descriptorIndex := 25, attributes := #[] }, { accessFlags := 25, nameIndex := 292, descriptorIndex := 25, attributes := #[] }, { accessFlags := 26, nameIndex := 108, descriptorIndex := 109, attributes := #[] }, { accessFlags := 25, nameIndex := 294, descriptorIndex := 25, attributes := #[] }])
  fields := #[{ name := "U", type := (.object "jdk/internal/misc/Unsafe"), accessFlags := 24, slot := 0, constantValue := 0 }, { name := "BIG_ENDIAN", type := .boolean, accessFlags := 26, slot := 1, constantValue := 0 }, { name := "LOG2_ARRAY_BOOLEAN_INDEX_SCALE", type := .int, accessFlags := 25, slot := 2, constantValue := 0 }, { name := "LOG2_ARRAY_BYTE_INDEX_SCALE", type := .int, accessFlags := 25, slot := 3, constantValue := 0 }, { name := "LOG2_ARRAY_CHAR_INDEX_SCALE", type := .int, accessFlags := 25, slot := 4, constantValue := 0 }, { name := "LOG2_ARRAY_SHORT_INDEX_SCALE", type := .int, accessFlags := 25, slot := 5, constantValue := 0 }, { name := "LOG2_ARRAY_INT_INDEX_SCALE", type := .int, accessFlags := 25, slot := 6, constantValue := 0 }, { name := "LOG2_ARRAY_LONG_INDEX_SCALE", type := .int, accessFlags := 25, slot := 7, constantValue := 0 }, { name := "LOG2_ARRAY_FLOAT_INDEX_SCALE", type := .int, accessFlags := 25, slot := 8, constantValue := 0 }, { name := "LOG2_ARRAY_DOUBLE_INDEX_SCALE", type := .int, accessFlags := 25, slot := 9, constantValue := 0 }, { name := "LOG2_BYTE_BIT_SIZE", type := .int, accessFlags := 26, slot := 10, constantValue := 0 }, { name := "T_BOOLEAN", type := .int, accessFlags := 25, slot := 11, constantValue := 0 }, { name := "T_CHAR", type := .int, accessFlags := 25, slot := 12, constantValue := 0 }, { name := "T_FLOAT", type := .int, accessFlags := 25, slot := 13, constantValue := 0 }, { name := "T_DOUBLE", type := .int, accessFlags := 25, slot := 14, constantValue := 0 }, { name := "T_BYTE", type := .int, accessFlags := 25, slot := 15, constantValue := 0 }, { name := "T_SHORT", type := .int, accessFlags := 25, slot := 16, constantValue := 0 }, { name := "T_INT", type := .int, accessFlags := 25, slot := 17, constantValue := 0 }, { name := "T_LONG", type := .int, accessFlags := 25, slot := 18, constantValue := 0 }, { name := "JLA", type := (.object "jdk/internal/access/JavaLangAccess"), accessFlags := 26, slot := 19, constantValue := 0 }, { name := "SOFT_MAX_ARRAY_LENGTH", type := .int, accessFlags := 25, slot := 20, constantValue := 0 }]
  methods := #[k14m0]
  instanceTypes := #[]
  staticTypes := #[(.object "jdk/internal/misc/Unsafe"), .boolean, .int, .int, .int, .int, .int, .int, .int, .int, .int, .int, .int, .int, .int, .int, .int, .int, .int, (.object "jdk/internal/access/JavaLangAccess"), .int]
  resolved := Array.replicate 378 none
  statics := none }

/-- the primitive byte -/
def k15 : Class := { plain "byte" none with kind := .primitive 'B', accessFlags := 0x411 }
/-- [B -/
def k16 : Class := { plain "[B" (some 0) with kind := .array 15 .byte, interfaces := #[11, 2], accessFlags := 1041 }

/-- the primitive char -/
def k17 : Class := { plain "char" none with kind := .primitive 'C', accessFlags := 0x411 }
/-- [C -/
def k18 : Class := { plain "[C" (some 0) with kind := .array 17 .char, interfaces := #[11, 2], accessFlags := 1041 }

/-- the primitive int -/
def k19 : Class := { plain "int" none with kind := .primitive 'I', accessFlags := 0x411 }
/-- [I -/
def k20 : Class := { plain "[I" (some 0) with kind := .array 19 .int, interfaces := #[11, 2], accessFlags := 1041 }

/-- [Lcom/example/portcullis/portcullis/AccessRule$Permissions; -/
def k21 : Class := { plain "[Lcom/example/portcullis/portcullis/AccessRule$Permissions;" (some 0) with kind := .array 10 (.object "com/example/portcullis/portcullis/AccessRule$Permissions"), interfaces := #[11, 2], accessFlags := 1041 }

def heap : Heap := #[{ cls := 7, slots := #[.long 0, .int 1, .null, .int 0, .null, .int 0, .int 0], vm := .statics 7 },
  { cls := 10, slots := #[.ref 4, .ref 5, .ref 3], vm := .statics 10 },
  { cls := 13, slots := #[.null, .null, .null], vm := .statics 13 },
  { cls := 21, slots := #[.ref 4, .ref 5], vm := .none },
  { cls := 10, slots := #[.null, .int 0, .int 0, .ref 6, .null], vm := .none },
  { cls := 10, slots := #[.null, .int 1, .int 0, .ref 7, .null], vm := .none },
  { cls := 7, slots := #[.ref 8, .int 0, .int 0, .int 0], vm := .none },
  { cls := 7, slots := #[.ref 9, .int 0, .int 0, .int 0], vm := .none },
  { cls := 16, slots := #[.int 114], vm := .none },
  { cls := 16, slots := #[.int 114, .int 119], vm := .none }]
def classes : Array Class := #[k0, k1, k2, k3, k4, k5, k6, k7, k8, k9, k10, k11, k12, k13, k14, k15, k16, k17, k18, k19, k20, k21]
def interned : List (Array UInt16 × Addr) := []
def slotsUsed : Nat := 36
def theMethod : MethodId := ⟨1, 1⟩
def args0 : Array Value := #[.int 5, .int 5, .int 5]
def aboutOver (below : List Frame) : State where
  vm := { classes := classes, interned := interned.toArray }
  heap := heap
  slotsUsed := slotsUsed
  threads := #[{ frames := .invoking theMethod args0 :: below }]
def below0 : List Frame := [.native { method := ⟨0, 0⟩, args := #[] }]
def about1 : State := aboutOver below0
def p0 : Program := .bare "" "" ""
def e0 : Env := launch0.env 0 0 0
theorem w_frames : about1.frames = Frame.invoking theMethod args0 :: below0 := rfl
set_option maxRecDepth 65536 in
theorem w_args : argsFit about1.vm theMethod args0 = true := by decide +kernel
set_option maxRecDepth 65536 in
theorem w_heap : heapFits about1 = true := by decide +kernel
set_option maxRecDepth 65536 in
theorem w_runnable : about1.curStatus? = some .runnable := by decide +kernel
set_option maxRecDepth 65536 in
theorem w_alone : about1.alone = true := by decide +kernel
set_option maxRecDepth 65536 in
theorem w_named : about1.methodNamed? x = some theMethod := by decide +kernel
set_option maxRecDepth 65536 in
theorem w_hears : about1.hears theMethod below0 = true := by decide +kernel
set_option maxRecDepth 65536 in
theorem w_ripe : about1.ripe theMethod args0 below0 = true := by decide +kernel
theorem w_running : about1.status = .running := rfl
set_option maxRecDepth 65536 in
theorem w_room : about1.hasRoom e0.platform room_1 = true :=
  launch0.hasRoom_least _ room_1 (by decide +kernel) (by decide +kernel) (by decide +kernel) (by decide +kernel) (by decide +kernel) (by decide +kernel)
theorem allAtoms_all (ts : List Jvm.Cond) (a : Array Jvm.Value) (st : Jvm.State) : (allAtoms ts).before a st = ts.all (fun c => c.before a st) := by
  induction ts with
  | nil => rfl
  | cons c t ih =>
    show (Jvm.Cond.and c (allAtoms t)).before a st = _
    rw [Jvm.Cond.before_and, ih, List.all_cons]
def words1 : List Jvm.Cond := Jvm.Cond.code x code maxLocals ret :: tables_1
/-- a 'code' word, met by the world's own term for the bytes: nothing is compared byte by byte -/
theorem code_word {y : MethodName} {bytes : ByteArray} {mx : Nat} {rt : Option FieldType} {a : Array Value} {s : State} {m : MethodId} {meth : Method} {c : Code} (h1 : s.methodNamed? y = some m) (h2 : s.vm.method? m = some meth) (h3 : meth.code = some c) (h4 : c.code = bytes)
    (h5 : (c.maxLocals == mx && c.exceptionTable.isEmpty && decide (c.maxStack ≤ mostOperands) && decide (meth.sig.returnType = rt) && !meth.locks && decide (parseMethodDescriptor y.desc = some meth.sig)) = true) : (Jvm.Cond.code y bytes mx rt).before a s = true := by
  simp only [Bool.and_eq_true, beq_iff_eq, Bool.not_eq_true', decide_eq_true_eq] at h5
  obtain ⟨⟨⟨⟨⟨g1, g2⟩, g3⟩, g4⟩, g5⟩, g6⟩ := h5
  simp [Cond.before, Cond.holds, Cond.value, h1, h2, h3, h4, g1, g2, g3, g4, g5, g6]
def isCode : Jvm.Cond → Bool
  | .code _ _ _ _ => true
  | _ => false
theorem all_split {L : List Jvm.Cond} {P : Jvm.Cond → Bool} (h1 : L.all (fun c => isCode c || P c) = true) (h2 : ∀ c ∈ L.filter isCode, P c = true) : L.all P = true := by
  refine List.all_eq_true.mpr fun c hc => ?_
  have h := List.all_eq_true.mp h1 c hc
  rcases Bool.eq_false_or_eq_true (isCode c) with hi | hi
  · exact h2 c (List.mem_filter.mpr ⟨hc, hi⟩)
  · simpa [hi] using h
set_option maxRecDepth 65536 in
theorem w_c0 : (Jvm.Cond.code x code maxLocals ret).before args0 about1 = true := code_word (m := ⟨1, 1⟩) (meth := k1m1) (c := k1c1) (by decide +kernel) rfl rfl rfl (by decide +kernel)
set_option maxRecDepth 65536 in
theorem w_c1 : (Jvm.Cond.code ({ cls := "java/lang/String", name := "<init>", desc := "([C)V" } : Jvm.MethodName) jdk_42_method_3_code (2 : Nat) (Option.none : Option Jvm.ClassFile.FieldType)).before args0 about1 = true := code_word (m := ⟨7, 1⟩) (meth := k7m1) (c := k7c1) (by decide +kernel) rfl rfl rfl (by decide +kernel)
set_option maxRecDepth 65536 in
theorem w_c2 : (Jvm.Cond.code ({ cls := "java/lang/String", name := "<init>", desc := "([CIILjava/lang/Void;)V" } : Jvm.MethodName) jdk_42_method_149_code (6 : Nat) (Option.none : Option Jvm.ClassFile.FieldType)).before args0 about1 = true := code_word (m := ⟨7, 3⟩) (meth := k7m3) (c := k7c3) (by decide +kernel) rfl rfl rfl (by decide +kernel)
set_option maxRecDepth 65536 in
theorem w_c3 : (Jvm.Cond.code ({ cls := "java/lang/Object", name := "<init>", desc := "()V" } : Jvm.MethodName) object_method_1_code (1 : Nat) (Option.none : Option Jvm.ClassFile.FieldType)).before args0 about1 = true := code_word (m := ⟨0, 0⟩) (meth := k0m0) (c := k0c0) (by decide +kernel) rfl rfl rfl (by decide +kernel)
set_option maxRecDepth 65536 in
theorem w_c4 : (Jvm.Cond.code ({ cls := "java/lang/StringUTF16", name := "compress", desc := "([CII)[B" } : Jvm.MethodName) jdk_52_method_16_code (6 : Nat) (Option.some (Jvm.ClassFile.FieldType.array Jvm.ClassFile.FieldType.byte))).before args0 about1 = true := code_word (m := ⟨8, 2⟩) (meth := k8m2) (c := k8c2) (by decide +kernel) rfl rfl rfl (by decide +kernel)
set_option maxRecDepth 65536 in
theorem w_c5 : (Jvm.Cond.code ({ cls := "java/lang/StringUTF16", name := "compress", desc := "([CI[BII)I" } : Jvm.MethodName) jdk_52_method_21_code (7 : Nat) (Option.some Jvm.ClassFile.FieldType.int)).before args0 about1 = true := code_word (m := ⟨8, 3⟩) (meth := k8m3) (c := k8c3) (by decide +kernel) rfl rfl rfl (by decide +kernel)
set_option maxRecDepth 65536 in
theorem w_c6 : (Jvm.Cond.code ({ cls := "java/lang/StringUTF16", name := "coderFromArrayLen", desc := "([BI)B" } : Jvm.MethodName) jdk_52_method_15_code (2 : Nat) (Option.some Jvm.ClassFile.FieldType.byte)).before args0 about1 = true := code_word (m := ⟨8, 1⟩) (meth := k8m1) (c := k8c1) (by decide +kernel) rfl rfl rfl (by decide +kernel)
set_option maxRecDepth 65536 in
theorem w_c7 : (Jvm.Cond.code ({ cls := "com/example/portcullis/portcullis/AccessRule$Permissions", name := "of", desc := "(Ljava/lang/String;)Lcom/example/portcullis/portcullis/AccessRule$Permissions;" } : Jvm.MethodName) prog_2_method_4_code (5 : Nat) (Option.some (Jvm.ClassFile.FieldType.object "com/example/portcullis/portcullis/AccessRule$Permissions"))).before args0 about1 = true := code_word (m := ⟨10, 1⟩) (meth := k10m1) (c := k10c1) (by decide +kernel) rfl rfl rfl (by decide +kernel)
set_option maxRecDepth 65536 in
theorem w_c8 : (Jvm.Cond.code ({ cls := "com/example/portcullis/portcullis/AccessRule$Permissions", name := "values", desc := "()[Lcom/example/portcullis/portcullis/AccessRule$Permissions;" } : Jvm.MethodName) prog_2_method_1_code (0 : Nat) (Option.some (Jvm.ClassFile.FieldType.array (Jvm.ClassFile.FieldType.object "com/example/portcullis/portcullis/AccessRule$Permissions")))).before args0 about1 = true := code_word (m := ⟨10, 0⟩) (meth := k10m0) (c := k10c0) (by decide +kernel) rfl rfl rfl (by decide +kernel)
set_option maxRecDepth 65536 in
theorem w_c9 : (Jvm.Cond.code ({ cls := "java/lang/String", name := "equals", desc := "(Ljava/lang/Object;)Z" } : Jvm.MethodName) jdk_42_method_66_code (3 : Nat) (Option.some Jvm.ClassFile.FieldType.boolean)).before args0 about1 = true := code_word (m := ⟨7, 2⟩) (meth := k7m2) (c := k7c2) (by decide +kernel) rfl rfl rfl (by decide +kernel)
set_option maxRecDepth 65536 in
theorem w_c10 : (Jvm.Cond.code ({ cls := "java/lang/StringLatin1", name := "equals", desc := "([B[B)Z" } : Jvm.MethodName) jdk_43_method_13_code (3 : Nat) (Option.some Jvm.ClassFile.FieldType.boolean)).before args0 about1 = true := code_word (m := ⟨12, 1⟩) (meth := k12m1) (c := k12c1) (by decide +kernel) rfl rfl rfl (by decide +kernel)
def codes1 : List Jvm.Cond := [Jvm.Cond.code x code maxLocals ret, Jvm.Cond.code ({ cls := "java/lang/String", name := "<init>", desc := "([C)V" } : Jvm.MethodName) jdk_42_method_3_code (2 : Nat) (Option.none : Option Jvm.ClassFile.FieldType), Jvm.Cond.code ({ cls := "java/lang/String", name := "<init>", desc := "([CIILjava/lang/Void;)V" } : Jvm.MethodName) jdk_42_method_149_code (6 : Nat) (Option.none : Option Jvm.ClassFile.FieldType), Jvm.Cond.code ({ cls := "java/lang/Object", name := "<init>", desc := "()V" } : Jvm.MethodName) object_method_1_code (1 : Nat) (Option.none : Option Jvm.ClassFile.FieldType), Jvm.Cond.code ({ cls := "java/lang/StringUTF16", name := "compress", desc := "([CII)[B" } : Jvm.MethodName) jdk_52_method_16_code (6 : Nat) (Option.some (Jvm.ClassFile.FieldType.array Jvm.ClassFile.FieldType.byte)), Jvm.Cond.code ({ cls := "java/lang/StringUTF16", name := "compress", desc := "([CI[BII)I" } : Jvm.MethodName) jdk_52_method_21_code (7 : Nat) (Option.some Jvm.ClassFile.FieldType.int), Jvm.Cond.code ({ cls := "java/lang/StringUTF16", name := "coderFromArrayLen", desc := "([BI)B" } : Jvm.MethodName) jdk_52_method_15_code (2 : Nat) (Option.some Jvm.ClassFile.FieldType.byte), Jvm.Cond.code ({ cls := "com/example/portcullis/portcullis/AccessRule$Permissions", name := "of", desc := "(Ljava/lang/String;)Lcom/example/portcullis/portcullis/AccessRule$Permissions;" } : Jvm.MethodName) prog_2_method_4_code (5 : Nat) (Option.some (Jvm.ClassFile.FieldType.object "com/example/portcullis/portcullis/AccessRule$Permissions")), Jvm.Cond.code ({ cls := "com/example/portcullis/portcullis/AccessRule$Permissions", name := "values", desc := "()[Lcom/example/portcullis/portcullis/AccessRule$Permissions;" } : Jvm.MethodName) prog_2_method_1_code (0 : Nat) (Option.some (Jvm.ClassFile.FieldType.array (Jvm.ClassFile.FieldType.object "com/example/portcullis/portcullis/AccessRule$Permissions"))), Jvm.Cond.code ({ cls := "java/lang/String", name := "equals", desc := "(Ljava/lang/Object;)Z" } : Jvm.MethodName) jdk_42_method_66_code (3 : Nat) (Option.some Jvm.ClassFile.FieldType.boolean), Jvm.Cond.code ({ cls := "java/lang/StringLatin1", name := "equals", desc := "([B[B)Z" } : Jvm.MethodName) jdk_43_method_13_code (3 : Nat) (Option.some Jvm.ClassFile.FieldType.boolean)]
set_option maxRecDepth 65536 in
theorem codes_eq : words1.filter isCode = codes1 := rfl
theorem w_codes : ∀ c ∈ words1.filter isCode, c.before args0 about1 = true := by
  rw [codes_eq]
  intro c hc
  simp only [codes1, List.mem_cons, List.not_mem_nil, or_false] at hc
  rcases hc with rfl | rfl | rfl | rfl | rfl | rfl | rfl | rfl | rfl | rfl | rfl
  · exact w_c0
  · exact w_c1
  · exact w_c2
  · exact w_c3
  · exact w_c4
  · exact w_c5
  · exact w_c6
  · exact w_c7
  · exact w_c8
  · exact w_c9
  · exact w_c10
set_option maxRecDepth 65536 in
theorem w_t1 : (words1.take 24).all (fun c => isCode c || c.before args0 about1) = true := by decide +kernel
set_option maxRecDepth 65536 in
theorem w_t2 : ((words1.drop 24).take 24).all (fun c => isCode c || c.before args0 about1) = true := by decide +kernel
set_option maxRecDepth 65536 in
theorem w_t3 : ((words1.drop 24).drop 24).all (fun c => isCode c || c.before args0 about1) = true := by decide +kernel
theorem w_tables : (allAtoms (Jvm.Cond.code x code maxLocals ret :: tables_1)).before args0 about1 = true := by
  rw [allAtoms_all]
  show words1.all (fun c => c.before args0 about1) = true
  refine all_split ?_ w_codes
  rw [← List.take_append_drop 24 words1, List.all_append, w_t1, ← List.take_append_drop 24 (words1.drop 24), List.all_append, w_t2, w_t3]
  rfl
set_option maxRecDepth 65536 in
theorem w_rest : rest_1_c.before args0 about1 = true := by decide +kernel
set_option maxRecDepth 65536 in
theorem w_case : (Jvm.Cond.and given_1 narrow_1).before args0 about1 = true := by decide +kernel
theorem w_applies : (headSpec (Jvm.Cond.code x code maxLocals ret :: tables_1) room_1).applies x e0.platform about1 = true :=
  (Spec.applies_iff w_frames).mpr ⟨w_running, w_runnable, w_alone, w_named, w_hears, w_ripe, w_room, w_tables⟩
theorem atStart : AtStart classFile x code maxLocals ret World_1 tables_1 room_1 Calls_1 rest_1 Pre_1 launch0 p0 e0 about1 theMethod args0 below0 :=
  ⟨lists_1, trivial, launch0.admits_env _ _ _, launch0.least_env, fairChoices_fair.cas, fairChoices_fair.clock, w_frames, w_args, w_heap, w_applies, trivial, w_rest, w_case⟩
end start1
theorem witness_1 : WitnessClaimed_1 := ⟨start1.p0, start1.e0, start1.about1, start1.theMethod, start1.args0, start1.below0, start1.atStart⟩
end Jvm.Pilot.@@N@@
