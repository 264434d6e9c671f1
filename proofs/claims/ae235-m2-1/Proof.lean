import JvmDerived
import JvmDerived.Pilot.@@N@@Statement
import JvmDerived.Pilot.@@N@@Code
set_option linter.unusedVariables false
set_option linter.unusedSimpArgs false
namespace Jvm.Pilot.@@N@@
open Jvm Jvm.ClassFile Sem Op Lib Jvm.Free Jvm.Stand Jvm.LawKit Jvm.RoadKit Bundle Jvm.Pilot.@@N@@.Jvm.D
theorem w_ {Z : State} {a0 : Array Value} (hw : ∀ d ∈ tables_1, d.before a0 Z = true) {d : Jvm.Cond} (i : Nat) (h : tables_1[i]? = some d) : d.before a0 Z = true := hw d (List.mem_of_getElem? h)
section OwnKit
variable {p : Program} {l : Launch} {e : Env} {R : Room} {s : State} {m : MethodId} {args : Array Value} {below : List Frame} {meth : Method} {c : Code} {T : State} {locs : List Loc} {cells slots : Nat}
/-- the walk from t comes back with what Q says -/
def Fin (p : Program) (e : Env) (below : List Frame) (s : State) (Q : Option Value → Heap → List Loc → Prop) (C S : Nat) (t : State) : Prop :=
  ∃ s₂ o, Steps p.tables e below t s₂ ∧ s₂.status = .running ∧ Ended s₂ below o ∧ ∃ v L, o = .returned v ∧ Q v s₂.heap L ∧ FrameEnd s o s₂ L C S
theorem Fin.by {Q : Option Value → Heap → List Loc → Prop} {C S : Nat} {a b : State} (h : ∀ t, Steps p.tables e below b t → Steps p.tables e below a t) (k : Fin p e below s Q C S b) : Fin p e below s Q C S a := by
  obtain ⟨s₂, o, h1, h2⟩ := k; exact ⟨s₂, o, h _ h1, h2⟩
theorem Fin.byS {Q : Option Value → Heap → List Loc → Prop} {C S : Nat} {a b : State} (h : Steps p.tables e below a b) (k : Fin p e below s Q C S b) : Fin p e below s Q C S a := Fin.by (fun _ k => h.trans k) k
theorem Fin.start {Q : Option Value → Heap → List Loc → Prop} {C S : Nat} {g g' : JFrame} (q : g = g') (k : Fin p e below s Q C S (T.setTop g')) :
    ∃ s₂ o, Steps p.tables e below (T.setTop g) s₂ ∧ s₂.status = .running ∧ Ended s₂ below o ∧ ∃ v L, o = .returned v ∧ Q v s₂.heap L ∧ FrameEnd s o s₂ L C S := by
  subst q; exact k
theorem Fin.ret {Q : Option Value → Heap → List Loc → Prop} {C S : Nat} {v : Option Value} {g : JFrame} (X : Stand p l e R s m args below meth c T locs cells slots) (hv : meth.sig.returnType = none → v = none) (hl : meth.locks = false)
    (hq : Q v T.heap locs) (hc : cells ≤ C) (hs : slots ≤ S) (st : ∀ fs, (∀ (f : JFrame) (acts : List Action), f.method = m → f.locked = none → f.entered = [] → (doReturn e (T.setTop f) acts v).1 = T.setFrames fs) → Steps p.tables e below (T.setTop g) (T.setFrames fs)) :
    Fin p e below s Q C S (T.setTop g) := by
  obtain ⟨fs, hr, hrun, hended, hW, hsame⟩ := X.leave hv hl
  exact ⟨_, _, st fs hr, hrun, hended, _, _, rfl, hq, ⟨_, rfl⟩, hW, hsame.mono hc hs⟩
theorem retI (X : Stand p l e R s m args below meth c T locs cells slots) (hx : p.tables.exec = Jvm.exec) {pc : Nat} {Ls : Array Slot} {z : Int32} {rest : List Value} (hret : meth.sig.returnType = some .int) (hd : decode c.code pc = .ok (.ireturn, 1)) {fs : List Frame}
    (hl : ∀ (f : JFrame) (acts : List Action), f.method = m → f.locked = none → f.entered = [] → (doReturn e (T.setTop f) acts (some (.int z))).1 = T.setFrames fs) : Steps p.tables e below (T.setTop (mkF m pc Ls (.int z :: rest))) (T.setFrames fs) :=
  retOut X hx hret rfl (Or.inl ⟨rfl, Or.inl rfl, _, rfl⟩) hd hl
theorem retA (X : Stand p l e R s m args below meth c T locs cells slots) (hx : p.tables.exec = Jvm.exec) {pc : Nat} {Ls : Array Slot} {w : Value} {t : FieldType} {rest : List Value} (hret : meth.sig.returnType = some t) (ht : t.isReference = true) (hw : w.isRef = true) (hd : decode c.code pc = .ok (.areturn, 1)) {fs : List Frame}
    (hl : ∀ (f : JFrame) (acts : List Action), f.method = m → f.locked = none → f.entered = [] → (doReturn e (T.setTop f) acts (some w)).1 = T.setFrames fs) : Steps p.tables e below (T.setTop (mkF m pc Ls (w :: rest))) (T.setFrames fs) :=
  retOut X hx hret (by cases t <;> first | (cases ht; done) | rfl) (Or.inr (Or.inr (Or.inr (Or.inr ⟨rfl, ht, hw⟩)))) hd hl
theorem retJ (X : Stand p l e R s m args below meth c T locs cells slots) (hx : p.tables.exec = Jvm.exec) {pc : Nat} {Ls : Array Slot} {z : Int64} {rest : List Value} (hret : meth.sig.returnType = some .long) (hd : decode c.code pc = .ok (.lreturn, 1)) {fs : List Frame}
    (hl : ∀ (f : JFrame) (acts : List Action), f.method = m → f.locked = none → f.entered = [] → (doReturn e (T.setTop f) acts (some (.long z))).1 = T.setFrames fs) : Steps p.tables e below (T.setTop (mkF m pc Ls (.long z :: rest))) (T.setFrames fs) :=
  retOut X hx hret rfl (Or.inr (Or.inl ⟨rfl, rfl, _, rfl⟩)) hd hl
theorem retD (X : Stand p l e R s m args below meth c T locs cells slots) (hx : p.tables.exec = Jvm.exec) {pc : Nat} {Ls : Array Slot} {z : UInt64} {rest : List Value} (hret : meth.sig.returnType = some .double) (hd : decode c.code pc = .ok (.dreturn, 1)) {fs : List Frame}
    (hl : ∀ (f : JFrame) (acts : List Action), f.method = m → f.locked = none → f.entered = [] → (doReturn e (T.setTop f) acts (some (.double z))).1 = T.setFrames fs) : Steps p.tables e below (T.setTop (mkF m pc Ls (.double z :: rest))) (T.setFrames fs) :=
  retOut X hx hret rfl (Or.inr (Or.inr (Or.inl ⟨rfl, rfl, _, rfl⟩))) hd hl
theorem XnullYes {target : State} (X : Stand p l e R s m args below meth c T locs cells slots) (hx : p.tables.exec = Jvm.exec) {g : JFrame} (hg : g.method = m) {v : Value} {rest : List Value} {o : Int} {pc0 pc' : Nat} (hv : v = .null) (hpc : g.pc = pc0) (hd : decode c.code g.pc = .ok (.ifnull o, 3)) (hs : g.stack = v :: rest) (ho : 0 ≤ (pc0 : Int) + o) (hp : ((pc0 : Int) + o).toNat = pc')
    (k : Steps p.tables e below (T.setTop { g with pc := pc', stack := rest }) target) : Steps p.tables e below (T.setTop g) target := by subst hv; exact XS.ifnullYes X.here hx hg hpc hd hs ho hp k
theorem XnullNo {target : State} (X : Stand p l e R s m args below meth c T locs cells slots) (hx : p.tables.exec = Jvm.exec) {g : JFrame} (hg : g.method = m) {v : Value} {a : Addr} {rest : List Value} {o : Int} (hv : v = .ref a) (hd : decode c.code g.pc = .ok (.ifnull o, 3)) (hs : g.stack = v :: rest)
    (k : Steps p.tables e below (T.setTop { g with pc := g.pc + 3, stack := rest }) target) : Steps p.tables e below (T.setTop g) target := by subst hv; exact XS.ifnullNo X.here hx hg hd hs k
theorem XnonnullYes {target : State} (X : Stand p l e R s m args below meth c T locs cells slots) (hx : p.tables.exec = Jvm.exec) {g : JFrame} (hg : g.method = m) {v : Value} {a : Addr} {rest : List Value} {o : Int} {pc0 pc' : Nat} (hv : v = .ref a) (hpc : g.pc = pc0) (hd : decode c.code g.pc = .ok (.ifnonnull o, 3)) (hs : g.stack = v :: rest) (ho : 0 ≤ (pc0 : Int) + o) (hp : ((pc0 : Int) + o).toNat = pc')
    (k : Steps p.tables e below (T.setTop { g with pc := pc', stack := rest }) target) : Steps p.tables e below (T.setTop g) target := by subst hv; exact XS.ifnonnullYes X.here hx hg hpc hd hs ho hp k
theorem XnonnullNo {target : State} (X : Stand p l e R s m args below meth c T locs cells slots) (hx : p.tables.exec = Jvm.exec) {g : JFrame} (hg : g.method = m) {v : Value} {rest : List Value} {o : Int} (hv : v = .null) (hd : decode c.code g.pc = .ok (.ifnonnull o, 3)) (hs : g.stack = v :: rest)
    (k : Steps p.tables e below (T.setTop { g with pc := g.pc + 3, stack := rest }) target) : Steps p.tables e below (T.setTop g) target := by subst hv; exact XS.ifnonnullNo X.here hx hg hd hs k
theorem cat_ref {v : Value} (h : v.isRef = true) : v.category = 1 := by rcases ref_cases h with rfl | ⟨a, rfl⟩ <;> rfl
theorem nar_ref (C : String) {v : Value} (h : v.isRef = true) : narrow (.object C) v = v := rfl
theorem fits_obj {C : String} {v : Value} (h : v.isRef = true) : fits (.object C) v = true := by rcases ref_cases h with rfl | ⟨a, rfl⟩ <;> rfl
end OwnKit
def own_HC (Z : State) (vC : List Value) : Prop := ∀ i, i < 256 → ∃ y, vC.getD i .null = .ref y ∧ Exa Z Z.heap y "java/lang/Long" ∧ Fld Z Z.heap y "java/lang/Long" "value" "J" (.long ((Int32.ofNat i - 128).toInt64))
def own_max (x y : Int64) : Int64 := if lcmpW x y < 0 then y else x
def own_idx (x : Int64) : Int32 := (own_max ((x + 99) / 100) 1).toInt32 - 1
theorem own_lclt {x y : Int64} : lcmpW x y < 0 ↔ x < y := by
  unfold lcmpW
  by_cases h1 : x > y
  · rw [if_pos h1]; refine ⟨fun q => absurd q (by decide), fun q => ?_⟩
    rw [gt_iff_lt, Int64.lt_iff_toInt_lt] at h1; rw [Int64.lt_iff_toInt_lt] at q; omega
  · rw [if_neg h1]
    by_cases h2 : x = y
    · rw [if_pos h2]; refine ⟨fun q => absurd q (by decide), fun q => ?_⟩
      subst h2; rw [Int64.lt_iff_toInt_lt] at q; omega
    · rw [if_neg h2]; refine ⟨fun _ => ?_, fun _ => by decide⟩
      rw [gt_iff_lt, Int64.lt_iff_toInt_lt] at h1; rw [Int64.lt_iff_toInt_lt]
      have : ¬ x.toInt = y.toInt := fun q => h2 (Int64.toInt_inj.mp q)
      omega
theorem own_lcgt {x y : Int64} : 0 < lcmpW x y ↔ y < x := by
  unfold lcmpW
  by_cases h1 : x > y
  · rw [if_pos h1]; exact ⟨fun _ => h1, fun _ => by decide⟩
  · rw [if_neg h1]
    by_cases h2 : x = y
    · rw [if_pos h2]; exact ⟨fun q => absurd q (by decide), fun q => absurd q h1⟩
    · rw [if_neg h2]; exact ⟨fun q => absurd q (by decide), fun q => absurd q h1⟩
theorem own_k (n : Nat) (h : n < 2 ^ 31) : (Int64.ofNat n).toInt = n := by
  rw [Int64.toInt_ofNat', show Int64.size = 18446744073709551616 from rfl]; exact Int.bmod_eq_of_le (by omega) (by omega)
theorem own_j0 {x : Int64} (h1 : ¬ lcmpW x (-128) < 0) (h2 : ¬ 0 < lcmpW x 127) : -128 ≤ x.toInt ∧ x.toInt ≤ 127 := by
  rw [own_lclt, Int64.lt_iff_toInt_lt] at h1
  rw [own_lcgt, Int64.lt_iff_toInt_lt] at h2
  have e1 : (-128 : Int64).toInt = -128 := by decide
  have e2 : (127 : Int64).toInt = 127 := by decide
  omega
theorem own_j1 {x : Int64} (h : -128 ≤ x.toInt ∧ x.toInt ≤ 127) : (x.toInt32 + 128).toInt = x.toInt + 128 := by
  rw [Int32.toInt_add, Int64.toInt_toInt32]
  have e2 : (128 : Int32).toInt = 128 := by decide
  rw [e2, Int.bmod_eq_of_le (n := x.toInt) (by omega) (by omega)]
  exact Int.bmod_eq_of_le (by omega) (by omega)
theorem own_ci {x : Int64} (h1 : ¬ lcmpW x (-128) < 0) (h2 : ¬ 0 < lcmpW x 127) : (x.toInt32 + 128).toNatClampNeg < 256 := by
  have h := own_j0 h1 h2
  have q := own_j1 h
  simp only [Int32.toNatClampNeg, q]; omega
theorem own_cin {x : Int64} (h1 : ¬ lcmpW x (-128) < 0) (h2 : ¬ 0 < lcmpW x 127) : ¬ (x.toInt32 + 128) < 0 ∧ (x.toInt32 + 128) < 256 := by
  have h := own_j0 h1 h2
  have q := own_j1 h
  have e0 : (0 : Int32).toInt = 0 := by decide
  have e2 : (256 : Int32).toInt = 256 := by decide
  rw [Int32.lt_iff_toInt_lt, Int32.lt_iff_toInt_lt, q]; omega
theorem own_cv {x : Int64} (h1 : ¬ lcmpW x (-128) < 0) (h2 : ¬ 0 < lcmpW x 127) : (Int32.ofNat (x.toInt32 + 128).toNatClampNeg - 128).toInt64 = x := by
  have h := own_j0 h1 h2
  have q := own_j1 h
  have e2 : (128 : Int32).toInt = 128 := by decide
  have e3 : Int32.ofNat (x.toInt32 + 128).toNatClampNeg = x.toInt32 + 128 := by
    apply Int32.toInt_inj.mp
    rw [Int32.toInt_ofNat', q, show Int32.size = 4294967296 from rfl]
    simp only [Int32.toNatClampNeg, q]
    rw [Int.toNat_of_nonneg (by omega)]
    exact Int.bmod_eq_of_le (by omega) (by omega)
  apply Int64.toInt_inj.mp
  rw [Int32.toInt_toInt64, e3, Int32.toInt_sub, q, e2]
  rw [show x.toInt + 128 - 128 = x.toInt from by omega]
  exact Int.bmod_eq_of_le (by omega) (by omega)
theorem own_q {x : Int64} (h1 : -100000000000 ≤ x.toInt) (h2 : x.toInt ≤ 400) : ((x + 99) / 100).toInt = (x.toInt + 99).tdiv 100 := by
  have e1 : (99 : Int64).toInt = 99 := by decide
  have e2 : (100 : Int64).toInt = 100 := by decide
  have ea : (x + 99).toInt = x.toInt + 99 := by
    rw [Int64.toInt_add, e1]; exact Int.bmod_eq_of_le (by omega) (by omega)
  rw [Int64.toInt_div, ea, e2]
  have hb : -100000000000 ≤ (x.toInt + 99).tdiv 100 ∧ (x.toInt + 99).tdiv 100 ≤ 400 := by
    rcases Int.le_total 0 (x.toInt + 99) with q | q
    · rw [Int.tdiv_eq_ediv_of_nonneg q]; omega
    · have : (x.toInt + 99).tdiv 100 = - ((-(x.toInt + 99)) / 100) := by
        rw [← Int.tdiv_eq_ediv_of_nonneg (by omega), Int.neg_tdiv, Int.neg_neg]
      omega
  exact Int.bmod_eq_of_le (by omega) (by omega)
theorem own_i0 {x : Int64} (h1 : -100000000000 ≤ x.toInt) (h2 : x.toInt ≤ 100) : own_idx x = 0 := by
  have q := own_q h1 (by omega)
  have e1 : (1 : Int64).toInt = 1 := by decide
  have hq : (x.toInt + 99).tdiv 100 ≤ 1 := by
    rcases Int.le_total 0 (x.toInt + 99) with r | r
    · rw [Int.tdiv_eq_ediv_of_nonneg r]; omega
    · have : (x.toInt + 99).tdiv 100 = - ((-(x.toInt + 99)) / 100) := by
        rw [← Int.tdiv_eq_ediv_of_nonneg (by omega), Int.neg_tdiv, Int.neg_neg]
      omega
  unfold own_idx own_max
  by_cases h : lcmpW ((x + 99) / 100) 1 < 0
  · rw [if_pos h]; decide
  · rw [if_neg h]
    rw [own_lclt, Int64.lt_iff_toInt_lt, q, e1] at h
    have : (x + 99) / 100 = 1 := Int64.toInt_inj.mp (by rw [q, e1]; omega)
    rw [this]; decide
theorem own_i {x : Int64} (k : Nat) (hk : 2 ≤ k) (hk4 : k ≤ 4) (h1 : 100 * (k : Int) - 100 < x.toInt) (h2 : x.toInt ≤ 100 * k) : own_idx x = Int32.ofNat (k - 1) := by
  have q := own_q (x := x) (by omega) (by omega)
  have e1 : (1 : Int64).toInt = 1 := by decide
  rw [Int.tdiv_eq_ediv_of_nonneg (by omega)] at q
  have hq : (x.toInt + 99) / 100 = (k : Int) := by omega
  have : (x + 99) / 100 = Int64.ofNat k := Int64.toInt_inj.mp (by rw [q, own_k k (by omega), hq])
  unfold own_idx own_max
  rw [this, if_neg (by rw [own_lclt, Int64.lt_iff_toInt_lt, own_k k (by omega), e1]; omega)]
  have hk' : k = 2 ∨ k = 3 ∨ k = 4 := by omega
  rcases hk' with rfl | rfl | rfl <;> decide
def own_C0 (x : Int64) : Prop := ¬ 0 < lcmpW x 100 ∧ own_idx x = 0
def own_C1 (x : Int64) : Prop := 0 < lcmpW x 100 ∧ ¬ 0 < lcmpW x 200 ∧ own_idx x = 1
def own_C2 (x : Int64) : Prop := 0 < lcmpW x 100 ∧ 0 < lcmpW x 200 ∧ ¬ 0 < lcmpW x 300 ∧ own_idx x = 2
def own_C3 (x : Int64) : Prop := 0 < lcmpW x 100 ∧ 0 < lcmpW x 200 ∧ 0 < lcmpW x 300 ∧ own_idx x = 3
theorem own_mul {p n : Int32} (hp : p.toInt ≤ 100) (h0 : 0 ≤ n.toInt) (hn : n.toInt ≤ 4) : -100000000000 ≤ (p.toInt64 * n.toInt64).toInt ∧ (p.toInt64 * n.toInt64).toInt ≤ 100 * n.toInt := by
  have hl : -2147483648 ≤ p.toInt := Int32.le_toInt p
  have e : (p.toInt64 * n.toInt64).toInt = p.toInt * n.toInt := by
    rw [Int64.toInt_mul, Int32.toInt_toInt64, Int32.toInt_toInt64]
    have hh : n.toInt = 0 ∨ n.toInt = 1 ∨ n.toInt = 2 ∨ n.toInt = 3 ∨ n.toInt = 4 := by omega
    rcases hh with hh | hh | hh | hh | hh <;> rw [hh] <;> exact Int.bmod_eq_of_le (by omega) (by omega)
  rw [e]
  have hh : n.toInt = 0 ∨ n.toInt = 1 ∨ n.toInt = 2 ∨ n.toInt = 3 ∨ n.toInt = 4 := by omega
  rcases hh with hh | hh | hh | hh | hh <;> rw [hh] <;> omega
theorem own_cases {x : Int64} (h1 : -100000000000 ≤ x.toInt) (h2 : x.toInt ≤ 400) : (x.toInt ≤ 100 ∧ own_C0 x) ∨ (100 < x.toInt ∧ x.toInt ≤ 200 ∧ own_C1 x) ∨ (200 < x.toInt ∧ x.toInt ≤ 300 ∧ own_C2 x) ∨ (300 < x.toInt ∧ own_C3 x) := by
  have e1 : (100 : Int64).toInt = 100 := by decide
  have e2 : (200 : Int64).toInt = 200 := by decide
  have e3 : (300 : Int64).toInt = 300 := by decide
  unfold own_C0 own_C1 own_C2 own_C3
  simp only [own_lcgt, Int64.lt_iff_toInt_lt, e1, e2, e3]
  have hc : x.toInt ≤ 100 ∨ (100 < x.toInt ∧ x.toInt ≤ 200) ∨ (200 < x.toInt ∧ x.toInt ≤ 300) ∨ 300 < x.toInt := by omega
  rcases hc with h | h | h | h
  · exact Or.inl ⟨h, by omega, own_i0 h1 h⟩
  · exact Or.inr (Or.inl ⟨h.1, h.2, by omega, by omega, own_i 2 (by omega) (by omega) (by omega) (by omega)⟩)
  · exact Or.inr (Or.inr (Or.inl ⟨h.1, h.2, by omega, by omega, by omega, own_i 3 (by omega) (by omega) (by omega) (by omega)⟩))
  · exact Or.inr (Or.inr (Or.inr ⟨h, by omega, by omega, by omega, own_i 4 (by omega) (by omega) (by omega) (by omega)⟩))
theorem own_n1 {p : Int32} (hp : p.toInt ≤ 100) : own_C0 (p.toInt64 * (1 : Int64)) := by
  have h := own_mul (n := 1) hp (by decide) (by decide)
  have e : (1 : Int32).toInt = 1 := by decide
  rw [show (1 : Int32).toInt64 = 1 from by decide, e] at h
  rcases own_cases h.1 (by omega) with q | q | q | q
  · exact q.2
  all_goals omega
theorem own_n2 {p : Int32} (hp : p.toInt ≤ 100) : own_C0 (p.toInt64 * (2 : Int64)) ∨ own_C1 (p.toInt64 * (2 : Int64)) := by
  have h := own_mul (n := 2) hp (by decide) (by decide)
  have e : (2 : Int32).toInt = 2 := by decide
  rw [show (2 : Int32).toInt64 = 2 from by decide, e] at h
  rcases own_cases h.1 (by omega) with q | q | q | q
  · exact Or.inl q.2
  · exact Or.inr q.2.2
  all_goals omega
theorem own_n3 {p : Int32} (hp : p.toInt ≤ 100) : own_C0 (p.toInt64 * (3 : Int64)) ∨ own_C1 (p.toInt64 * (3 : Int64)) ∨ own_C2 (p.toInt64 * (3 : Int64)) := by
  have h := own_mul (n := 3) hp (by decide) (by decide)
  have e : (3 : Int32).toInt = 3 := by decide
  rw [show (3 : Int32).toInt64 = 3 from by decide, e] at h
  rcases own_cases h.1 (by omega) with q | q | q | q
  · exact Or.inl q.2
  · exact Or.inr (Or.inl q.2.2)
  · exact Or.inr (Or.inr q.2.2)
  · omega
theorem own_n4 {p : Int32} (hp : p.toInt ≤ 100) : own_C0 (p.toInt64 * (4 : Int64)) ∨ own_C1 (p.toInt64 * (4 : Int64)) ∨ own_C2 (p.toInt64 * (4 : Int64)) ∨ own_C3 (p.toInt64 * (4 : Int64)) := by
  have h := own_mul (n := 4) hp (by decide) (by decide)
  have e : (4 : Int32).toInt = 4 := by decide
  rw [show (4 : Int32).toInt64 = 4 from by decide, e] at h
  rcases own_cases h.1 (by omega) with q | q | q | q
  · exact Or.inl q.2
  · exact Or.inr (Or.inl q.2.2)
  · exact Or.inr (Or.inr (Or.inl q.2.2))
  · exact Or.inr (Or.inr (Or.inr q.2))
theorem own_mod5 (x : Int32) : ((x &&& 2147483647) % 5) = 0 ∨ ((x &&& 2147483647) % 5) = 1 ∨ ((x &&& 2147483647) % 5) = 2 ∨ ((x &&& 2147483647) % 5) = 3 ∨ ((x &&& 2147483647) % 5) = 4 := by
  have h := c_and x 2147483647 (by decide)
  have e5 : (5 : Int32).toInt = 5 := by decide
  have q : ((x &&& 2147483647) % 5).toInt = (x &&& 2147483647).toInt % 5 := by rw [Int32.toInt_mod, e5, Int.tmod_eq_emod_of_nonneg h.1]
  have hh : ((x &&& 2147483647) % 5).toInt = 0 ∨ ((x &&& 2147483647) % 5).toInt = 1 ∨ ((x &&& 2147483647) % 5).toInt = 2 ∨ ((x &&& 2147483647) % 5).toInt = 3 ∨ ((x &&& 2147483647) % 5).toInt = 4 := by omega
  rcases hh with r | r | r | r | r
  · exact Or.inl (Int32.toInt_inj.mp (by rw [r]; decide))
  · exact Or.inr (Or.inl (Int32.toInt_inj.mp (by rw [r]; decide)))
  · exact Or.inr (Or.inr (Or.inl (Int32.toInt_inj.mp (by rw [r]; decide))))
  · exact Or.inr (Or.inr (Or.inr (Or.inl (Int32.toInt_inj.mp (by rw [r]; decide)))))
  · exact Or.inr (Or.inr (Or.inr (Or.inr (Int32.toInt_inj.mp (by rw [r]; decide)))))
theorem own_p100 {p : Int32} (h : ¬ (100 : Int32) < p) : p.toInt ≤ 100 := by
  rw [Int32.lt_iff_toInt_lt] at h; have : (100 : Int32).toInt = 100 := by decide
  omega
theorem own_p101 {p : Int32} (h : (100 : Int32) < p) : (p % 101).toInt ≤ 100 := by
  rw [Int32.lt_iff_toInt_lt] at h; have e : (100 : Int32).toInt = 100 := by decide
  have e5 : (101 : Int32).toInt = 101 := by decide
  rw [Int32.toInt_mod, e5, Int.tmod_eq_emod_of_nonneg (by omega)]; omega
theorem own_exne {Z : State} {h : Heap} {a b : Addr} {C D : String} (E : Exa Z h a C) (F : Exa Z h b D) (n : C ≠ D) : a ≠ b := by
  intro q; subst q
  obtain ⟨c1, k1, e1, e2, -⟩ := E
  obtain ⟨c2, k2, f1, f2, -⟩ := F
  cases e1.symm.trans f1
  obtain ⟨x1, y1, y2⟩ := Vm.findClass_spec e2
  obtain ⟨x2, w1, w2⟩ := Vm.findClass_spec f2
  cases y1.symm.trans w1
  exact n (y2.symm.trans w2)
theorem own_arne {Z : State} {h : Heap} {a b : Addr} {k : ClassId} {ty : FieldType} {z : Int32} {vs : List Value} {dv : Value} {C : String} {n : Nat} {a0 : Array Value} (A : Arv Z h a k ty z vs dv) (E : Exa Z h b C) (w : (Cond.instantiable C n).before a0 Z = true) : a ≠ b := by
  intro q; subst q
  obtain ⟨cl, ⟨h1, ⟨h2, kk, hk, comp, hkind⟩, h3⟩, -⟩ := A
  obtain ⟨c1, k1, e1, e2, e3, -⟩ := E
  cases e1.symm.trans h1
  obtain ⟨q, kQ, hQ, hkQ, hki, -⟩ := Cond.instantiable_spec w
  cases e2.symm.trans hQ
  cases hk.symm.trans hkQ
  rw [hkind] at hki
  cases hki
abbrev y_0 : MethodName := (⟨"java/lang/Number", "<init>", "()V"⟩ : MethodName)
theorem d0_0 : decode jdk_18_method_1_code 0 = .ok (.aload_n 0, 1) := by decide +kernel
theorem d0_1 : decode jdk_18_method_1_code 1 = .ok (.invokespecial 1, 3) := by decide +kernel
theorem d0_4 : decode jdk_18_method_1_code 4 = .ok (.return_, 1) := by decide +kernel
theorem pn_java_lang_Number : plainName "java/lang/Number" = true := by first | (simp [plainName, overriddenIn]; done) | decide +kernel
def Q_num (Z : State) (a : Addr) (h0 : Heap) (n0 : Nat) (vv_ : Option Value) (hh_ : Heap) (LL_ : List Loc) : Prop := vv_ = none ∧ Fr n0 LL_ ∧ hh_ = h0
set_option maxRecDepth 65536 in
set_option maxHeartbeats 40000000 in
theorem rm_num (l : Launch) (Z : State) (a0 : Array Value) (hw : ∀ d ∈ tables_1, d.before a0 Z = true) (ws : List Jvm.Cond) (a : Addr) (h0 : Heap) (n0 : Nat) (Z0 : n0 ≤ h0.size) :
    MetFree l y_0 (head1 (Jvm.Cond.code y_0 jdk_18_method_1_code 1 none :: ws) ({ frames := 1, cells := 0, slots := 0, locals := 12 } : Room)) (fun aa_ U => aa_ = #[(.ref a)] ∧ Z.Warmed39 U.vm ∧ U.heap = h0) (fun _ _ _ _ _ => True) (fun _ U o U' => ∃ vv_ LL_, o = .returned vv_ ∧ Q_num Z a h0 n0 vv_ U'.heap LL_ ∧ FrameEnd U o U' LL_ 0 0) := by
  refine MetFree.of_bodySF (plainFor_of_name pn_java_lang_Number) hisR ?_
  intro p e s m args below meth c s₁ Bd hml0 hP hK
  obtain ⟨rfl, hZ, hh⟩ := hP
  have hx := Bd.exec
  have hby := Bd.bytes
  have hml : c.maxLocals = 1 := hml0
  have hown : s.vm.findClass "java/lang/Number" = some m.cls := findClass_of_methodNamed Bd.named
  have hnm := (name_of_methodNamed Bd.named Bd.method).1
  have X0 : Stand p l e ({ frames := 1, cells := 0, slots := 0, locals := 12 } : Room) s m #[(.ref a)] below meth c s₁ [] 0 0 := Stand.of_body Bd
  have e0 : s₁.heap = h0 := by rw [← hh, Bd.state]; rfl
  have N0 := Fr.nil n0
  have ef : entryFrame m #[(.ref a)] 1 = mkF m 0 #[.val (.ref a)] [] := by first | (simp [entryFrame, mkF, argsToLocals, Value.category]; done) | rfl
  refine Fin.start (Q := Q_num Z a h0 n0) ef ?_
  refine Fin.by (fun tt_ kk_ => XS.aloadN X0.here hx rfl (hb hby d0_0) rfl rfl kk_) ?_
  obtain ⟨T101, X101, e101, st101⟩ := initO X0 hx hZ hown (w_ hw 93 rfl) (w_ hw 21 rfl) (w_ hw 22 rfl) e0 (g := (mkF m 1 #[.val (.ref a)] [(.ref a)])) rfl (by rw [hml]; rfl) rfl (hb hby d0_1) (by decide) (W := 0) (by show 2 * 0 + _ ≤ _; exact Nat.le_of_eq rfl) (by decide)
  refine Fin.by (fun tt_ kk_ => st101 tt_ kk_) ?_
  show Fin _ _ _ _ _ _ _ (T101.setTop (mkF m 4 #[.val (.ref a)] []))
  exact Fin.ret (v := none) X101 (fun _ => rfl) Bd.notSynchronized (by rw [e101]; exact ⟨rfl, N0, rfl⟩) (by decide) (by decide) (fun fs hr => X101.returnOut hx Bd.returns (hb hby d0_4) hr)
abbrev y_1 : MethodName := (⟨"java/lang/Long", "<init>", "(J)V"⟩ : MethodName)
theorem d1_0 : decode jdk_35_method_26_code 0 = .ok (.aload_n 0, 1) := by decide +kernel
theorem pd_5 : parseMethodDescriptor "()V" = some ⟨[], none⟩ := by decide +kernel
theorem d1_1 : decode jdk_35_method_26_code 1 = .ok (.invokespecial 270, 3) := by decide +kernel
theorem d1_4 : decode jdk_35_method_26_code 4 = .ok (.aload_n 0, 1) := by decide +kernel
theorem d1_5 : decode jdk_35_method_26_code 5 = .ok (.lload_n 1, 1) := by decide +kernel
theorem d1_6 : decode jdk_35_method_26_code 6 = .ok (.putfield 273, 3) := by decide +kernel
theorem d1_9 : decode jdk_35_method_26_code 9 = .ok (.return_, 1) := by decide +kernel
theorem pn_java_lang_Long : plainName "java/lang/Long" = true := by first | (simp [plainName, overriddenIn]; done) | decide +kernel
def Q_lni (Z : State) (y : Addr) (x : Int64) (h0 : Heap) (n0 : Nat) (vv_ : Option Value) (hh_ : Heap) (LL_ : List Loc) : Prop := vv_ = none ∧ Fr n0 LL_ ∧ Keep h0 hh_ [y] ∧ Exa Z hh_ y "java/lang/Long" ∧ Fld Z hh_ y "java/lang/Long" "value" "J" (.long x)
set_option maxRecDepth 65536 in
set_option maxHeartbeats 40000000 in
theorem rm_lni (l : Launch) (Z : State) (a0 : Array Value) (hw : ∀ d ∈ tables_1, d.before a0 Z = true) (ws : List Jvm.Cond) (y : Addr) (x : Int64) (h0 : Heap) (n0 : Nat) (Z0 : n0 ≤ h0.size) (Y0 : Exa Z h0 y "java/lang/Long") (Y1 : Fld Z h0 y "java/lang/Long" "value" "J" (.long (0 : Int64))) (gy : n0 ≤ y) :
    MetFree l y_1 (head1 (Jvm.Cond.code y_1 jdk_35_method_26_code 3 none :: ws) ({ frames := 2, cells := 0, slots := 0, locals := 24 } : Room)) (fun aa_ U => aa_ = #[(.ref y), (.long x)] ∧ Z.Warmed39 U.vm ∧ U.heap = h0) (fun _ _ _ _ _ => True) (fun _ U o U' => ∃ vv_ LL_, o = .returned vv_ ∧ Q_lni Z y x h0 n0 vv_ U'.heap LL_ ∧ FrameEnd U o U' LL_ 0 0) := by
  refine MetFree.of_bodySF (plainFor_of_name pn_java_lang_Long) hisR ?_
  intro p e s m args below meth c s₁ Bd hml0 hP hK
  obtain ⟨rfl, hZ, hh⟩ := hP
  have hx := Bd.exec
  have hby := Bd.bytes
  have hml : c.maxLocals = 3 := hml0
  have hown : s.vm.findClass "java/lang/Long" = some m.cls := findClass_of_methodNamed Bd.named
  have hnm := (name_of_methodNamed Bd.named Bd.method).1
  have X0 : Stand p l e ({ frames := 2, cells := 0, slots := 0, locals := 24 } : Room) s m #[(.ref y), (.long x)] below meth c s₁ [] 0 0 := Stand.of_body Bd
  have e0 : s₁.heap = h0 := by rw [← hh, Bd.state]; rfl
  have N0 := Fr.nil n0
  have ef : entryFrame m #[(.ref y), (.long x)] 3 = mkF m 0 #[.val (.ref y), .val (.long x), .second] [] := by first | (simp [entryFrame, mkF, argsToLocals, Value.category]; done) | rfl
  refine Fin.start (Q := Q_lni Z y x h0 n0) ef ?_
  refine Fin.by (fun tt_ kk_ => XS.aloadN X0.here hx rfl (hb hby d1_0) rfl rfl kk_) ?_
  obtain ⟨v101, _, ⟨T101, L101, k101, n101⟩, -, X101, ⟨Lc101, hQ101, l101, y101, z101⟩, st101⟩ := X0.specialBack hx (y := y_0) rfl hown (mvT hZ (w_ hw 87 rfl)) (mvT hZ (w_ hw 88 rfl)) (mvT hZ (w_ hw 92 rfl)) (by decide) (backOf (W := 0) (rm_num l Z a0 hw [] y h0 n0 Z0 ) hZ (w_ hw 92 rfl) (w_ hw 91 rfl) (by decide) (by decide)) (g := (mkF m 1 #[.val (.ref y), .val (.long x), .second] [(.ref y)])) rfl (by rw [hml]; rfl) (Steps.refl _) (a := y) (argsL := []) (rest := []) (lenOf pd_5 rfl) rfl (by show 2 * 0 + _ ≤ _; exact Nat.le_of_eq rfl) (hb hby d1_1) (fun _ _ => ⟨rfl, e0, (by decide : 0 + 0 ≤ _), (by decide : 0 + 0 ≤ _)⟩)
  dsimp only [Pt.U, Pt.locs, Pt.cells, Pt.slots] at X101 l101 y101 z101 st101 hQ101
  subst l101 y101 z101
  obtain ⟨rfl, Nq101, e101_⟩ := hQ101
  have N101_ := Fr.app N0 Nq101
  refine Fin.byS st101 ?_
  have e101 := e101_
  refine Fin.by (fun tt_ kk_ => XS.aloadN X101.here hx rfl (hb hby d1_4) rfl rfl (XS.lloadN X101.here hx rfl (hb hby d1_5) rfl kk_)) ?_
  obtain ⟨T102, h102, X102, e102, W102, st102⟩ := putF X101 hx hZ hown (host := "") (Or.inl (w_ hw 94 rfl)) Via.refl e101 Y1 Y0 (Or.inr ⟨(w_ hw 95 rfl), rfl, hnm⟩) (w_ hw 82 rfl) (ty := .long) (by decide) rfl rfl (g := (mkF m 6 #[.val (.ref y), .val (.long x), .second] [(.long x), (.ref y)])) rfl rfl (hb hby d1_6)
  refine Fin.by (fun tt_ kk_ => st102 tt_ kk_) ?_
  have N102_ := Fr.snoc X102 N101_ gy
  have kp103 : Keep h0 h102 [y] := (Keep.refl h0 [y]).wr W102 (Or.inl (List.mem_of_getElem? (i := 0) rfl))
  have E104 : Exa Z h102 y "java/lang/Long" := (Y0.wr W102)
  show Fin _ _ _ _ _ _ _ (T102.setTop (mkF m 9 #[.val (.ref y), .val (.long x), .second] []))
  exact Fin.ret (v := none) X102 (fun _ => rfl) Bd.notSynchronized (by rw [e102]; exact ⟨rfl, N102_, kp103, E104, (Y1.same W102)⟩) (by decide) (by decide) (fun fs hr => X102.returnOut hx Bd.returns (hb hby d1_9) hr)
abbrev y_2 : MethodName := (⟨"java/lang/Long", "valueOf", "(J)Ljava/lang/Long;"⟩ : MethodName)
theorem d2_0 : decode jdk_35_method_24_code 0 = .ok (.sipush 128, 3) := by decide +kernel
theorem d2_3 : decode jdk_35_method_24_code 3 = .ok (.istore_n 2, 1) := by decide +kernel
theorem d2_4 : decode jdk_35_method_24_code 4 = .ok (.lload_n 0, 1) := by decide +kernel
theorem d2_5 : decode jdk_35_method_24_code 5 = .ok (.ldc2_w 230, 3) := by decide +kernel
theorem d2_8 : decode jdk_35_method_24_code 8 = .ok (.lcmp, 1) := by decide +kernel
theorem d2_9 : decode jdk_35_method_24_code 9 = .ok (.ifCond .lt 22, 3) := by decide +kernel
theorem d2_31 : decode jdk_35_method_24_code 31 = .ok (.new 1, 3) := by decide +kernel
theorem d2_34 : decode jdk_35_method_24_code 34 = .ok (.dup, 1) := by decide +kernel
theorem d2_35 : decode jdk_35_method_24_code 35 = .ok (.lload_n 0, 1) := by decide +kernel
theorem pd_21 : parseMethodDescriptor "(J)V" = some ⟨[.long], none⟩ := by decide +kernel
theorem d2_36 : decode jdk_35_method_24_code 36 = .ok (.invokespecial 240, 3) := by decide +kernel
theorem d2_39 : decode jdk_35_method_24_code 39 = .ok (.areturn, 1) := by decide +kernel
theorem d2_12 : decode jdk_35_method_24_code 12 = .ok (.lload_n 0, 1) := by decide +kernel
theorem d2_13 : decode jdk_35_method_24_code 13 = .ok (.ldc2_w 232, 3) := by decide +kernel
theorem d2_16 : decode jdk_35_method_24_code 16 = .ok (.lcmp, 1) := by decide +kernel
theorem d2_17 : decode jdk_35_method_24_code 17 = .ok (.ifCond .gt 14, 3) := by decide +kernel
theorem d2_20 : decode jdk_35_method_24_code 20 = .ok (.getstatic 234, 3) := by decide +kernel
theorem d2_23 : decode jdk_35_method_24_code 23 = .ok (.lload_n 0, 1) := by decide +kernel
theorem d2_24 : decode jdk_35_method_24_code 24 = .ok (.l2i, 1) := by decide +kernel
theorem d2_25 : decode jdk_35_method_24_code 25 = .ok (.sipush 128, 3) := by decide +kernel
theorem d2_28 : decode jdk_35_method_24_code 28 = .ok (.iadd, 1) := by decide +kernel
theorem d2_29 : decode jdk_35_method_24_code 29 = .ok (.aaload, 1) := by decide +kernel
theorem d2_30 : decode jdk_35_method_24_code 30 = .ok (.areturn, 1) := by decide +kernel
def Q_vof (Z : State) (x : Int64) (aC : Addr) (kC : ClassId) (vC : List Value) (h0 : Heap) (n0 : Nat) (vv_ : Option Value) (hh_ : Heap) (LL_ : List Loc) : Prop := ∃ (y : Addr), vv_ = some (.ref y) ∧ Fr n0 LL_ ∧ Keep h0 hh_ [] ∧ Exa Z hh_ y "java/lang/Long" ∧ Fld Z hh_ y "java/lang/Long" "value" "J" (.long x)
set_option maxRecDepth 65536 in
set_option maxHeartbeats 40000000 in
theorem rm_vof (l : Launch) (Z : State) (a0 : Array Value) (hw : ∀ d ∈ tables_1, d.before a0 Z = true) (ws : List Jvm.Cond) (x : Int64) (aC : Addr) (kC : ClassId) (vC : List Value) (h0 : Heap) (n0 : Nat) (Z0 : n0 ≤ h0.size) (S5 : Sta Z Z.heap "java/lang/Long$LongCache" "cache" "[Ljava/lang/Long;" (.ref aC)) (VC : Arv Z Z.heap aC kC (.object "java/lang/Long") (256 : Int32) vC .null) (HC : own_HC Z vC) (OL : Old Z n0 h0) :
    MetFree l y_2 (head1 (Jvm.Cond.code y_2 jdk_35_method_24_code 3 (some (.object "java/lang/Long")) :: ws) ({ frames := 3, cells := 1, slots := 1, locals := 39 } : Room)) (fun aa_ U => aa_ = #[(.long x)] ∧ Z.Warmed39 U.vm ∧ U.heap = h0) (fun _ _ _ _ _ => True) (fun _ U o U' => ∃ vv_ LL_, o = .returned vv_ ∧ Q_vof Z x aC kC vC h0 n0 vv_ U'.heap LL_ ∧ FrameEnd U o U' LL_ 1 1) := by
  refine MetFree.of_bodySF (plainFor_of_name pn_java_lang_Long) hisR ?_
  intro p e s m args below meth c s₁ Bd hml0 hP hK
  obtain ⟨rfl, hZ, hh⟩ := hP
  have hx := Bd.exec
  have hby := Bd.bytes
  have hml : c.maxLocals = 3 := hml0
  have hown : s.vm.findClass "java/lang/Long" = some m.cls := findClass_of_methodNamed Bd.named
  have hnm := (name_of_methodNamed Bd.named Bd.method).1
  have X0 : Stand p l e ({ frames := 3, cells := 1, slots := 1, locals := 39 } : Room) s m #[(.long x)] below meth c s₁ [] 0 0 := Stand.of_body Bd
  have e0 : s₁.heap = h0 := by rw [← hh, Bd.state]; rfl
  have N0 := Fr.nil n0
  have ef : entryFrame m #[(.long x)] 3 = mkF m 0 #[.val (.long x), .second, .unset] [] := by first | (simp [entryFrame, mkF, argsToLocals, Value.category]; done) | rfl
  refine Fin.start (Q := Q_vof Z x aC kC vC h0 n0) ef ?_
  refine Fin.by (fun tt_ kk_ => XS.sipush X0.here hx rfl (hb hby d2_0) (XS.istoreN X0.here hx rfl (hb hby d2_3) rfl (l' := #[.val (.long x), .second, .val (.int 128)]) rfl (XS.lloadN X0.here hx rfl (hb hby d2_4) rfl kk_))) ?_
  refine Fin.by (fun tt_ kk_ => X0.ldc2Long hx hown (mvT hZ (w_ hw 48 rfl)) (g := (mkF m 5 #[.val (.long x), .second, .val (.int 128)] [(.long x)])) rfl (hb hby d2_5) _ kk_) ?_
  refine Fin.by (fun tt_ kk_ => XS.lcmp X0.here hx rfl (hb hby d2_8) rfl kk_) ?_
  show Fin _ _ _ _ _ _ _ (s₁.setTop (mkF m 9 #[.val (.long x), .second, .val (.int 128)] [(.int (lcmpW x (-128 : Int64)))]))
  by_cases h1 : (lcmpW x (-128 : Int64)) < (0 : Int32)
  · refine Fin.by (fun tt_ kk_ => XS.ifYes X0.here hx rfl (pc0 := 9) (pc' := 31) rfl (hb hby d2_9) rfl ((if0 _ _).trans (tlt h1).1) (by decide) (by decide) kk_) ?_
    obtain ⟨T101, h101, X101, e101, E101, A101, D101, -, st101⟩ := newO X0 hx hZ hown (w_ hw 81 rfl) (w_ hw 82 rfl) (w_ hw 46 rfl) e0 (g := (mkF m 31 #[.val (.long x), .second, .val (.int 128)] [])) rfl (hb hby d2_31) (by decide) (by decide)
    obtain ⟨a101, g101⟩ : ∃ z, z = h0.size := ⟨_, rfl⟩
    rw [← g101] at A101 D101 st101
    refine Fin.by (fun tt_ kk_ => st101 tt_ kk_) ?_
    refine Fin.by (fun tt_ kk_ => XS.dup X101.here hx rfl (hb hby d2_34) rfl rfl (XS.lloadN X101.here hx rfl (hb hby d2_35) rfl kk_)) ?_
    have g102 : n0 ≤ a101 := Nat.le_trans Z0 (Nat.le_of_eq g101.symm)
    have z103 : n0 ≤ h101.size := Nat.le_trans Z0 E101.1
    obtain ⟨v104, _, ⟨T104, L104, k104, n104⟩, -, X104, ⟨Lc104, hQ104, l104, y104, z104⟩, st104⟩ := X101.specialBack hx (y := y_1) rfl hown (mvT hZ (w_ hw 83 rfl)) (mvT hZ (w_ hw 84 rfl)) (mvT hZ (w_ hw 86 rfl)) (by decide) (backOf (W := 1) (rm_lni l Z a0 hw [] a101 x h101 n0 z103 A101 (D101 (Or.inr (w_ hw 95 rfl)) (ty := .long) (by decide) : Fld Z h101 a101 "java/lang/Long" "value" "J" (.long (0 : Int64))) g102) hZ (w_ hw 86 rfl) (w_ hw 46 rfl) (by decide) (by decide)) (g := (mkF m 36 #[.val (.long x), .second, .val (.int 128)] [(.long x), (.ref a101), (.ref a101)])) rfl (by rw [hml]; rfl) (Steps.refl _) (a := a101) (argsL := [(.long x)]) (rest := [(.ref a101)]) (lenOf pd_21 rfl) rfl (by show 2 * 0 + _ ≤ _; exact Nat.le_of_eq rfl) (hb hby d2_36) (fun _ _ => ⟨rfl, e101, (by decide : 1 + 0 ≤ _), (by decide : 1 + 0 ≤ _)⟩)
    dsimp only [Pt.U, Pt.locs, Pt.cells, Pt.slots] at X104 l104 y104 z104 st104 hQ104
    subst l104 y104 z104
    obtain ⟨rfl, Nq104, p104_0, p104_1, p104_2⟩ := hQ104
    have N104_ := Fr.app N0 Nq104
    refine Fin.byS st104 ?_
    have kp105 : Keep h0 h101 [] := (Keep.refl h0 []).ext E101
    have kp106 : Keep h0 T104.heap [] := kp105.trans p104_0 (allS (Or.inr (Nat.le_trans (Nat.le_refl _) (Nat.le_of_eq g101.symm))) all0)
    show Fin _ _ _ _ _ _ _ (T104.setTop (mkF m 39 #[.val (.long x), .second, .val (.int 128)] [(.ref a101)]))
    exact Fin.ret (v := some (.ref a101)) X104 (fun h => by rw [Bd.returns] at h; cases h) Bd.notSynchronized (⟨a101, rfl, N104_, kp106, p104_1, p104_2⟩) (by decide) (by decide) (fun fs hr => retA X104 hx Bd.returns rfl rfl (hb hby d2_39) hr)
  · refine Fin.by (fun tt_ kk_ => XS.ifNo X0.here hx rfl (hb hby d2_9) rfl ((if0 _ _).trans (flt h1).1) kk_) ?_
    refine Fin.by (fun tt_ kk_ => XS.lloadN X0.here hx rfl (hb hby d2_12) rfl kk_) ?_
    refine Fin.by (fun tt_ kk_ => X0.ldc2Long hx hown (mvT hZ (w_ hw 49 rfl)) (g := (mkF m 13 #[.val (.long x), .second, .val (.int 128)] [(.long x)])) rfl (hb hby d2_13) _ kk_) ?_
    refine Fin.by (fun tt_ kk_ => XS.lcmp X0.here hx rfl (hb hby d2_16) rfl kk_) ?_
    show Fin _ _ _ _ _ _ _ (s₁.setTop (mkF m 17 #[.val (.long x), .second, .val (.int 128)] [(.int (lcmpW x (127 : Int64)))]))
    by_cases h2 : (0 : Int32) < (lcmpW x (127 : Int64))
    · refine Fin.by (fun tt_ kk_ => XS.ifYes X0.here hx rfl (pc0 := 17) (pc' := 31) rfl (hb hby d2_17) rfl ((if0 _ _).trans (tlt h2).2.2.1) (by decide) (by decide) kk_) ?_
      obtain ⟨T107, h107, X107, e107, E107, A107, D107, -, st107⟩ := newO X0 hx hZ hown (w_ hw 81 rfl) (w_ hw 82 rfl) (w_ hw 46 rfl) e0 (g := (mkF m 31 #[.val (.long x), .second, .val (.int 128)] [])) rfl (hb hby d2_31) (by decide) (by decide)
      obtain ⟨a107, g107⟩ : ∃ z, z = h0.size := ⟨_, rfl⟩
      rw [← g107] at A107 D107 st107
      refine Fin.by (fun tt_ kk_ => st107 tt_ kk_) ?_
      refine Fin.by (fun tt_ kk_ => XS.dup X107.here hx rfl (hb hby d2_34) rfl rfl (XS.lloadN X107.here hx rfl (hb hby d2_35) rfl kk_)) ?_
      have g108 : n0 ≤ a107 := Nat.le_trans Z0 (Nat.le_of_eq g107.symm)
      have z109 : n0 ≤ h107.size := Nat.le_trans Z0 E107.1
      obtain ⟨v110, _, ⟨T110, L110, k110, n110⟩, -, X110, ⟨Lc110, hQ110, l110, y110, z110⟩, st110⟩ := X107.specialBack hx (y := y_1) rfl hown (mvT hZ (w_ hw 83 rfl)) (mvT hZ (w_ hw 84 rfl)) (mvT hZ (w_ hw 86 rfl)) (by decide) (backOf (W := 1) (rm_lni l Z a0 hw [] a107 x h107 n0 z109 A107 (D107 (Or.inr (w_ hw 95 rfl)) (ty := .long) (by decide) : Fld Z h107 a107 "java/lang/Long" "value" "J" (.long (0 : Int64))) g108) hZ (w_ hw 86 rfl) (w_ hw 46 rfl) (by decide) (by decide)) (g := (mkF m 36 #[.val (.long x), .second, .val (.int 128)] [(.long x), (.ref a107), (.ref a107)])) rfl (by rw [hml]; rfl) (Steps.refl _) (a := a107) (argsL := [(.long x)]) (rest := [(.ref a107)]) (lenOf pd_21 rfl) rfl (by show 2 * 0 + _ ≤ _; exact Nat.le_of_eq rfl) (hb hby d2_36) (fun _ _ => ⟨rfl, e107, (by decide : 1 + 0 ≤ _), (by decide : 1 + 0 ≤ _)⟩)
      dsimp only [Pt.U, Pt.locs, Pt.cells, Pt.slots] at X110 l110 y110 z110 st110 hQ110
      subst l110 y110 z110
      obtain ⟨rfl, Nq110, p110_0, p110_1, p110_2⟩ := hQ110
      have N110_ := Fr.app N0 Nq110
      refine Fin.byS st110 ?_
      have kp111 : Keep h0 h107 [] := (Keep.refl h0 []).ext E107
      have kp112 : Keep h0 T110.heap [] := kp111.trans p110_0 (allS (Or.inr (Nat.le_trans (Nat.le_refl _) (Nat.le_of_eq g107.symm))) all0)
      show Fin _ _ _ _ _ _ _ (T110.setTop (mkF m 39 #[.val (.long x), .second, .val (.int 128)] [(.ref a107)]))
      exact Fin.ret (v := some (.ref a107)) X110 (fun h => by rw [Bd.returns] at h; cases h) Bd.notSynchronized (⟨a107, rfl, N110_, kp112, p110_1, p110_2⟩) (by decide) (by decide) (fun fs hr => retA X110 hx Bd.returns rfl rfl (hb hby d2_39) hr)
    · refine Fin.by (fun tt_ kk_ => XS.ifNo X0.here hx rfl (hb hby d2_17) rfl ((if0 _ _).trans (flt h2).2.2.1) kk_) ?_
      obtain ⟨T113, X113, e113, st113⟩ := getS X0 hx hZ (host := "") hown (w_ hw 50 rfl) Via.refl e0 (S5.ext OL.2) (g := (mkF m 20 #[.val (.long x), .second, .val (.int 128)] [])) rfl (hb hby d2_20)
      refine Fin.by (fun tt_ kk_ => st113 tt_ kk_) ?_
      refine Fin.by (fun tt_ kk_ => XS.lloadN X113.here hx rfl (hb hby d2_23) rfl (XS.l2i X113.here hx rfl (hb hby d2_24) rfl (XS.sipush X113.here hx rfl (hb hby d2_25) (XS.iadd X113.here hx rfl (hb hby d2_28) rfl kk_)))) ?_
      obtain ⟨y0, hy0, EY, FY0⟩ := HC _ (own_ci h1 h2)
      have FY : Fld Z Z.heap y0 "java/lang/Long" "value" "J" (.long x) := by rw [own_cv h1 h2] at FY0; exact FY0
      have A114 : Arv Z h0 aC kC (.object "java/lang/Long") (256 : Int32) vC .null := VC.ext OL.2
      obtain ⟨cl115, Ar115, q115, S115, N115, H115, G115⟩ := id A114
      have hin115 : ¬ (((x.toInt32) + (128 : Int32)) < 0 ∨ cl115.slots.size ≤ ((x.toInt32) + (128 : Int32)).toNatClampNeg) := inb_of S115 (own_cin h1 h2)
      refine Fin.by (fun tt_ kk_ => X113.aaload hx (j := ((x.toInt32) + (128 : Int32))) (v := (.ref y0)) (by rw [e113]; exact Ar115.1) (State.isArrayOf_alike hZ.alike Ar115.2.1) rfl Ar115.2.2 hin115 (Has.at H115 hin115 hy0) (g := (mkF m 29 #[.val (.long x), .second, .val (.int 128)] [(.int ((x.toInt32) + 128)), (.ref aC)])) rfl rfl (hb hby d2_29) _ kk_) ?_
      have E116 : Exa Z h0 y0 "java/lang/Long" := EY.ext OL.2
      have F117 : Fld Z h0 y0 "java/lang/Long" "value" "J" (.long x) := FY.ext OL.2
      show Fin _ _ _ _ _ _ _ (T113.setTop (mkF m 30 #[.val (.long x), .second, .val (.int 128)] [(.ref y0)]))
      exact Fin.ret (v := some (.ref y0)) X113 (fun h => by rw [Bd.returns] at h; cases h) Bd.notSynchronized (by rw [e113]; exact ⟨y0, rfl, N0, (Keep.refl h0 []), E116, F117⟩) (by decide) (by decide) (fun fs hr => retA X113 hx Bd.returns rfl rfl (hb hby d2_30) hr)
abbrev y_3 : MethodName := (⟨"java/util/AbstractCollection", "<init>", "()V"⟩ : MethodName)
theorem d3_0 : decode jdk_22_method_1_code 0 = .ok (.aload_n 0, 1) := by decide +kernel
theorem d3_1 : decode jdk_22_method_1_code 1 = .ok (.invokespecial 1, 3) := by decide +kernel
theorem d3_4 : decode jdk_22_method_1_code 4 = .ok (.return_, 1) := by decide +kernel
theorem pn_java_util_AbstractCollection : plainName "java/util/AbstractCollection" = true := by first | (simp [plainName, overriddenIn]; done) | decide +kernel
def Q_acl (Z : State) (a : Addr) (h0 : Heap) (n0 : Nat) (vv_ : Option Value) (hh_ : Heap) (LL_ : List Loc) : Prop := vv_ = none ∧ Fr n0 LL_ ∧ hh_ = h0
set_option maxRecDepth 65536 in
set_option maxHeartbeats 40000000 in
theorem rm_acl (l : Launch) (Z : State) (a0 : Array Value) (hw : ∀ d ∈ tables_1, d.before a0 Z = true) (ws : List Jvm.Cond) (a : Addr) (h0 : Heap) (n0 : Nat) (Z0 : n0 ≤ h0.size) :
    MetFree l y_3 (head1 (Jvm.Cond.code y_3 jdk_22_method_1_code 1 none :: ws) ({ frames := 1, cells := 0, slots := 0, locals := 12 } : Room)) (fun aa_ U => aa_ = #[(.ref a)] ∧ Z.Warmed39 U.vm ∧ U.heap = h0) (fun _ _ _ _ _ => True) (fun _ U o U' => ∃ vv_ LL_, o = .returned vv_ ∧ Q_acl Z a h0 n0 vv_ U'.heap LL_ ∧ FrameEnd U o U' LL_ 0 0) := by
  refine MetFree.of_bodySF (plainFor_of_name pn_java_util_AbstractCollection) hisR ?_
  intro p e s m args below meth c s₁ Bd hml0 hP hK
  obtain ⟨rfl, hZ, hh⟩ := hP
  have hx := Bd.exec
  have hby := Bd.bytes
  have hml : c.maxLocals = 1 := hml0
  have hown : s.vm.findClass "java/util/AbstractCollection" = some m.cls := findClass_of_methodNamed Bd.named
  have hnm := (name_of_methodNamed Bd.named Bd.method).1
  have X0 : Stand p l e ({ frames := 1, cells := 0, slots := 0, locals := 12 } : Room) s m #[(.ref a)] below meth c s₁ [] 0 0 := Stand.of_body Bd
  have e0 : s₁.heap = h0 := by rw [← hh, Bd.state]; rfl
  have N0 := Fr.nil n0
  have ef : entryFrame m #[(.ref a)] 1 = mkF m 0 #[.val (.ref a)] [] := by first | (simp [entryFrame, mkF, argsToLocals, Value.category]; done) | rfl
  refine Fin.start (Q := Q_acl Z a h0 n0) ef ?_
  refine Fin.by (fun tt_ kk_ => XS.aloadN X0.here hx rfl (hb hby d3_0) rfl rfl kk_) ?_
  obtain ⟨T101, X101, e101, st101⟩ := initO X0 hx hZ hown (w_ hw 20 rfl) (w_ hw 21 rfl) (w_ hw 22 rfl) e0 (g := (mkF m 1 #[.val (.ref a)] [(.ref a)])) rfl (by rw [hml]; rfl) rfl (hb hby d3_1) (by decide) (W := 0) (by show 2 * 0 + _ ≤ _; exact Nat.le_of_eq rfl) (by decide)
  refine Fin.by (fun tt_ kk_ => st101 tt_ kk_) ?_
  show Fin _ _ _ _ _ _ _ (T101.setTop (mkF m 4 #[.val (.ref a)] []))
  exact Fin.ret (v := none) X101 (fun _ => rfl) Bd.notSynchronized (by rw [e101]; exact ⟨rfl, N0, rfl⟩) (by decide) (by decide) (fun fs hr => X101.returnOut hx Bd.returns (hb hby d3_4) hr)
abbrev y_4 : MethodName := (⟨"java/util/AbstractList", "<init>", "()V"⟩ : MethodName)
theorem d4_0 : decode jdk_39_method_1_code 0 = .ok (.aload_n 0, 1) := by decide +kernel
theorem d4_1 : decode jdk_39_method_1_code 1 = .ok (.invokespecial 1, 3) := by decide +kernel
theorem d4_4 : decode jdk_39_method_1_code 4 = .ok (.aload_n 0, 1) := by decide +kernel
theorem d4_5 : decode jdk_39_method_1_code 5 = .ok (.iconst 0, 1) := by decide +kernel
theorem d4_6 : decode jdk_39_method_1_code 6 = .ok (.putfield 7, 3) := by decide +kernel
theorem d4_9 : decode jdk_39_method_1_code 9 = .ok (.return_, 1) := by decide +kernel
theorem pn_java_util_AbstractList : plainName "java/util/AbstractList" = true := by first | (simp [plainName, overriddenIn]; done) | decide +kernel
def Q_abl (Z : State) (a : Addr) (h0 : Heap) (n0 : Nat) (vv_ : Option Value) (hh_ : Heap) (LL_ : List Loc) : Prop := vv_ = none ∧ Fr n0 LL_ ∧ Keep h0 hh_ [a] ∧ Exa Z hh_ a "java/util/ArrayList" ∧ Fld Z hh_ a "java/util/ArrayList" "elementData" "[Ljava/lang/Object;" .null ∧ Fld Z hh_ a "java/util/ArrayList" "size" "I" (.int (0 : Int32)) ∧ Fld Z hh_ a "java/util/AbstractList" "modCount" "I" (.int (0 : Int32))
set_option maxRecDepth 65536 in
set_option maxHeartbeats 40000000 in
theorem rm_abl (l : Launch) (Z : State) (a0 : Array Value) (hw : ∀ d ∈ tables_1, d.before a0 Z = true) (ws : List Jvm.Cond) (a : Addr) (h0 : Heap) (n0 : Nat) (Z0 : n0 ≤ h0.size) (I0 : Exa Z h0 a "java/util/ArrayList") (I1 : Fld Z h0 a "java/util/ArrayList" "elementData" "[Ljava/lang/Object;" .null) (I2 : Fld Z h0 a "java/util/ArrayList" "size" "I" (.int (0 : Int32))) (I3 : Fld Z h0 a "java/util/AbstractList" "modCount" "I" (.int (0 : Int32))) (ga : n0 ≤ a) :
    MetFree l y_4 (head1 (Jvm.Cond.code y_4 jdk_39_method_1_code 1 none :: ws) ({ frames := 2, cells := 0, slots := 0, locals := 24 } : Room)) (fun aa_ U => aa_ = #[(.ref a)] ∧ Z.Warmed39 U.vm ∧ U.heap = h0) (fun _ _ _ _ _ => True) (fun _ U o U' => ∃ vv_ LL_, o = .returned vv_ ∧ Q_abl Z a h0 n0 vv_ U'.heap LL_ ∧ FrameEnd U o U' LL_ 0 0) := by
  refine MetFree.of_bodySF (plainFor_of_name pn_java_util_AbstractList) hisR ?_
  intro p e s m args below meth c s₁ Bd hml0 hP hK
  obtain ⟨rfl, hZ, hh⟩ := hP
  have hx := Bd.exec
  have hby := Bd.bytes
  have hml : c.maxLocals = 1 := hml0
  have hown : s.vm.findClass "java/util/AbstractList" = some m.cls := findClass_of_methodNamed Bd.named
  have hnm := (name_of_methodNamed Bd.named Bd.method).1
  have X0 : Stand p l e ({ frames := 2, cells := 0, slots := 0, locals := 24 } : Room) s m #[(.ref a)] below meth c s₁ [] 0 0 := Stand.of_body Bd
  have e0 : s₁.heap = h0 := by rw [← hh, Bd.state]; rfl
  have N0 := Fr.nil n0
  have ef : entryFrame m #[(.ref a)] 1 = mkF m 0 #[.val (.ref a)] [] := by first | (simp [entryFrame, mkF, argsToLocals, Value.category]; done) | rfl
  refine Fin.start (Q := Q_abl Z a h0 n0) ef ?_
  refine Fin.by (fun tt_ kk_ => XS.aloadN X0.here hx rfl (hb hby d4_0) rfl rfl kk_) ?_
  obtain ⟨v101, _, ⟨T101, L101, k101, n101⟩, -, X101, ⟨Lc101, hQ101, l101, y101, z101⟩, st101⟩ := X0.specialBack hx (y := y_3) rfl hown (mvT hZ (w_ hw 14 rfl)) (mvT hZ (w_ hw 15 rfl)) (mvT hZ (w_ hw 19 rfl)) (by decide) (backOf (W := 0) (rm_acl l Z a0 hw [] a h0 n0 Z0 ) hZ (w_ hw 19 rfl) (w_ hw 18 rfl) (by decide) (by decide)) (g := (mkF m 1 #[.val (.ref a)] [(.ref a)])) rfl (by rw [hml]; rfl) (Steps.refl _) (a := a) (argsL := []) (rest := []) (lenOf pd_5 rfl) rfl (by show 2 * 0 + _ ≤ _; exact Nat.le_of_eq rfl) (hb hby d4_1) (fun _ _ => ⟨rfl, e0, (by decide : 0 + 0 ≤ _), (by decide : 0 + 0 ≤ _)⟩)
  dsimp only [Pt.U, Pt.locs, Pt.cells, Pt.slots] at X101 l101 y101 z101 st101 hQ101
  subst l101 y101 z101
  obtain ⟨rfl, Nq101, e101_⟩ := hQ101
  have N101_ := Fr.app N0 Nq101
  refine Fin.byS st101 ?_
  have e101 := e101_
  refine Fin.by (fun tt_ kk_ => XS.aloadN X101.here hx rfl (hb hby d4_4) rfl rfl (XS.iconst X101.here hx rfl (hb hby d4_5) kk_)) ?_
  obtain ⟨T102, h102, X102, e102, W102, st102⟩ := putF X101 hx hZ hown (host := "") (Or.inl (w_ hw 23 rfl)) Via.refl e101 I3 I0 (Or.inl (w_ hw 24 rfl)) (w_ hw 3 rfl) (ty := .int) (by decide) rfl rfl (g := (mkF m 6 #[.val (.ref a)] [(.int 0), (.ref a)])) rfl rfl (hb hby d4_6)
  refine Fin.by (fun tt_ kk_ => st102 tt_ kk_) ?_
  have N102_ := Fr.snoc X102 N101_ ga
  have kp103 : Keep h0 h102 [a] := (Keep.refl h0 [a]).wr W102 (Or.inl (List.mem_of_getElem? (i := 0) rfl))
  have E104 : Exa Z h102 a "java/util/ArrayList" := (I0.wr W102)
  have F105 : Fld Z h102 a "java/util/ArrayList" "elementData" "[Ljava/lang/Object;" .null := (I1.other W102 (Or.inr (slot_ne (Or.inl (w_ hw 27 rfl)) (Or.inl (w_ hw 24 rfl)) (by decide) (t := (.array (.object "java/lang/Object"))) (t' := .int) (by decide) (by decide))))
  have F106 : Fld Z h102 a "java/util/ArrayList" "size" "I" (.int (0 : Int32)) := (I2.other W102 (Or.inr (slot_ne (Or.inl (w_ hw 42 rfl)) (Or.inl (w_ hw 24 rfl)) (by decide) (t := .int) (t' := .int) (by decide) (by decide))))
  show Fin _ _ _ _ _ _ _ (T102.setTop (mkF m 9 #[.val (.ref a)] []))
  exact Fin.ret (v := none) X102 (fun _ => rfl) Bd.notSynchronized (by rw [e102]; exact ⟨rfl, N102_, kp103, E104, F105, F106, (I3.same W102)⟩) (by decide) (by decide) (fun fs hr => X102.returnOut hx Bd.returns (hb hby d4_9) hr)
abbrev y_5 : MethodName := (⟨"java/util/ArrayList", "<init>", "()V"⟩ : MethodName)
theorem d5_0 : decode jdk_38_method_2_code 0 = .ok (.aload_n 0, 1) := by decide +kernel
theorem d5_1 : decode jdk_38_method_2_code 1 = .ok (.invokespecial 1, 3) := by decide +kernel
theorem d5_4 : decode jdk_38_method_2_code 4 = .ok (.aload_n 0, 1) := by decide +kernel
theorem d5_5 : decode jdk_38_method_2_code 5 = .ok (.getstatic 39, 3) := by decide +kernel
theorem d5_8 : decode jdk_38_method_2_code 8 = .ok (.putfield 9, 3) := by decide +kernel
theorem d5_11 : decode jdk_38_method_2_code 11 = .ok (.return_, 1) := by decide +kernel
theorem pn_java_util_ArrayList : plainName "java/util/ArrayList" = true := by first | (simp [plainName, overriddenIn]; done) | decide +kernel
def Q_ali (Z : State) (a : Addr) (aD : Addr) (kD : ClassId) (h0 : Heap) (n0 : Nat) (vv_ : Option Value) (hh_ : Heap) (LL_ : List Loc) : Prop := vv_ = none ∧ Fr n0 LL_ ∧ Keep h0 hh_ [a] ∧ Exa Z hh_ a "java/util/ArrayList" ∧ Fld Z hh_ a "java/util/ArrayList" "elementData" "[Ljava/lang/Object;" (.ref aD) ∧ Fld Z hh_ a "java/util/ArrayList" "size" "I" (.int (0 : Int32)) ∧ Fld Z hh_ a "java/util/AbstractList" "modCount" "I" (.int (0 : Int32))
set_option maxRecDepth 65536 in
set_option maxHeartbeats 40000000 in
theorem rm_ali (l : Launch) (Z : State) (a0 : Array Value) (hw : ∀ d ∈ tables_1, d.before a0 Z = true) (ws : List Jvm.Cond) (a : Addr) (aD : Addr) (kD : ClassId) (h0 : Heap) (n0 : Nat) (Z0 : n0 ≤ h0.size) (I0 : Exa Z h0 a "java/util/ArrayList") (I1 : Fld Z h0 a "java/util/ArrayList" "elementData" "[Ljava/lang/Object;" .null) (I2 : Fld Z h0 a "java/util/ArrayList" "size" "I" (.int (0 : Int32))) (I3 : Fld Z h0 a "java/util/AbstractList" "modCount" "I" (.int (0 : Int32))) (ga : n0 ≤ a) (S2 : Sta Z Z.heap "java/util/ArrayList" "DEFAULTCAPACITY_EMPTY_ELEMENTDATA" "[Ljava/lang/Object;" (.ref aD)) (VD : Arv Z Z.heap aD kD (.object "java/lang/Object") (0 : Int32) [] .null) (OL : Old Z n0 h0) :
    MetFree l y_5 (head1 (Jvm.Cond.code y_5 jdk_38_method_2_code 1 none :: ws) ({ frames := 3, cells := 0, slots := 0, locals := 36 } : Room)) (fun aa_ U => aa_ = #[(.ref a)] ∧ Z.Warmed39 U.vm ∧ U.heap = h0) (fun _ _ _ _ _ => True) (fun _ U o U' => ∃ vv_ LL_, o = .returned vv_ ∧ Q_ali Z a aD kD h0 n0 vv_ U'.heap LL_ ∧ FrameEnd U o U' LL_ 0 0) := by
  refine MetFree.of_bodySF (plainFor_of_name pn_java_util_ArrayList) hisR ?_
  intro p e s m args below meth c s₁ Bd hml0 hP hK
  obtain ⟨rfl, hZ, hh⟩ := hP
  have hx := Bd.exec
  have hby := Bd.bytes
  have hml : c.maxLocals = 1 := hml0
  have hown : s.vm.findClass "java/util/ArrayList" = some m.cls := findClass_of_methodNamed Bd.named
  have hnm := (name_of_methodNamed Bd.named Bd.method).1
  have X0 : Stand p l e ({ frames := 3, cells := 0, slots := 0, locals := 36 } : Room) s m #[(.ref a)] below meth c s₁ [] 0 0 := Stand.of_body Bd
  have e0 : s₁.heap = h0 := by rw [← hh, Bd.state]; rfl
  have N0 := Fr.nil n0
  have ef : entryFrame m #[(.ref a)] 1 = mkF m 0 #[.val (.ref a)] [] := by first | (simp [entryFrame, mkF, argsToLocals, Value.category]; done) | rfl
  refine Fin.start (Q := Q_ali Z a aD kD h0 n0) ef ?_
  refine Fin.by (fun tt_ kk_ => XS.aloadN X0.here hx rfl (hb hby d5_0) rfl rfl kk_) ?_
  obtain ⟨v101, _, ⟨T101, L101, k101, n101⟩, -, X101, ⟨Lc101, hQ101, l101, y101, z101⟩, st101⟩ := X0.specialBack hx (y := y_4) rfl hown (mvT hZ (w_ hw 8 rfl)) (mvT hZ (w_ hw 9 rfl)) (mvT hZ (w_ hw 13 rfl)) (by decide) (backOf (W := 0) (rm_abl l Z a0 hw [] a h0 n0 Z0 I0 I1 I2 I3 ga) hZ (w_ hw 13 rfl) (w_ hw 12 rfl) (by decide) (by decide)) (g := (mkF m 1 #[.val (.ref a)] [(.ref a)])) rfl (by rw [hml]; rfl) (Steps.refl _) (a := a) (argsL := []) (rest := []) (lenOf pd_5 rfl) rfl (by show 2 * 0 + _ ≤ _; exact Nat.le_of_eq rfl) (hb hby d5_1) (fun _ _ => ⟨rfl, e0, (by decide : 0 + 0 ≤ _), (by decide : 0 + 0 ≤ _)⟩)
  dsimp only [Pt.U, Pt.locs, Pt.cells, Pt.slots] at X101 l101 y101 z101 st101 hQ101
  subst l101 y101 z101
  obtain ⟨rfl, Nq101, p101_0, p101_1, p101_2, p101_3, p101_4⟩ := hQ101
  have N101_ := Fr.app N0 Nq101
  refine Fin.byS st101 ?_
  refine Fin.by (fun tt_ kk_ => XS.aloadN X101.here hx rfl (hb hby d5_4) rfl rfl kk_) ?_
  have O102 : Old Z n0 T101.heap := (OL.keep p101_0 (allS ga all0))
  obtain ⟨T103, X103, e103, st103⟩ := getS X101 hx hZ (host := "") hown (w_ hw 25 rfl) Via.refl rfl (S2.ext O102.2) (g := (mkF m 5 #[.val (.ref a)] [(.ref a)])) rfl (hb hby d5_5)
  refine Fin.by (fun tt_ kk_ => st103 tt_ kk_) ?_
  obtain ⟨T104, h104, X104, e104, W104, st104⟩ := putF X103 hx hZ hown (host := "") (Or.inl (w_ hw 26 rfl)) Via.refl e103 p101_2 p101_1 (Or.inl (w_ hw 27 rfl)) (w_ hw 3 rfl) (ty := (.array (.object "java/lang/Object"))) (by decide) rfl rfl (g := (mkF m 8 #[.val (.ref a)] [(.ref aD), (.ref a)])) rfl rfl (hb hby d5_8)
  refine Fin.by (fun tt_ kk_ => st104 tt_ kk_) ?_
  have N104_ := Fr.snoc X104 N101_ ga
  have kp105 : Keep h0 T101.heap [a] := (Keep.refl h0 [a]).trans p101_0 (allS (Or.inl (List.mem_of_getElem? (i := 0) rfl)) all0)
  have kp106 : Keep h0 h104 [a] := kp105.wr W104 (Or.inl (List.mem_of_getElem? (i := 0) rfl))
  have E107 : Exa Z h104 a "java/util/ArrayList" := (p101_1.wr W104)
  have F108 : Fld Z h104 a "java/util/ArrayList" "size" "I" (.int (0 : Int32)) := (p101_3.other W104 (Or.inr (slot_ne (Or.inl (w_ hw 42 rfl)) (Or.inl (w_ hw 27 rfl)) (by decide) (t := .int) (t' := (.array (.object "java/lang/Object"))) (by decide) (by decide))))
  have F109 : Fld Z h104 a "java/util/AbstractList" "modCount" "I" (.int (0 : Int32)) := (p101_4.other W104 (Or.inr (slot_ne (Or.inl (w_ hw 24 rfl)) (Or.inl (w_ hw 27 rfl)) (by decide) (t := .int) (t' := (.array (.object "java/lang/Object"))) (by decide) (by decide))))
  show Fin _ _ _ _ _ _ _ (T104.setTop (mkF m 11 #[.val (.ref a)] []))
  exact Fin.ret (v := none) X104 (fun _ => rfl) Bd.notSynchronized (by rw [e104]; exact ⟨rfl, N104_, kp106, E107, (p101_2.same W104), F108, F109⟩) (by decide) (by decide) (fun fs hr => X104.returnOut hx Bd.returns (hb hby d5_11) hr)
abbrev y_6 : MethodName := (⟨"java/lang/Math", "max", "(II)I"⟩ : MethodName)
theorem d6_0 : decode jdk_29_method_65_code 0 = .ok (.iload_n 0, 1) := by decide +kernel
theorem d6_1 : decode jdk_29_method_65_code 1 = .ok (.iload_n 1, 1) := by decide +kernel
theorem d6_2 : decode jdk_29_method_65_code 2 = .ok (.if_icmp .lt 7, 3) := by decide +kernel
theorem d6_5 : decode jdk_29_method_65_code 5 = .ok (.iload_n 0, 1) := by decide +kernel
theorem d6_6 : decode jdk_29_method_65_code 6 = .ok (.goto 4, 3) := by decide +kernel
theorem d6_10 : decode jdk_29_method_65_code 10 = .ok (.ireturn, 1) := by decide +kernel
def Q_mxx (Z : State) (x : Int32) (y : Int32) (h0 : Heap) (n0 : Nat) (vv_ : Option Value) (hh_ : Heap) (LL_ : List Loc) : Prop := vv_ = some (.int x) ∧ Fr n0 LL_ ∧ hh_ = h0
set_option maxRecDepth 65536 in
set_option maxHeartbeats 40000000 in
theorem rm_mxx (l : Launch) (Z : State) (a0 : Array Value) (hw : ∀ d ∈ tables_1, d.before a0 Z = true) (ws : List Jvm.Cond) (x : Int32) (y : Int32) (h0 : Heap) (n0 : Nat) (Z0 : n0 ≤ h0.size) (hxy : ¬ x < y) :
    MetFree l y_6 (head1 (Jvm.Cond.code y_6 jdk_29_method_65_code 2 (some .int) :: ws) ({ frames := 0, cells := 0, slots := 0, locals := 0 } : Room)) (fun aa_ U => aa_ = #[(.int x), (.int y)] ∧ Z.Warmed39 U.vm ∧ U.heap = h0) (fun _ _ _ _ _ => True) (fun _ U o U' => ∃ vv_ LL_, o = .returned vv_ ∧ Q_mxx Z x y h0 n0 vv_ U'.heap LL_ ∧ FrameEnd U o U' LL_ 0 0) := by
  refine MetFree.of_bodySF (Jvm.Free.JP.mathPlain rfl (by decide +kernel)) hisR ?_
  intro p e s m args below meth c s₁ Bd hml0 hP hK
  obtain ⟨rfl, hZ, hh⟩ := hP
  have hx := Bd.exec
  have hby := Bd.bytes
  have hml : c.maxLocals = 2 := hml0
  have hown : s.vm.findClass "java/lang/Math" = some m.cls := findClass_of_methodNamed Bd.named
  have hnm := (name_of_methodNamed Bd.named Bd.method).1
  have X0 : Stand p l e ({ frames := 0, cells := 0, slots := 0, locals := 0 } : Room) s m #[(.int x), (.int y)] below meth c s₁ [] 0 0 := Stand.of_body Bd
  have e0 : s₁.heap = h0 := by rw [← hh, Bd.state]; rfl
  have N0 := Fr.nil n0
  have ef : entryFrame m #[(.int x), (.int y)] 2 = mkF m 0 #[.val (.int x), .val (.int y)] [] := by first | (simp [entryFrame, mkF, argsToLocals, Value.category]; done) | rfl
  refine Fin.start (Q := Q_mxx Z x y h0 n0) ef ?_
  refine Fin.by (fun tt_ kk_ => XS.iloadN X0.here hx rfl (hb hby d6_0) rfl (XS.iloadN X0.here hx rfl (hb hby d6_1) rfl kk_)) ?_
  show Fin _ _ _ _ _ _ _ (s₁.setTop (mkF m 2 #[.val (.int x), .val (.int y)] [(.int y), (.int x)]))
  refine Fin.by (fun tt_ kk_ => XS.icmpNo X0.here hx rfl (hb hby d6_2) rfl (flt (hxy : ¬ x < y)).1 kk_) ?_
  refine Fin.by (fun tt_ kk_ => XS.iloadN X0.here hx rfl (hb hby d6_5) rfl (XS.goto X0.here hx rfl (pc0 := 6) (pc' := 10) rfl (hb hby d6_6) (by decide) (by decide) kk_)) ?_
  show Fin _ _ _ _ _ _ _ (s₁.setTop (mkF m 10 #[.val (.int x), .val (.int y)] [(.int x)]))
  exact Fin.ret (v := some (.int x)) X0 (fun h => by rw [Bd.returns] at h; cases h) Bd.notSynchronized (by rw [e0]; exact ⟨rfl, N0, rfl⟩) (by decide) (by decide) (fun fs hr => retI X0 hx Bd.returns (hb hby d6_10) hr)
abbrev y_7 : MethodName := (⟨"java/util/ArrayList", "grow", "(I)[Ljava/lang/Object;"⟩ : MethodName)
theorem d7_0 : decode jdk_38_method_6_code 0 = .ok (.aload_n 0, 1) := by decide +kernel
theorem d7_1 : decode jdk_38_method_6_code 1 = .ok (.getfield 9, 3) := by decide +kernel
theorem d7_4 : decode jdk_38_method_6_code 4 = .ok (.arraylength, 1) := by decide +kernel
theorem d7_5 : decode jdk_38_method_6_code 5 = .ok (.istore_n 2, 1) := by decide +kernel
theorem d7_6 : decode jdk_38_method_6_code 6 = .ok (.iload_n 2, 1) := by decide +kernel
theorem d7_7 : decode jdk_38_method_6_code 7 = .ok (.ifCond .gt 13, 3) := by decide +kernel
theorem d7_10 : decode jdk_38_method_6_code 10 = .ok (.aload_n 0, 1) := by decide +kernel
theorem d7_11 : decode jdk_38_method_6_code 11 = .ok (.getfield 9, 3) := by decide +kernel
theorem d7_14 : decode jdk_38_method_6_code 14 = .ok (.getstatic 39, 3) := by decide +kernel
theorem d7_17 : decode jdk_38_method_6_code 17 = .ok (.if_acmp .eq 28, 3) := by decide +kernel
theorem d7_45 : decode jdk_38_method_6_code 45 = .ok (.aload_n 0, 1) := by decide +kernel
theorem d7_46 : decode jdk_38_method_6_code 46 = .ok (.bipush 10, 2) := by decide +kernel
theorem d7_48 : decode jdk_38_method_6_code 48 = .ok (.iload_n 1, 1) := by decide +kernel
theorem pd_72 : parseMethodDescriptor "(II)I" = some ⟨[.int, .int], some .int⟩ := by decide +kernel
theorem d7_49 : decode jdk_38_method_6_code 49 = .ok (.invokestatic 79, 3) := by decide +kernel
theorem d7_52 : decode jdk_38_method_6_code 52 = .ok (.anewarray 7, 3) := by decide +kernel
theorem d7_55 : decode jdk_38_method_6_code 55 = .ok (.dup_x1, 1) := by decide +kernel
theorem d7_56 : decode jdk_38_method_6_code 56 = .ok (.putfield 9, 3) := by decide +kernel
theorem d7_59 : decode jdk_38_method_6_code 59 = .ok (.areturn, 1) := by decide +kernel
def Q_gr1 (Z : State) (a : Addr) (mc : Int32) (aD : Addr) (kD : ClassId) (h0 : Heap) (n0 : Nat) (vv_ : Option Value) (hh_ : Heap) (LL_ : List Loc) : Prop := ∃ (ed : Addr), ∃ (kE : ClassId), vv_ = some (.ref ed) ∧ Fr n0 LL_ ∧ Keep h0 hh_ [a] ∧ h0.size ≤ ed ∧ Exa Z hh_ a "java/util/ArrayList" ∧ Fld Z hh_ a "java/util/ArrayList" "elementData" "[Ljava/lang/Object;" (.ref ed) ∧ Fld Z hh_ a "java/util/ArrayList" "size" "I" (.int (0 : Int32)) ∧ Fld Z hh_ a "java/util/AbstractList" "modCount" "I" (.int mc) ∧ Arv Z hh_ ed kE (.object "java/lang/Object") (10 : Int32) [.null, .null, .null, .null, .null, .null, .null, .null, .null, .null] .null ∧ (Ovr Z kE "java/lang/Object")
set_option maxRecDepth 65536 in
set_option maxHeartbeats 40000000 in
theorem rm_gr1 (l : Launch) (Z : State) (a0 : Array Value) (hw : ∀ d ∈ tables_1, d.before a0 Z = true) (ws : List Jvm.Cond) (a : Addr) (mc : Int32) (aD : Addr) (kD : ClassId) (h0 : Heap) (n0 : Nat) (Z0 : n0 ≤ h0.size) (I0 : Exa Z h0 a "java/util/ArrayList") (I1 : Fld Z h0 a "java/util/ArrayList" "elementData" "[Ljava/lang/Object;" (.ref aD)) (I2 : Fld Z h0 a "java/util/ArrayList" "size" "I" (.int (0 : Int32))) (I3 : Fld Z h0 a "java/util/AbstractList" "modCount" "I" (.int mc)) (ga : n0 ≤ a) (S2 : Sta Z Z.heap "java/util/ArrayList" "DEFAULTCAPACITY_EMPTY_ELEMENTDATA" "[Ljava/lang/Object;" (.ref aD)) (VD : Arv Z Z.heap aD kD (.object "java/lang/Object") (0 : Int32) [] .null) (OL : Old Z n0 h0) :
    MetFree l y_7 (head1 (Jvm.Cond.code y_7 jdk_38_method_6_code 4 (some (.array (.object "java/lang/Object"))) :: ws) ({ frames := 1, cells := 1, slots := 10, locals := 14 } : Room)) (fun aa_ U => aa_ = #[(.ref a), (.int (1 : Int32))] ∧ Z.Warmed39 U.vm ∧ U.heap = h0) (fun _ _ _ _ _ => True) (fun _ U o U' => ∃ vv_ LL_, o = .returned vv_ ∧ Q_gr1 Z a mc aD kD h0 n0 vv_ U'.heap LL_ ∧ FrameEnd U o U' LL_ 1 10) := by
  refine MetFree.of_bodySF (plainFor_of_name pn_java_util_ArrayList) hisR ?_
  intro p e s m args below meth c s₁ Bd hml0 hP hK
  obtain ⟨rfl, hZ, hh⟩ := hP
  have hx := Bd.exec
  have hby := Bd.bytes
  have hml : c.maxLocals = 4 := hml0
  have hown : s.vm.findClass "java/util/ArrayList" = some m.cls := findClass_of_methodNamed Bd.named
  have hnm := (name_of_methodNamed Bd.named Bd.method).1
  have X0 : Stand p l e ({ frames := 1, cells := 1, slots := 10, locals := 14 } : Room) s m #[(.ref a), (.int (1 : Int32))] below meth c s₁ [] 0 0 := Stand.of_body Bd
  have e0 : s₁.heap = h0 := by rw [← hh, Bd.state]; rfl
  have N0 := Fr.nil n0
  have ef : entryFrame m #[(.ref a), (.int (1 : Int32))] 4 = mkF m 0 #[.val (.ref a), .val (.int (1 : Int32)), .unset, .unset] [] := by first | (simp [entryFrame, mkF, argsToLocals, Value.category]; done) | rfl
  refine Fin.start (Q := Q_gr1 Z a mc aD kD h0 n0) ef ?_
  refine Fin.by (fun tt_ kk_ => XS.aloadN X0.here hx rfl (hb hby d7_0) rfl rfl kk_) ?_
  obtain ⟨T101, X101, e101, st101⟩ := getF X0 hx hZ hown (host := "") (Or.inl (w_ hw 26 rfl)) Via.refl e0 I1 (g := (mkF m 1 #[.val (.ref a), .val (.int 1), .unset, .unset] [(.ref a)])) rfl rfl (hb hby d7_1)
  refine Fin.by (fun tt_ kk_ => st101 tt_ kk_) ?_
  have A102 : Arv Z h0 aD kD (.object "java/lang/Object") (0 : Int32) [] .null := VD.ext OL.2
  obtain ⟨cl103, Ar103, q103, S103, N103, H103, G103⟩ := id A102
  refine Fin.by (fun tt_ kk_ => X101.arraylength hx (by rw [e101]; exact Ar103.1) (State.isArrayOf_alike hZ.alike Ar103.2.1) (g := (mkF m 4 #[.val (.ref a), .val (.int 1), .unset, .unset] [(.ref aD)])) rfl rfl (hb hby d7_4) _ kk_) ?_
  rw [len_of S103 N103]
  refine Fin.by (fun tt_ kk_ => XS.istoreN X101.here hx rfl (hb hby d7_5) rfl (l' := #[.val (.ref a), .val (.int 1), .val (.int 0), .unset]) rfl (XS.iloadN X101.here hx rfl (hb hby d7_6) rfl kk_)) ?_
  show Fin _ _ _ _ _ _ _ (T101.setTop (mkF m 7 #[.val (.ref a), .val (.int 1), .val (.int 0), .unset] [(.int 0)]))
  refine Fin.by (fun tt_ kk_ => XS.ifNo X101.here hx rfl (hb hby d7_7) rfl ((if0 _ _).trans (flt (by decide : ¬ (0 : Int32) < (0 : Int32))).2.2.1) kk_) ?_
  refine Fin.by (fun tt_ kk_ => XS.aloadN X101.here hx rfl (hb hby d7_10) rfl rfl kk_) ?_
  obtain ⟨T104, X104, e104, st104⟩ := getF X101 hx hZ hown (host := "") (Or.inl (w_ hw 26 rfl)) Via.refl e101 I1 (g := (mkF m 11 #[.val (.ref a), .val (.int 1), .val (.int 0), .unset] [(.ref a)])) rfl rfl (hb hby d7_11)
  refine Fin.by (fun tt_ kk_ => st104 tt_ kk_) ?_
  obtain ⟨T105, X105, e105, st105⟩ := getS X104 hx hZ (host := "") hown (w_ hw 25 rfl) Via.refl e104 (S2.ext OL.2) (g := (mkF m 14 #[.val (.ref a), .val (.int 1), .val (.int 0), .unset] [(.ref aD)])) rfl (hb hby d7_14)
  refine Fin.by (fun tt_ kk_ => st105 tt_ kk_) ?_
  show Fin _ _ _ _ _ _ _ (T105.setTop (mkF m 17 #[.val (.ref a), .val (.int 1), .val (.int 0), .unset] [(.ref aD), (.ref aD)]))
  refine Fin.by (fun tt_ kk_ => Jvm.RoadKit.acmp (g := (mkF m 17 #[.val (.ref a), .val (.int 1), .val (.int 0), .unset] [(.ref aD), (.ref aD)])) X105 hx rfl rfl rfl (pc0 := 17) (pc' := 45) (same := true) rfl (hb hby d7_17) rfl (decide_eq_true rfl) (by decide) (by decide) kk_) ?_
  refine Fin.by (fun tt_ kk_ => XS.aloadN X105.here hx rfl (hb hby d7_45) rfl rfl (XS.bipush X105.here hx rfl (hb hby d7_46) (XS.iloadN X105.here hx rfl (hb hby d7_48) rfl kk_))) ?_
  obtain ⟨v106, _, ⟨T106, L106, k106, n106⟩, -, X106, ⟨Lc106, hQ106, l106, y106, z106⟩, st106⟩ := Jvm.LawKit.callS X105 hx (y := y_6) hown (mvT hZ (w_ hw 74 rfl)) (mvT hZ (w_ hw 75 rfl)) (mvT hZ (w_ hw 76 rfl)) (mvT hZ (w_ hw 77 rfl)) (by decide) (backOf (W := 1) (rm_mxx l Z a0 hw [] (10 : Int32) (1 : Int32) h0 n0 Z0 (by decide)) hZ (w_ hw 77 rfl) (w_ hw 76 rfl) (by decide) (by decide)) (g := (mkF m 49 #[.val (.ref a), .val (.int 1), .val (.int 0), .unset] [(.int 1), (.int 10), (.ref a)])) rfl (by rw [hml]; rfl) (argsL := [(.int 10), (.int 1)]) (rest := [(.ref a)]) (lenOf pd_72 rfl) rfl (by show 2 * 0 + _ ≤ _; exact Nat.le_of_eq rfl) (hb hby d7_49) (fun _ _ => ⟨rfl, e105, (by decide : 0 + 0 ≤ _), (by decide : 0 + 0 ≤ _)⟩)
  dsimp only [Pt.U, Pt.locs, Pt.cells, Pt.slots] at X106 l106 y106 z106 st106 hQ106
  subst l106 y106 z106
  obtain ⟨rfl, Nq106, e106_⟩ := hQ106
  have N106_ := Fr.app N0 Nq106
  refine Fin.by (fun tt_ kk_ => st106 tt_ kk_) ?_
  have e106 := e106_
  obtain ⟨T107, h107, k107, X107, e107, E107, A107, O107, st107⟩ := newR X106 hx hZ hown (w_ hw 78 rfl) (w_ hw 79 rfl) e106 (g := (mkF m 52 #[.val (.ref a), .val (.int 1), .val (.int 0), .unset] [(.int 10), (.ref a)])) rfl (hb hby d7_52) rfl (by decide) (cap := 10) (by decide) (by decide) (by decide) (by decide)
  obtain ⟨a107, g107⟩ : ∃ z, z = h0.size := ⟨_, rfl⟩
  rw [← g107] at A107 st107
  refine Fin.by (fun tt_ kk_ => st107 tt_ kk_) ?_
  have V107 : Arv Z h107 a107 k107 (.object "java/lang/Object") (10 : Int32) [.null, .null, .null, .null, .null, .null, .null, .null, .null, .null] .null := (Arv.new A107 (by decide)).pad (pad_rep [] .null 10)
  refine Fin.by (fun tt_ kk_ => XS.dupX1 X107.here hx rfl (hb hby d7_55) rfl rfl rfl kk_) ?_
  have F108 : Fld Z h107 a "java/util/ArrayList" "elementData" "[Ljava/lang/Object;" (.ref aD) := (I1.ext E107)
  have E109 : Exa Z h107 a "java/util/ArrayList" := (I0.ext E107)
  obtain ⟨T110, h110, X110, e110, W110, st110⟩ := putF X107 hx hZ hown (host := "") (Or.inl (w_ hw 26 rfl)) Via.refl e107 F108 E109 (Or.inl (w_ hw 27 rfl)) (w_ hw 3 rfl) (ty := (.array (.object "java/lang/Object"))) (by decide) rfl rfl (g := (mkF m 56 #[.val (.ref a), .val (.int 1), .val (.int 0), .unset] [(.ref a107), (.ref a), (.ref a107)])) rfl rfl (hb hby d7_56)
  refine Fin.by (fun tt_ kk_ => st110 tt_ kk_) ?_
  have N110_ := Fr.snoc X110 N106_ ga
  have kp111 : Keep h0 h107 [a] := (Keep.refl h0 [a]).ext E107
  have kp112 : Keep h0 h110 [a] := kp111.wr W110 (Or.inl (List.mem_of_getElem? (i := 0) rfl))
  have E113 : Exa Z h110 a "java/util/ArrayList" := (E109.wr W110)
  have F114 : Fld Z h110 a "java/util/ArrayList" "size" "I" (.int (0 : Int32)) := ((I2.ext E107).other W110 (Or.inr (slot_ne (Or.inl (w_ hw 42 rfl)) (Or.inl (w_ hw 27 rfl)) (by decide) (t := .int) (t' := (.array (.object "java/lang/Object"))) (by decide) (by decide))))
  have F115 : Fld Z h110 a "java/util/AbstractList" "modCount" "I" (.int mc) := ((I3.ext E107).other W110 (Or.inr (slot_ne (Or.inl (w_ hw 24 rfl)) (Or.inl (w_ hw 27 rfl)) (by decide) (t := .int) (t' := (.array (.object "java/lang/Object"))) (by decide) (by decide))))
  have ne116 : a ≠ a107 := Nat.ne_of_lt (Nat.lt_of_lt_of_le I0.lt (Nat.le_of_eq g107.symm))
  have A117 : Arv Z h110 a107 k107 (.object "java/lang/Object") (10 : Int32) [.null, .null, .null, .null, .null, .null, .null, .null, .null, .null] .null := (V107.other W110 (Ne.symm ne116))
  show Fin _ _ _ _ _ _ _ (T110.setTop (mkF m 59 #[.val (.ref a), .val (.int 1), .val (.int 0), .unset] [(.ref a107)]))
  exact Fin.ret (v := some (.ref a107)) X110 (fun h => by rw [Bd.returns] at h; cases h) Bd.notSynchronized (by rw [e110]; exact ⟨a107, k107, rfl, N110_, kp112, (Nat.le_trans (Nat.le_refl _) (Nat.le_of_eq g107.symm)), E113, (F108.same W110), F114, F115, A117, O107⟩) (by decide) (by decide) (fun fs hr => retA X110 hx Bd.returns rfl rfl (hb hby d7_59) hr)
abbrev y_8 : MethodName := (⟨"java/util/ArrayList", "grow", "()[Ljava/lang/Object;"⟩ : MethodName)
theorem d8_0 : decode jdk_38_method_7_code 0 = .ok (.aload_n 0, 1) := by decide +kernel
theorem d8_1 : decode jdk_38_method_7_code 1 = .ok (.aload_n 0, 1) := by decide +kernel
theorem d8_2 : decode jdk_38_method_7_code 2 = .ok (.getfield 48, 3) := by decide +kernel
theorem d8_5 : decode jdk_38_method_7_code 5 = .ok (.iconst 1, 1) := by decide +kernel
theorem d8_6 : decode jdk_38_method_7_code 6 = .ok (.iadd, 1) := by decide +kernel
theorem pd_83 : parseMethodDescriptor "(I)[Ljava/lang/Object;" = some ⟨[.int], some (.array (.object "java/lang/Object"))⟩ := by decide +kernel
theorem d8_7 : decode jdk_38_method_7_code 7 = .ok (.invokevirtual 69, 3) := by decide +kernel
theorem d8_10 : decode jdk_38_method_7_code 10 = .ok (.areturn, 1) := by decide +kernel
def Q_gr0 (Z : State) (a : Addr) (mc : Int32) (aD : Addr) (kD : ClassId) (h0 : Heap) (n0 : Nat) (vv_ : Option Value) (hh_ : Heap) (LL_ : List Loc) : Prop := ∃ (ed : Addr), ∃ (kE : ClassId), vv_ = some (.ref ed) ∧ Fr n0 LL_ ∧ Keep h0 hh_ [a] ∧ h0.size ≤ ed ∧ Exa Z hh_ a "java/util/ArrayList" ∧ Fld Z hh_ a "java/util/ArrayList" "elementData" "[Ljava/lang/Object;" (.ref ed) ∧ Fld Z hh_ a "java/util/ArrayList" "size" "I" (.int (0 : Int32)) ∧ Fld Z hh_ a "java/util/AbstractList" "modCount" "I" (.int mc) ∧ Arv Z hh_ ed kE (.object "java/lang/Object") (10 : Int32) [.null, .null, .null, .null, .null, .null, .null, .null, .null, .null] .null ∧ (Ovr Z kE "java/lang/Object")
set_option maxRecDepth 65536 in
set_option maxHeartbeats 40000000 in
theorem rm_gr0 (l : Launch) (Z : State) (a0 : Array Value) (hw : ∀ d ∈ tables_1, d.before a0 Z = true) (ws : List Jvm.Cond) (a : Addr) (mc : Int32) (aD : Addr) (kD : ClassId) (h0 : Heap) (n0 : Nat) (Z0 : n0 ≤ h0.size) (I0 : Exa Z h0 a "java/util/ArrayList") (I1 : Fld Z h0 a "java/util/ArrayList" "elementData" "[Ljava/lang/Object;" (.ref aD)) (I2 : Fld Z h0 a "java/util/ArrayList" "size" "I" (.int (0 : Int32))) (I3 : Fld Z h0 a "java/util/AbstractList" "modCount" "I" (.int mc)) (ga : n0 ≤ a) (S2 : Sta Z Z.heap "java/util/ArrayList" "DEFAULTCAPACITY_EMPTY_ELEMENTDATA" "[Ljava/lang/Object;" (.ref aD)) (VD : Arv Z Z.heap aD kD (.object "java/lang/Object") (0 : Int32) [] .null) (OL : Old Z n0 h0) :
    MetFree l y_8 (head1 (Jvm.Cond.code y_8 jdk_38_method_7_code 1 (some (.array (.object "java/lang/Object"))) :: ws) ({ frames := 2, cells := 1, slots := 10, locals := 29 } : Room)) (fun aa_ U => aa_ = #[(.ref a)] ∧ Z.Warmed39 U.vm ∧ U.heap = h0) (fun _ _ _ _ _ => True) (fun _ U o U' => ∃ vv_ LL_, o = .returned vv_ ∧ Q_gr0 Z a mc aD kD h0 n0 vv_ U'.heap LL_ ∧ FrameEnd U o U' LL_ 1 10) := by
  refine MetFree.of_bodySF (plainFor_of_name pn_java_util_ArrayList) hisR ?_
  intro p e s m args below meth c s₁ Bd hml0 hP hK
  obtain ⟨rfl, hZ, hh⟩ := hP
  have hx := Bd.exec
  have hby := Bd.bytes
  have hml : c.maxLocals = 1 := hml0
  have hown : s.vm.findClass "java/util/ArrayList" = some m.cls := findClass_of_methodNamed Bd.named
  have hnm := (name_of_methodNamed Bd.named Bd.method).1
  have X0 : Stand p l e ({ frames := 2, cells := 1, slots := 10, locals := 29 } : Room) s m #[(.ref a)] below meth c s₁ [] 0 0 := Stand.of_body Bd
  have e0 : s₁.heap = h0 := by rw [← hh, Bd.state]; rfl
  have N0 := Fr.nil n0
  have ef : entryFrame m #[(.ref a)] 1 = mkF m 0 #[.val (.ref a)] [] := by first | (simp [entryFrame, mkF, argsToLocals, Value.category]; done) | rfl
  refine Fin.start (Q := Q_gr0 Z a mc aD kD h0 n0) ef ?_
  refine Fin.by (fun tt_ kk_ => XS.aloadN X0.here hx rfl (hb hby d8_0) rfl rfl (XS.aloadN X0.here hx rfl (hb hby d8_1) rfl rfl kk_)) ?_
  obtain ⟨T101, X101, e101, st101⟩ := getF X0 hx hZ hown (host := "") (Or.inl (w_ hw 41 rfl)) Via.refl e0 I2 (g := (mkF m 2 #[.val (.ref a)] [(.ref a), (.ref a)])) rfl rfl (hb hby d8_2)
  refine Fin.by (fun tt_ kk_ => st101 tt_ kk_) ?_
  refine Fin.by (fun tt_ kk_ => XS.iconst X101.here hx rfl (hb hby d8_5) (XS.iadd X101.here hx rfl (hb hby d8_6) rfl kk_)) ?_
  obtain ⟨cq102, qa102, qb102⟩ := I0.cell
  obtain ⟨v102, _, ⟨T102, L102, k102, n102⟩, -, X102, ⟨Lc102, hQ102, l102, y102, z102⟩, st102⟩ := X101.privateBack hx (y := y_7) hown (mvT hZ (w_ hw 69 rfl)) (mvT hZ (w_ hw 70 rfl)) (mvT hZ (w_ hw 72 rfl)) (Cond.privateMethod_at (mvP hZ (w_ hw 71 rfl) (args := #[]))) (mvT hZ (w_ hw 73 rfl)) (by decide) (backOf (W := 0) (rm_gr1 l Z a0 hw [] a mc aD kD h0 n0 Z0 I0 I1 I2 I3 ga S2 VD OL) hZ (w_ hw 73 rfl) (w_ hw 4 rfl) (by decide) (by decide)) (g := (mkF m 7 #[.val (.ref a)] [(.int 1), (.ref a)])) rfl (by rw [hml]; rfl) (Steps.refl _) (a := a) (by rw [e101]; exact qa102) qb102 (argsL := [(.int 1)]) (rest := []) (lenOf pd_83 rfl) rfl (by show 2 * 0 + _ ≤ _; exact Nat.le_of_eq rfl) (hb hby d8_7) (fun _ _ => ⟨rfl, e101, (by decide : 0 + 1 ≤ _), (by decide : 0 + 10 ≤ _)⟩)
  dsimp only [Pt.U, Pt.locs, Pt.cells, Pt.slots] at X102 l102 y102 z102 st102 hQ102
  subst l102 y102 z102
  obtain ⟨ed103, kE104, rfl, Nq102, p102_0, p102_1, p102_2, p102_3, p102_4, p102_5, p102_6, p102_7⟩ := hQ102
  have N102_ := Fr.app N0 Nq102
  refine Fin.byS st102 ?_
  have kp105 : Keep h0 T102.heap [a] := (Keep.refl h0 [a]).trans p102_0 (allS (Or.inl (List.mem_of_getElem? (i := 0) rfl)) all0)
  show Fin _ _ _ _ _ _ _ (T102.setTop (mkF m 10 #[.val (.ref a)] [(.ref ed103)]))
  exact Fin.ret (v := some (.ref ed103)) X102 (fun h => by rw [Bd.returns] at h; cases h) Bd.notSynchronized (⟨ed103, kE104, rfl, N102_, kp105, (Nat.le_trans (Nat.le_refl _) p102_1), p102_2, p102_3, p102_4, p102_5, p102_6, p102_7⟩) (by decide) (by decide) (fun fs hr => retA X102 hx Bd.returns rfl rfl (hb hby d8_10) hr)
abbrev y_9 : MethodName := (⟨"java/util/ArrayList", "add", "(Ljava/lang/Object;[Ljava/lang/Object;I)V"⟩ : MethodName)
theorem d9_0 : decode jdk_38_method_24_code 0 = .ok (.iload_n 3, 1) := by decide +kernel
theorem d9_1 : decode jdk_38_method_24_code 1 = .ok (.aload_n 2, 1) := by decide +kernel
theorem d9_2 : decode jdk_38_method_24_code 2 = .ok (.arraylength, 1) := by decide +kernel
theorem d9_3 : decode jdk_38_method_24_code 3 = .ok (.if_icmp .ne 8, 3) := by decide +kernel
theorem d9_6 : decode jdk_38_method_24_code 6 = .ok (.aload_n 0, 1) := by decide +kernel
theorem pd_91 : parseMethodDescriptor "()[Ljava/lang/Object;" = some ⟨[], some (.array (.object "java/lang/Object"))⟩ := by decide +kernel
theorem d9_7 : decode jdk_38_method_24_code 7 = .ok (.invokevirtual 129, 3) := by decide +kernel
theorem d9_10 : decode jdk_38_method_24_code 10 = .ok (.astore_n 2, 1) := by decide +kernel
theorem d9_11 : decode jdk_38_method_24_code 11 = .ok (.aload_n 2, 1) := by decide +kernel
theorem d9_12 : decode jdk_38_method_24_code 12 = .ok (.iload_n 3, 1) := by decide +kernel
theorem d9_13 : decode jdk_38_method_24_code 13 = .ok (.aload_n 1, 1) := by decide +kernel
theorem d9_14 : decode jdk_38_method_24_code 14 = .ok (.aastore, 1) := by decide +kernel
theorem d9_15 : decode jdk_38_method_24_code 15 = .ok (.aload_n 0, 1) := by decide +kernel
theorem d9_16 : decode jdk_38_method_24_code 16 = .ok (.iload_n 3, 1) := by decide +kernel
theorem d9_17 : decode jdk_38_method_24_code 17 = .ok (.iconst 1, 1) := by decide +kernel
theorem d9_18 : decode jdk_38_method_24_code 18 = .ok (.iadd, 1) := by decide +kernel
theorem d9_19 : decode jdk_38_method_24_code 19 = .ok (.putfield 48, 3) := by decide +kernel
theorem d9_22 : decode jdk_38_method_24_code 22 = .ok (.return_, 1) := by decide +kernel
def Q_ad0 (Z : State) (a : Addr) (y : Addr) (mc : Int32) (aD : Addr) (kD : ClassId) (h0 : Heap) (n0 : Nat) (vv_ : Option Value) (hh_ : Heap) (LL_ : List Loc) : Prop := ∃ (ed : Addr), ∃ (kE : ClassId), vv_ = none ∧ Fr n0 LL_ ∧ Keep h0 hh_ [a] ∧ h0.size ≤ ed ∧ Exa Z hh_ a "java/util/ArrayList" ∧ Fld Z hh_ a "java/util/ArrayList" "elementData" "[Ljava/lang/Object;" (.ref ed) ∧ Fld Z hh_ a "java/util/ArrayList" "size" "I" (.int (1 : Int32)) ∧ Fld Z hh_ a "java/util/AbstractList" "modCount" "I" (.int mc) ∧ Arv Z hh_ ed kE (.object "java/lang/Object") (10 : Int32) [(.ref y), .null, .null, .null, .null, .null, .null, .null, .null, .null] .null ∧ (Ovr Z kE "java/lang/Object")
set_option maxRecDepth 65536 in
set_option maxHeartbeats 40000000 in
theorem rm_ad0 (l : Launch) (Z : State) (a0 : Array Value) (hw : ∀ d ∈ tables_1, d.before a0 Z = true) (ws : List Jvm.Cond) (a : Addr) (y : Addr) (mc : Int32) (aD : Addr) (kD : ClassId) (h0 : Heap) (n0 : Nat) (Z0 : n0 ≤ h0.size) (I0 : Exa Z h0 a "java/util/ArrayList") (I1 : Fld Z h0 a "java/util/ArrayList" "elementData" "[Ljava/lang/Object;" (.ref aD)) (I2 : Fld Z h0 a "java/util/ArrayList" "size" "I" (.int (0 : Int32))) (I3 : Fld Z h0 a "java/util/AbstractList" "modCount" "I" (.int mc)) (Ey : Exa Z h0 y "java/lang/Long") (ga : n0 ≤ a) (S2 : Sta Z Z.heap "java/util/ArrayList" "DEFAULTCAPACITY_EMPTY_ELEMENTDATA" "[Ljava/lang/Object;" (.ref aD)) (VD : Arv Z Z.heap aD kD (.object "java/lang/Object") (0 : Int32) [] .null) (OL : Old Z n0 h0) :
    MetFree l y_9 (head1 (Jvm.Cond.code y_9 jdk_38_method_24_code 4 none :: ws) ({ frames := 3, cells := 1, slots := 10, locals := 41 } : Room)) (fun aa_ U => aa_ = #[(.ref a), (.ref y), (.ref aD), (.int (0 : Int32))] ∧ Z.Warmed39 U.vm ∧ U.heap = h0) (fun _ _ _ _ _ => True) (fun _ U o U' => ∃ vv_ LL_, o = .returned vv_ ∧ Q_ad0 Z a y mc aD kD h0 n0 vv_ U'.heap LL_ ∧ FrameEnd U o U' LL_ 1 10) := by
  refine MetFree.of_bodySF (plainFor_of_name pn_java_util_ArrayList) hisR ?_
  intro p e s m args below meth c s₁ Bd hml0 hP hK
  obtain ⟨rfl, hZ, hh⟩ := hP
  have hx := Bd.exec
  have hby := Bd.bytes
  have hml : c.maxLocals = 4 := hml0
  have hown : s.vm.findClass "java/util/ArrayList" = some m.cls := findClass_of_methodNamed Bd.named
  have hnm := (name_of_methodNamed Bd.named Bd.method).1
  have X0 : Stand p l e ({ frames := 3, cells := 1, slots := 10, locals := 41 } : Room) s m #[(.ref a), (.ref y), (.ref aD), (.int (0 : Int32))] below meth c s₁ [] 0 0 := Stand.of_body Bd
  have e0 : s₁.heap = h0 := by rw [← hh, Bd.state]; rfl
  have N0 := Fr.nil n0
  have ef : entryFrame m #[(.ref a), (.ref y), (.ref aD), (.int (0 : Int32))] 4 = mkF m 0 #[.val (.ref a), .val (.ref y), .val (.ref aD), .val (.int (0 : Int32))] [] := by first | (simp [entryFrame, mkF, argsToLocals, Value.category]; done) | rfl
  refine Fin.start (Q := Q_ad0 Z a y mc aD kD h0 n0) ef ?_
  refine Fin.by (fun tt_ kk_ => XS.iloadN X0.here hx rfl (hb hby d9_0) rfl (XS.aloadN X0.here hx rfl (hb hby d9_1) rfl rfl kk_)) ?_
  have A101 : Arv Z h0 aD kD (.object "java/lang/Object") (0 : Int32) [] .null := VD.ext OL.2
  obtain ⟨cl102, Ar102, q102, S102, N102, H102, G102⟩ := id A101
  refine Fin.by (fun tt_ kk_ => X0.arraylength hx (by rw [e0]; exact Ar102.1) (State.isArrayOf_alike hZ.alike Ar102.2.1) (g := (mkF m 2 #[.val (.ref a), .val (.ref y), .val (.ref aD), .val (.int 0)] [(.ref aD), (.int 0)])) rfl rfl (hb hby d9_2) _ kk_) ?_
  rw [len_of S102 N102]
  show Fin _ _ _ _ _ _ _ (s₁.setTop (mkF m 3 #[.val (.ref a), .val (.ref y), .val (.ref aD), .val (.int 0)] [(.int 0), (.int 0)]))
  refine Fin.by (fun tt_ kk_ => XS.icmpNo X0.here hx rfl (hb hby d9_3) rfl (teq (rfl : (0 : Int32) = (0 : Int32))).2 kk_) ?_
  refine Fin.by (fun tt_ kk_ => XS.aloadN X0.here hx rfl (hb hby d9_6) rfl rfl kk_) ?_
  obtain ⟨cq103, qa103, qb103⟩ := I0.cell
  obtain ⟨v103, _, ⟨T103, L103, k103, n103⟩, -, X103, ⟨Lc103, hQ103, l103, y103, z103⟩, st103⟩ := X0.privateBack hx (y := y_8) hown (mvT hZ (w_ hw 64 rfl)) (mvT hZ (w_ hw 65 rfl)) (mvT hZ (w_ hw 67 rfl)) (Cond.privateMethod_at (mvP hZ (w_ hw 66 rfl) (args := #[]))) (mvT hZ (w_ hw 68 rfl)) (by decide) (backOf (W := 0) (rm_gr0 l Z a0 hw [] a mc aD kD h0 n0 Z0 I0 I1 I2 I3 ga S2 VD OL) hZ (w_ hw 68 rfl) (w_ hw 4 rfl) (by decide) (by decide)) (g := (mkF m 7 #[.val (.ref a), .val (.ref y), .val (.ref aD), .val (.int 0)] [(.ref a)])) rfl (by rw [hml]; rfl) (Steps.refl _) (a := a) (by rw [e0]; exact qa103) qb103 (argsL := []) (rest := []) (lenOf pd_91 rfl) rfl (by show 2 * 0 + _ ≤ _; exact Nat.le_of_eq rfl) (hb hby d9_7) (fun _ _ => ⟨rfl, e0, (by decide : 0 + 1 ≤ _), (by decide : 0 + 10 ≤ _)⟩)
  dsimp only [Pt.U, Pt.locs, Pt.cells, Pt.slots] at X103 l103 y103 z103 st103 hQ103
  subst l103 y103 z103
  obtain ⟨ed104, kE105, rfl, Nq103, p103_0, p103_1, p103_2, p103_3, p103_4, p103_5, p103_6, p103_7⟩ := hQ103
  have N103_ := Fr.app N0 Nq103
  refine Fin.byS st103 ?_
  refine Fin.by (fun tt_ kk_ => XS.astoreN X103.here hx rfl (hb hby d9_10) rfl rfl (l' := #[.val (.ref a), .val (.ref y), .val (.ref ed104), .val (.int 0)]) rfl (XS.aloadN X103.here hx rfl (hb hby d9_11) rfl rfl (XS.iloadN X103.here hx rfl (hb hby d9_12) rfl (XS.aloadN X103.here hx rfl (hb hby d9_13) rfl rfl kk_)))) ?_
  have E106 : Exa Z T103.heap y "java/lang/Long" := (Ey.keep p103_0)
  obtain ⟨cl107, Ar107, q107, S107, N107, H107, G107⟩ := id p103_6
  obtain ⟨T107, h107, X107, e107, W107, st107⟩ := stR X103 hx hZ rfl Ar107 (j := (0 : Int32)) (inb_of S107 ⟨by decide, by decide⟩) rfl (Sto.ofV Ar107 q107 p103_7 (Ins.of_exa E106 (w_ hw 80 rfl))) (g := (mkF m 14 #[.val (.ref a), .val (.ref y), .val (.ref ed104), .val (.int 0)] [(.ref y), (.int 0), (.ref ed104)])) rfl rfl (hb hby d9_14)
  have V107 : Arv Z h107 ed104 kE105 (.object "java/lang/Object") (10 : Int32) [(.ref y), .null, .null, .null, .null, .null, .null, .null, .null, .null] .null := Arv.set Ar107 q107 S107 N107 H107 G107 rfl W107 0 rfl (Nat.le_of_ble_eq_true rfl)
  have g108 : n0 ≤ ed104 := Nat.le_trans Z0 p103_1
  refine Fin.by (fun tt_ kk_ => st107 tt_ kk_) ?_
  have N107_ := Fr.snoc X107 N103_ g108
  refine Fin.by (fun tt_ kk_ => XS.aloadN X107.here hx rfl (hb hby d9_15) rfl rfl (XS.iloadN X107.here hx rfl (hb hby d9_16) rfl (XS.iconst X107.here hx rfl (hb hby d9_17) (XS.iadd X107.here hx rfl (hb hby d9_18) rfl kk_)))) ?_
  have ne109 : a ≠ ed104 := Nat.ne_of_lt (Nat.lt_of_lt_of_le I0.lt p103_1)
  have F110 : Fld Z h107 a "java/util/ArrayList" "size" "I" (.int (0 : Int32)) := (p103_4.other W107 (Or.inl ne109))
  have E111 : Exa Z h107 a "java/util/ArrayList" := (p103_2.wr W107)
  obtain ⟨T112, h112, X112, e112, W112, st112⟩ := putF X107 hx hZ hown (host := "") (Or.inl (w_ hw 41 rfl)) Via.refl e107 F110 E111 (Or.inl (w_ hw 42 rfl)) (w_ hw 3 rfl) (ty := .int) (by decide) rfl rfl (g := (mkF m 19 #[.val (.ref a), .val (.ref y), .val (.ref ed104), .val (.int 0)] [(.int 1), (.ref a)])) rfl rfl (hb hby d9_19)
  refine Fin.by (fun tt_ kk_ => st112 tt_ kk_) ?_
  have N112_ := Fr.snoc X112 N107_ ga
  have kp113 : Keep h0 T103.heap [a] := (Keep.refl h0 [a]).trans p103_0 (allS (Or.inl (List.mem_of_getElem? (i := 0) rfl)) all0)
  have kp114 : Keep h0 h107 [a] := kp113.wr W107 (Or.inr (Nat.le_trans (Nat.le_refl _) p103_1))
  have kp115 : Keep h0 h112 [a] := kp114.wr W112 (Or.inl (List.mem_of_getElem? (i := 0) rfl))
  have E116 : Exa Z h112 a "java/util/ArrayList" := (E111.wr W112)
  have F117 : Fld Z h112 a "java/util/ArrayList" "elementData" "[Ljava/lang/Object;" (.ref ed104) := ((p103_3.other W107 (Or.inl ne109)).other W112 (Or.inr (slot_ne (Or.inl (w_ hw 27 rfl)) (Or.inl (w_ hw 42 rfl)) (by decide) (t := (.array (.object "java/lang/Object"))) (t' := .int) (by decide) (by decide))))
  have F118 : Fld Z h112 a "java/util/AbstractList" "modCount" "I" (.int mc) := ((p103_5.other W107 (Or.inl ne109)).other W112 (Or.inr (slot_ne (Or.inl (w_ hw 24 rfl)) (Or.inl (w_ hw 42 rfl)) (by decide) (t := .int) (t' := .int) (by decide) (by decide))))
  have A119 : Arv Z h112 ed104 kE105 (.object "java/lang/Object") (10 : Int32) [(.ref y), .null, .null, .null, .null, .null, .null, .null, .null, .null] .null := (V107.other W112 (Ne.symm ne109))
  show Fin _ _ _ _ _ _ _ (T112.setTop (mkF m 22 #[.val (.ref a), .val (.ref y), .val (.ref ed104), .val (.int 0)] []))
  exact Fin.ret (v := none) X112 (fun _ => rfl) Bd.notSynchronized (by rw [e112]; exact ⟨ed104, kE105, rfl, N112_, kp115, (Nat.le_trans (Nat.le_refl _) p103_1), E116, F117, (F110.same W112), F118, A119, p103_7⟩) (by decide) (by decide) (fun fs hr => X112.returnOut hx Bd.returns (hb hby d9_22) hr)
abbrev y_10 : MethodName := (⟨"java/util/ArrayList", "add", "(Ljava/lang/Object;)Z"⟩ : MethodName)
theorem d10_0 : decode jdk_38_method_25_code 0 = .ok (.aload_n 0, 1) := by decide +kernel
theorem d10_1 : decode jdk_38_method_25_code 1 = .ok (.dup, 1) := by decide +kernel
theorem d10_2 : decode jdk_38_method_25_code 2 = .ok (.getfield 63, 3) := by decide +kernel
theorem d10_5 : decode jdk_38_method_25_code 5 = .ok (.iconst 1, 1) := by decide +kernel
theorem d10_6 : decode jdk_38_method_25_code 6 = .ok (.iadd, 1) := by decide +kernel
theorem d10_7 : decode jdk_38_method_25_code 7 = .ok (.putfield 63, 3) := by decide +kernel
theorem d10_10 : decode jdk_38_method_25_code 10 = .ok (.aload_n 0, 1) := by decide +kernel
theorem d10_11 : decode jdk_38_method_25_code 11 = .ok (.aload_n 1, 1) := by decide +kernel
theorem d10_12 : decode jdk_38_method_25_code 12 = .ok (.aload_n 0, 1) := by decide +kernel
theorem d10_13 : decode jdk_38_method_25_code 13 = .ok (.getfield 9, 3) := by decide +kernel
theorem d10_16 : decode jdk_38_method_25_code 16 = .ok (.aload_n 0, 1) := by decide +kernel
theorem d10_17 : decode jdk_38_method_25_code 17 = .ok (.getfield 48, 3) := by decide +kernel
theorem pd_116 : parseMethodDescriptor "(Ljava/lang/Object;[Ljava/lang/Object;I)V" = some ⟨[(.object "java/lang/Object"), (.array (.object "java/lang/Object")), .int], none⟩ := by decide +kernel
theorem d10_20 : decode jdk_38_method_25_code 20 = .ok (.invokevirtual 131, 3) := by decide +kernel
theorem d10_23 : decode jdk_38_method_25_code 23 = .ok (.iconst 1, 1) := by decide +kernel
theorem d10_24 : decode jdk_38_method_25_code 24 = .ok (.ireturn, 1) := by decide +kernel
def Q_add0 (Z : State) (a : Addr) (y : Addr) (mc : Int32) (aD : Addr) (kD : ClassId) (h0 : Heap) (n0 : Nat) (vv_ : Option Value) (hh_ : Heap) (LL_ : List Loc) : Prop := ∃ (ed : Addr), ∃ (kE : ClassId), vv_ = some (.int (1 : Int32)) ∧ Fr n0 LL_ ∧ Keep h0 hh_ [a] ∧ h0.size ≤ ed ∧ Exa Z hh_ a "java/util/ArrayList" ∧ Fld Z hh_ a "java/util/ArrayList" "elementData" "[Ljava/lang/Object;" (.ref ed) ∧ Fld Z hh_ a "java/util/ArrayList" "size" "I" (.int (1 : Int32)) ∧ Fld Z hh_ a "java/util/AbstractList" "modCount" "I" (.int (mc + (1 : Int32))) ∧ Arv Z hh_ ed kE (.object "java/lang/Object") (10 : Int32) [(.ref y), .null, .null, .null, .null, .null, .null, .null, .null, .null] .null ∧ (Ovr Z kE "java/lang/Object")
set_option maxRecDepth 65536 in
set_option maxHeartbeats 40000000 in
theorem rm_add0 (l : Launch) (Z : State) (a0 : Array Value) (hw : ∀ d ∈ tables_1, d.before a0 Z = true) (ws : List Jvm.Cond) (a : Addr) (y : Addr) (mc : Int32) (aD : Addr) (kD : ClassId) (h0 : Heap) (n0 : Nat) (Z0 : n0 ≤ h0.size) (I0 : Exa Z h0 a "java/util/ArrayList") (I1 : Fld Z h0 a "java/util/ArrayList" "elementData" "[Ljava/lang/Object;" (.ref aD)) (I2 : Fld Z h0 a "java/util/ArrayList" "size" "I" (.int (0 : Int32))) (I3 : Fld Z h0 a "java/util/AbstractList" "modCount" "I" (.int mc)) (Ey : Exa Z h0 y "java/lang/Long") (ga : n0 ≤ a) (S2 : Sta Z Z.heap "java/util/ArrayList" "DEFAULTCAPACITY_EMPTY_ELEMENTDATA" "[Ljava/lang/Object;" (.ref aD)) (VD : Arv Z Z.heap aD kD (.object "java/lang/Object") (0 : Int32) [] .null) (OL : Old Z n0 h0) :
    MetFree l y_10 (head1 (Jvm.Cond.code y_10 jdk_38_method_25_code 2 (some .boolean) :: ws) ({ frames := 4, cells := 1, slots := 10, locals := 56 } : Room)) (fun aa_ U => aa_ = #[(.ref a), (.ref y)] ∧ Z.Warmed39 U.vm ∧ U.heap = h0) (fun _ _ _ _ _ => True) (fun _ U o U' => ∃ vv_ LL_, o = .returned vv_ ∧ Q_add0 Z a y mc aD kD h0 n0 vv_ U'.heap LL_ ∧ FrameEnd U o U' LL_ 1 10) := by
  refine MetFree.of_bodySF (plainFor_of_name pn_java_util_ArrayList) hisR ?_
  intro p e s m args below meth c s₁ Bd hml0 hP hK
  obtain ⟨rfl, hZ, hh⟩ := hP
  have hx := Bd.exec
  have hby := Bd.bytes
  have hml : c.maxLocals = 2 := hml0
  have hown : s.vm.findClass "java/util/ArrayList" = some m.cls := findClass_of_methodNamed Bd.named
  have hnm := (name_of_methodNamed Bd.named Bd.method).1
  have X0 : Stand p l e ({ frames := 4, cells := 1, slots := 10, locals := 56 } : Room) s m #[(.ref a), (.ref y)] below meth c s₁ [] 0 0 := Stand.of_body Bd
  have e0 : s₁.heap = h0 := by rw [← hh, Bd.state]; rfl
  have N0 := Fr.nil n0
  have ef : entryFrame m #[(.ref a), (.ref y)] 2 = mkF m 0 #[.val (.ref a), .val (.ref y)] [] := by first | (simp [entryFrame, mkF, argsToLocals, Value.category]; done) | rfl
  refine Fin.start (Q := Q_add0 Z a y mc aD kD h0 n0) ef ?_
  refine Fin.by (fun tt_ kk_ => XS.aloadN X0.here hx rfl (hb hby d10_0) rfl rfl (XS.dup X0.here hx rfl (hb hby d10_1) rfl rfl kk_)) ?_
  obtain ⟨T101, X101, e101, st101⟩ := getF X0 hx hZ hown (host := "") (Or.inl (w_ hw 57 rfl)) (Via.of (w_ hw 58 rfl)) e0 I3 (g := (mkF m 2 #[.val (.ref a), .val (.ref y)] [(.ref a), (.ref a)])) rfl rfl (hb hby d10_2)
  refine Fin.by (fun tt_ kk_ => st101 tt_ kk_) ?_
  refine Fin.by (fun tt_ kk_ => XS.iconst X101.here hx rfl (hb hby d10_5) (XS.iadd X101.here hx rfl (hb hby d10_6) rfl kk_)) ?_
  obtain ⟨T102, h102, X102, e102, W102, st102⟩ := putF X101 hx hZ hown (host := "") (Or.inl (w_ hw 57 rfl)) (Via.of (w_ hw 58 rfl)) e101 I3 I0 (Or.inl (w_ hw 24 rfl)) (w_ hw 3 rfl) (ty := .int) (by decide) rfl rfl (g := (mkF m 7 #[.val (.ref a), .val (.ref y)] [(.int (mc + 1)), (.ref a)])) rfl rfl (hb hby d10_7)
  refine Fin.by (fun tt_ kk_ => st102 tt_ kk_) ?_
  have N102_ := Fr.snoc X102 N0 ga
  refine Fin.by (fun tt_ kk_ => XS.aloadN X102.here hx rfl (hb hby d10_10) rfl rfl (XS.aloadN X102.here hx rfl (hb hby d10_11) rfl rfl (XS.aloadN X102.here hx rfl (hb hby d10_12) rfl rfl kk_))) ?_
  have F103 : Fld Z h102 a "java/util/ArrayList" "elementData" "[Ljava/lang/Object;" (.ref aD) := (I1.other W102 (Or.inr (slot_ne (Or.inl (w_ hw 27 rfl)) (Or.inl (w_ hw 24 rfl)) (by decide) (t := (.array (.object "java/lang/Object"))) (t' := .int) (by decide) (by decide))))
  obtain ⟨T104, X104, e104, st104⟩ := getF X102 hx hZ hown (host := "") (Or.inl (w_ hw 26 rfl)) Via.refl e102 F103 (g := (mkF m 13 #[.val (.ref a), .val (.ref y)] [(.ref a), (.ref y), (.ref a)])) rfl rfl (hb hby d10_13)
  refine Fin.by (fun tt_ kk_ => st104 tt_ kk_) ?_
  refine Fin.by (fun tt_ kk_ => XS.aloadN X104.here hx rfl (hb hby d10_16) rfl rfl kk_) ?_
  have F105 : Fld Z h102 a "java/util/ArrayList" "size" "I" (.int (0 : Int32)) := (I2.other W102 (Or.inr (slot_ne (Or.inl (w_ hw 42 rfl)) (Or.inl (w_ hw 24 rfl)) (by decide) (t := .int) (t' := .int) (by decide) (by decide))))
  obtain ⟨T106, X106, e106, st106⟩ := getF X104 hx hZ hown (host := "") (Or.inl (w_ hw 41 rfl)) Via.refl e104 F105 (g := (mkF m 17 #[.val (.ref a), .val (.ref y)] [(.ref a), (.ref aD), (.ref y), (.ref a)])) rfl rfl (hb hby d10_17)
  refine Fin.by (fun tt_ kk_ => st106 tt_ kk_) ?_
  have E107 : Exa Z h102 a "java/util/ArrayList" := (I0.wr W102)
  have E108 : Exa Z h102 y "java/lang/Long" := (Ey.wr W102)
  have O109 : Old Z n0 h102 := (OL.wr W102 ga)
  have z110 : n0 ≤ h102.size := Nat.le_trans Z0 (Keep.of_wr W102).1
  obtain ⟨cq111, qa111, qb111⟩ := E107.cell
  obtain ⟨v111, _, ⟨T111, L111, k111, n111⟩, -, X111, ⟨Lc111, hQ111, l111, y111, z111⟩, st111⟩ := X106.privateBack hx (y := y_9) hown (mvT hZ (w_ hw 59 rfl)) (mvT hZ (w_ hw 60 rfl)) (mvT hZ (w_ hw 62 rfl)) (Cond.privateMethod_at (mvP hZ (w_ hw 61 rfl) (args := #[]))) (mvT hZ (w_ hw 63 rfl)) (by decide) (backOf (W := 0) (rm_ad0 l Z a0 hw [] a y (mc + (1 : Int32)) aD kD h102 n0 z110 E107 F103 F105 (I3.same W102) E108 ga S2 VD O109) hZ (w_ hw 63 rfl) (w_ hw 4 rfl) (by decide) (by decide)) (g := (mkF m 20 #[.val (.ref a), .val (.ref y)] [(.int 0), (.ref aD), (.ref y), (.ref a)])) rfl (by rw [hml]; rfl) (Steps.refl _) (a := a) (by rw [e106]; exact qa111) qb111 (argsL := [(.ref y), (.ref aD), (.int 0)]) (rest := []) (lenOf pd_116 rfl) rfl (by show 2 * 0 + _ ≤ _; exact Nat.le_of_eq rfl) (hb hby d10_20) (fun _ _ => ⟨rfl, e106, (by decide : 0 + 1 ≤ _), (by decide : 0 + 10 ≤ _)⟩)
  dsimp only [Pt.U, Pt.locs, Pt.cells, Pt.slots] at X111 l111 y111 z111 st111 hQ111
  subst l111 y111 z111
  obtain ⟨ed112, kE113, rfl, Nq111, p111_0, p111_1, p111_2, p111_3, p111_4, p111_5, p111_6, p111_7⟩ := hQ111
  have N111_ := Fr.app N102_ Nq111
  refine Fin.byS st111 ?_
  refine Fin.by (fun tt_ kk_ => XS.iconst X111.here hx rfl (hb hby d10_23) kk_) ?_
  have kp114 : Keep h0 h102 [a] := (Keep.refl h0 [a]).wr W102 (Or.inl (List.mem_of_getElem? (i := 0) rfl))
  have kp115 : Keep h0 T111.heap [a] := kp114.trans p111_0 (allS (Or.inl (List.mem_of_getElem? (i := 0) rfl)) all0)
  show Fin _ _ _ _ _ _ _ (T111.setTop (mkF m 24 #[.val (.ref a), .val (.ref y)] [(.int 1)]))
  exact Fin.ret (v := some (.int (nar .boolean (1 : Int32)))) X111 (fun h => by rw [Bd.returns] at h; cases h) Bd.notSynchronized (⟨ed112, kE113, rfl, N111_, kp115, (Nat.le_trans (Keep.of_wr W102).1 p111_1), p111_2, p111_3, p111_4, p111_5, p111_6, p111_7⟩) (by decide) (by decide) (fun fs hr => retN X111 hx (t := .boolean) Bd.returns (by simp) (hb hby d10_24) hr)
def Q_ad1 (Z : State) (a : Addr) (y : Addr) (mc : Int32) (ed : Addr) (kE : ClassId) (y0 : Addr) (h0 : Heap) (n0 : Nat) (vv_ : Option Value) (hh_ : Heap) (LL_ : List Loc) : Prop := vv_ = none ∧ Fr n0 LL_ ∧ Keep h0 hh_ [a, ed] ∧ Exa Z hh_ a "java/util/ArrayList" ∧ Fld Z hh_ a "java/util/ArrayList" "elementData" "[Ljava/lang/Object;" (.ref ed) ∧ Fld Z hh_ a "java/util/ArrayList" "size" "I" (.int (2 : Int32)) ∧ Fld Z hh_ a "java/util/AbstractList" "modCount" "I" (.int mc) ∧ Arv Z hh_ ed kE (.object "java/lang/Object") (10 : Int32) [(.ref y0), (.ref y), .null, .null, .null, .null, .null, .null, .null, .null] .null
set_option maxRecDepth 65536 in
set_option maxHeartbeats 40000000 in
theorem rm_ad1 (l : Launch) (Z : State) (a0 : Array Value) (hw : ∀ d ∈ tables_1, d.before a0 Z = true) (ws : List Jvm.Cond) (a : Addr) (y : Addr) (mc : Int32) (ed : Addr) (kE : ClassId) (y0 : Addr) (h0 : Heap) (n0 : Nat) (Z0 : n0 ≤ h0.size) (I0 : Exa Z h0 a "java/util/ArrayList") (I1 : Fld Z h0 a "java/util/ArrayList" "elementData" "[Ljava/lang/Object;" (.ref ed)) (I2 : Fld Z h0 a "java/util/ArrayList" "size" "I" (.int (1 : Int32))) (I3 : Fld Z h0 a "java/util/AbstractList" "modCount" "I" (.int mc)) (Ae : Arv Z h0 ed kE (.object "java/lang/Object") (10 : Int32) [(.ref y0), .null, .null, .null, .null, .null, .null, .null, .null, .null] .null) (Oe : Ovr Z kE "java/lang/Object") (Ey : Exa Z h0 y "java/lang/Long") (ga : n0 ≤ a) (ge : n0 ≤ ed) (nea : ed ≠ a) :
    MetFree l y_9 (head1 (Jvm.Cond.code y_9 jdk_38_method_24_code 4 none :: ws) ({ frames := 0, cells := 0, slots := 0, locals := 0 } : Room)) (fun aa_ U => aa_ = #[(.ref a), (.ref y), (.ref ed), (.int (1 : Int32))] ∧ Z.Warmed39 U.vm ∧ U.heap = h0) (fun _ _ _ _ _ => True) (fun _ U o U' => ∃ vv_ LL_, o = .returned vv_ ∧ Q_ad1 Z a y mc ed kE y0 h0 n0 vv_ U'.heap LL_ ∧ FrameEnd U o U' LL_ 0 0) := by
  refine MetFree.of_bodySF (plainFor_of_name pn_java_util_ArrayList) hisR ?_
  intro p e s m args below meth c s₁ Bd hml0 hP hK
  obtain ⟨rfl, hZ, hh⟩ := hP
  have hx := Bd.exec
  have hby := Bd.bytes
  have hml : c.maxLocals = 4 := hml0
  have hown : s.vm.findClass "java/util/ArrayList" = some m.cls := findClass_of_methodNamed Bd.named
  have hnm := (name_of_methodNamed Bd.named Bd.method).1
  have X0 : Stand p l e ({ frames := 0, cells := 0, slots := 0, locals := 0 } : Room) s m #[(.ref a), (.ref y), (.ref ed), (.int (1 : Int32))] below meth c s₁ [] 0 0 := Stand.of_body Bd
  have e0 : s₁.heap = h0 := by rw [← hh, Bd.state]; rfl
  have N0 := Fr.nil n0
  have ef : entryFrame m #[(.ref a), (.ref y), (.ref ed), (.int (1 : Int32))] 4 = mkF m 0 #[.val (.ref a), .val (.ref y), .val (.ref ed), .val (.int (1 : Int32))] [] := by first | (simp [entryFrame, mkF, argsToLocals, Value.category]; done) | rfl
  refine Fin.start (Q := Q_ad1 Z a y mc ed kE y0 h0 n0) ef ?_
  refine Fin.by (fun tt_ kk_ => XS.iloadN X0.here hx rfl (hb hby d9_0) rfl (XS.aloadN X0.here hx rfl (hb hby d9_1) rfl rfl kk_)) ?_
  obtain ⟨cl101, Ar101, q101, S101, N101, H101, G101⟩ := id Ae
  refine Fin.by (fun tt_ kk_ => X0.arraylength hx (by rw [e0]; exact Ar101.1) (State.isArrayOf_alike hZ.alike Ar101.2.1) (g := (mkF m 2 #[.val (.ref a), .val (.ref y), .val (.ref ed), .val (.int 1)] [(.ref ed), (.int 1)])) rfl rfl (hb hby d9_2) _ kk_) ?_
  rw [len_of S101 N101]
  show Fin _ _ _ _ _ _ _ (s₁.setTop (mkF m 3 #[.val (.ref a), .val (.ref y), .val (.ref ed), .val (.int 1)] [(.int 10), (.int 1)]))
  refine Fin.by (fun tt_ kk_ => XS.icmpYes X0.here hx rfl (pc0 := 3) (pc' := 11) rfl (hb hby d9_3) rfl (feq (by decide : ¬ (1 : Int32) = (10 : Int32))).2 (by decide) (by decide) kk_) ?_
  refine Fin.by (fun tt_ kk_ => XS.aloadN X0.here hx rfl (hb hby d9_11) rfl rfl (XS.iloadN X0.here hx rfl (hb hby d9_12) rfl (XS.aloadN X0.here hx rfl (hb hby d9_13) rfl rfl kk_))) ?_
  obtain ⟨cl102, Ar102, q102, S102, N102, H102, G102⟩ := id Ae
  obtain ⟨T102, h102, X102, e102, W102, st102⟩ := stR X0 hx hZ e0 Ar102 (j := (1 : Int32)) (inb_of S102 ⟨by decide, by decide⟩) rfl (Sto.ofV Ar102 q102 Oe (Ins.of_exa Ey (w_ hw 80 rfl))) (g := (mkF m 14 #[.val (.ref a), .val (.ref y), .val (.ref ed), .val (.int 1)] [(.ref y), (.int 1), (.ref ed)])) rfl rfl (hb hby d9_14)
  have V102 : Arv Z h102 ed kE (.object "java/lang/Object") (10 : Int32) [(.ref y0), (.ref y), .null, .null, .null, .null, .null, .null, .null, .null] .null := Arv.set Ar102 q102 S102 N102 H102 G102 rfl W102 1 rfl (Nat.le_of_ble_eq_true rfl)
  refine Fin.by (fun tt_ kk_ => st102 tt_ kk_) ?_
  have N102_ := Fr.snoc X102 N0 ge
  refine Fin.by (fun tt_ kk_ => XS.aloadN X102.here hx rfl (hb hby d9_15) rfl rfl (XS.iloadN X102.here hx rfl (hb hby d9_16) rfl (XS.iconst X102.here hx rfl (hb hby d9_17) (XS.iadd X102.here hx rfl (hb hby d9_18) rfl kk_)))) ?_
  have F103 : Fld Z h102 a "java/util/ArrayList" "size" "I" (.int (1 : Int32)) := (I2.other W102 (Or.inl (Ne.symm nea)))
  have E104 : Exa Z h102 a "java/util/ArrayList" := (I0.wr W102)
  obtain ⟨T105, h105, X105, e105, W105, st105⟩ := putF X102 hx hZ hown (host := "") (Or.inl (w_ hw 41 rfl)) Via.refl e102 F103 E104 (Or.inl (w_ hw 42 rfl)) (w_ hw 3 rfl) (ty := .int) (by decide) rfl rfl (g := (mkF m 19 #[.val (.ref a), .val (.ref y), .val (.ref ed), .val (.int 1)] [(.int 2), (.ref a)])) rfl rfl (hb hby d9_19)
  refine Fin.by (fun tt_ kk_ => st105 tt_ kk_) ?_
  have N105_ := Fr.snoc X105 N102_ ga
  have kp106 : Keep h0 h102 [a, ed] := (Keep.refl h0 [a, ed]).wr W102 (Or.inl (List.mem_of_getElem? (i := 1) rfl))
  have kp107 : Keep h0 h105 [a, ed] := kp106.wr W105 (Or.inl (List.mem_of_getElem? (i := 0) rfl))
  have E108 : Exa Z h105 a "java/util/ArrayList" := (E104.wr W105)
  have F109 : Fld Z h105 a "java/util/ArrayList" "elementData" "[Ljava/lang/Object;" (.ref ed) := ((I1.other W102 (Or.inl (Ne.symm nea))).other W105 (Or.inr (slot_ne (Or.inl (w_ hw 27 rfl)) (Or.inl (w_ hw 42 rfl)) (by decide) (t := (.array (.object "java/lang/Object"))) (t' := .int) (by decide) (by decide))))
  have F110 : Fld Z h105 a "java/util/AbstractList" "modCount" "I" (.int mc) := ((I3.other W102 (Or.inl (Ne.symm nea))).other W105 (Or.inr (slot_ne (Or.inl (w_ hw 24 rfl)) (Or.inl (w_ hw 42 rfl)) (by decide) (t := .int) (t' := .int) (by decide) (by decide))))
  have A111 : Arv Z h105 ed kE (.object "java/lang/Object") (10 : Int32) [(.ref y0), (.ref y), .null, .null, .null, .null, .null, .null, .null, .null] .null := (V102.other W105 nea)
  show Fin _ _ _ _ _ _ _ (T105.setTop (mkF m 22 #[.val (.ref a), .val (.ref y), .val (.ref ed), .val (.int 1)] []))
  exact Fin.ret (v := none) X105 (fun _ => rfl) Bd.notSynchronized (by rw [e105]; exact ⟨rfl, N105_, kp107, E108, F109, (F103.same W105), F110, A111⟩) (by decide) (by decide) (fun fs hr => X105.returnOut hx Bd.returns (hb hby d9_22) hr)
def Q_add1 (Z : State) (a : Addr) (y : Addr) (mc : Int32) (ed : Addr) (kE : ClassId) (y0 : Addr) (h0 : Heap) (n0 : Nat) (vv_ : Option Value) (hh_ : Heap) (LL_ : List Loc) : Prop := vv_ = some (.int (1 : Int32)) ∧ Fr n0 LL_ ∧ Keep h0 hh_ [a, ed] ∧ Exa Z hh_ a "java/util/ArrayList" ∧ Fld Z hh_ a "java/util/ArrayList" "elementData" "[Ljava/lang/Object;" (.ref ed) ∧ Fld Z hh_ a "java/util/ArrayList" "size" "I" (.int (2 : Int32)) ∧ Fld Z hh_ a "java/util/AbstractList" "modCount" "I" (.int (mc + (1 : Int32))) ∧ Arv Z hh_ ed kE (.object "java/lang/Object") (10 : Int32) [(.ref y0), (.ref y), .null, .null, .null, .null, .null, .null, .null, .null] .null
set_option maxRecDepth 65536 in
set_option maxHeartbeats 40000000 in
theorem rm_add1 (l : Launch) (Z : State) (a0 : Array Value) (hw : ∀ d ∈ tables_1, d.before a0 Z = true) (ws : List Jvm.Cond) (a : Addr) (y : Addr) (mc : Int32) (ed : Addr) (kE : ClassId) (y0 : Addr) (h0 : Heap) (n0 : Nat) (Z0 : n0 ≤ h0.size) (I0 : Exa Z h0 a "java/util/ArrayList") (I1 : Fld Z h0 a "java/util/ArrayList" "elementData" "[Ljava/lang/Object;" (.ref ed)) (I2 : Fld Z h0 a "java/util/ArrayList" "size" "I" (.int (1 : Int32))) (I3 : Fld Z h0 a "java/util/AbstractList" "modCount" "I" (.int mc)) (Ae : Arv Z h0 ed kE (.object "java/lang/Object") (10 : Int32) [(.ref y0), .null, .null, .null, .null, .null, .null, .null, .null, .null] .null) (Oe : Ovr Z kE "java/lang/Object") (Ey : Exa Z h0 y "java/lang/Long") (ga : n0 ≤ a) (ge : n0 ≤ ed) (nea : ed ≠ a) :
    MetFree l y_10 (head1 (Jvm.Cond.code y_10 jdk_38_method_25_code 2 (some .boolean) :: ws) ({ frames := 1, cells := 0, slots := 0, locals := 15 } : Room)) (fun aa_ U => aa_ = #[(.ref a), (.ref y)] ∧ Z.Warmed39 U.vm ∧ U.heap = h0) (fun _ _ _ _ _ => True) (fun _ U o U' => ∃ vv_ LL_, o = .returned vv_ ∧ Q_add1 Z a y mc ed kE y0 h0 n0 vv_ U'.heap LL_ ∧ FrameEnd U o U' LL_ 0 0) := by
  refine MetFree.of_bodySF (plainFor_of_name pn_java_util_ArrayList) hisR ?_
  intro p e s m args below meth c s₁ Bd hml0 hP hK
  obtain ⟨rfl, hZ, hh⟩ := hP
  have hx := Bd.exec
  have hby := Bd.bytes
  have hml : c.maxLocals = 2 := hml0
  have hown : s.vm.findClass "java/util/ArrayList" = some m.cls := findClass_of_methodNamed Bd.named
  have hnm := (name_of_methodNamed Bd.named Bd.method).1
  have X0 : Stand p l e ({ frames := 1, cells := 0, slots := 0, locals := 15 } : Room) s m #[(.ref a), (.ref y)] below meth c s₁ [] 0 0 := Stand.of_body Bd
  have e0 : s₁.heap = h0 := by rw [← hh, Bd.state]; rfl
  have N0 := Fr.nil n0
  have ef : entryFrame m #[(.ref a), (.ref y)] 2 = mkF m 0 #[.val (.ref a), .val (.ref y)] [] := by first | (simp [entryFrame, mkF, argsToLocals, Value.category]; done) | rfl
  refine Fin.start (Q := Q_add1 Z a y mc ed kE y0 h0 n0) ef ?_
  refine Fin.by (fun tt_ kk_ => XS.aloadN X0.here hx rfl (hb hby d10_0) rfl rfl (XS.dup X0.here hx rfl (hb hby d10_1) rfl rfl kk_)) ?_
  obtain ⟨T101, X101, e101, st101⟩ := getF X0 hx hZ hown (host := "") (Or.inl (w_ hw 57 rfl)) (Via.of (w_ hw 58 rfl)) e0 I3 (g := (mkF m 2 #[.val (.ref a), .val (.ref y)] [(.ref a), (.ref a)])) rfl rfl (hb hby d10_2)
  refine Fin.by (fun tt_ kk_ => st101 tt_ kk_) ?_
  refine Fin.by (fun tt_ kk_ => XS.iconst X101.here hx rfl (hb hby d10_5) (XS.iadd X101.here hx rfl (hb hby d10_6) rfl kk_)) ?_
  obtain ⟨T102, h102, X102, e102, W102, st102⟩ := putF X101 hx hZ hown (host := "") (Or.inl (w_ hw 57 rfl)) (Via.of (w_ hw 58 rfl)) e101 I3 I0 (Or.inl (w_ hw 24 rfl)) (w_ hw 3 rfl) (ty := .int) (by decide) rfl rfl (g := (mkF m 7 #[.val (.ref a), .val (.ref y)] [(.int (mc + 1)), (.ref a)])) rfl rfl (hb hby d10_7)
  refine Fin.by (fun tt_ kk_ => st102 tt_ kk_) ?_
  have N102_ := Fr.snoc X102 N0 ga
  refine Fin.by (fun tt_ kk_ => XS.aloadN X102.here hx rfl (hb hby d10_10) rfl rfl (XS.aloadN X102.here hx rfl (hb hby d10_11) rfl rfl (XS.aloadN X102.here hx rfl (hb hby d10_12) rfl rfl kk_))) ?_
  have F103 : Fld Z h102 a "java/util/ArrayList" "elementData" "[Ljava/lang/Object;" (.ref ed) := (I1.other W102 (Or.inr (slot_ne (Or.inl (w_ hw 27 rfl)) (Or.inl (w_ hw 24 rfl)) (by decide) (t := (.array (.object "java/lang/Object"))) (t' := .int) (by decide) (by decide))))
  obtain ⟨T104, X104, e104, st104⟩ := getF X102 hx hZ hown (host := "") (Or.inl (w_ hw 26 rfl)) Via.refl e102 F103 (g := (mkF m 13 #[.val (.ref a), .val (.ref y)] [(.ref a), (.ref y), (.ref a)])) rfl rfl (hb hby d10_13)
  refine Fin.by (fun tt_ kk_ => st104 tt_ kk_) ?_
  refine Fin.by (fun tt_ kk_ => XS.aloadN X104.here hx rfl (hb hby d10_16) rfl rfl kk_) ?_
  have F105 : Fld Z h102 a "java/util/ArrayList" "size" "I" (.int (1 : Int32)) := (I2.other W102 (Or.inr (slot_ne (Or.inl (w_ hw 42 rfl)) (Or.inl (w_ hw 24 rfl)) (by decide) (t := .int) (t' := .int) (by decide) (by decide))))
  obtain ⟨T106, X106, e106, st106⟩ := getF X104 hx hZ hown (host := "") (Or.inl (w_ hw 41 rfl)) Via.refl e104 F105 (g := (mkF m 17 #[.val (.ref a), .val (.ref y)] [(.ref a), (.ref ed), (.ref y), (.ref a)])) rfl rfl (hb hby d10_17)
  refine Fin.by (fun tt_ kk_ => st106 tt_ kk_) ?_
  have E107 : Exa Z h102 a "java/util/ArrayList" := (I0.wr W102)
  have A108 : Arv Z h102 ed kE (.object "java/lang/Object") (10 : Int32) [(.ref y0), .null, .null, .null, .null, .null, .null, .null, .null, .null] .null := (Ae.other W102 nea)
  have E109 : Exa Z h102 y "java/lang/Long" := (Ey.wr W102)
  have z110 : n0 ≤ h102.size := Nat.le_trans Z0 (Keep.of_wr W102).1
  obtain ⟨cq111, qa111, qb111⟩ := E107.cell
  obtain ⟨v111, _, ⟨T111, L111, k111, n111⟩, -, X111, ⟨Lc111, hQ111, l111, y111, z111⟩, st111⟩ := X106.privateBack hx (y := y_9) hown (mvT hZ (w_ hw 59 rfl)) (mvT hZ (w_ hw 60 rfl)) (mvT hZ (w_ hw 62 rfl)) (Cond.privateMethod_at (mvP hZ (w_ hw 61 rfl) (args := #[]))) (mvT hZ (w_ hw 63 rfl)) (by decide) (backOf (W := 0) (rm_ad1 l Z a0 hw [] a y (mc + (1 : Int32)) ed kE y0 h102 n0 z110 E107 F103 F105 (I3.same W102) A108 Oe E109 ga ge nea) hZ (w_ hw 63 rfl) (w_ hw 4 rfl) (by decide) (by decide)) (g := (mkF m 20 #[.val (.ref a), .val (.ref y)] [(.int 1), (.ref ed), (.ref y), (.ref a)])) rfl (by rw [hml]; rfl) (Steps.refl _) (a := a) (by rw [e106]; exact qa111) qb111 (argsL := [(.ref y), (.ref ed), (.int 1)]) (rest := []) (lenOf pd_116 rfl) rfl (by show 2 * 0 + _ ≤ _; exact Nat.le_of_eq rfl) (hb hby d10_20) (fun _ _ => ⟨rfl, e106, (by decide : 0 + 0 ≤ _), (by decide : 0 + 0 ≤ _)⟩)
  dsimp only [Pt.U, Pt.locs, Pt.cells, Pt.slots] at X111 l111 y111 z111 st111 hQ111
  subst l111 y111 z111
  obtain ⟨rfl, Nq111, p111_0, p111_1, p111_2, p111_3, p111_4, p111_5⟩ := hQ111
  have N111_ := Fr.app N102_ Nq111
  refine Fin.byS st111 ?_
  refine Fin.by (fun tt_ kk_ => XS.iconst X111.here hx rfl (hb hby d10_23) kk_) ?_
  have kp112 : Keep h0 h102 [a, ed] := (Keep.refl h0 [a, ed]).wr W102 (Or.inl (List.mem_of_getElem? (i := 0) rfl))
  have kp113 : Keep h0 T111.heap [a, ed] := kp112.trans p111_0 (allS (Or.inl (List.mem_of_getElem? (i := 0) rfl)) (allS (Or.inl (List.mem_of_getElem? (i := 1) rfl)) all0))
  show Fin _ _ _ _ _ _ _ (T111.setTop (mkF m 24 #[.val (.ref a), .val (.ref y)] [(.int 1)]))
  exact Fin.ret (v := some (.int (nar .boolean (1 : Int32)))) X111 (fun h => by rw [Bd.returns] at h; cases h) Bd.notSynchronized (⟨rfl, N111_, kp113, p111_1, p111_2, p111_3, p111_4, p111_5⟩) (by decide) (by decide) (fun fs hr => retN X111 hx (t := .boolean) Bd.returns (by simp) (hb hby d10_24) hr)
def Q_ad2 (Z : State) (a : Addr) (y : Addr) (mc : Int32) (ed : Addr) (kE : ClassId) (y0 : Addr) (y1 : Addr) (h0 : Heap) (n0 : Nat) (vv_ : Option Value) (hh_ : Heap) (LL_ : List Loc) : Prop := vv_ = none ∧ Fr n0 LL_ ∧ Keep h0 hh_ [a, ed] ∧ Exa Z hh_ a "java/util/ArrayList" ∧ Fld Z hh_ a "java/util/ArrayList" "elementData" "[Ljava/lang/Object;" (.ref ed) ∧ Fld Z hh_ a "java/util/ArrayList" "size" "I" (.int (3 : Int32)) ∧ Fld Z hh_ a "java/util/AbstractList" "modCount" "I" (.int mc) ∧ Arv Z hh_ ed kE (.object "java/lang/Object") (10 : Int32) [(.ref y0), (.ref y1), (.ref y), .null, .null, .null, .null, .null, .null, .null] .null
set_option maxRecDepth 65536 in
set_option maxHeartbeats 40000000 in
theorem rm_ad2 (l : Launch) (Z : State) (a0 : Array Value) (hw : ∀ d ∈ tables_1, d.before a0 Z = true) (ws : List Jvm.Cond) (a : Addr) (y : Addr) (mc : Int32) (ed : Addr) (kE : ClassId) (y0 : Addr) (y1 : Addr) (h0 : Heap) (n0 : Nat) (Z0 : n0 ≤ h0.size) (I0 : Exa Z h0 a "java/util/ArrayList") (I1 : Fld Z h0 a "java/util/ArrayList" "elementData" "[Ljava/lang/Object;" (.ref ed)) (I2 : Fld Z h0 a "java/util/ArrayList" "size" "I" (.int (2 : Int32))) (I3 : Fld Z h0 a "java/util/AbstractList" "modCount" "I" (.int mc)) (Ae : Arv Z h0 ed kE (.object "java/lang/Object") (10 : Int32) [(.ref y0), (.ref y1), .null, .null, .null, .null, .null, .null, .null, .null] .null) (Oe : Ovr Z kE "java/lang/Object") (Ey : Exa Z h0 y "java/lang/Long") (ga : n0 ≤ a) (ge : n0 ≤ ed) (nea : ed ≠ a) :
    MetFree l y_9 (head1 (Jvm.Cond.code y_9 jdk_38_method_24_code 4 none :: ws) ({ frames := 0, cells := 0, slots := 0, locals := 0 } : Room)) (fun aa_ U => aa_ = #[(.ref a), (.ref y), (.ref ed), (.int (2 : Int32))] ∧ Z.Warmed39 U.vm ∧ U.heap = h0) (fun _ _ _ _ _ => True) (fun _ U o U' => ∃ vv_ LL_, o = .returned vv_ ∧ Q_ad2 Z a y mc ed kE y0 y1 h0 n0 vv_ U'.heap LL_ ∧ FrameEnd U o U' LL_ 0 0) := by
  refine MetFree.of_bodySF (plainFor_of_name pn_java_util_ArrayList) hisR ?_
  intro p e s m args below meth c s₁ Bd hml0 hP hK
  obtain ⟨rfl, hZ, hh⟩ := hP
  have hx := Bd.exec
  have hby := Bd.bytes
  have hml : c.maxLocals = 4 := hml0
  have hown : s.vm.findClass "java/util/ArrayList" = some m.cls := findClass_of_methodNamed Bd.named
  have hnm := (name_of_methodNamed Bd.named Bd.method).1
  have X0 : Stand p l e ({ frames := 0, cells := 0, slots := 0, locals := 0 } : Room) s m #[(.ref a), (.ref y), (.ref ed), (.int (2 : Int32))] below meth c s₁ [] 0 0 := Stand.of_body Bd
  have e0 : s₁.heap = h0 := by rw [← hh, Bd.state]; rfl
  have N0 := Fr.nil n0
  have ef : entryFrame m #[(.ref a), (.ref y), (.ref ed), (.int (2 : Int32))] 4 = mkF m 0 #[.val (.ref a), .val (.ref y), .val (.ref ed), .val (.int (2 : Int32))] [] := by first | (simp [entryFrame, mkF, argsToLocals, Value.category]; done) | rfl
  refine Fin.start (Q := Q_ad2 Z a y mc ed kE y0 y1 h0 n0) ef ?_
  refine Fin.by (fun tt_ kk_ => XS.iloadN X0.here hx rfl (hb hby d9_0) rfl (XS.aloadN X0.here hx rfl (hb hby d9_1) rfl rfl kk_)) ?_
  obtain ⟨cl101, Ar101, q101, S101, N101, H101, G101⟩ := id Ae
  refine Fin.by (fun tt_ kk_ => X0.arraylength hx (by rw [e0]; exact Ar101.1) (State.isArrayOf_alike hZ.alike Ar101.2.1) (g := (mkF m 2 #[.val (.ref a), .val (.ref y), .val (.ref ed), .val (.int 2)] [(.ref ed), (.int 2)])) rfl rfl (hb hby d9_2) _ kk_) ?_
  rw [len_of S101 N101]
  show Fin _ _ _ _ _ _ _ (s₁.setTop (mkF m 3 #[.val (.ref a), .val (.ref y), .val (.ref ed), .val (.int 2)] [(.int 10), (.int 2)]))
  refine Fin.by (fun tt_ kk_ => XS.icmpYes X0.here hx rfl (pc0 := 3) (pc' := 11) rfl (hb hby d9_3) rfl (feq (by decide : ¬ (2 : Int32) = (10 : Int32))).2 (by decide) (by decide) kk_) ?_
  refine Fin.by (fun tt_ kk_ => XS.aloadN X0.here hx rfl (hb hby d9_11) rfl rfl (XS.iloadN X0.here hx rfl (hb hby d9_12) rfl (XS.aloadN X0.here hx rfl (hb hby d9_13) rfl rfl kk_))) ?_
  obtain ⟨cl102, Ar102, q102, S102, N102, H102, G102⟩ := id Ae
  obtain ⟨T102, h102, X102, e102, W102, st102⟩ := stR X0 hx hZ e0 Ar102 (j := (2 : Int32)) (inb_of S102 ⟨by decide, by decide⟩) rfl (Sto.ofV Ar102 q102 Oe (Ins.of_exa Ey (w_ hw 80 rfl))) (g := (mkF m 14 #[.val (.ref a), .val (.ref y), .val (.ref ed), .val (.int 2)] [(.ref y), (.int 2), (.ref ed)])) rfl rfl (hb hby d9_14)
  have V102 : Arv Z h102 ed kE (.object "java/lang/Object") (10 : Int32) [(.ref y0), (.ref y1), (.ref y), .null, .null, .null, .null, .null, .null, .null] .null := Arv.set Ar102 q102 S102 N102 H102 G102 rfl W102 2 rfl (Nat.le_of_ble_eq_true rfl)
  refine Fin.by (fun tt_ kk_ => st102 tt_ kk_) ?_
  have N102_ := Fr.snoc X102 N0 ge
  refine Fin.by (fun tt_ kk_ => XS.aloadN X102.here hx rfl (hb hby d9_15) rfl rfl (XS.iloadN X102.here hx rfl (hb hby d9_16) rfl (XS.iconst X102.here hx rfl (hb hby d9_17) (XS.iadd X102.here hx rfl (hb hby d9_18) rfl kk_)))) ?_
  have F103 : Fld Z h102 a "java/util/ArrayList" "size" "I" (.int (2 : Int32)) := (I2.other W102 (Or.inl (Ne.symm nea)))
  have E104 : Exa Z h102 a "java/util/ArrayList" := (I0.wr W102)
  obtain ⟨T105, h105, X105, e105, W105, st105⟩ := putF X102 hx hZ hown (host := "") (Or.inl (w_ hw 41 rfl)) Via.refl e102 F103 E104 (Or.inl (w_ hw 42 rfl)) (w_ hw 3 rfl) (ty := .int) (by decide) rfl rfl (g := (mkF m 19 #[.val (.ref a), .val (.ref y), .val (.ref ed), .val (.int 2)] [(.int 3), (.ref a)])) rfl rfl (hb hby d9_19)
  refine Fin.by (fun tt_ kk_ => st105 tt_ kk_) ?_
  have N105_ := Fr.snoc X105 N102_ ga
  have kp106 : Keep h0 h102 [a, ed] := (Keep.refl h0 [a, ed]).wr W102 (Or.inl (List.mem_of_getElem? (i := 1) rfl))
  have kp107 : Keep h0 h105 [a, ed] := kp106.wr W105 (Or.inl (List.mem_of_getElem? (i := 0) rfl))
  have E108 : Exa Z h105 a "java/util/ArrayList" := (E104.wr W105)
  have F109 : Fld Z h105 a "java/util/ArrayList" "elementData" "[Ljava/lang/Object;" (.ref ed) := ((I1.other W102 (Or.inl (Ne.symm nea))).other W105 (Or.inr (slot_ne (Or.inl (w_ hw 27 rfl)) (Or.inl (w_ hw 42 rfl)) (by decide) (t := (.array (.object "java/lang/Object"))) (t' := .int) (by decide) (by decide))))
  have F110 : Fld Z h105 a "java/util/AbstractList" "modCount" "I" (.int mc) := ((I3.other W102 (Or.inl (Ne.symm nea))).other W105 (Or.inr (slot_ne (Or.inl (w_ hw 24 rfl)) (Or.inl (w_ hw 42 rfl)) (by decide) (t := .int) (t' := .int) (by decide) (by decide))))
  have A111 : Arv Z h105 ed kE (.object "java/lang/Object") (10 : Int32) [(.ref y0), (.ref y1), (.ref y), .null, .null, .null, .null, .null, .null, .null] .null := (V102.other W105 nea)
  show Fin _ _ _ _ _ _ _ (T105.setTop (mkF m 22 #[.val (.ref a), .val (.ref y), .val (.ref ed), .val (.int 2)] []))
  exact Fin.ret (v := none) X105 (fun _ => rfl) Bd.notSynchronized (by rw [e105]; exact ⟨rfl, N105_, kp107, E108, F109, (F103.same W105), F110, A111⟩) (by decide) (by decide) (fun fs hr => X105.returnOut hx Bd.returns (hb hby d9_22) hr)
def Q_add2 (Z : State) (a : Addr) (y : Addr) (mc : Int32) (ed : Addr) (kE : ClassId) (y0 : Addr) (y1 : Addr) (h0 : Heap) (n0 : Nat) (vv_ : Option Value) (hh_ : Heap) (LL_ : List Loc) : Prop := vv_ = some (.int (1 : Int32)) ∧ Fr n0 LL_ ∧ Keep h0 hh_ [a, ed] ∧ Exa Z hh_ a "java/util/ArrayList" ∧ Fld Z hh_ a "java/util/ArrayList" "elementData" "[Ljava/lang/Object;" (.ref ed) ∧ Fld Z hh_ a "java/util/ArrayList" "size" "I" (.int (3 : Int32)) ∧ Fld Z hh_ a "java/util/AbstractList" "modCount" "I" (.int (mc + (1 : Int32))) ∧ Arv Z hh_ ed kE (.object "java/lang/Object") (10 : Int32) [(.ref y0), (.ref y1), (.ref y), .null, .null, .null, .null, .null, .null, .null] .null
set_option maxRecDepth 65536 in
set_option maxHeartbeats 40000000 in
theorem rm_add2 (l : Launch) (Z : State) (a0 : Array Value) (hw : ∀ d ∈ tables_1, d.before a0 Z = true) (ws : List Jvm.Cond) (a : Addr) (y : Addr) (mc : Int32) (ed : Addr) (kE : ClassId) (y0 : Addr) (y1 : Addr) (h0 : Heap) (n0 : Nat) (Z0 : n0 ≤ h0.size) (I0 : Exa Z h0 a "java/util/ArrayList") (I1 : Fld Z h0 a "java/util/ArrayList" "elementData" "[Ljava/lang/Object;" (.ref ed)) (I2 : Fld Z h0 a "java/util/ArrayList" "size" "I" (.int (2 : Int32))) (I3 : Fld Z h0 a "java/util/AbstractList" "modCount" "I" (.int mc)) (Ae : Arv Z h0 ed kE (.object "java/lang/Object") (10 : Int32) [(.ref y0), (.ref y1), .null, .null, .null, .null, .null, .null, .null, .null] .null) (Oe : Ovr Z kE "java/lang/Object") (Ey : Exa Z h0 y "java/lang/Long") (ga : n0 ≤ a) (ge : n0 ≤ ed) (nea : ed ≠ a) :
    MetFree l y_10 (head1 (Jvm.Cond.code y_10 jdk_38_method_25_code 2 (some .boolean) :: ws) ({ frames := 1, cells := 0, slots := 0, locals := 15 } : Room)) (fun aa_ U => aa_ = #[(.ref a), (.ref y)] ∧ Z.Warmed39 U.vm ∧ U.heap = h0) (fun _ _ _ _ _ => True) (fun _ U o U' => ∃ vv_ LL_, o = .returned vv_ ∧ Q_add2 Z a y mc ed kE y0 y1 h0 n0 vv_ U'.heap LL_ ∧ FrameEnd U o U' LL_ 0 0) := by
  refine MetFree.of_bodySF (plainFor_of_name pn_java_util_ArrayList) hisR ?_
  intro p e s m args below meth c s₁ Bd hml0 hP hK
  obtain ⟨rfl, hZ, hh⟩ := hP
  have hx := Bd.exec
  have hby := Bd.bytes
  have hml : c.maxLocals = 2 := hml0
  have hown : s.vm.findClass "java/util/ArrayList" = some m.cls := findClass_of_methodNamed Bd.named
  have hnm := (name_of_methodNamed Bd.named Bd.method).1
  have X0 : Stand p l e ({ frames := 1, cells := 0, slots := 0, locals := 15 } : Room) s m #[(.ref a), (.ref y)] below meth c s₁ [] 0 0 := Stand.of_body Bd
  have e0 : s₁.heap = h0 := by rw [← hh, Bd.state]; rfl
  have N0 := Fr.nil n0
  have ef : entryFrame m #[(.ref a), (.ref y)] 2 = mkF m 0 #[.val (.ref a), .val (.ref y)] [] := by first | (simp [entryFrame, mkF, argsToLocals, Value.category]; done) | rfl
  refine Fin.start (Q := Q_add2 Z a y mc ed kE y0 y1 h0 n0) ef ?_
  refine Fin.by (fun tt_ kk_ => XS.aloadN X0.here hx rfl (hb hby d10_0) rfl rfl (XS.dup X0.here hx rfl (hb hby d10_1) rfl rfl kk_)) ?_
  obtain ⟨T101, X101, e101, st101⟩ := getF X0 hx hZ hown (host := "") (Or.inl (w_ hw 57 rfl)) (Via.of (w_ hw 58 rfl)) e0 I3 (g := (mkF m 2 #[.val (.ref a), .val (.ref y)] [(.ref a), (.ref a)])) rfl rfl (hb hby d10_2)
  refine Fin.by (fun tt_ kk_ => st101 tt_ kk_) ?_
  refine Fin.by (fun tt_ kk_ => XS.iconst X101.here hx rfl (hb hby d10_5) (XS.iadd X101.here hx rfl (hb hby d10_6) rfl kk_)) ?_
  obtain ⟨T102, h102, X102, e102, W102, st102⟩ := putF X101 hx hZ hown (host := "") (Or.inl (w_ hw 57 rfl)) (Via.of (w_ hw 58 rfl)) e101 I3 I0 (Or.inl (w_ hw 24 rfl)) (w_ hw 3 rfl) (ty := .int) (by decide) rfl rfl (g := (mkF m 7 #[.val (.ref a), .val (.ref y)] [(.int (mc + 1)), (.ref a)])) rfl rfl (hb hby d10_7)
  refine Fin.by (fun tt_ kk_ => st102 tt_ kk_) ?_
  have N102_ := Fr.snoc X102 N0 ga
  refine Fin.by (fun tt_ kk_ => XS.aloadN X102.here hx rfl (hb hby d10_10) rfl rfl (XS.aloadN X102.here hx rfl (hb hby d10_11) rfl rfl (XS.aloadN X102.here hx rfl (hb hby d10_12) rfl rfl kk_))) ?_
  have F103 : Fld Z h102 a "java/util/ArrayList" "elementData" "[Ljava/lang/Object;" (.ref ed) := (I1.other W102 (Or.inr (slot_ne (Or.inl (w_ hw 27 rfl)) (Or.inl (w_ hw 24 rfl)) (by decide) (t := (.array (.object "java/lang/Object"))) (t' := .int) (by decide) (by decide))))
  obtain ⟨T104, X104, e104, st104⟩ := getF X102 hx hZ hown (host := "") (Or.inl (w_ hw 26 rfl)) Via.refl e102 F103 (g := (mkF m 13 #[.val (.ref a), .val (.ref y)] [(.ref a), (.ref y), (.ref a)])) rfl rfl (hb hby d10_13)
  refine Fin.by (fun tt_ kk_ => st104 tt_ kk_) ?_
  refine Fin.by (fun tt_ kk_ => XS.aloadN X104.here hx rfl (hb hby d10_16) rfl rfl kk_) ?_
  have F105 : Fld Z h102 a "java/util/ArrayList" "size" "I" (.int (2 : Int32)) := (I2.other W102 (Or.inr (slot_ne (Or.inl (w_ hw 42 rfl)) (Or.inl (w_ hw 24 rfl)) (by decide) (t := .int) (t' := .int) (by decide) (by decide))))
  obtain ⟨T106, X106, e106, st106⟩ := getF X104 hx hZ hown (host := "") (Or.inl (w_ hw 41 rfl)) Via.refl e104 F105 (g := (mkF m 17 #[.val (.ref a), .val (.ref y)] [(.ref a), (.ref ed), (.ref y), (.ref a)])) rfl rfl (hb hby d10_17)
  refine Fin.by (fun tt_ kk_ => st106 tt_ kk_) ?_
  have E107 : Exa Z h102 a "java/util/ArrayList" := (I0.wr W102)
  have A108 : Arv Z h102 ed kE (.object "java/lang/Object") (10 : Int32) [(.ref y0), (.ref y1), .null, .null, .null, .null, .null, .null, .null, .null] .null := (Ae.other W102 nea)
  have E109 : Exa Z h102 y "java/lang/Long" := (Ey.wr W102)
  have z110 : n0 ≤ h102.size := Nat.le_trans Z0 (Keep.of_wr W102).1
  obtain ⟨cq111, qa111, qb111⟩ := E107.cell
  obtain ⟨v111, _, ⟨T111, L111, k111, n111⟩, -, X111, ⟨Lc111, hQ111, l111, y111, z111⟩, st111⟩ := X106.privateBack hx (y := y_9) hown (mvT hZ (w_ hw 59 rfl)) (mvT hZ (w_ hw 60 rfl)) (mvT hZ (w_ hw 62 rfl)) (Cond.privateMethod_at (mvP hZ (w_ hw 61 rfl) (args := #[]))) (mvT hZ (w_ hw 63 rfl)) (by decide) (backOf (W := 0) (rm_ad2 l Z a0 hw [] a y (mc + (1 : Int32)) ed kE y0 y1 h102 n0 z110 E107 F103 F105 (I3.same W102) A108 Oe E109 ga ge nea) hZ (w_ hw 63 rfl) (w_ hw 4 rfl) (by decide) (by decide)) (g := (mkF m 20 #[.val (.ref a), .val (.ref y)] [(.int 2), (.ref ed), (.ref y), (.ref a)])) rfl (by rw [hml]; rfl) (Steps.refl _) (a := a) (by rw [e106]; exact qa111) qb111 (argsL := [(.ref y), (.ref ed), (.int 2)]) (rest := []) (lenOf pd_116 rfl) rfl (by show 2 * 0 + _ ≤ _; exact Nat.le_of_eq rfl) (hb hby d10_20) (fun _ _ => ⟨rfl, e106, (by decide : 0 + 0 ≤ _), (by decide : 0 + 0 ≤ _)⟩)
  dsimp only [Pt.U, Pt.locs, Pt.cells, Pt.slots] at X111 l111 y111 z111 st111 hQ111
  subst l111 y111 z111
  obtain ⟨rfl, Nq111, p111_0, p111_1, p111_2, p111_3, p111_4, p111_5⟩ := hQ111
  have N111_ := Fr.app N102_ Nq111
  refine Fin.byS st111 ?_
  refine Fin.by (fun tt_ kk_ => XS.iconst X111.here hx rfl (hb hby d10_23) kk_) ?_
  have kp112 : Keep h0 h102 [a, ed] := (Keep.refl h0 [a, ed]).wr W102 (Or.inl (List.mem_of_getElem? (i := 0) rfl))
  have kp113 : Keep h0 T111.heap [a, ed] := kp112.trans p111_0 (allS (Or.inl (List.mem_of_getElem? (i := 0) rfl)) (allS (Or.inl (List.mem_of_getElem? (i := 1) rfl)) all0))
  show Fin _ _ _ _ _ _ _ (T111.setTop (mkF m 24 #[.val (.ref a), .val (.ref y)] [(.int 1)]))
  exact Fin.ret (v := some (.int (nar .boolean (1 : Int32)))) X111 (fun h => by rw [Bd.returns] at h; cases h) Bd.notSynchronized (⟨rfl, N111_, kp113, p111_1, p111_2, p111_3, p111_4, p111_5⟩) (by decide) (by decide) (fun fs hr => retN X111 hx (t := .boolean) Bd.returns (by simp) (hb hby d10_24) hr)
def Q_ad3 (Z : State) (a : Addr) (y : Addr) (mc : Int32) (ed : Addr) (kE : ClassId) (y0 : Addr) (y1 : Addr) (y2 : Addr) (h0 : Heap) (n0 : Nat) (vv_ : Option Value) (hh_ : Heap) (LL_ : List Loc) : Prop := vv_ = none ∧ Fr n0 LL_ ∧ Keep h0 hh_ [a, ed] ∧ Exa Z hh_ a "java/util/ArrayList" ∧ Fld Z hh_ a "java/util/ArrayList" "elementData" "[Ljava/lang/Object;" (.ref ed) ∧ Fld Z hh_ a "java/util/ArrayList" "size" "I" (.int (4 : Int32)) ∧ Fld Z hh_ a "java/util/AbstractList" "modCount" "I" (.int mc) ∧ Arv Z hh_ ed kE (.object "java/lang/Object") (10 : Int32) [(.ref y0), (.ref y1), (.ref y2), (.ref y), .null, .null, .null, .null, .null, .null] .null
set_option maxRecDepth 65536 in
set_option maxHeartbeats 40000000 in
theorem rm_ad3 (l : Launch) (Z : State) (a0 : Array Value) (hw : ∀ d ∈ tables_1, d.before a0 Z = true) (ws : List Jvm.Cond) (a : Addr) (y : Addr) (mc : Int32) (ed : Addr) (kE : ClassId) (y0 : Addr) (y1 : Addr) (y2 : Addr) (h0 : Heap) (n0 : Nat) (Z0 : n0 ≤ h0.size) (I0 : Exa Z h0 a "java/util/ArrayList") (I1 : Fld Z h0 a "java/util/ArrayList" "elementData" "[Ljava/lang/Object;" (.ref ed)) (I2 : Fld Z h0 a "java/util/ArrayList" "size" "I" (.int (3 : Int32))) (I3 : Fld Z h0 a "java/util/AbstractList" "modCount" "I" (.int mc)) (Ae : Arv Z h0 ed kE (.object "java/lang/Object") (10 : Int32) [(.ref y0), (.ref y1), (.ref y2), .null, .null, .null, .null, .null, .null, .null] .null) (Oe : Ovr Z kE "java/lang/Object") (Ey : Exa Z h0 y "java/lang/Long") (ga : n0 ≤ a) (ge : n0 ≤ ed) (nea : ed ≠ a) :
    MetFree l y_9 (head1 (Jvm.Cond.code y_9 jdk_38_method_24_code 4 none :: ws) ({ frames := 0, cells := 0, slots := 0, locals := 0 } : Room)) (fun aa_ U => aa_ = #[(.ref a), (.ref y), (.ref ed), (.int (3 : Int32))] ∧ Z.Warmed39 U.vm ∧ U.heap = h0) (fun _ _ _ _ _ => True) (fun _ U o U' => ∃ vv_ LL_, o = .returned vv_ ∧ Q_ad3 Z a y mc ed kE y0 y1 y2 h0 n0 vv_ U'.heap LL_ ∧ FrameEnd U o U' LL_ 0 0) := by
  refine MetFree.of_bodySF (plainFor_of_name pn_java_util_ArrayList) hisR ?_
  intro p e s m args below meth c s₁ Bd hml0 hP hK
  obtain ⟨rfl, hZ, hh⟩ := hP
  have hx := Bd.exec
  have hby := Bd.bytes
  have hml : c.maxLocals = 4 := hml0
  have hown : s.vm.findClass "java/util/ArrayList" = some m.cls := findClass_of_methodNamed Bd.named
  have hnm := (name_of_methodNamed Bd.named Bd.method).1
  have X0 : Stand p l e ({ frames := 0, cells := 0, slots := 0, locals := 0 } : Room) s m #[(.ref a), (.ref y), (.ref ed), (.int (3 : Int32))] below meth c s₁ [] 0 0 := Stand.of_body Bd
  have e0 : s₁.heap = h0 := by rw [← hh, Bd.state]; rfl
  have N0 := Fr.nil n0
  have ef : entryFrame m #[(.ref a), (.ref y), (.ref ed), (.int (3 : Int32))] 4 = mkF m 0 #[.val (.ref a), .val (.ref y), .val (.ref ed), .val (.int (3 : Int32))] [] := by first | (simp [entryFrame, mkF, argsToLocals, Value.category]; done) | rfl
  refine Fin.start (Q := Q_ad3 Z a y mc ed kE y0 y1 y2 h0 n0) ef ?_
  refine Fin.by (fun tt_ kk_ => XS.iloadN X0.here hx rfl (hb hby d9_0) rfl (XS.aloadN X0.here hx rfl (hb hby d9_1) rfl rfl kk_)) ?_
  obtain ⟨cl101, Ar101, q101, S101, N101, H101, G101⟩ := id Ae
  refine Fin.by (fun tt_ kk_ => X0.arraylength hx (by rw [e0]; exact Ar101.1) (State.isArrayOf_alike hZ.alike Ar101.2.1) (g := (mkF m 2 #[.val (.ref a), .val (.ref y), .val (.ref ed), .val (.int 3)] [(.ref ed), (.int 3)])) rfl rfl (hb hby d9_2) _ kk_) ?_
  rw [len_of S101 N101]
  show Fin _ _ _ _ _ _ _ (s₁.setTop (mkF m 3 #[.val (.ref a), .val (.ref y), .val (.ref ed), .val (.int 3)] [(.int 10), (.int 3)]))
  refine Fin.by (fun tt_ kk_ => XS.icmpYes X0.here hx rfl (pc0 := 3) (pc' := 11) rfl (hb hby d9_3) rfl (feq (by decide : ¬ (3 : Int32) = (10 : Int32))).2 (by decide) (by decide) kk_) ?_
  refine Fin.by (fun tt_ kk_ => XS.aloadN X0.here hx rfl (hb hby d9_11) rfl rfl (XS.iloadN X0.here hx rfl (hb hby d9_12) rfl (XS.aloadN X0.here hx rfl (hb hby d9_13) rfl rfl kk_))) ?_
  obtain ⟨cl102, Ar102, q102, S102, N102, H102, G102⟩ := id Ae
  obtain ⟨T102, h102, X102, e102, W102, st102⟩ := stR X0 hx hZ e0 Ar102 (j := (3 : Int32)) (inb_of S102 ⟨by decide, by decide⟩) rfl (Sto.ofV Ar102 q102 Oe (Ins.of_exa Ey (w_ hw 80 rfl))) (g := (mkF m 14 #[.val (.ref a), .val (.ref y), .val (.ref ed), .val (.int 3)] [(.ref y), (.int 3), (.ref ed)])) rfl rfl (hb hby d9_14)
  have V102 : Arv Z h102 ed kE (.object "java/lang/Object") (10 : Int32) [(.ref y0), (.ref y1), (.ref y2), (.ref y), .null, .null, .null, .null, .null, .null] .null := Arv.set Ar102 q102 S102 N102 H102 G102 rfl W102 3 rfl (Nat.le_of_ble_eq_true rfl)
  refine Fin.by (fun tt_ kk_ => st102 tt_ kk_) ?_
  have N102_ := Fr.snoc X102 N0 ge
  refine Fin.by (fun tt_ kk_ => XS.aloadN X102.here hx rfl (hb hby d9_15) rfl rfl (XS.iloadN X102.here hx rfl (hb hby d9_16) rfl (XS.iconst X102.here hx rfl (hb hby d9_17) (XS.iadd X102.here hx rfl (hb hby d9_18) rfl kk_)))) ?_
  have F103 : Fld Z h102 a "java/util/ArrayList" "size" "I" (.int (3 : Int32)) := (I2.other W102 (Or.inl (Ne.symm nea)))
  have E104 : Exa Z h102 a "java/util/ArrayList" := (I0.wr W102)
  obtain ⟨T105, h105, X105, e105, W105, st105⟩ := putF X102 hx hZ hown (host := "") (Or.inl (w_ hw 41 rfl)) Via.refl e102 F103 E104 (Or.inl (w_ hw 42 rfl)) (w_ hw 3 rfl) (ty := .int) (by decide) rfl rfl (g := (mkF m 19 #[.val (.ref a), .val (.ref y), .val (.ref ed), .val (.int 3)] [(.int 4), (.ref a)])) rfl rfl (hb hby d9_19)
  refine Fin.by (fun tt_ kk_ => st105 tt_ kk_) ?_
  have N105_ := Fr.snoc X105 N102_ ga
  have kp106 : Keep h0 h102 [a, ed] := (Keep.refl h0 [a, ed]).wr W102 (Or.inl (List.mem_of_getElem? (i := 1) rfl))
  have kp107 : Keep h0 h105 [a, ed] := kp106.wr W105 (Or.inl (List.mem_of_getElem? (i := 0) rfl))
  have E108 : Exa Z h105 a "java/util/ArrayList" := (E104.wr W105)
  have F109 : Fld Z h105 a "java/util/ArrayList" "elementData" "[Ljava/lang/Object;" (.ref ed) := ((I1.other W102 (Or.inl (Ne.symm nea))).other W105 (Or.inr (slot_ne (Or.inl (w_ hw 27 rfl)) (Or.inl (w_ hw 42 rfl)) (by decide) (t := (.array (.object "java/lang/Object"))) (t' := .int) (by decide) (by decide))))
  have F110 : Fld Z h105 a "java/util/AbstractList" "modCount" "I" (.int mc) := ((I3.other W102 (Or.inl (Ne.symm nea))).other W105 (Or.inr (slot_ne (Or.inl (w_ hw 24 rfl)) (Or.inl (w_ hw 42 rfl)) (by decide) (t := .int) (t' := .int) (by decide) (by decide))))
  have A111 : Arv Z h105 ed kE (.object "java/lang/Object") (10 : Int32) [(.ref y0), (.ref y1), (.ref y2), (.ref y), .null, .null, .null, .null, .null, .null] .null := (V102.other W105 nea)
  show Fin _ _ _ _ _ _ _ (T105.setTop (mkF m 22 #[.val (.ref a), .val (.ref y), .val (.ref ed), .val (.int 3)] []))
  exact Fin.ret (v := none) X105 (fun _ => rfl) Bd.notSynchronized (by rw [e105]; exact ⟨rfl, N105_, kp107, E108, F109, (F103.same W105), F110, A111⟩) (by decide) (by decide) (fun fs hr => X105.returnOut hx Bd.returns (hb hby d9_22) hr)
def Q_add3 (Z : State) (a : Addr) (y : Addr) (mc : Int32) (ed : Addr) (kE : ClassId) (y0 : Addr) (y1 : Addr) (y2 : Addr) (h0 : Heap) (n0 : Nat) (vv_ : Option Value) (hh_ : Heap) (LL_ : List Loc) : Prop := vv_ = some (.int (1 : Int32)) ∧ Fr n0 LL_ ∧ Keep h0 hh_ [a, ed] ∧ Exa Z hh_ a "java/util/ArrayList" ∧ Fld Z hh_ a "java/util/ArrayList" "elementData" "[Ljava/lang/Object;" (.ref ed) ∧ Fld Z hh_ a "java/util/ArrayList" "size" "I" (.int (4 : Int32)) ∧ Fld Z hh_ a "java/util/AbstractList" "modCount" "I" (.int (mc + (1 : Int32))) ∧ Arv Z hh_ ed kE (.object "java/lang/Object") (10 : Int32) [(.ref y0), (.ref y1), (.ref y2), (.ref y), .null, .null, .null, .null, .null, .null] .null
set_option maxRecDepth 65536 in
set_option maxHeartbeats 40000000 in
theorem rm_add3 (l : Launch) (Z : State) (a0 : Array Value) (hw : ∀ d ∈ tables_1, d.before a0 Z = true) (ws : List Jvm.Cond) (a : Addr) (y : Addr) (mc : Int32) (ed : Addr) (kE : ClassId) (y0 : Addr) (y1 : Addr) (y2 : Addr) (h0 : Heap) (n0 : Nat) (Z0 : n0 ≤ h0.size) (I0 : Exa Z h0 a "java/util/ArrayList") (I1 : Fld Z h0 a "java/util/ArrayList" "elementData" "[Ljava/lang/Object;" (.ref ed)) (I2 : Fld Z h0 a "java/util/ArrayList" "size" "I" (.int (3 : Int32))) (I3 : Fld Z h0 a "java/util/AbstractList" "modCount" "I" (.int mc)) (Ae : Arv Z h0 ed kE (.object "java/lang/Object") (10 : Int32) [(.ref y0), (.ref y1), (.ref y2), .null, .null, .null, .null, .null, .null, .null] .null) (Oe : Ovr Z kE "java/lang/Object") (Ey : Exa Z h0 y "java/lang/Long") (ga : n0 ≤ a) (ge : n0 ≤ ed) (nea : ed ≠ a) :
    MetFree l y_10 (head1 (Jvm.Cond.code y_10 jdk_38_method_25_code 2 (some .boolean) :: ws) ({ frames := 1, cells := 0, slots := 0, locals := 15 } : Room)) (fun aa_ U => aa_ = #[(.ref a), (.ref y)] ∧ Z.Warmed39 U.vm ∧ U.heap = h0) (fun _ _ _ _ _ => True) (fun _ U o U' => ∃ vv_ LL_, o = .returned vv_ ∧ Q_add3 Z a y mc ed kE y0 y1 y2 h0 n0 vv_ U'.heap LL_ ∧ FrameEnd U o U' LL_ 0 0) := by
  refine MetFree.of_bodySF (plainFor_of_name pn_java_util_ArrayList) hisR ?_
  intro p e s m args below meth c s₁ Bd hml0 hP hK
  obtain ⟨rfl, hZ, hh⟩ := hP
  have hx := Bd.exec
  have hby := Bd.bytes
  have hml : c.maxLocals = 2 := hml0
  have hown : s.vm.findClass "java/util/ArrayList" = some m.cls := findClass_of_methodNamed Bd.named
  have hnm := (name_of_methodNamed Bd.named Bd.method).1
  have X0 : Stand p l e ({ frames := 1, cells := 0, slots := 0, locals := 15 } : Room) s m #[(.ref a), (.ref y)] below meth c s₁ [] 0 0 := Stand.of_body Bd
  have e0 : s₁.heap = h0 := by rw [← hh, Bd.state]; rfl
  have N0 := Fr.nil n0
  have ef : entryFrame m #[(.ref a), (.ref y)] 2 = mkF m 0 #[.val (.ref a), .val (.ref y)] [] := by first | (simp [entryFrame, mkF, argsToLocals, Value.category]; done) | rfl
  refine Fin.start (Q := Q_add3 Z a y mc ed kE y0 y1 y2 h0 n0) ef ?_
  refine Fin.by (fun tt_ kk_ => XS.aloadN X0.here hx rfl (hb hby d10_0) rfl rfl (XS.dup X0.here hx rfl (hb hby d10_1) rfl rfl kk_)) ?_
  obtain ⟨T101, X101, e101, st101⟩ := getF X0 hx hZ hown (host := "") (Or.inl (w_ hw 57 rfl)) (Via.of (w_ hw 58 rfl)) e0 I3 (g := (mkF m 2 #[.val (.ref a), .val (.ref y)] [(.ref a), (.ref a)])) rfl rfl (hb hby d10_2)
  refine Fin.by (fun tt_ kk_ => st101 tt_ kk_) ?_
  refine Fin.by (fun tt_ kk_ => XS.iconst X101.here hx rfl (hb hby d10_5) (XS.iadd X101.here hx rfl (hb hby d10_6) rfl kk_)) ?_
  obtain ⟨T102, h102, X102, e102, W102, st102⟩ := putF X101 hx hZ hown (host := "") (Or.inl (w_ hw 57 rfl)) (Via.of (w_ hw 58 rfl)) e101 I3 I0 (Or.inl (w_ hw 24 rfl)) (w_ hw 3 rfl) (ty := .int) (by decide) rfl rfl (g := (mkF m 7 #[.val (.ref a), .val (.ref y)] [(.int (mc + 1)), (.ref a)])) rfl rfl (hb hby d10_7)
  refine Fin.by (fun tt_ kk_ => st102 tt_ kk_) ?_
  have N102_ := Fr.snoc X102 N0 ga
  refine Fin.by (fun tt_ kk_ => XS.aloadN X102.here hx rfl (hb hby d10_10) rfl rfl (XS.aloadN X102.here hx rfl (hb hby d10_11) rfl rfl (XS.aloadN X102.here hx rfl (hb hby d10_12) rfl rfl kk_))) ?_
  have F103 : Fld Z h102 a "java/util/ArrayList" "elementData" "[Ljava/lang/Object;" (.ref ed) := (I1.other W102 (Or.inr (slot_ne (Or.inl (w_ hw 27 rfl)) (Or.inl (w_ hw 24 rfl)) (by decide) (t := (.array (.object "java/lang/Object"))) (t' := .int) (by decide) (by decide))))
  obtain ⟨T104, X104, e104, st104⟩ := getF X102 hx hZ hown (host := "") (Or.inl (w_ hw 26 rfl)) Via.refl e102 F103 (g := (mkF m 13 #[.val (.ref a), .val (.ref y)] [(.ref a), (.ref y), (.ref a)])) rfl rfl (hb hby d10_13)
  refine Fin.by (fun tt_ kk_ => st104 tt_ kk_) ?_
  refine Fin.by (fun tt_ kk_ => XS.aloadN X104.here hx rfl (hb hby d10_16) rfl rfl kk_) ?_
  have F105 : Fld Z h102 a "java/util/ArrayList" "size" "I" (.int (3 : Int32)) := (I2.other W102 (Or.inr (slot_ne (Or.inl (w_ hw 42 rfl)) (Or.inl (w_ hw 24 rfl)) (by decide) (t := .int) (t' := .int) (by decide) (by decide))))
  obtain ⟨T106, X106, e106, st106⟩ := getF X104 hx hZ hown (host := "") (Or.inl (w_ hw 41 rfl)) Via.refl e104 F105 (g := (mkF m 17 #[.val (.ref a), .val (.ref y)] [(.ref a), (.ref ed), (.ref y), (.ref a)])) rfl rfl (hb hby d10_17)
  refine Fin.by (fun tt_ kk_ => st106 tt_ kk_) ?_
  have E107 : Exa Z h102 a "java/util/ArrayList" := (I0.wr W102)
  have A108 : Arv Z h102 ed kE (.object "java/lang/Object") (10 : Int32) [(.ref y0), (.ref y1), (.ref y2), .null, .null, .null, .null, .null, .null, .null] .null := (Ae.other W102 nea)
  have E109 : Exa Z h102 y "java/lang/Long" := (Ey.wr W102)
  have z110 : n0 ≤ h102.size := Nat.le_trans Z0 (Keep.of_wr W102).1
  obtain ⟨cq111, qa111, qb111⟩ := E107.cell
  obtain ⟨v111, _, ⟨T111, L111, k111, n111⟩, -, X111, ⟨Lc111, hQ111, l111, y111, z111⟩, st111⟩ := X106.privateBack hx (y := y_9) hown (mvT hZ (w_ hw 59 rfl)) (mvT hZ (w_ hw 60 rfl)) (mvT hZ (w_ hw 62 rfl)) (Cond.privateMethod_at (mvP hZ (w_ hw 61 rfl) (args := #[]))) (mvT hZ (w_ hw 63 rfl)) (by decide) (backOf (W := 0) (rm_ad3 l Z a0 hw [] a y (mc + (1 : Int32)) ed kE y0 y1 y2 h102 n0 z110 E107 F103 F105 (I3.same W102) A108 Oe E109 ga ge nea) hZ (w_ hw 63 rfl) (w_ hw 4 rfl) (by decide) (by decide)) (g := (mkF m 20 #[.val (.ref a), .val (.ref y)] [(.int 3), (.ref ed), (.ref y), (.ref a)])) rfl (by rw [hml]; rfl) (Steps.refl _) (a := a) (by rw [e106]; exact qa111) qb111 (argsL := [(.ref y), (.ref ed), (.int 3)]) (rest := []) (lenOf pd_116 rfl) rfl (by show 2 * 0 + _ ≤ _; exact Nat.le_of_eq rfl) (hb hby d10_20) (fun _ _ => ⟨rfl, e106, (by decide : 0 + 0 ≤ _), (by decide : 0 + 0 ≤ _)⟩)
  dsimp only [Pt.U, Pt.locs, Pt.cells, Pt.slots] at X111 l111 y111 z111 st111 hQ111
  subst l111 y111 z111
  obtain ⟨rfl, Nq111, p111_0, p111_1, p111_2, p111_3, p111_4, p111_5⟩ := hQ111
  have N111_ := Fr.app N102_ Nq111
  refine Fin.byS st111 ?_
  refine Fin.by (fun tt_ kk_ => XS.iconst X111.here hx rfl (hb hby d10_23) kk_) ?_
  have kp112 : Keep h0 h102 [a, ed] := (Keep.refl h0 [a, ed]).wr W102 (Or.inl (List.mem_of_getElem? (i := 0) rfl))
  have kp113 : Keep h0 T111.heap [a, ed] := kp112.trans p111_0 (allS (Or.inl (List.mem_of_getElem? (i := 0) rfl)) (allS (Or.inl (List.mem_of_getElem? (i := 1) rfl)) all0))
  show Fin _ _ _ _ _ _ _ (T111.setTop (mkF m 24 #[.val (.ref a), .val (.ref y)] [(.int 1)]))
  exact Fin.ret (v := some (.int (nar .boolean (1 : Int32)))) X111 (fun h => by rw [Bd.returns] at h; cases h) Bd.notSynchronized (⟨rfl, N111_, kp113, p111_1, p111_2, p111_3, p111_4, p111_5⟩) (by decide) (by decide) (fun fs hr => retN X111 hx (t := .boolean) Bd.returns (by simp) (hb hby d10_24) hr)
abbrev y_11 : MethodName := (⟨"java/util/ArrayList", "isEmpty", "()Z"⟩ : MethodName)
theorem d11_0 : decode jdk_38_method_9_code 0 = .ok (.aload_n 0, 1) := by decide +kernel
theorem d11_1 : decode jdk_38_method_9_code 1 = .ok (.getfield 48, 3) := by decide +kernel
theorem d11_4 : decode jdk_38_method_9_code 4 = .ok (.ifCond .ne 7, 3) := by decide +kernel
theorem d11_7 : decode jdk_38_method_9_code 7 = .ok (.iconst 1, 1) := by decide +kernel
theorem d11_8 : decode jdk_38_method_9_code 8 = .ok (.goto 4, 3) := by decide +kernel
theorem d11_12 : decode jdk_38_method_9_code 12 = .ok (.ireturn, 1) := by decide +kernel
def Q_is0 (Z : State) (a : Addr) (h0 : Heap) (n0 : Nat) (vv_ : Option Value) (hh_ : Heap) (LL_ : List Loc) : Prop := vv_ = some (.int (1 : Int32)) ∧ Fr n0 LL_ ∧ hh_ = h0
set_option maxRecDepth 65536 in
set_option maxHeartbeats 40000000 in
theorem rm_is0 (l : Launch) (Z : State) (a0 : Array Value) (hw : ∀ d ∈ tables_1, d.before a0 Z = true) (ws : List Jvm.Cond) (a : Addr) (h0 : Heap) (n0 : Nat) (Z0 : n0 ≤ h0.size) (I0 : Exa Z h0 a "java/util/ArrayList") (I1 : Fld Z h0 a "java/util/ArrayList" "size" "I" (.int (0 : Int32))) :
    MetFree l y_11 (head1 (Jvm.Cond.code y_11 jdk_38_method_9_code 1 (some .boolean) :: ws) ({ frames := 0, cells := 0, slots := 0, locals := 0 } : Room)) (fun aa_ U => aa_ = #[(.ref a)] ∧ Z.Warmed39 U.vm ∧ U.heap = h0) (fun _ _ _ _ _ => True) (fun _ U o U' => ∃ vv_ LL_, o = .returned vv_ ∧ Q_is0 Z a h0 n0 vv_ U'.heap LL_ ∧ FrameEnd U o U' LL_ 0 0) := by
  refine MetFree.of_bodySF (plainFor_of_name pn_java_util_ArrayList) hisR ?_
  intro p e s m args below meth c s₁ Bd hml0 hP hK
  obtain ⟨rfl, hZ, hh⟩ := hP
  have hx := Bd.exec
  have hby := Bd.bytes
  have hml : c.maxLocals = 1 := hml0
  have hown : s.vm.findClass "java/util/ArrayList" = some m.cls := findClass_of_methodNamed Bd.named
  have hnm := (name_of_methodNamed Bd.named Bd.method).1
  have X0 : Stand p l e ({ frames := 0, cells := 0, slots := 0, locals := 0 } : Room) s m #[(.ref a)] below meth c s₁ [] 0 0 := Stand.of_body Bd
  have e0 : s₁.heap = h0 := by rw [← hh, Bd.state]; rfl
  have N0 := Fr.nil n0
  have ef : entryFrame m #[(.ref a)] 1 = mkF m 0 #[.val (.ref a)] [] := by first | (simp [entryFrame, mkF, argsToLocals, Value.category]; done) | rfl
  refine Fin.start (Q := Q_is0 Z a h0 n0) ef ?_
  refine Fin.by (fun tt_ kk_ => XS.aloadN X0.here hx rfl (hb hby d11_0) rfl rfl kk_) ?_
  obtain ⟨T101, X101, e101, st101⟩ := getF X0 hx hZ hown (host := "") (Or.inl (w_ hw 41 rfl)) Via.refl e0 I1 (g := (mkF m 1 #[.val (.ref a)] [(.ref a)])) rfl rfl (hb hby d11_1)
  refine Fin.by (fun tt_ kk_ => st101 tt_ kk_) ?_
  show Fin _ _ _ _ _ _ _ (T101.setTop (mkF m 4 #[.val (.ref a)] [(.int 0)]))
  refine Fin.by (fun tt_ kk_ => XS.ifNo X101.here hx rfl (hb hby d11_4) rfl ((if0 _ _).trans (teq (rfl : (0 : Int32) = (0 : Int32))).2) kk_) ?_
  refine Fin.by (fun tt_ kk_ => XS.iconst X101.here hx rfl (hb hby d11_7) (XS.goto X101.here hx rfl (pc0 := 8) (pc' := 12) rfl (hb hby d11_8) (by decide) (by decide) kk_)) ?_
  show Fin _ _ _ _ _ _ _ (T101.setTop (mkF m 12 #[.val (.ref a)] [(.int 1)]))
  exact Fin.ret (v := some (.int (nar .boolean (1 : Int32)))) X101 (fun h => by rw [Bd.returns] at h; cases h) Bd.notSynchronized (by rw [e101]; exact ⟨rfl, N0, rfl⟩) (by decide) (by decide) (fun fs hr => retN X101 hx (t := .boolean) Bd.returns (by simp) (hb hby d11_12) hr)
theorem d11_11 : decode jdk_38_method_9_code 11 = .ok (.iconst 0, 1) := by decide +kernel
def Q_is1 (Z : State) (a : Addr) (n : Int32) (h0 : Heap) (n0 : Nat) (vv_ : Option Value) (hh_ : Heap) (LL_ : List Loc) : Prop := vv_ = some (.int (0 : Int32)) ∧ Fr n0 LL_ ∧ hh_ = h0
set_option maxRecDepth 65536 in
set_option maxHeartbeats 40000000 in
theorem rm_is1 (l : Launch) (Z : State) (a0 : Array Value) (hw : ∀ d ∈ tables_1, d.before a0 Z = true) (ws : List Jvm.Cond) (a : Addr) (n : Int32) (h0 : Heap) (n0 : Nat) (Z0 : n0 ≤ h0.size) (hn0 : ¬ n = 0) (I0 : Exa Z h0 a "java/util/ArrayList") (I1 : Fld Z h0 a "java/util/ArrayList" "size" "I" (.int n)) :
    MetFree l y_11 (head1 (Jvm.Cond.code y_11 jdk_38_method_9_code 1 (some .boolean) :: ws) ({ frames := 0, cells := 0, slots := 0, locals := 0 } : Room)) (fun aa_ U => aa_ = #[(.ref a)] ∧ Z.Warmed39 U.vm ∧ U.heap = h0) (fun _ _ _ _ _ => True) (fun _ U o U' => ∃ vv_ LL_, o = .returned vv_ ∧ Q_is1 Z a n h0 n0 vv_ U'.heap LL_ ∧ FrameEnd U o U' LL_ 0 0) := by
  refine MetFree.of_bodySF (plainFor_of_name pn_java_util_ArrayList) hisR ?_
  intro p e s m args below meth c s₁ Bd hml0 hP hK
  obtain ⟨rfl, hZ, hh⟩ := hP
  have hx := Bd.exec
  have hby := Bd.bytes
  have hml : c.maxLocals = 1 := hml0
  have hown : s.vm.findClass "java/util/ArrayList" = some m.cls := findClass_of_methodNamed Bd.named
  have hnm := (name_of_methodNamed Bd.named Bd.method).1
  have X0 : Stand p l e ({ frames := 0, cells := 0, slots := 0, locals := 0 } : Room) s m #[(.ref a)] below meth c s₁ [] 0 0 := Stand.of_body Bd
  have e0 : s₁.heap = h0 := by rw [← hh, Bd.state]; rfl
  have N0 := Fr.nil n0
  have ef : entryFrame m #[(.ref a)] 1 = mkF m 0 #[.val (.ref a)] [] := by first | (simp [entryFrame, mkF, argsToLocals, Value.category]; done) | rfl
  refine Fin.start (Q := Q_is1 Z a n h0 n0) ef ?_
  refine Fin.by (fun tt_ kk_ => XS.aloadN X0.here hx rfl (hb hby d11_0) rfl rfl kk_) ?_
  obtain ⟨T101, X101, e101, st101⟩ := getF X0 hx hZ hown (host := "") (Or.inl (w_ hw 41 rfl)) Via.refl e0 I1 (g := (mkF m 1 #[.val (.ref a)] [(.ref a)])) rfl rfl (hb hby d11_1)
  refine Fin.by (fun tt_ kk_ => st101 tt_ kk_) ?_
  show Fin _ _ _ _ _ _ _ (T101.setTop (mkF m 4 #[.val (.ref a)] [(.int n)]))
  refine Fin.by (fun tt_ kk_ => XS.ifYes X101.here hx rfl (pc0 := 4) (pc' := 11) rfl (hb hby d11_4) rfl ((if0 _ _).trans (feq (hn0 : ¬ n = (0 : Int32))).2) (by decide) (by decide) kk_) ?_
  refine Fin.by (fun tt_ kk_ => XS.iconst X101.here hx rfl (hb hby d11_11) kk_) ?_
  show Fin _ _ _ _ _ _ _ (T101.setTop (mkF m 12 #[.val (.ref a)] [(.int 0)]))
  exact Fin.ret (v := some (.int (nar .boolean (0 : Int32)))) X101 (fun h => by rw [Bd.returns] at h; cases h) Bd.notSynchronized (by rw [e101]; exact ⟨rfl, N0, rfl⟩) (by decide) (by decide) (fun fs hr => retN X101 hx (t := .boolean) Bd.returns (by simp) (hb hby d11_12) hr)
abbrev y_12 : MethodName := (⟨"java/util/ArrayList", "size", "()I"⟩ : MethodName)
theorem d12_0 : decode jdk_38_method_8_code 0 = .ok (.aload_n 0, 1) := by decide +kernel
theorem d12_1 : decode jdk_38_method_8_code 1 = .ok (.getfield 48, 3) := by decide +kernel
theorem d12_4 : decode jdk_38_method_8_code 4 = .ok (.ireturn, 1) := by decide +kernel
def Q_siz (Z : State) (a : Addr) (n : Int32) (h0 : Heap) (n0 : Nat) (vv_ : Option Value) (hh_ : Heap) (LL_ : List Loc) : Prop := vv_ = some (.int n) ∧ Fr n0 LL_ ∧ hh_ = h0
set_option maxRecDepth 65536 in
set_option maxHeartbeats 40000000 in
theorem rm_siz (l : Launch) (Z : State) (a0 : Array Value) (hw : ∀ d ∈ tables_1, d.before a0 Z = true) (ws : List Jvm.Cond) (a : Addr) (n : Int32) (h0 : Heap) (n0 : Nat) (Z0 : n0 ≤ h0.size) (I0 : Exa Z h0 a "java/util/ArrayList") (I1 : Fld Z h0 a "java/util/ArrayList" "size" "I" (.int n)) :
    MetFree l y_12 (head1 (Jvm.Cond.code y_12 jdk_38_method_8_code 1 (some .int) :: ws) ({ frames := 0, cells := 0, slots := 0, locals := 0 } : Room)) (fun aa_ U => aa_ = #[(.ref a)] ∧ Z.Warmed39 U.vm ∧ U.heap = h0) (fun _ _ _ _ _ => True) (fun _ U o U' => ∃ vv_ LL_, o = .returned vv_ ∧ Q_siz Z a n h0 n0 vv_ U'.heap LL_ ∧ FrameEnd U o U' LL_ 0 0) := by
  refine MetFree.of_bodySF (plainFor_of_name pn_java_util_ArrayList) hisR ?_
  intro p e s m args below meth c s₁ Bd hml0 hP hK
  obtain ⟨rfl, hZ, hh⟩ := hP
  have hx := Bd.exec
  have hby := Bd.bytes
  have hml : c.maxLocals = 1 := hml0
  have hown : s.vm.findClass "java/util/ArrayList" = some m.cls := findClass_of_methodNamed Bd.named
  have hnm := (name_of_methodNamed Bd.named Bd.method).1
  have X0 : Stand p l e ({ frames := 0, cells := 0, slots := 0, locals := 0 } : Room) s m #[(.ref a)] below meth c s₁ [] 0 0 := Stand.of_body Bd
  have e0 : s₁.heap = h0 := by rw [← hh, Bd.state]; rfl
  have N0 := Fr.nil n0
  have ef : entryFrame m #[(.ref a)] 1 = mkF m 0 #[.val (.ref a)] [] := by first | (simp [entryFrame, mkF, argsToLocals, Value.category]; done) | rfl
  refine Fin.start (Q := Q_siz Z a n h0 n0) ef ?_
  refine Fin.by (fun tt_ kk_ => XS.aloadN X0.here hx rfl (hb hby d12_0) rfl rfl kk_) ?_
  obtain ⟨T101, X101, e101, st101⟩ := getF X0 hx hZ hown (host := "") (Or.inl (w_ hw 41 rfl)) Via.refl e0 I1 (g := (mkF m 1 #[.val (.ref a)] [(.ref a)])) rfl rfl (hb hby d12_1)
  refine Fin.by (fun tt_ kk_ => st101 tt_ kk_) ?_
  show Fin _ _ _ _ _ _ _ (T101.setTop (mkF m 4 #[.val (.ref a)] [(.int n)]))
  exact Fin.ret (v := some (.int n)) X101 (fun h => by rw [Bd.returns] at h; cases h) Bd.notSynchronized (by rw [e101]; exact ⟨rfl, N0, rfl⟩) (by decide) (by decide) (fun fs hr => retI X101 hx Bd.returns (hb hby d12_4) hr)
abbrev y_13 : MethodName := (⟨"java/lang/Math", "max", "(JJ)J"⟩ : MethodName)
theorem d13_0 : decode jdk_29_method_66_code 0 = .ok (.lload_n 0, 1) := by decide +kernel
theorem d13_1 : decode jdk_29_method_66_code 1 = .ok (.lload_n 2, 1) := by decide +kernel
theorem d13_2 : decode jdk_29_method_66_code 2 = .ok (.lcmp, 1) := by decide +kernel
theorem d13_3 : decode jdk_29_method_66_code 3 = .ok (.ifCond .lt 7, 3) := by decide +kernel
theorem d13_10 : decode jdk_29_method_66_code 10 = .ok (.lload_n 2, 1) := by decide +kernel
theorem d13_11 : decode jdk_29_method_66_code 11 = .ok (.lreturn, 1) := by decide +kernel
theorem d13_6 : decode jdk_29_method_66_code 6 = .ok (.lload_n 0, 1) := by decide +kernel
theorem d13_7 : decode jdk_29_method_66_code 7 = .ok (.goto 4, 3) := by decide +kernel
def Q_mj (Z : State) (x : Int64) (y : Int64) (h0 : Heap) (n0 : Nat) (vv_ : Option Value) (hh_ : Heap) (LL_ : List Loc) : Prop := vv_ = some (.long (own_max x y)) ∧ Fr n0 LL_ ∧ hh_ = h0
set_option maxRecDepth 65536 in
set_option maxHeartbeats 40000000 in
theorem rm_mj (l : Launch) (Z : State) (a0 : Array Value) (hw : ∀ d ∈ tables_1, d.before a0 Z = true) (ws : List Jvm.Cond) (x : Int64) (y : Int64) (h0 : Heap) (n0 : Nat) (Z0 : n0 ≤ h0.size) :
    MetFree l y_13 (head1 (Jvm.Cond.code y_13 jdk_29_method_66_code 4 (some .long) :: ws) ({ frames := 0, cells := 0, slots := 0, locals := 0 } : Room)) (fun aa_ U => aa_ = #[(.long x), (.long y)] ∧ Z.Warmed39 U.vm ∧ U.heap = h0) (fun _ _ _ _ _ => True) (fun _ U o U' => ∃ vv_ LL_, o = .returned vv_ ∧ Q_mj Z x y h0 n0 vv_ U'.heap LL_ ∧ FrameEnd U o U' LL_ 0 0) := by
  refine MetFree.of_bodySF (Jvm.Free.JP.mathPlain rfl (by decide +kernel)) hisR ?_
  intro p e s m args below meth c s₁ Bd hml0 hP hK
  obtain ⟨rfl, hZ, hh⟩ := hP
  have hx := Bd.exec
  have hby := Bd.bytes
  have hml : c.maxLocals = 4 := hml0
  have hown : s.vm.findClass "java/lang/Math" = some m.cls := findClass_of_methodNamed Bd.named
  have hnm := (name_of_methodNamed Bd.named Bd.method).1
  have X0 : Stand p l e ({ frames := 0, cells := 0, slots := 0, locals := 0 } : Room) s m #[(.long x), (.long y)] below meth c s₁ [] 0 0 := Stand.of_body Bd
  have e0 : s₁.heap = h0 := by rw [← hh, Bd.state]; rfl
  have N0 := Fr.nil n0
  have ef : entryFrame m #[(.long x), (.long y)] 4 = mkF m 0 #[.val (.long x), .second, .val (.long y), .second] [] := by first | (simp [entryFrame, mkF, argsToLocals, Value.category]; done) | rfl
  refine Fin.start (Q := Q_mj Z x y h0 n0) ef ?_
  refine Fin.by (fun tt_ kk_ => XS.lloadN X0.here hx rfl (hb hby d13_0) rfl (XS.lloadN X0.here hx rfl (hb hby d13_1) rfl (XS.lcmp X0.here hx rfl (hb hby d13_2) rfl kk_))) ?_
  show Fin _ _ _ _ _ _ _ (s₁.setTop (mkF m 3 #[.val (.long x), .second, .val (.long y), .second] [(.int (lcmpW x y))]))
  by_cases h : (lcmpW x y) < (0 : Int32)
  · refine Fin.by (fun tt_ kk_ => XS.ifYes X0.here hx rfl (pc0 := 3) (pc' := 10) rfl (hb hby d13_3) rfl ((if0 _ _).trans (tlt h).1) (by decide) (by decide) kk_) ?_
    refine Fin.by (fun tt_ kk_ => XS.lloadN X0.here hx rfl (hb hby d13_10) rfl kk_) ?_
    show Fin _ _ _ _ _ _ _ (s₁.setTop (mkF m 11 #[.val (.long x), .second, .val (.long y), .second] [(.long y)]))
    exact Fin.ret (v := some (.long y)) X0 (fun h => by rw [Bd.returns] at h; cases h) Bd.notSynchronized (by rw [e0]; exact ⟨(by unfold own_max; rw [if_pos h]), N0, rfl⟩) (by decide) (by decide) (fun fs hr => retJ X0 hx Bd.returns (hb hby d13_11) hr)
  · refine Fin.by (fun tt_ kk_ => XS.ifNo X0.here hx rfl (hb hby d13_3) rfl ((if0 _ _).trans (flt h).1) kk_) ?_
    refine Fin.by (fun tt_ kk_ => XS.lloadN X0.here hx rfl (hb hby d13_6) rfl (XS.goto X0.here hx rfl (pc0 := 7) (pc' := 11) rfl (hb hby d13_7) (by decide) (by decide) kk_)) ?_
    show Fin _ _ _ _ _ _ _ (s₁.setTop (mkF m 11 #[.val (.long x), .second, .val (.long y), .second] [(.long x)]))
    exact Fin.ret (v := some (.long x)) X0 (fun h => by rw [Bd.returns] at h; cases h) Bd.notSynchronized (by rw [e0]; exact ⟨(by unfold own_max; rw [if_neg h]), N0, rfl⟩) (by decide) (by decide) (fun fs hr => retJ X0 hx Bd.returns (hb hby d13_11) hr)
abbrev y_14 : MethodName := (⟨"jdk/internal/util/Preconditions", "checkIndex", "(IILjava/util/function/BiFunction;)I"⟩ : MethodName)
theorem d14_0 : decode jdk_41_method_11_code 0 = .ok (.iload_n 0, 1) := by decide +kernel
theorem d14_1 : decode jdk_41_method_11_code 1 = .ok (.ifCond .lt 8, 3) := by decide +kernel
theorem d14_4 : decode jdk_41_method_11_code 4 = .ok (.iload_n 0, 1) := by decide +kernel
theorem d14_5 : decode jdk_41_method_11_code 5 = .ok (.iload_n 1, 1) := by decide +kernel
theorem d14_6 : decode jdk_41_method_11_code 6 = .ok (.if_icmp .lt 10, 3) := by decide +kernel
theorem d14_16 : decode jdk_41_method_11_code 16 = .ok (.iload_n 0, 1) := by decide +kernel
theorem d14_17 : decode jdk_41_method_11_code 17 = .ok (.ireturn, 1) := by decide +kernel
theorem pn_jdk_internal_util_Preconditions : plainName "jdk/internal/util/Preconditions" = true := by first | (simp [plainName, overriddenIn]; done) | decide +kernel
def Q_pci (Z : State) (j : Int32) (n : Int32) (h0 : Heap) (n0 : Nat) (vv_ : Option Value) (hh_ : Heap) (LL_ : List Loc) : Prop := vv_ = some (.int j) ∧ Fr n0 LL_ ∧ hh_ = h0
set_option maxRecDepth 65536 in
set_option maxHeartbeats 40000000 in
theorem rm_pci (l : Launch) (Z : State) (a0 : Array Value) (hw : ∀ d ∈ tables_1, d.before a0 Z = true) (ws : List Jvm.Cond) (j : Int32) (n : Int32) (h0 : Heap) (n0 : Nat) (Z0 : n0 ≤ h0.size) (hj0 : ¬ j < 0) (hjn : j < n) :
    MetFree l y_14 (head1 (Jvm.Cond.code y_14 jdk_41_method_11_code 3 (some .int) :: ws) ({ frames := 0, cells := 0, slots := 0, locals := 0 } : Room)) (fun aa_ U => aa_ = #[(.int j), (.int n), .null] ∧ Z.Warmed39 U.vm ∧ U.heap = h0) (fun _ _ _ _ _ => True) (fun _ U o U' => ∃ vv_ LL_, o = .returned vv_ ∧ Q_pci Z j n h0 n0 vv_ U'.heap LL_ ∧ FrameEnd U o U' LL_ 0 0) := by
  refine MetFree.of_bodySF (plainFor_of_name pn_jdk_internal_util_Preconditions) hisR ?_
  intro p e s m args below meth c s₁ Bd hml0 hP hK
  obtain ⟨rfl, hZ, hh⟩ := hP
  have hx := Bd.exec
  have hby := Bd.bytes
  have hml : c.maxLocals = 3 := hml0
  have hown : s.vm.findClass "jdk/internal/util/Preconditions" = some m.cls := findClass_of_methodNamed Bd.named
  have hnm := (name_of_methodNamed Bd.named Bd.method).1
  have X0 : Stand p l e ({ frames := 0, cells := 0, slots := 0, locals := 0 } : Room) s m #[(.int j), (.int n), .null] below meth c s₁ [] 0 0 := Stand.of_body Bd
  have e0 : s₁.heap = h0 := by rw [← hh, Bd.state]; rfl
  have N0 := Fr.nil n0
  have ef : entryFrame m #[(.int j), (.int n), .null] 3 = mkF m 0 #[.val (.int j), .val (.int n), .val .null] [] := by first | (simp [entryFrame, mkF, argsToLocals, Value.category]; done) | rfl
  refine Fin.start (Q := Q_pci Z j n h0 n0) ef ?_
  refine Fin.by (fun tt_ kk_ => XS.iloadN X0.here hx rfl (hb hby d14_0) rfl kk_) ?_
  show Fin _ _ _ _ _ _ _ (s₁.setTop (mkF m 1 #[.val (.int j), .val (.int n), .val .null] [(.int j)]))
  refine Fin.by (fun tt_ kk_ => XS.ifNo X0.here hx rfl (hb hby d14_1) rfl ((if0 _ _).trans (flt (hj0 : ¬ j < (0 : Int32))).1) kk_) ?_
  refine Fin.by (fun tt_ kk_ => XS.iloadN X0.here hx rfl (hb hby d14_4) rfl (XS.iloadN X0.here hx rfl (hb hby d14_5) rfl kk_)) ?_
  show Fin _ _ _ _ _ _ _ (s₁.setTop (mkF m 6 #[.val (.int j), .val (.int n), .val .null] [(.int n), (.int j)]))
  refine Fin.by (fun tt_ kk_ => XS.icmpYes X0.here hx rfl (pc0 := 6) (pc' := 16) rfl (hb hby d14_6) rfl (tlt (hjn : j < n)).1 (by decide) (by decide) kk_) ?_
  refine Fin.by (fun tt_ kk_ => XS.iloadN X0.here hx rfl (hb hby d14_16) rfl kk_) ?_
  show Fin _ _ _ _ _ _ _ (s₁.setTop (mkF m 17 #[.val (.int j), .val (.int n), .val .null] [(.int j)]))
  exact Fin.ret (v := some (.int j)) X0 (fun h => by rw [Bd.returns] at h; cases h) Bd.notSynchronized (by rw [e0]; exact ⟨rfl, N0, rfl⟩) (by decide) (by decide) (fun fs hr => retI X0 hx Bd.returns (hb hby d14_17) hr)
abbrev y_15 : MethodName := (⟨"java/util/Objects", "checkIndex", "(II)I"⟩ : MethodName)
theorem d15_0 : decode jdk_31_method_17_code 0 = .ok (.iload_n 0, 1) := by decide +kernel
theorem d15_1 : decode jdk_31_method_17_code 1 = .ok (.iload_n 1, 1) := by decide +kernel
theorem d15_2 : decode jdk_31_method_17_code 2 = .ok (.aconst_null, 1) := by decide +kernel
theorem pd_149 : parseMethodDescriptor "(IILjava/util/function/BiFunction;)I" = some ⟨[.int, .int, (.object "java/util/function/BiFunction")], some .int⟩ := by decide +kernel
theorem d15_3 : decode jdk_31_method_17_code 3 = .ok (.invokestatic 105, 3) := by decide +kernel
theorem d15_6 : decode jdk_31_method_17_code 6 = .ok (.ireturn, 1) := by decide +kernel
theorem pn_java_util_Objects : plainName "java/util/Objects" = true := by first | (simp [plainName, overriddenIn]; done) | decide +kernel
def Q_oci (Z : State) (j : Int32) (n : Int32) (h0 : Heap) (n0 : Nat) (vv_ : Option Value) (hh_ : Heap) (LL_ : List Loc) : Prop := vv_ = some (.int j) ∧ Fr n0 LL_ ∧ hh_ = h0
set_option maxRecDepth 65536 in
set_option maxHeartbeats 40000000 in
theorem rm_oci (l : Launch) (Z : State) (a0 : Array Value) (hw : ∀ d ∈ tables_1, d.before a0 Z = true) (ws : List Jvm.Cond) (j : Int32) (n : Int32) (h0 : Heap) (n0 : Nat) (Z0 : n0 ≤ h0.size) (hj0 : ¬ j < 0) (hjn : j < n) :
    MetFree l y_15 (head1 (Jvm.Cond.code y_15 jdk_31_method_17_code 2 (some .int) :: ws) ({ frames := 1, cells := 0, slots := 0, locals := 14 } : Room)) (fun aa_ U => aa_ = #[(.int j), (.int n)] ∧ Z.Warmed39 U.vm ∧ U.heap = h0) (fun _ _ _ _ _ => True) (fun _ U o U' => ∃ vv_ LL_, o = .returned vv_ ∧ Q_oci Z j n h0 n0 vv_ U'.heap LL_ ∧ FrameEnd U o U' LL_ 0 0) := by
  refine MetFree.of_bodySF (plainFor_of_name pn_java_util_Objects) hisR ?_
  intro p e s m args below meth c s₁ Bd hml0 hP hK
  obtain ⟨rfl, hZ, hh⟩ := hP
  have hx := Bd.exec
  have hby := Bd.bytes
  have hml : c.maxLocals = 2 := hml0
  have hown : s.vm.findClass "java/util/Objects" = some m.cls := findClass_of_methodNamed Bd.named
  have hnm := (name_of_methodNamed Bd.named Bd.method).1
  have X0 : Stand p l e ({ frames := 1, cells := 0, slots := 0, locals := 14 } : Room) s m #[(.int j), (.int n)] below meth c s₁ [] 0 0 := Stand.of_body Bd
  have e0 : s₁.heap = h0 := by rw [← hh, Bd.state]; rfl
  have N0 := Fr.nil n0
  have ef : entryFrame m #[(.int j), (.int n)] 2 = mkF m 0 #[.val (.int j), .val (.int n)] [] := by first | (simp [entryFrame, mkF, argsToLocals, Value.category]; done) | rfl
  refine Fin.start (Q := Q_oci Z j n h0 n0) ef ?_
  refine Fin.by (fun tt_ kk_ => XS.iloadN X0.here hx rfl (hb hby d15_0) rfl (XS.iloadN X0.here hx rfl (hb hby d15_1) rfl (XS.aconstNull X0.here hx rfl (hb hby d15_2) kk_))) ?_
  obtain ⟨v101, _, ⟨T101, L101, k101, n101⟩, -, X101, ⟨Lc101, hQ101, l101, y101, z101⟩, st101⟩ := Jvm.LawKit.callS X0 hx (y := y_14) hown (mvT hZ (w_ hw 121 rfl)) (mvT hZ (w_ hw 122 rfl)) (mvT hZ (w_ hw 123 rfl)) (mvT hZ (w_ hw 124 rfl)) (by decide) (backOf (W := 0) (rm_pci l Z a0 hw [] j n h0 n0 Z0 hj0 hjn) hZ (w_ hw 124 rfl) (w_ hw 123 rfl) (by decide) (by decide)) (g := (mkF m 3 #[.val (.int j), .val (.int n)] [.null, (.int n), (.int j)])) rfl (by rw [hml]; rfl) (argsL := [(.int j), (.int n), .null]) (rest := []) (lenOf pd_149 rfl) rfl (by show 2 * 0 + _ ≤ _; exact Nat.le_of_eq rfl) (hb hby d15_3) (fun _ _ => ⟨rfl, e0, (by decide : 0 + 0 ≤ _), (by decide : 0 + 0 ≤ _)⟩)
  dsimp only [Pt.U, Pt.locs, Pt.cells, Pt.slots] at X101 l101 y101 z101 st101 hQ101
  subst l101 y101 z101
  obtain ⟨rfl, Nq101, e101_⟩ := hQ101
  have N101_ := Fr.app N0 Nq101
  refine Fin.by (fun tt_ kk_ => st101 tt_ kk_) ?_
  have e101 := e101_
  show Fin _ _ _ _ _ _ _ (T101.setTop (mkF m 6 #[.val (.int j), .val (.int n)] [(.int j)]))
  exact Fin.ret (v := some (.int j)) X101 (fun h => by rw [Bd.returns] at h; cases h) Bd.notSynchronized (by rw [e101]; exact ⟨rfl, N101_, rfl⟩) (by decide) (by decide) (fun fs hr => retI X101 hx Bd.returns (hb hby d15_6) hr)
abbrev y_16 : MethodName := (⟨"java/util/ArrayList", "elementData", "(I)Ljava/lang/Object;"⟩ : MethodName)
theorem d16_0 : decode jdk_38_method_18_code 0 = .ok (.aload_n 0, 1) := by decide +kernel
theorem d16_1 : decode jdk_38_method_18_code 1 = .ok (.getfield 9, 3) := by decide +kernel
theorem d16_4 : decode jdk_38_method_18_code 4 = .ok (.iload_n 1, 1) := by decide +kernel
theorem d16_5 : decode jdk_38_method_18_code 5 = .ok (.aaload, 1) := by decide +kernel
theorem d16_6 : decode jdk_38_method_18_code 6 = .ok (.areturn, 1) := by decide +kernel
def Q_eld (Z : State) (a : Addr) (j : Int32) (ed : Addr) (kE : ClassId) (vs : List Value) (y : Addr) (h0 : Heap) (n0 : Nat) (vv_ : Option Value) (hh_ : Heap) (LL_ : List Loc) : Prop := vv_ = some (.ref y) ∧ Fr n0 LL_ ∧ hh_ = h0
set_option maxRecDepth 65536 in
set_option maxHeartbeats 40000000 in
theorem rm_eld (l : Launch) (Z : State) (a0 : Array Value) (hw : ∀ d ∈ tables_1, d.before a0 Z = true) (ws : List Jvm.Cond) (a : Addr) (j : Int32) (ed : Addr) (kE : ClassId) (vs : List Value) (y : Addr) (h0 : Heap) (n0 : Nat) (Z0 : n0 ≤ h0.size) (hj0 : ¬ j < 0) (hjt : j < 10) (hat : vs.getD j.toNatClampNeg .null = .ref y) (I0 : Exa Z h0 a "java/util/ArrayList") (I1 : Fld Z h0 a "java/util/ArrayList" "elementData" "[Ljava/lang/Object;" (.ref ed)) (Ae : Arv Z h0 ed kE (.object "java/lang/Object") (10 : Int32) vs .null) :
    MetFree l y_16 (head1 (Jvm.Cond.code y_16 jdk_38_method_18_code 2 (some (.object "java/lang/Object")) :: ws) ({ frames := 0, cells := 0, slots := 0, locals := 0 } : Room)) (fun aa_ U => aa_ = #[(.ref a), (.int j)] ∧ Z.Warmed39 U.vm ∧ U.heap = h0) (fun _ _ _ _ _ => True) (fun _ U o U' => ∃ vv_ LL_, o = .returned vv_ ∧ Q_eld Z a j ed kE vs y h0 n0 vv_ U'.heap LL_ ∧ FrameEnd U o U' LL_ 0 0) := by
  refine MetFree.of_bodySF (plainFor_of_name pn_java_util_ArrayList) hisR ?_
  intro p e s m args below meth c s₁ Bd hml0 hP hK
  obtain ⟨rfl, hZ, hh⟩ := hP
  have hx := Bd.exec
  have hby := Bd.bytes
  have hml : c.maxLocals = 2 := hml0
  have hown : s.vm.findClass "java/util/ArrayList" = some m.cls := findClass_of_methodNamed Bd.named
  have hnm := (name_of_methodNamed Bd.named Bd.method).1
  have X0 : Stand p l e ({ frames := 0, cells := 0, slots := 0, locals := 0 } : Room) s m #[(.ref a), (.int j)] below meth c s₁ [] 0 0 := Stand.of_body Bd
  have e0 : s₁.heap = h0 := by rw [← hh, Bd.state]; rfl
  have N0 := Fr.nil n0
  have ef : entryFrame m #[(.ref a), (.int j)] 2 = mkF m 0 #[.val (.ref a), .val (.int j)] [] := by first | (simp [entryFrame, mkF, argsToLocals, Value.category]; done) | rfl
  refine Fin.start (Q := Q_eld Z a j ed kE vs y h0 n0) ef ?_
  refine Fin.by (fun tt_ kk_ => XS.aloadN X0.here hx rfl (hb hby d16_0) rfl rfl kk_) ?_
  obtain ⟨T101, X101, e101, st101⟩ := getF X0 hx hZ hown (host := "") (Or.inl (w_ hw 26 rfl)) Via.refl e0 I1 (g := (mkF m 1 #[.val (.ref a), .val (.int j)] [(.ref a)])) rfl rfl (hb hby d16_1)
  refine Fin.by (fun tt_ kk_ => st101 tt_ kk_) ?_
  refine Fin.by (fun tt_ kk_ => XS.iloadN X101.here hx rfl (hb hby d16_4) rfl kk_) ?_
  obtain ⟨cl102, Ar102, q102, S102, N102, H102, G102⟩ := id Ae
  have hin102 : ¬ (j < 0 ∨ cl102.slots.size ≤ j.toNatClampNeg) := inb_of S102 ⟨hj0, hjt⟩
  refine Fin.by (fun tt_ kk_ => X101.aaload hx (j := j) (v := (.ref y)) (by rw [e101]; exact Ar102.1) (State.isArrayOf_alike hZ.alike Ar102.2.1) rfl Ar102.2.2 hin102 (Has.at H102 hin102 hat) (g := (mkF m 5 #[.val (.ref a), .val (.int j)] [(.int j), (.ref ed)])) rfl rfl (hb hby d16_5) _ kk_) ?_
  show Fin _ _ _ _ _ _ _ (T101.setTop (mkF m 6 #[.val (.ref a), .val (.int j)] [(.ref y)]))
  exact Fin.ret (v := some (.ref y)) X101 (fun h => by rw [Bd.returns] at h; cases h) Bd.notSynchronized (by rw [e101]; exact ⟨rfl, N0, rfl⟩) (by decide) (by decide) (fun fs hr => retA X101 hx Bd.returns rfl rfl (hb hby d16_6) hr)
abbrev y_17 : MethodName := (⟨"java/util/ArrayList", "get", "(I)Ljava/lang/Object;"⟩ : MethodName)
theorem d17_0 : decode jdk_38_method_20_code 0 = .ok (.iload_n 1, 1) := by decide +kernel
theorem d17_1 : decode jdk_38_method_20_code 1 = .ok (.aload_n 0, 1) := by decide +kernel
theorem d17_2 : decode jdk_38_method_20_code 2 = .ok (.getfield 48, 3) := by decide +kernel
theorem d17_5 : decode jdk_38_method_20_code 5 = .ok (.invokestatic 118, 3) := by decide +kernel
theorem d17_8 : decode jdk_38_method_20_code 8 = .ok (.pop, 1) := by decide +kernel
theorem d17_9 : decode jdk_38_method_20_code 9 = .ok (.aload_n 0, 1) := by decide +kernel
theorem d17_10 : decode jdk_38_method_20_code 10 = .ok (.iload_n 1, 1) := by decide +kernel
theorem pd_165 : parseMethodDescriptor "(I)Ljava/lang/Object;" = some ⟨[.int], some (.object "java/lang/Object")⟩ := by decide +kernel
theorem d17_11 : decode jdk_38_method_20_code 11 = .ok (.invokevirtual 123, 3) := by decide +kernel
theorem d17_14 : decode jdk_38_method_20_code 14 = .ok (.areturn, 1) := by decide +kernel
def Q_get (Z : State) (a : Addr) (j : Int32) (ed : Addr) (kE : ClassId) (vs : List Value) (y : Addr) (n : Int32) (h0 : Heap) (n0 : Nat) (vv_ : Option Value) (hh_ : Heap) (LL_ : List Loc) : Prop := vv_ = some (.ref y) ∧ Fr n0 LL_ ∧ hh_ = h0
set_option maxRecDepth 65536 in
set_option maxHeartbeats 40000000 in
theorem rm_get (l : Launch) (Z : State) (a0 : Array Value) (hw : ∀ d ∈ tables_1, d.before a0 Z = true) (ws : List Jvm.Cond) (a : Addr) (j : Int32) (ed : Addr) (kE : ClassId) (vs : List Value) (y : Addr) (n : Int32) (h0 : Heap) (n0 : Nat) (Z0 : n0 ≤ h0.size) (hjn : j < n) (hj0 : ¬ j < 0) (hjt : j < 10) (hat : vs.getD j.toNatClampNeg .null = .ref y) (I0 : Exa Z h0 a "java/util/ArrayList") (I1 : Fld Z h0 a "java/util/ArrayList" "elementData" "[Ljava/lang/Object;" (.ref ed)) (Ae : Arv Z h0 ed kE (.object "java/lang/Object") (10 : Int32) vs .null) (I2 : Fld Z h0 a "java/util/ArrayList" "size" "I" (.int n)) :
    MetFree l y_17 (head1 (Jvm.Cond.code y_17 jdk_38_method_20_code 2 (some (.object "java/lang/Object")) :: ws) ({ frames := 2, cells := 0, slots := 0, locals := 27 } : Room)) (fun aa_ U => aa_ = #[(.ref a), (.int j)] ∧ Z.Warmed39 U.vm ∧ U.heap = h0) (fun _ _ _ _ _ => True) (fun _ U o U' => ∃ vv_ LL_, o = .returned vv_ ∧ Q_get Z a j ed kE vs y n h0 n0 vv_ U'.heap LL_ ∧ FrameEnd U o U' LL_ 0 0) := by
  refine MetFree.of_bodySF (plainFor_of_name pn_java_util_ArrayList) hisR ?_
  intro p e s m args below meth c s₁ Bd hml0 hP hK
  obtain ⟨rfl, hZ, hh⟩ := hP
  have hx := Bd.exec
  have hby := Bd.bytes
  have hml : c.maxLocals = 2 := hml0
  have hown : s.vm.findClass "java/util/ArrayList" = some m.cls := findClass_of_methodNamed Bd.named
  have hnm := (name_of_methodNamed Bd.named Bd.method).1
  have X0 : Stand p l e ({ frames := 2, cells := 0, slots := 0, locals := 27 } : Room) s m #[(.ref a), (.int j)] below meth c s₁ [] 0 0 := Stand.of_body Bd
  have e0 : s₁.heap = h0 := by rw [← hh, Bd.state]; rfl
  have N0 := Fr.nil n0
  have ef : entryFrame m #[(.ref a), (.int j)] 2 = mkF m 0 #[.val (.ref a), .val (.int j)] [] := by first | (simp [entryFrame, mkF, argsToLocals, Value.category]; done) | rfl
  refine Fin.start (Q := Q_get Z a j ed kE vs y n h0 n0) ef ?_
  refine Fin.by (fun tt_ kk_ => XS.iloadN X0.here hx rfl (hb hby d17_0) rfl (XS.aloadN X0.here hx rfl (hb hby d17_1) rfl rfl kk_)) ?_
  obtain ⟨T101, X101, e101, st101⟩ := getF X0 hx hZ hown (host := "") (Or.inl (w_ hw 41 rfl)) Via.refl e0 I2 (g := (mkF m 2 #[.val (.ref a), .val (.int j)] [(.ref a), (.int j)])) rfl rfl (hb hby d17_2)
  refine Fin.by (fun tt_ kk_ => st101 tt_ kk_) ?_
  obtain ⟨v102, _, ⟨T102, L102, k102, n102⟩, -, X102, ⟨Lc102, hQ102, l102, y102, z102⟩, st102⟩ := Jvm.LawKit.callS X101 hx (y := y_15) hown (mvT hZ (w_ hw 117 rfl)) (mvT hZ (w_ hw 118 rfl)) (mvT hZ (w_ hw 119 rfl)) (mvT hZ (w_ hw 120 rfl)) (by decide) (backOf (W := 0) (rm_oci l Z a0 hw [] j n h0 n0 Z0 hj0 hjn) hZ (w_ hw 120 rfl) (w_ hw 119 rfl) (by decide) (by decide)) (g := (mkF m 5 #[.val (.ref a), .val (.int j)] [(.int n), (.int j)])) rfl (by rw [hml]; rfl) (argsL := [(.int j), (.int n)]) (rest := []) (lenOf pd_72 rfl) rfl (by show 2 * 0 + _ ≤ _; exact Nat.le_of_eq rfl) (hb hby d17_5) (fun _ _ => ⟨rfl, e101, (by decide : 0 + 0 ≤ _), (by decide : 0 + 0 ≤ _)⟩)
  dsimp only [Pt.U, Pt.locs, Pt.cells, Pt.slots] at X102 l102 y102 z102 st102 hQ102
  subst l102 y102 z102
  obtain ⟨rfl, Nq102, e102_⟩ := hQ102
  have N102_ := Fr.app N0 Nq102
  refine Fin.by (fun tt_ kk_ => st102 tt_ kk_) ?_
  have e102 := e102_
  refine Fin.by (fun tt_ kk_ => XS.pop X102.here hx rfl (hb hby d17_8) rfl rfl (XS.aloadN X102.here hx rfl (hb hby d17_9) rfl rfl (XS.iloadN X102.here hx rfl (hb hby d17_10) rfl kk_))) ?_
  obtain ⟨cq103, kq103, qa103, qb103, qc103⟩ := isOf hZ e102 I0
  obtain ⟨v103, _, ⟨T103, L103, k103, n103⟩, -, X103, ⟨Lc103, hQ103, l103, y103, z103⟩, st103⟩ := X102.virtualBack hx (y := y_16) (z := y_16) hown (mvT hZ (w_ hw 125 rfl)) (mvT hZ (w_ hw 126 rfl)) (notFace_of_selects (args := #[]) (mvT hZ (w_ hw 128 rfl))) (mvT hZ (w_ hw 128 rfl)) (mvT hZ (w_ hw 127 rfl)) (by decide) (backOf (W := 0) (rm_eld l Z a0 hw [] a j ed kE (vs : List Value) y h0 n0 Z0 hj0 hjt hat I0 I1 Ae) hZ (w_ hw 129 rfl) (w_ hw 4 rfl) (by decide) (by decide)) qa103 qc103 (g := (mkF m 11 #[.val (.ref a), .val (.int j)] [(.int j), (.ref a)])) rfl (by rw [hml]; rfl) (Steps.refl _) (argsL := [(.int j)]) (rest := []) (lenOf pd_165 rfl) rfl (by show 2 * 0 + _ ≤ _; exact Nat.le_of_eq rfl) (hb hby d17_11) (fun _ _ => ⟨rfl, e102, (by decide : 0 + 0 ≤ _), (by decide : 0 + 0 ≤ _)⟩)
  dsimp only [Pt.U, Pt.locs, Pt.cells, Pt.slots] at X103 l103 y103 z103 st103 hQ103
  subst l103 y103 z103
  obtain ⟨rfl, Nq103, e103_⟩ := hQ103
  have N103_ := Fr.app N102_ Nq103
  refine Fin.byS st103 ?_
  have e103 := e103_
  show Fin _ _ _ _ _ _ _ (T103.setTop (mkF m 14 #[.val (.ref a), .val (.int j)] [(.ref y)]))
  exact Fin.ret (v := some (.ref y)) X103 (fun h => by rw [Bd.returns] at h; cases h) Bd.notSynchronized (by rw [e103]; exact ⟨rfl, N103_, rfl⟩) (by decide) (by decide) (fun fs hr => retA X103 hx Bd.returns rfl rfl (hb hby d17_14) hr)
abbrev y_18 : MethodName := (⟨"java/lang/Long", "longValue", "()J"⟩ : MethodName)
theorem d18_0 : decode jdk_35_method_31_code 0 = .ok (.aload_n 0, 1) := by decide +kernel
theorem d18_1 : decode jdk_35_method_31_code 1 = .ok (.getfield 273, 3) := by decide +kernel
theorem d18_4 : decode jdk_35_method_31_code 4 = .ok (.lreturn, 1) := by decide +kernel
def Q_lva (Z : State) (y : Addr) (x : Int64) (h0 : Heap) (n0 : Nat) (vv_ : Option Value) (hh_ : Heap) (LL_ : List Loc) : Prop := vv_ = some (.long x) ∧ Fr n0 LL_ ∧ hh_ = h0
set_option maxRecDepth 65536 in
set_option maxHeartbeats 40000000 in
theorem rm_lva (l : Launch) (Z : State) (a0 : Array Value) (hw : ∀ d ∈ tables_1, d.before a0 Z = true) (ws : List Jvm.Cond) (y : Addr) (x : Int64) (h0 : Heap) (n0 : Nat) (Z0 : n0 ≤ h0.size) (Y0 : Exa Z h0 y "java/lang/Long") (Y1 : Fld Z h0 y "java/lang/Long" "value" "J" (.long x)) :
    MetFree l y_18 (head1 (Jvm.Cond.code y_18 jdk_35_method_31_code 1 (some .long) :: ws) ({ frames := 0, cells := 0, slots := 0, locals := 0 } : Room)) (fun aa_ U => aa_ = #[(.ref y)] ∧ Z.Warmed39 U.vm ∧ U.heap = h0) (fun _ _ _ _ _ => True) (fun _ U o U' => ∃ vv_ LL_, o = .returned vv_ ∧ Q_lva Z y x h0 n0 vv_ U'.heap LL_ ∧ FrameEnd U o U' LL_ 0 0) := by
  refine MetFree.of_bodySF (plainFor_of_name pn_java_lang_Long) hisR ?_
  intro p e s m args below meth c s₁ Bd hml0 hP hK
  obtain ⟨rfl, hZ, hh⟩ := hP
  have hx := Bd.exec
  have hby := Bd.bytes
  have hml : c.maxLocals = 1 := hml0
  have hown : s.vm.findClass "java/lang/Long" = some m.cls := findClass_of_methodNamed Bd.named
  have hnm := (name_of_methodNamed Bd.named Bd.method).1
  have X0 : Stand p l e ({ frames := 0, cells := 0, slots := 0, locals := 0 } : Room) s m #[(.ref y)] below meth c s₁ [] 0 0 := Stand.of_body Bd
  have e0 : s₁.heap = h0 := by rw [← hh, Bd.state]; rfl
  have N0 := Fr.nil n0
  have ef : entryFrame m #[(.ref y)] 1 = mkF m 0 #[.val (.ref y)] [] := by first | (simp [entryFrame, mkF, argsToLocals, Value.category]; done) | rfl
  refine Fin.start (Q := Q_lva Z y x h0 n0) ef ?_
  refine Fin.by (fun tt_ kk_ => XS.aloadN X0.here hx rfl (hb hby d18_0) rfl rfl kk_) ?_
  obtain ⟨T101, X101, e101, st101⟩ := getF X0 hx hZ hown (host := "") (Or.inl (w_ hw 94 rfl)) Via.refl e0 Y1 (g := (mkF m 1 #[.val (.ref y)] [(.ref y)])) rfl rfl (hb hby d18_1)
  refine Fin.by (fun tt_ kk_ => st101 tt_ kk_) ?_
  show Fin _ _ _ _ _ _ _ (T101.setTop (mkF m 4 #[.val (.ref y)] [(.long x)]))
  exact Fin.ret (v := some (.long x)) X101 (fun h => by rw [Bd.returns] at h; cases h) Bd.notSynchronized (by rw [e101]; exact ⟨rfl, N0, rfl⟩) (by decide) (by decide) (fun fs hr => retJ X101 hx Bd.returns (hb hby d18_4) hr)
abbrev y_19 : MethodName := (⟨"java/util/List", "isEmpty", "()Z"⟩ : MethodName)
abbrev y_20 : MethodName := (⟨"com/example/ermine/ermine/bench/Figures", "percentile", "(Ljava/util/List;I)D"⟩ : MethodName)
theorem d19_0 : decode prog_1_method_3_code 0 = .ok (.aload_n 0, 1) := by decide +kernel
theorem pd_172 : parseMethodDescriptor "()Z" = some ⟨[], some .boolean⟩ := by decide +kernel
theorem d19_1 : decode prog_1_method_3_code 1 = .ok (.invokeinterface 52 1, 5) := by decide +kernel
theorem d19_6 : decode prog_1_method_3_code 6 = .ok (.ifCond .eq 7, 3) := by decide +kernel
theorem d19_9 : decode prog_1_method_3_code 9 = .ok (.ldc2_w 55, 3) := by decide +kernel
theorem d19_12 : decode prog_1_method_3_code 12 = .ok (.dreturn, 1) := by decide +kernel
theorem pn_com_example_ermine_ermine_bench_Figures : plainName "com/example/ermine/ermine/bench/Figures" = true := by first | (simp [plainName, overriddenIn]; done) | decide +kernel
def Q_per0 (Z : State) (a : Addr) (pp : Int32) (h0 : Heap) (n0 : Nat) (vv_ : Option Value) (hh_ : Heap) (LL_ : List Loc) : Prop := vv_ = some (.double (9221120237041090560 : UInt64)) ∧ Fr n0 LL_ ∧ hh_ = h0
set_option maxRecDepth 65536 in
set_option maxHeartbeats 40000000 in
theorem rm_per0 (l : Launch) (Z : State) (a0 : Array Value) (hw : ∀ d ∈ tables_1, d.before a0 Z = true) (ws : List Jvm.Cond) (a : Addr) (pp : Int32) (h0 : Heap) (n0 : Nat) (Z0 : n0 ≤ h0.size) (I0 : Exa Z h0 a "java/util/ArrayList") (I2 : Fld Z h0 a "java/util/ArrayList" "size" "I" (.int (0 : Int32))) :
    MetFree l y_20 (head1 (Jvm.Cond.code y_20 prog_1_method_3_code 4 (some .double) :: ws) ({ frames := 1, cells := 0, slots := 0, locals := 12 } : Room)) (fun aa_ U => aa_ = #[(.ref a), (.int pp)] ∧ Z.Warmed39 U.vm ∧ U.heap = h0) (fun _ _ _ _ _ => True) (fun _ U o U' => ∃ vv_ LL_, o = .returned vv_ ∧ Q_per0 Z a pp h0 n0 vv_ U'.heap LL_ ∧ FrameEnd U o U' LL_ 0 0) := by
  refine MetFree.of_bodySF (plainFor_of_name pn_com_example_ermine_ermine_bench_Figures) hisR ?_
  intro p e s m args below meth c s₁ Bd hml0 hP hK
  obtain ⟨rfl, hZ, hh⟩ := hP
  have hx := Bd.exec
  have hby := Bd.bytes
  have hml : c.maxLocals = 4 := hml0
  have hown : s.vm.findClass "com/example/ermine/ermine/bench/Figures" = some m.cls := findClass_of_methodNamed Bd.named
  have hnm := (name_of_methodNamed Bd.named Bd.method).1
  have X0 : Stand p l e ({ frames := 1, cells := 0, slots := 0, locals := 12 } : Room) s m #[(.ref a), (.int pp)] below meth c s₁ [] 0 0 := Stand.of_body Bd
  have e0 : s₁.heap = h0 := by rw [← hh, Bd.state]; rfl
  have N0 := Fr.nil n0
  have ef : entryFrame m #[(.ref a), (.int pp)] 4 = mkF m 0 #[.val (.ref a), .val (.int pp), .unset, .unset] [] := by first | (simp [entryFrame, mkF, argsToLocals, Value.category]; done) | rfl
  refine Fin.start (Q := Q_per0 Z a pp h0 n0) ef ?_
  refine Fin.by (fun tt_ kk_ => XS.aloadN X0.here hx rfl (hb hby d19_0) rfl rfl kk_) ?_
  obtain ⟨cq101, kq101, qa101, qb101, qc101⟩ := isOf hZ e0 I0
  obtain ⟨v101, _, ⟨T101, L101, k101, n101⟩, -, X101, ⟨Lc101, hQ101, l101, y101, z101⟩, st101⟩ := X0.interfaceBack hx (xi := y_19) (y := y_11) hown (mvT hZ (w_ hw 32 rfl)) (mvT hZ (w_ hw 33 rfl)) (mvT hZ (w_ hw 34 rfl)) (mvT hZ (w_ hw 35 rfl)) (mvT hZ (w_ hw 36 rfl)) (mvT hZ (w_ hw 37 rfl)) (mvT hZ (w_ hw 38 rfl)) (mvT hZ (w_ hw 39 rfl)) (by decide) (backOf (W := 0) (rm_is0 l Z a0 hw [] a h0 n0 Z0 I0 I2) hZ (w_ hw 40 rfl) (w_ hw 4 rfl) (by decide) (by decide)) qa101 qb101 qc101 (g := (mkF m 1 #[.val (.ref a), .val (.int pp), .unset, .unset] [(.ref a)])) rfl (by rw [hml]; rfl) (Steps.refl _) (argsL := []) (rest := []) (lenOf pd_172 rfl) rfl (by show 2 * 0 + _ ≤ _; exact Nat.le_of_eq rfl) (hb hby d19_1) (fun _ _ => ⟨rfl, e0, (by decide : 0 + 0 ≤ _), (by decide : 0 + 0 ≤ _)⟩)
  dsimp only [Pt.U, Pt.locs, Pt.cells, Pt.slots] at X101 l101 y101 z101 st101 hQ101
  subst l101 y101 z101
  obtain ⟨rfl, Nq101, e101_⟩ := hQ101
  have N101_ := Fr.app N0 Nq101
  refine Fin.byS st101 ?_
  have e101 := e101_
  show Fin _ _ _ _ _ _ _ (T101.setTop (mkF m 6 #[.val (.ref a), .val (.int pp), .unset, .unset] [(.int 1)]))
  refine Fin.by (fun tt_ kk_ => XS.ifNo X101.here hx rfl (hb hby d19_6) rfl ((if0 _ _).trans (feq (by decide : ¬ (1 : Int32) = (0 : Int32))).1) kk_) ?_
  refine Fin.by (fun tt_ kk_ => X101.ldc2DoubleC hx hown (mvT hZ (w_ hw 43 rfl)) (g := (mkF m 9 #[.val (.ref a), .val (.int pp), .unset, .unset] [])) rfl (hb hby d19_9) _ kk_) ?_
  show Fin _ _ _ _ _ _ _ (T101.setTop (mkF m 12 #[.val (.ref a), .val (.int pp), .unset, .unset] [(.double (9221120237041090560 : UInt64))]))
  exact Fin.ret (v := some (.double (9221120237041090560 : UInt64))) X101 (fun h => by rw [Bd.returns] at h; cases h) Bd.notSynchronized (by rw [e101]; exact ⟨rfl, N101_, rfl⟩) (by decide) (by decide) (fun fs hr => retD X101 hx Bd.returns (hb hby d19_12) hr)
abbrev y_21 : MethodName := (⟨"java/util/List", "size", "()I"⟩ : MethodName)
abbrev y_22 : MethodName := (⟨"java/util/List", "get", "(I)Ljava/lang/Object;"⟩ : MethodName)
theorem d19_13 : decode prog_1_method_3_code 13 = .ok (.iload_n 1, 1) := by decide +kernel
theorem d19_14 : decode prog_1_method_3_code 14 = .ok (.i2l, 1) := by decide +kernel
theorem d19_15 : decode prog_1_method_3_code 15 = .ok (.aload_n 0, 1) := by decide +kernel
theorem pd_181 : parseMethodDescriptor "()I" = some ⟨[], some .int⟩ := by decide +kernel
theorem d19_16 : decode prog_1_method_3_code 16 = .ok (.invokeinterface 48 1, 5) := by decide +kernel
theorem d19_21 : decode prog_1_method_3_code 21 = .ok (.i2l, 1) := by decide +kernel
theorem d19_22 : decode prog_1_method_3_code 22 = .ok (.lmul, 1) := by decide +kernel
theorem d19_23 : decode prog_1_method_3_code 23 = .ok (.ldc2_w 64, 3) := by decide +kernel
theorem d19_26 : decode prog_1_method_3_code 26 = .ok (.ladd, 1) := by decide +kernel
theorem d19_27 : decode prog_1_method_3_code 27 = .ok (.ldc2_w 66, 3) := by decide +kernel
theorem d19_30 : decode prog_1_method_3_code 30 = .ok (.ldiv, 1) := by decide +kernel
theorem d19_31 : decode prog_1_method_3_code 31 = .ok (.lstore_n 2, 1) := by decide +kernel
theorem d19_32 : decode prog_1_method_3_code 32 = .ok (.aload_n 0, 1) := by decide +kernel
theorem d19_33 : decode prog_1_method_3_code 33 = .ok (.lload_n 2, 1) := by decide +kernel
theorem d19_34 : decode prog_1_method_3_code 34 = .ok (.lconst 1, 1) := by decide +kernel
theorem pd_193 : parseMethodDescriptor "(JJ)J" = some ⟨[.long, .long], some .long⟩ := by decide +kernel
theorem d19_35 : decode prog_1_method_3_code 35 = .ok (.invokestatic 68, 3) := by decide +kernel
theorem d19_38 : decode prog_1_method_3_code 38 = .ok (.l2i, 1) := by decide +kernel
theorem d19_39 : decode prog_1_method_3_code 39 = .ok (.iconst 1, 1) := by decide +kernel
theorem d19_40 : decode prog_1_method_3_code 40 = .ok (.isub, 1) := by decide +kernel
theorem d19_41 : decode prog_1_method_3_code 41 = .ok (.invokeinterface 57 2, 5) := by decide +kernel
theorem d19_46 : decode prog_1_method_3_code 46 = .ok (.checkcast 74, 3) := by decide +kernel
theorem pd_200 : parseMethodDescriptor "()J" = some ⟨[], some .long⟩ := by decide +kernel
theorem d19_49 : decode prog_1_method_3_code 49 = .ok (.invokevirtual 76, 3) := by decide +kernel
theorem d19_52 : decode prog_1_method_3_code 52 = .ok (.l2d, 1) := by decide +kernel
theorem d19_53 : decode prog_1_method_3_code 53 = .ok (.dreturn, 1) := by decide +kernel
def Q_per1 (Z : State) (a : Addr) (j : Int32) (ed : Addr) (kE : ClassId) (vs : List Value) (y : Addr) (n : Int32) (pp : Int32) (x : Int64) (h0 : Heap) (n0 : Nat) (vv_ : Option Value) (hh_ : Heap) (LL_ : List Loc) : Prop := vv_ = some (.double (FP.l2d x)) ∧ Fr n0 LL_ ∧ hh_ = h0
set_option maxRecDepth 65536 in
set_option maxHeartbeats 40000000 in
theorem rm_per1 (l : Launch) (Z : State) (a0 : Array Value) (hw : ∀ d ∈ tables_1, d.before a0 Z = true) (ws : List Jvm.Cond) (a : Addr) (j : Int32) (ed : Addr) (kE : ClassId) (vs : List Value) (y : Addr) (n : Int32) (pp : Int32) (x : Int64) (h0 : Heap) (n0 : Nat) (Z0 : n0 ≤ h0.size) (hn0 : ¬ n = 0) (hidx : own_idx (pp.toInt64 * n.toInt64) = j) (hjn : j < n) (hj0 : ¬ j < 0) (hjt : j < 10) (hat : vs.getD j.toNatClampNeg .null = .ref y) (I0 : Exa Z h0 a "java/util/ArrayList") (I1 : Fld Z h0 a "java/util/ArrayList" "elementData" "[Ljava/lang/Object;" (.ref ed)) (Ae : Arv Z h0 ed kE (.object "java/lang/Object") (10 : Int32) vs .null) (I2 : Fld Z h0 a "java/util/ArrayList" "size" "I" (.int n)) (Y0 : Exa Z h0 y "java/lang/Long") (Y1 : Fld Z h0 y "java/lang/Long" "value" "J" (.long x)) :
    MetFree l y_20 (head1 (Jvm.Cond.code y_20 prog_1_method_3_code 4 (some .double) :: ws) ({ frames := 3, cells := 0, slots := 0, locals := 40 } : Room)) (fun aa_ U => aa_ = #[(.ref a), (.int pp)] ∧ Z.Warmed39 U.vm ∧ U.heap = h0) (fun _ _ _ _ _ => True) (fun _ U o U' => ∃ vv_ LL_, o = .returned vv_ ∧ Q_per1 Z a j ed kE vs y n pp x h0 n0 vv_ U'.heap LL_ ∧ FrameEnd U o U' LL_ 0 0) := by
  refine MetFree.of_bodySF (plainFor_of_name pn_com_example_ermine_ermine_bench_Figures) hisR ?_
  intro p e s m args below meth c s₁ Bd hml0 hP hK
  obtain ⟨rfl, hZ, hh⟩ := hP
  have hx := Bd.exec
  have hby := Bd.bytes
  have hml : c.maxLocals = 4 := hml0
  have hown : s.vm.findClass "com/example/ermine/ermine/bench/Figures" = some m.cls := findClass_of_methodNamed Bd.named
  have hnm := (name_of_methodNamed Bd.named Bd.method).1
  have X0 : Stand p l e ({ frames := 3, cells := 0, slots := 0, locals := 40 } : Room) s m #[(.ref a), (.int pp)] below meth c s₁ [] 0 0 := Stand.of_body Bd
  have e0 : s₁.heap = h0 := by rw [← hh, Bd.state]; rfl
  have N0 := Fr.nil n0
  have ef : entryFrame m #[(.ref a), (.int pp)] 4 = mkF m 0 #[.val (.ref a), .val (.int pp), .unset, .unset] [] := by first | (simp [entryFrame, mkF, argsToLocals, Value.category]; done) | rfl
  refine Fin.start (Q := Q_per1 Z a j ed kE vs y n pp x h0 n0) ef ?_
  refine Fin.by (fun tt_ kk_ => XS.aloadN X0.here hx rfl (hb hby d19_0) rfl rfl kk_) ?_
  obtain ⟨cq101, kq101, qa101, qb101, qc101⟩ := isOf hZ e0 I0
  obtain ⟨v101, _, ⟨T101, L101, k101, n101⟩, -, X101, ⟨Lc101, hQ101, l101, y101, z101⟩, st101⟩ := X0.interfaceBack hx (xi := y_19) (y := y_11) hown (mvT hZ (w_ hw 32 rfl)) (mvT hZ (w_ hw 33 rfl)) (mvT hZ (w_ hw 34 rfl)) (mvT hZ (w_ hw 35 rfl)) (mvT hZ (w_ hw 36 rfl)) (mvT hZ (w_ hw 37 rfl)) (mvT hZ (w_ hw 38 rfl)) (mvT hZ (w_ hw 39 rfl)) (by decide) (backOf (W := 0) (rm_is1 l Z a0 hw [] a n h0 n0 Z0 hn0 I0 I2) hZ (w_ hw 40 rfl) (w_ hw 4 rfl) (by decide) (by decide)) qa101 qb101 qc101 (g := (mkF m 1 #[.val (.ref a), .val (.int pp), .unset, .unset] [(.ref a)])) rfl (by rw [hml]; rfl) (Steps.refl _) (argsL := []) (rest := []) (lenOf pd_172 rfl) rfl (by show 2 * 0 + _ ≤ _; exact Nat.le_of_eq rfl) (hb hby d19_1) (fun _ _ => ⟨rfl, e0, (by decide : 0 + 0 ≤ _), (by decide : 0 + 0 ≤ _)⟩)
  dsimp only [Pt.U, Pt.locs, Pt.cells, Pt.slots] at X101 l101 y101 z101 st101 hQ101
  subst l101 y101 z101
  obtain ⟨rfl, Nq101, e101_⟩ := hQ101
  have N101_ := Fr.app N0 Nq101
  refine Fin.byS st101 ?_
  have e101 := e101_
  show Fin _ _ _ _ _ _ _ (T101.setTop (mkF m 6 #[.val (.ref a), .val (.int pp), .unset, .unset] [(.int 0)]))
  refine Fin.by (fun tt_ kk_ => XS.ifYes X101.here hx rfl (pc0 := 6) (pc' := 13) rfl (hb hby d19_6) rfl ((if0 _ _).trans (teq (rfl : (0 : Int32) = (0 : Int32))).1) (by decide) (by decide) kk_) ?_
  refine Fin.by (fun tt_ kk_ => XS.iloadN X101.here hx rfl (hb hby d19_13) rfl (XS.i2l X101.here hx rfl (hb hby d19_14) rfl (XS.aloadN X101.here hx rfl (hb hby d19_15) rfl rfl kk_))) ?_
  obtain ⟨cq102, kq102, qa102, qb102, qc102⟩ := isOf hZ e101 I0
  obtain ⟨v102, _, ⟨T102, L102, k102, n102⟩, -, X102, ⟨Lc102, hQ102, l102, y102, z102⟩, st102⟩ := X101.interfaceBack hx (xi := y_21) (y := y_12) hown (mvT hZ (w_ hw 96 rfl)) (mvT hZ (w_ hw 97 rfl)) (mvT hZ (w_ hw 98 rfl)) (mvT hZ (w_ hw 99 rfl)) (mvT hZ (w_ hw 100 rfl)) (mvT hZ (w_ hw 101 rfl)) (mvT hZ (w_ hw 102 rfl)) (mvT hZ (w_ hw 39 rfl)) (by decide) (backOf (W := 2) (rm_siz l Z a0 hw [] a n h0 n0 Z0 I0 I2) hZ (w_ hw 103 rfl) (w_ hw 4 rfl) (by decide) (by decide)) qa102 qb102 qc102 (g := (mkF m 16 #[.val (.ref a), .val (.int pp), .unset, .unset] [(.ref a), (.long (pp.toInt64))])) rfl (by rw [hml]; rfl) (Steps.refl _) (argsL := []) (rest := [(.long (pp.toInt64))]) (lenOf pd_181 rfl) rfl (by show 2 * 0 + _ ≤ _; exact Nat.le_of_eq rfl) (hb hby d19_16) (fun _ _ => ⟨rfl, e101, (by decide : 0 + 0 ≤ _), (by decide : 0 + 0 ≤ _)⟩)
  dsimp only [Pt.U, Pt.locs, Pt.cells, Pt.slots] at X102 l102 y102 z102 st102 hQ102
  subst l102 y102 z102
  obtain ⟨rfl, Nq102, e102_⟩ := hQ102
  have N102_ := Fr.app N101_ Nq102
  refine Fin.byS st102 ?_
  have e102 := e102_
  refine Fin.by (fun tt_ kk_ => XS.i2l X102.here hx rfl (hb hby d19_21) rfl (XS.lmul X102.here hx rfl (hb hby d19_22) rfl kk_)) ?_
  refine Fin.by (fun tt_ kk_ => X102.ldc2Long hx hown (mvT hZ (w_ hw 104 rfl)) (g := (mkF m 23 #[.val (.ref a), .val (.int pp), .unset, .unset] [(.long ((pp.toInt64) * (n.toInt64)))])) rfl (hb hby d19_23) _ kk_) ?_
  refine Fin.by (fun tt_ kk_ => XS.ladd X102.here hx rfl (hb hby d19_26) rfl kk_) ?_
  refine Fin.by (fun tt_ kk_ => X102.ldc2Long hx hown (mvT hZ (w_ hw 105 rfl)) (g := (mkF m 27 #[.val (.ref a), .val (.int pp), .unset, .unset] [(.long (((pp.toInt64) * (n.toInt64)) + (99 : Int64)))])) rfl (hb hby d19_27) _ kk_) ?_
  refine Fin.by (fun tt_ kk_ => XS.ldiv X102.here hx rfl (hb hby d19_30) rfl (by decide) (XS.lstoreN X102.here hx rfl (hb hby d19_31) rfl (l' := #[.val (.ref a), .val (.int pp), .val (.long ((((pp.toInt64) * (n.toInt64)) + (99 : Int64)) / (100 : Int64))), .second]) rfl (XS.aloadN X102.here hx rfl (hb hby d19_32) rfl rfl (XS.lloadN X102.here hx rfl (hb hby d19_33) rfl (XS.lconst X102.here hx rfl (hb hby d19_34) kk_))))) ?_
  obtain ⟨v103, _, ⟨T103, L103, k103, n103⟩, -, X103, ⟨Lc103, hQ103, l103, y103, z103⟩, st103⟩ := Jvm.LawKit.callS X102 hx (y := y_13) hown (mvT hZ (w_ hw 106 rfl)) (mvT hZ (w_ hw 107 rfl)) (mvT hZ (w_ hw 76 rfl)) (mvT hZ (w_ hw 108 rfl)) (by decide) (backOf (W := 1) (rm_mj l Z a0 hw [] ((((pp.toInt64) * (n.toInt64)) + (99 : Int64)) / (100 : Int64)) (1 : Int64) h0 n0 Z0 ) hZ (w_ hw 108 rfl) (w_ hw 76 rfl) (by decide) (by decide)) (g := (mkF m 35 #[.val (.ref a), .val (.int pp), .val (.long ((((pp.toInt64) * (n.toInt64)) + (99 : Int64)) / (100 : Int64))), .second] [(.long (1 : Int64)), (.long ((((pp.toInt64) * (n.toInt64)) + (99 : Int64)) / (100 : Int64))), (.ref a)])) rfl (by rw [hml]; rfl) (argsL := [(.long ((((pp.toInt64) * (n.toInt64)) + (99 : Int64)) / (100 : Int64))), (.long (1 : Int64))]) (rest := [(.ref a)]) (lenOf pd_193 rfl) rfl (by show 2 * 0 + _ ≤ _; exact Nat.le_of_eq rfl) (hb hby d19_35) (fun _ _ => ⟨rfl, e102, (by decide : 0 + 0 ≤ _), (by decide : 0 + 0 ≤ _)⟩)
  dsimp only [Pt.U, Pt.locs, Pt.cells, Pt.slots] at X103 l103 y103 z103 st103 hQ103
  subst l103 y103 z103
  obtain ⟨rfl, Nq103, e103_⟩ := hQ103
  have N103_ := Fr.app N102_ Nq103
  refine Fin.by (fun tt_ kk_ => st103 tt_ kk_) ?_
  have e103 := e103_
  refine Fin.by (fun tt_ kk_ => XS.l2i X103.here hx rfl (hb hby d19_38) rfl (XS.iconst X103.here hx rfl (hb hby d19_39) (XS.isub X103.here hx rfl (hb hby d19_40) rfl kk_))) ?_
  have hJ : (((own_max ((((pp.toInt64) * (n.toInt64)) + (99 : Int64)) / (100 : Int64)) (1 : Int64)).toInt32) - (1 : Int32)) = j := hidx
  obtain ⟨cq104, kq104, qa104, qb104, qc104⟩ := isOf hZ e103 I0
  obtain ⟨v104, _, ⟨T104, L104, k104, n104⟩, -, X104, ⟨Lc104, hQ104, l104, y104, z104⟩, st104⟩ := X103.interfaceBack hx (xi := y_22) (y := y_17) hown (mvT hZ (w_ hw 109 rfl)) (mvT hZ (w_ hw 110 rfl)) (mvT hZ (w_ hw 111 rfl)) (mvT hZ (w_ hw 112 rfl)) (mvT hZ (w_ hw 113 rfl)) (mvT hZ (w_ hw 114 rfl)) (mvT hZ (w_ hw 115 rfl)) (mvT hZ (w_ hw 39 rfl)) (by decide) (backOf (W := 0) (rm_get l Z a0 hw [] a (((own_max ((((pp.toInt64) * (n.toInt64)) + (99 : Int64)) / (100 : Int64)) (1 : Int64)).toInt32) - (1 : Int32)) ed kE (vs : List Value) y n h0 n0 Z0 (by rw [hJ]; exact hjn) (by rw [hJ]; exact hj0) (by rw [hJ]; exact hjt) (by rw [hJ]; exact hat) I0 I1 Ae I2) hZ (w_ hw 116 rfl) (w_ hw 4 rfl) (by decide) (by decide)) qa104 qb104 qc104 (g := (mkF m 41 #[.val (.ref a), .val (.int pp), .val (.long ((((pp.toInt64) * (n.toInt64)) + (99 : Int64)) / (100 : Int64))), .second] [(.int (((own_max ((((pp.toInt64) * (n.toInt64)) + (99 : Int64)) / (100 : Int64)) (1 : Int64)).toInt32) - 1)), (.ref a)])) rfl (by rw [hml]; rfl) (Steps.refl _) (argsL := [(.int (((own_max ((((pp.toInt64) * (n.toInt64)) + (99 : Int64)) / (100 : Int64)) (1 : Int64)).toInt32) - 1))]) (rest := []) (lenOf pd_165 rfl) rfl (by show 2 * 0 + _ ≤ _; exact Nat.le_of_eq rfl) (hb hby d19_41) (fun _ _ => ⟨rfl, e103, (by decide : 0 + 0 ≤ _), (by decide : 0 + 0 ≤ _)⟩)
  dsimp only [Pt.U, Pt.locs, Pt.cells, Pt.slots] at X104 l104 y104 z104 st104 hQ104
  subst l104 y104 z104
  obtain ⟨rfl, Nq104, e104_⟩ := hQ104
  have N104_ := Fr.app N103_ Nq104
  refine Fin.byS st104 ?_
  have e104 := e104_
  obtain ⟨T105, X105, e105, st105⟩ := castY X104 hx hZ hown (w_ hw 130 rfl) e104 (Ins.self Y0) (g := (mkF m 46 #[.val (.ref a), .val (.int pp), .val (.long ((((pp.toInt64) * (n.toInt64)) + (99 : Int64)) / (100 : Int64))), .second] [(.ref y)])) rfl rfl (hb hby d19_46)
  refine Fin.by (fun tt_ kk_ => st105 tt_ kk_) ?_
  obtain ⟨cq106, kq106, qa106, qb106, qc106⟩ := isOf hZ e105 Y0
  obtain ⟨v106, _, ⟨T106, L106, k106, n106⟩, -, X106, ⟨Lc106, hQ106, l106, y106, z106⟩, st106⟩ := X105.virtualBack hx (y := y_18) (z := y_18) hown (mvT hZ (w_ hw 131 rfl)) (mvT hZ (w_ hw 132 rfl)) (notFace_of_selects (args := #[]) (mvT hZ (w_ hw 134 rfl))) (mvT hZ (w_ hw 134 rfl)) (mvT hZ (w_ hw 133 rfl)) (by decide) (backOf (W := 0) (rm_lva l Z a0 hw [] y x h0 n0 Z0 Y0 Y1) hZ (w_ hw 135 rfl) (w_ hw 46 rfl) (by decide) (by decide)) qa106 qc106 (g := (mkF m 49 #[.val (.ref a), .val (.int pp), .val (.long ((((pp.toInt64) * (n.toInt64)) + (99 : Int64)) / (100 : Int64))), .second] [(.ref y)])) rfl (by rw [hml]; rfl) (Steps.refl _) (argsL := []) (rest := []) (lenOf pd_200 rfl) rfl (by show 2 * 0 + _ ≤ _; exact Nat.le_of_eq rfl) (hb hby d19_49) (fun _ _ => ⟨rfl, e105, (by decide : 0 + 0 ≤ _), (by decide : 0 + 0 ≤ _)⟩)
  dsimp only [Pt.U, Pt.locs, Pt.cells, Pt.slots] at X106 l106 y106 z106 st106 hQ106
  subst l106 y106 z106
  obtain ⟨rfl, Nq106, e106_⟩ := hQ106
  have N106_ := Fr.app N104_ Nq106
  refine Fin.byS st106 ?_
  have e106 := e106_
  refine Fin.by (fun tt_ kk_ => XS.l2dS X106.here hx rfl (hb hby d19_52) rfl rfl kk_) ?_
  show Fin _ _ _ _ _ _ _ (T106.setTop (mkF m 53 #[.val (.ref a), .val (.int pp), .val (.long ((((pp.toInt64) * (n.toInt64)) + (99 : Int64)) / (100 : Int64))), .second] [(.double (FP.l2d x))]))
  exact Fin.ret (v := some (.double (FP.l2d x))) X106 (fun h => by rw [Bd.returns] at h; cases h) Bd.notSynchronized (by rw [e106]; exact ⟨rfl, N106_, rfl⟩) (by decide) (by decide) (fun fs hr => retD X106 hx Bd.returns (hb hby d19_53) hr)
theorem pd_204 : parseMethodDescriptor "(Ljava/util/List;I)D" = some ⟨[(.object "java/util/List"), .int], some .double⟩ := by decide +kernel
theorem pd_205 : parseMethodDescriptor "(J)Ljava/lang/Long;" = some ⟨[.long], some (.object "java/lang/Long")⟩ := by decide +kernel
theorem pd_206 : parseMethodDescriptor "(Ljava/lang/Object;)Z" = some ⟨[(.object "java/lang/Object")], some .boolean⟩ := by decide +kernel
theorem pn_com_example_ermine_ermine_bench_FiguresPercentilePinLaw : plainName "com/example/ermine/ermine/bench/FiguresPercentilePinLaw" = true := by first | (simp [plainName, overriddenIn]; done) | decide +kernel
def Q_law (Z : State) (sz : Int32) (pc_ : Int32) (v1 : Int64) (v2 : Int64) (v3 : Int64) (v4 : Int64) (aD : Addr) (kD : ClassId) (aC : Addr) (kC : ClassId) (vC : List Value) (h0 : Heap) (n0 : Nat) (vv_ : Option Value) (hh_ : Heap) (LL_ : List Loc) : Prop := vv_ = some (.int (1 : Int32)) ∧ Fr n0 LL_
set_option maxRecDepth 65536 in
set_option maxHeartbeats 40000000 in
theorem rm_law (l : Launch) (Z : State) (a0 : Array Value) (hw : ∀ d ∈ tables_1, d.before a0 Z = true) (ws : List Jvm.Cond) (sz : Int32) (pc_ : Int32) (v1 : Int64) (v2 : Int64) (v3 : Int64) (v4 : Int64) (aD : Addr) (kD : ClassId) (aC : Addr) (kC : ClassId) (vC : List Value) (h0 : Heap) (n0 : Nat) (Z0 : n0 ≤ h0.size) (S2 : Sta Z Z.heap "java/util/ArrayList" "DEFAULTCAPACITY_EMPTY_ELEMENTDATA" "[Ljava/lang/Object;" (.ref aD)) (VD : Arv Z Z.heap aD kD (.object "java/lang/Object") (0 : Int32) [] .null) (S5 : Sta Z Z.heap "java/lang/Long$LongCache" "cache" "[Ljava/lang/Long;" (.ref aC)) (VC : Arv Z Z.heap aC kC (.object "java/lang/Long") (256 : Int32) vC .null) (HC : own_HC Z vC) (OL : Old Z n0 h0) :
    MetFree l x (head1 (Jvm.Cond.code x code maxLocals ret :: ws) room_1) (fun aa_ U => aa_ = #[(.int sz), (.int pc_), (.long v1), (.long v2), (.long v3), (.long v4)] ∧ Z.Warmed39 U.vm ∧ U.heap = h0) (fun _ _ _ _ _ => True) (fun _ U o U' => ∃ vv_ LL_, o = .returned vv_ ∧ Q_law Z sz pc_ v1 v2 v3 v4 aD kD aC kC vC h0 n0 vv_ U'.heap LL_ ∧ FrameEnd U o U' LL_ 24 128) := by
  refine MetFree.of_bodySF (plainFor_of_name pn_com_example_ermine_ermine_bench_FiguresPercentilePinLaw) hisR ?_
  intro p e s m args below meth c s₁ Bd hml0 hP hK
  obtain ⟨rfl, hZ, hh⟩ := hP
  have hx := Bd.exec
  have hby := Bd.bytes
  have hml : c.maxLocals = 29 := hml0
  have hown : s.vm.findClass "com/example/ermine/ermine/bench/FiguresPercentilePinLaw" = some m.cls := findClass_of_methodNamed Bd.named
  have hnm := (name_of_methodNamed Bd.named Bd.method).1
  have X0 : Stand p l e room_1 s m #[(.int sz), (.int pc_), (.long v1), (.long v2), (.long v3), (.long v4)] below meth c s₁ [] 0 0 := Stand.of_body Bd
  have e0 : s₁.heap = h0 := by rw [← hh, Bd.state]; rfl
  have N0 := Fr.nil n0
  have ef : entryFrame m #[(.int sz), (.int pc_), (.long v1), (.long v2), (.long v3), (.long v4)] maxLocals = mkF m 0 #[.val (.int sz), .val (.int pc_), .val (.long v1), .second, .val (.long v2), .second, .val (.long v3), .second, .val (.long v4), .second, .unset, .unset, .unset, .unset, .unset, .unset, .unset, .unset, .unset, .unset, .unset, .unset, .unset, .unset, .unset, .unset, .unset, .unset, .unset] [] := by first | (simp [entryFrame, mkF, argsToLocals, Value.category, maxLocals]; done) | rfl
  refine Fin.start (Q := Q_law Z sz pc_ v1 v2 v3 v4 aD kD aC kC vC h0 n0) ef ?_
  refine Fin.by (fun tt_ kk_ => XS.iloadN X0.here hx rfl (hb hby at_0) rfl kk_) ?_
  refine Fin.by (fun tt_ kk_ => X0.ldcInt hx hown (mvT hZ (w_ hw 0 rfl)) (g := (mkF m 1 #[.val (.int sz), .val (.int pc_), .val (.long v1), .second, .val (.long v2), .second, .val (.long v3), .second, .val (.long v4), .second, .unset, .unset, .unset, .unset, .unset, .unset, .unset, .unset, .unset, .unset, .unset, .unset, .unset, .unset, .unset, .unset, .unset, .unset, .unset] [(.int sz)])) rfl (hb hby at_1) _ kk_) ?_
  refine Fin.by (fun tt_ kk_ => XS.iand X0.here hx rfl (hb hby at_3) rfl (XS.iconst X0.here hx rfl (hb hby at_4) (iremM X0 hx rfl (hb hby at_5) rfl (by decide) (XS.istore X0.here hx rfl (hb hby at_6) rfl (l' := #[.val (.int sz), .val (.int pc_), .val (.long v1), .second, .val (.long v2), .second, .val (.long v3), .second, .val (.long v4), .second, .val (.int ((sz &&& 2147483647) % 5)), .unset, .unset, .unset, .unset, .unset, .unset, .unset, .unset, .unset, .unset, .unset, .unset, .unset, .unset, .unset, .unset, .unset, .unset]) rfl kk_)))) ?_
  have Jn : ∀ (n : Int32), (n = 0 ∨ n = 1 ∨ n = 2 ∨ n = 3 ∨ n = 4) → Fin p e below s (Q_law Z sz pc_ v1 v2 v3 v4 aD kD aC kC vC h0 n0) 24 128 (s₁.setTop (mkF m 8 #[.val (.int sz), .val (.int pc_), .val (.long v1), .second, .val (.long v2), .second, .val (.long v3), .second, .val (.long v4), .second, .val (.int n), .unset, .unset, .unset, .unset, .unset, .unset, .unset, .unset, .unset, .unset, .unset, .unset, .unset, .unset, .unset, .unset, .unset, .unset] [])) := by
    intro n hn
    refine Fin.by (fun tt_ kk_ => XS.iloadN X0.here hx rfl (hb hby at_8) rfl (XS.bipush X0.here hx rfl (hb hby at_9) kk_)) ?_
    have Jp : ∀ (pp : Int32), (pp.toInt ≤ 100) → Fin p e below s (Q_law Z sz pc_ v1 v2 v3 v4 aD kD aC kC vC h0 n0) 24 128 (s₁.setTop (mkF m 24 #[.val (.int sz), .val (.int pc_), .val (.long v1), .second, .val (.long v2), .second, .val (.long v3), .second, .val (.long v4), .second, .val (.int n), .val (.int pp), .unset, .unset, .unset, .unset, .unset, .unset, .unset, .unset, .unset, .unset, .unset, .unset, .unset, .unset, .unset, .unset, .unset] [])) := by
      intro pp hp
      refine Fin.by (fun tt_ kk_ => X0.ldc2Long hx hown (mvT hZ (w_ hw 1 rfl)) (g := (mkF m 24 #[.val (.int sz), .val (.int pc_), .val (.long v1), .second, .val (.long v2), .second, .val (.long v3), .second, .val (.long v4), .second, .val (.int n), .val (.int pp), .unset, .unset, .unset, .unset, .unset, .unset, .unset, .unset, .unset, .unset, .unset, .unset, .unset, .unset, .unset, .unset, .unset] [])) rfl (hb hby at_24) _ kk_) ?_
      refine Fin.by (fun tt_ kk_ => XS.lstore X0.here hx rfl (hb hby at_27) rfl (l' := #[.val (.int sz), .val (.int pc_), .val (.long v1), .second, .val (.long v2), .second, .val (.long v3), .second, .val (.long v4), .second, .val (.int n), .val (.int pp), .val (.long (1152921504606846975 : Int64)), .second, .unset, .unset, .unset, .unset, .unset, .unset, .unset, .unset, .unset, .unset, .unset, .unset, .unset, .unset, .unset]) rfl (XS.lloadN X0.here hx rfl (hb hby at_29) rfl (XS.iconst X0.here hx rfl (hb hby at_30) (XS.lshr X0.here hx rfl (hb hby at_31) rfl (XS.lstore X0.here hx rfl (hb hby at_32) rfl (l' := #[.val (.int sz), .val (.int pc_), .val (.long v1), .second, .val (.long v2), .second, .val (.long v3), .second, .val (.long v4), .second, .val (.int n), .val (.int pp), .val (.long (1152921504606846975 : Int64)), .second, .val (.long (v1 >>> ((2 : Int32) &&& 63).toInt64)), .second, .unset, .unset, .unset, .unset, .unset, .unset, .unset, .unset, .unset, .unset, .unset, .unset, .unset]) rfl (XS.lload X0.here hx rfl (hb hby at_34) rfl (XS.lload X0.here hx rfl (hb hby at_36) rfl (XS.lload X0.here hx rfl (hb hby at_38) rfl (XS.land X0.here hx rfl (hb hby at_40) rfl (XS.ladd X0.here hx rfl (hb hby at_41) rfl (XS.lstore X0.here hx rfl (hb hby at_42) rfl (l' := #[.val (.int sz), .val (.int pc_), .val (.long v1), .second, .val (.long v2), .second, .val (.long v3), .second, .val (.long v4), .second, .val (.int n), .val (.int pp), .val (.long (1152921504606846975 : Int64)), .second, .val (.long (v1 >>> ((2 : Int32) &&& 63).toInt64)), .second, .val (.long ((v1 >>> ((2 : Int32) &&& 63).toInt64) + (v2 &&& (1152921504606846975 : Int64)))), .second, .unset, .unset, .unset, .unset, .unset, .unset, .unset, .unset, .unset, .unset, .unset]) rfl (XS.lload X0.here hx rfl (hb hby at_44) rfl kk_)))))))))))) ?_
      show Fin _ _ _ _ _ _ _ (s₁.setTop (mkF m 46 #[.val (.int sz), .val (.int pc_), .val (.long v1), .second, .val (.long v2), .second, .val (.long v3), .second, .val (.long v4), .second, .val (.int n), .val (.int pp), .val (.long (1152921504606846975 : Int64)), .second, .val (.long (v1 >>> ((2 : Int32) &&& 63).toInt64)), .second, .val (.long ((v1 >>> ((2 : Int32) &&& 63).toInt64) + (v2 &&& (1152921504606846975 : Int64)))), .second, .unset, .unset, .unset, .unset, .unset, .unset, .unset, .unset, .unset, .unset, .unset] [(.long ((v1 >>> ((2 : Int32) &&& 63).toInt64) + (v2 &&& (1152921504606846975 : Int64))))]))
      refine Fin.by (fun tt_ kk_ => XS.lload X0.here hx rfl (hb hby at_46) rfl (XS.lload X0.here hx rfl (hb hby at_48) rfl (XS.land X0.here hx rfl (hb hby at_50) rfl (XS.ladd X0.here hx rfl (hb hby at_51) rfl (XS.lstore X0.here hx rfl (hb hby at_52) rfl (l' := #[.val (.int sz), .val (.int pc_), .val (.long v1), .second, .val (.long v2), .second, .val (.long v3), .second, .val (.long v4), .second, .val (.int n), .val (.int pp), .val (.long (1152921504606846975 : Int64)), .second, .val (.long (v1 >>> ((2 : Int32) &&& 63).toInt64)), .second, .val (.long ((v1 >>> ((2 : Int32) &&& 63).toInt64) + (v2 &&& (1152921504606846975 : Int64)))), .second, .val (.long (((v1 >>> ((2 : Int32) &&& 63).toInt64) + (v2 &&& (1152921504606846975 : Int64))) + (v3 &&& (1152921504606846975 : Int64)))), .second, .unset, .unset, .unset, .unset, .unset, .unset, .unset, .unset, .unset]) rfl (XS.lload X0.here hx rfl (hb hby at_54) rfl (XS.lload X0.here hx rfl (hb hby at_56) rfl (XS.lload X0.here hx rfl (hb hby at_58) rfl (XS.land X0.here hx rfl (hb hby at_60) rfl (XS.ladd X0.here hx rfl (hb hby at_61) rfl (XS.lstore X0.here hx rfl (hb hby at_62) rfl (l' := #[.val (.int sz), .val (.int pc_), .val (.long v1), .second, .val (.long v2), .second, .val (.long v3), .second, .val (.long v4), .second, .val (.int n), .val (.int pp), .val (.long (1152921504606846975 : Int64)), .second, .val (.long (v1 >>> ((2 : Int32) &&& 63).toInt64)), .second, .val (.long ((v1 >>> ((2 : Int32) &&& 63).toInt64) + (v2 &&& (1152921504606846975 : Int64)))), .second, .val (.long (((v1 >>> ((2 : Int32) &&& 63).toInt64) + (v2 &&& (1152921504606846975 : Int64))) + (v3 &&& (1152921504606846975 : Int64)))), .second, .val (.long ((((v1 >>> ((2 : Int32) &&& 63).toInt64) + (v2 &&& (1152921504606846975 : Int64))) + (v3 &&& (1152921504606846975 : Int64))) + (v4 &&& (1152921504606846975 : Int64)))), .second, .unset, .unset, .unset, .unset, .unset, .unset, .unset]) rfl kk_))))))))))) ?_
      have Je : ∀ (el0 : Int64) (el1 : Int64) (el2 : Int64) (el3 : Int64), Fin p e below s (Q_law Z sz pc_ v1 v2 v3 v4 aD kD aC kC vC h0 n0) 24 128 (s₁.setTop (mkF m 64 #[.val (.int sz), .val (.int pc_), .val (.long v1), .second, .val (.long v2), .second, .val (.long v3), .second, .val (.long v4), .second, .val (.int n), .val (.int pp), .val (.long (1152921504606846975 : Int64)), .second, .val (.long el0), .second, .val (.long el1), .second, .val (.long el2), .second, .val (.long el3), .second, .unset, .unset, .unset, .unset, .unset, .unset, .unset] [])) := by
        intro el0 el1 el2 el3
        obtain ⟨T101, h101, X101, e101, E101, A101, D101, -, st101⟩ := newO X0 hx hZ hown (w_ hw 2 rfl) (w_ hw 3 rfl) (w_ hw 4 rfl) e0 (g := (mkF m 64 #[.val (.int sz), .val (.int pc_), .val (.long v1), .second, .val (.long v2), .second, .val (.long v3), .second, .val (.long v4), .second, .val (.int n), .val (.int pp), .val (.long (1152921504606846975 : Int64)), .second, .val (.long el0), .second, .val (.long el1), .second, .val (.long el2), .second, .val (.long el3), .second, .unset, .unset, .unset, .unset, .unset, .unset, .unset] [])) rfl (hb hby at_64) (by decide) (by decide)
        obtain ⟨a101, g101⟩ : ∃ z, z = h0.size := ⟨_, rfl⟩
        rw [← g101] at A101 D101 st101
        refine Fin.by (fun tt_ kk_ => st101 tt_ kk_) ?_
        refine Fin.by (fun tt_ kk_ => XS.dup X101.here hx rfl (hb hby at_67) rfl rfl kk_) ?_
        have g102 : n0 ≤ a101 := Nat.le_trans Z0 (Nat.le_of_eq g101.symm)
        have O103 : Old Z n0 h101 := (OL.ext E101)
        have z104 : n0 ≤ h101.size := Nat.le_trans Z0 E101.1
        obtain ⟨v105, _, ⟨T105, L105, k105, n105⟩, -, X105, ⟨Lc105, hQ105, l105, y105, z105⟩, st105⟩ := X101.specialBack hx (y := y_5) rfl hown (mvT hZ (w_ hw 5 rfl)) (mvT hZ (w_ hw 6 rfl)) (mvT hZ (w_ hw 7 rfl)) (by decide) (backOf (W := 1) (rm_ali l Z a0 hw [] a101 aD kD h101 n0 z104 A101 (D101 (Or.inl (w_ hw 27 rfl)) (ty := (.array (.object "java/lang/Object"))) (by decide) : Fld Z h101 a101 "java/util/ArrayList" "elementData" "[Ljava/lang/Object;" .null) (D101 (Or.inl (w_ hw 42 rfl)) (ty := .int) (by decide) : Fld Z h101 a101 "java/util/ArrayList" "size" "I" (.int (0 : Int32))) (D101 (Or.inl (w_ hw 24 rfl)) (ty := .int) (by decide) : Fld Z h101 a101 "java/util/AbstractList" "modCount" "I" (.int (0 : Int32))) g102 S2 VD O103) hZ (w_ hw 7 rfl) (w_ hw 4 rfl) (by decide) (by decide)) (g := (mkF m 68 #[.val (.int sz), .val (.int pc_), .val (.long v1), .second, .val (.long v2), .second, .val (.long v3), .second, .val (.long v4), .second, .val (.int n), .val (.int pp), .val (.long (1152921504606846975 : Int64)), .second, .val (.long el0), .second, .val (.long el1), .second, .val (.long el2), .second, .val (.long el3), .second, .unset, .unset, .unset, .unset, .unset, .unset, .unset] [(.ref a101), (.ref a101)])) rfl (by rw [hml]; rfl) (Steps.refl _) (a := a101) (argsL := []) (rest := [(.ref a101)]) (lenOf pd_5 rfl) rfl (by show 2 * 0 + _ ≤ _; exact Nat.le_of_eq rfl) (hb hby at_68) (fun _ _ => ⟨rfl, e101, (by decide : 1 + 0 ≤ _), (by decide : 3 + 0 ≤ _)⟩)
        dsimp only [Pt.U, Pt.locs, Pt.cells, Pt.slots] at X105 l105 y105 z105 st105 hQ105
        subst l105 y105 z105
        obtain ⟨rfl, Nq105, p105_0, p105_1, p105_2, p105_3, p105_4⟩ := hQ105
        have N105_ := Fr.app N0 Nq105
        refine Fin.byS st105 ?_
        refine Fin.by (fun tt_ kk_ => XS.astore X105.here hx rfl (hb hby at_71) rfl rfl (l' := #[.val (.int sz), .val (.int pc_), .val (.long v1), .second, .val (.long v2), .second, .val (.long v3), .second, .val (.long v4), .second, .val (.int n), .val (.int pp), .val (.long (1152921504606846975 : Int64)), .second, .val (.long el0), .second, .val (.long el1), .second, .val (.long el2), .second, .val (.long el3), .second, .val (.ref a101), .unset, .unset, .unset, .unset, .unset, .unset]) rfl (XS.iload X105.here hx rfl (hb hby at_73) rfl kk_)) ?_
        rcases hn with rfl | rfl | rfl | rfl | rfl
        · show Fin _ _ _ _ _ _ _ (T105.setTop (mkF m 75 #[.val (.int sz), .val (.int pc_), .val (.long v1), .second, .val (.long v2), .second, .val (.long v3), .second, .val (.long v4), .second, .val (.int 0), .val (.int pp), .val (.long (1152921504606846975 : Int64)), .second, .val (.long el0), .second, .val (.long el1), .second, .val (.long el2), .second, .val (.long el3), .second, .val (.ref a101), .unset, .unset, .unset, .unset, .unset, .unset] [(.int 0)]))
          refine Fin.by (fun tt_ kk_ => XS.ifYes X105.here hx rfl (pc0 := 75) (pc' := 89) rfl (hb hby at_75) rfl ((if0 _ _).trans (flt (by decide : ¬ (0 : Int32) < (0 : Int32))).2.2.2) (by decide) (by decide) kk_) ?_
          refine Fin.by (fun tt_ kk_ => XS.iload X105.here hx rfl (hb hby at_89) rfl (XS.iconst X105.here hx rfl (hb hby at_91) kk_)) ?_
          show Fin _ _ _ _ _ _ _ (T105.setTop (mkF m 92 #[.val (.int sz), .val (.int pc_), .val (.long v1), .second, .val (.long v2), .second, .val (.long v3), .second, .val (.long v4), .second, .val (.int 0), .val (.int pp), .val (.long (1152921504606846975 : Int64)), .second, .val (.long el0), .second, .val (.long el1), .second, .val (.long el2), .second, .val (.long el3), .second, .val (.ref a101), .unset, .unset, .unset, .unset, .unset, .unset] [(.int 1), (.int 0)]))
          refine Fin.by (fun tt_ kk_ => XS.icmpYes X105.here hx rfl (pc0 := 92) (pc' := 106) rfl (hb hby at_92) rfl (flt (by decide : ¬ (1 : Int32) < (0 : Int32))).2.2.2 (by decide) (by decide) kk_) ?_
          refine Fin.by (fun tt_ kk_ => XS.iload X105.here hx rfl (hb hby at_106) rfl (XS.iconst X105.here hx rfl (hb hby at_108) kk_)) ?_
          show Fin _ _ _ _ _ _ _ (T105.setTop (mkF m 109 #[.val (.int sz), .val (.int pc_), .val (.long v1), .second, .val (.long v2), .second, .val (.long v3), .second, .val (.long v4), .second, .val (.int 0), .val (.int pp), .val (.long (1152921504606846975 : Int64)), .second, .val (.long el0), .second, .val (.long el1), .second, .val (.long el2), .second, .val (.long el3), .second, .val (.ref a101), .unset, .unset, .unset, .unset, .unset, .unset] [(.int 2), (.int 0)]))
          refine Fin.by (fun tt_ kk_ => XS.icmpYes X105.here hx rfl (pc0 := 109) (pc' := 123) rfl (hb hby at_109) rfl (flt (by decide : ¬ (2 : Int32) < (0 : Int32))).2.2.2 (by decide) (by decide) kk_) ?_
          refine Fin.by (fun tt_ kk_ => XS.iload X105.here hx rfl (hb hby at_123) rfl (XS.iconst X105.here hx rfl (hb hby at_125) kk_)) ?_
          show Fin _ _ _ _ _ _ _ (T105.setTop (mkF m 126 #[.val (.int sz), .val (.int pc_), .val (.long v1), .second, .val (.long v2), .second, .val (.long v3), .second, .val (.long v4), .second, .val (.int 0), .val (.int pp), .val (.long (1152921504606846975 : Int64)), .second, .val (.long el0), .second, .val (.long el1), .second, .val (.long el2), .second, .val (.long el3), .second, .val (.ref a101), .unset, .unset, .unset, .unset, .unset, .unset] [(.int 3), (.int 0)]))
          refine Fin.by (fun tt_ kk_ => XS.icmpYes X105.here hx rfl (pc0 := 126) (pc' := 140) rfl (hb hby at_126) rfl (flt (by decide : ¬ (3 : Int32) < (0 : Int32))).2.2.2 (by decide) (by decide) kk_) ?_
          refine Fin.by (fun tt_ kk_ => XS.aload X105.here hx rfl (hb hby at_140) rfl rfl (XS.iload X105.here hx rfl (hb hby at_142) rfl kk_)) ?_
          have z106 : n0 ≤ T105.heap.size := Nat.le_trans z104 p105_0.1
          obtain ⟨v107, _, ⟨T107, L107, k107, n107⟩, -, X107, ⟨Lc107, hQ107, l107, y107, z107⟩, st107⟩ := Jvm.LawKit.callS X105 hx (y := y_20) hown (mvT hZ (w_ hw 28 rfl)) (mvT hZ (w_ hw 29 rfl)) (mvT hZ (w_ hw 30 rfl)) (mvT hZ (w_ hw 31 rfl)) (by decide) (backOf (W := 0) (rm_per0 l Z a0 hw [] a101 pp T105.heap n0 z106 p105_1 p105_3) hZ (w_ hw 31 rfl) (w_ hw 30 rfl) (by decide) (by decide)) (g := (mkF m 144 #[.val (.int sz), .val (.int pc_), .val (.long v1), .second, .val (.long v2), .second, .val (.long v3), .second, .val (.long v4), .second, .val (.int 0), .val (.int pp), .val (.long (1152921504606846975 : Int64)), .second, .val (.long el0), .second, .val (.long el1), .second, .val (.long el2), .second, .val (.long el3), .second, .val (.ref a101), .unset, .unset, .unset, .unset, .unset, .unset] [(.int pp), (.ref a101)])) rfl (by rw [hml]; rfl) (argsL := [(.ref a101), (.int pp)]) (rest := []) (lenOf pd_204 rfl) rfl (by show 2 * 0 + _ ≤ _; exact Nat.le_of_eq rfl) (hb hby at_144) (fun _ _ => ⟨rfl, rfl, (by decide : 1 + 0 ≤ _), (by decide : 3 + 0 ≤ _)⟩)
          dsimp only [Pt.U, Pt.locs, Pt.cells, Pt.slots] at X107 l107 y107 z107 st107 hQ107
          subst l107 y107 z107
          obtain ⟨rfl, Nq107, e107_⟩ := hQ107
          have N107_ := Fr.app N105_ Nq107
          refine Fin.by (fun tt_ kk_ => st107 tt_ kk_) ?_
          have e107 := e107_
          refine Fin.by (fun tt_ kk_ => XS.dstore X107.here hx rfl (hb hby at_147) rfl (l' := #[.val (.int sz), .val (.int pc_), .val (.long v1), .second, .val (.long v2), .second, .val (.long v3), .second, .val (.long v4), .second, .val (.int 0), .val (.int pp), .val (.long (1152921504606846975 : Int64)), .second, .val (.long el0), .second, .val (.long el1), .second, .val (.long el2), .second, .val (.long el3), .second, .val (.ref a101), .val (.double (9221120237041090560 : UInt64)), .second, .unset, .unset, .unset, .unset]) rfl (XS.iload X107.here hx rfl (hb hby at_149) rfl kk_)) ?_
          show Fin _ _ _ _ _ _ _ (T107.setTop (mkF m 151 #[.val (.int sz), .val (.int pc_), .val (.long v1), .second, .val (.long v2), .second, .val (.long v3), .second, .val (.long v4), .second, .val (.int 0), .val (.int pp), .val (.long (1152921504606846975 : Int64)), .second, .val (.long el0), .second, .val (.long el1), .second, .val (.long el2), .second, .val (.long el3), .second, .val (.ref a101), .val (.double (9221120237041090560 : UInt64)), .second, .unset, .unset, .unset, .unset] [(.int 0)]))
          refine Fin.by (fun tt_ kk_ => XS.ifNo X107.here hx rfl (hb hby at_151) rfl ((if0 _ _).trans (teq (rfl : (0 : Int32) = (0 : Int32))).2) kk_) ?_
          refine Fin.by (fun tt_ kk_ => XS.dload X107.here hx rfl (hb hby at_154) rfl (XS.dload X107.here hx rfl (hb hby at_156) rfl (XS.dcmpS X107.here hx rfl (hb hby at_158) rfl rfl kk_))) ?_
          show Fin _ _ _ _ _ _ _ (T107.setTop (mkF m 159 #[.val (.int sz), .val (.int pc_), .val (.long v1), .second, .val (.long v2), .second, .val (.long v3), .second, .val (.long v4), .second, .val (.int 0), .val (.int pp), .val (.long (1152921504606846975 : Int64)), .second, .val (.long el0), .second, .val (.long el1), .second, .val (.long el2), .second, .val (.long el3), .second, .val (.ref a101), .val (.double (9221120237041090560 : UInt64)), .second, .unset, .unset, .unset, .unset] [(.int (cmpValue (FP.dcmp (9221120237041090560 : UInt64) (9221120237041090560 : UInt64)) .l))]))
          refine Fin.by (fun tt_ kk_ => XS.ifNo X107.here hx rfl (hb hby at_159) rfl ((if0 _ _).trans (feq (by decide +kernel : ¬ (cmpValue (FP.dcmp (9221120237041090560 : UInt64) (9221120237041090560 : UInt64)) .l) = (0 : Int32))).1) kk_) ?_
          refine Fin.by (fun tt_ kk_ => XS.iconst X107.here hx rfl (hb hby at_162) (XS.goto X107.here hx rfl (pc0 := 163) (pc' := 167) rfl (hb hby at_163) (by decide) (by decide) kk_)) ?_
          show Fin _ _ _ _ _ _ _ (T107.setTop (mkF m 167 #[.val (.int sz), .val (.int pc_), .val (.long v1), .second, .val (.long v2), .second, .val (.long v3), .second, .val (.long v4), .second, .val (.int 0), .val (.int pp), .val (.long (1152921504606846975 : Int64)), .second, .val (.long el0), .second, .val (.long el1), .second, .val (.long el2), .second, .val (.long el3), .second, .val (.ref a101), .val (.double (9221120237041090560 : UInt64)), .second, .unset, .unset, .unset, .unset] [(.int 1)]))
          exact Fin.ret (v := some (.int (nar .boolean (1 : Int32)))) X107 (fun h => by rw [Bd.returns] at h; cases h) Bd.notSynchronized (by rw [e107]; exact ⟨rfl, N107_⟩) (by decide) (by decide) (fun fs hr => retN X107 hx (t := .boolean) Bd.returns (by simp) (hb hby at_167) hr)
        · show Fin _ _ _ _ _ _ _ (T105.setTop (mkF m 75 #[.val (.int sz), .val (.int pc_), .val (.long v1), .second, .val (.long v2), .second, .val (.long v3), .second, .val (.long v4), .second, .val (.int 1), .val (.int pp), .val (.long (1152921504606846975 : Int64)), .second, .val (.long el0), .second, .val (.long el1), .second, .val (.long el2), .second, .val (.long el3), .second, .val (.ref a101), .unset, .unset, .unset, .unset, .unset, .unset] [(.int 1)]))
          refine Fin.by (fun tt_ kk_ => XS.ifNo X105.here hx rfl (hb hby at_75) rfl ((if0 _ _).trans (tlt (by decide : (0 : Int32) < (1 : Int32))).2.2.2) kk_) ?_
          refine Fin.by (fun tt_ kk_ => XS.aload X105.here hx rfl (hb hby at_78) rfl rfl (XS.lload X105.here hx rfl (hb hby at_80) rfl kk_)) ?_
          have O108 : Old Z n0 T105.heap := (O103.keep p105_0 (allS g102 all0))
          have z109 : n0 ≤ T105.heap.size := Nat.le_trans z104 p105_0.1
          obtain ⟨v110, _, ⟨T110, L110, k110, n110⟩, -, X110, ⟨Lc110, hQ110, l110, y110, z110⟩, st110⟩ := Jvm.LawKit.callS X105 hx (y := y_2) hown (mvT hZ (w_ hw 44 rfl)) (mvT hZ (w_ hw 45 rfl)) (mvT hZ (w_ hw 46 rfl)) (mvT hZ (w_ hw 47 rfl)) (by decide) (backOf (W := 1) (rm_vof l Z a0 hw [] el0 aC kC vC T105.heap n0 z109 S5 VC HC O108) hZ (w_ hw 47 rfl) (w_ hw 46 rfl) (by decide) (by decide)) (g := (mkF m 82 #[.val (.int sz), .val (.int pc_), .val (.long v1), .second, .val (.long v2), .second, .val (.long v3), .second, .val (.long v4), .second, .val (.int 1), .val (.int pp), .val (.long (1152921504606846975 : Int64)), .second, .val (.long el0), .second, .val (.long el1), .second, .val (.long el2), .second, .val (.long el3), .second, .val (.ref a101), .unset, .unset, .unset, .unset, .unset, .unset] [(.long el0), (.ref a101)])) rfl (by rw [hml]; rfl) (argsL := [(.long el0)]) (rest := [(.ref a101)]) (lenOf pd_205 rfl) rfl (by show 2 * 0 + _ ≤ _; exact Nat.le_of_eq rfl) (hb hby at_82) (fun _ _ => ⟨rfl, rfl, (by decide : 1 + 1 ≤ _), (by decide : 3 + 1 ≤ _)⟩)
          dsimp only [Pt.U, Pt.locs, Pt.cells, Pt.slots] at X110 l110 y110 z110 st110 hQ110
          subst l110 y110 z110
          obtain ⟨y111, rfl, Nq110, p110_0, p110_1, p110_2⟩ := hQ110
          have N110_ := Fr.app N105_ Nq110
          refine Fin.by (fun tt_ kk_ => st110 tt_ kk_) ?_
          have E112 : Exa Z T110.heap a101 "java/util/ArrayList" := (p105_1.keep p110_0)
          have F113 : Fld Z T110.heap a101 "java/util/ArrayList" "elementData" "[Ljava/lang/Object;" (.ref aD) := (p105_2.keep p110_0 nin0)
          have F114 : Fld Z T110.heap a101 "java/util/ArrayList" "size" "I" (.int (0 : Int32)) := (p105_3.keep p110_0 nin0)
          have F115 : Fld Z T110.heap a101 "java/util/AbstractList" "modCount" "I" (.int (0 : Int32)) := (p105_4.keep p110_0 nin0)
          have O116 : Old Z n0 T110.heap := (O108.keep p110_0 all0)
          have z117 : n0 ≤ T110.heap.size := Nat.le_trans z109 p110_0.1
          obtain ⟨cq118, kq118, qa118, qb118, qc118⟩ := isOf hZ rfl E112
          obtain ⟨v118, _, ⟨T118, L118, k118, n118⟩, -, X118, ⟨Lc118, hQ118, l118, y118, z118⟩, st118⟩ := X110.virtualBack hx (y := y_10) (z := y_10) hown (mvT hZ (w_ hw 52 rfl)) (mvT hZ (w_ hw 53 rfl)) (notFace_of_selects (args := #[]) (mvT hZ (w_ hw 55 rfl))) (mvT hZ (w_ hw 55 rfl)) (mvT hZ (w_ hw 54 rfl)) (by decide) (backOf (W := 0) (rm_add0 l Z a0 hw [] a101 y111 (0 : Int32) aD kD T110.heap n0 z117 E112 F113 F114 F115 p110_1 g102 S2 VD O116) hZ (w_ hw 56 rfl) (w_ hw 4 rfl) (by decide) (by decide)) qa118 qc118 (g := (mkF m 85 #[.val (.int sz), .val (.int pc_), .val (.long v1), .second, .val (.long v2), .second, .val (.long v3), .second, .val (.long v4), .second, .val (.int 1), .val (.int pp), .val (.long (1152921504606846975 : Int64)), .second, .val (.long el0), .second, .val (.long el1), .second, .val (.long el2), .second, .val (.long el3), .second, .val (.ref a101), .unset, .unset, .unset, .unset, .unset, .unset] [(.ref y111), (.ref a101)])) rfl (by rw [hml]; rfl) (Steps.refl _) (argsL := [(.ref y111)]) (rest := []) (lenOf pd_206 rfl) rfl (by show 2 * 0 + _ ≤ _; exact Nat.le_of_eq rfl) (hb hby at_85) (fun _ _ => ⟨rfl, rfl, (by decide : 2 + 1 ≤ _), (by decide : 4 + 10 ≤ _)⟩)
          dsimp only [Pt.U, Pt.locs, Pt.cells, Pt.slots] at X118 l118 y118 z118 st118 hQ118
          subst l118 y118 z118
          obtain ⟨ed119, kE120, rfl, Nq118, p118_0, p118_1, p118_2, p118_3, p118_4, p118_5, p118_6, p118_7⟩ := hQ118
          have N118_ := Fr.app N110_ Nq118
          refine Fin.byS st118 ?_
          have E121 : Exa Z T118.heap y111 "java/lang/Long" := (p110_1.keep p118_0)
          refine Fin.by (fun tt_ kk_ => XS.pop X118.here hx rfl (hb hby at_88) rfl rfl (XS.iload X118.here hx rfl (hb hby at_89) rfl (XS.iconst X118.here hx rfl (hb hby at_91) kk_))) ?_
          show Fin _ _ _ _ _ _ _ (T118.setTop (mkF m 92 #[.val (.int sz), .val (.int pc_), .val (.long v1), .second, .val (.long v2), .second, .val (.long v3), .second, .val (.long v4), .second, .val (.int 1), .val (.int pp), .val (.long (1152921504606846975 : Int64)), .second, .val (.long el0), .second, .val (.long el1), .second, .val (.long el2), .second, .val (.long el3), .second, .val (.ref a101), .unset, .unset, .unset, .unset, .unset, .unset] [(.int 1), (.int 1)]))
          refine Fin.by (fun tt_ kk_ => XS.icmpYes X118.here hx rfl (pc0 := 92) (pc' := 106) rfl (hb hby at_92) rfl (flt (by decide : ¬ (1 : Int32) < (1 : Int32))).2.2.2 (by decide) (by decide) kk_) ?_
          refine Fin.by (fun tt_ kk_ => XS.iload X118.here hx rfl (hb hby at_106) rfl (XS.iconst X118.here hx rfl (hb hby at_108) kk_)) ?_
          show Fin _ _ _ _ _ _ _ (T118.setTop (mkF m 109 #[.val (.int sz), .val (.int pc_), .val (.long v1), .second, .val (.long v2), .second, .val (.long v3), .second, .val (.long v4), .second, .val (.int 1), .val (.int pp), .val (.long (1152921504606846975 : Int64)), .second, .val (.long el0), .second, .val (.long el1), .second, .val (.long el2), .second, .val (.long el3), .second, .val (.ref a101), .unset, .unset, .unset, .unset, .unset, .unset] [(.int 2), (.int 1)]))
          refine Fin.by (fun tt_ kk_ => XS.icmpYes X118.here hx rfl (pc0 := 109) (pc' := 123) rfl (hb hby at_109) rfl (flt (by decide : ¬ (2 : Int32) < (1 : Int32))).2.2.2 (by decide) (by decide) kk_) ?_
          refine Fin.by (fun tt_ kk_ => XS.iload X118.here hx rfl (hb hby at_123) rfl (XS.iconst X118.here hx rfl (hb hby at_125) kk_)) ?_
          show Fin _ _ _ _ _ _ _ (T118.setTop (mkF m 126 #[.val (.int sz), .val (.int pc_), .val (.long v1), .second, .val (.long v2), .second, .val (.long v3), .second, .val (.long v4), .second, .val (.int 1), .val (.int pp), .val (.long (1152921504606846975 : Int64)), .second, .val (.long el0), .second, .val (.long el1), .second, .val (.long el2), .second, .val (.long el3), .second, .val (.ref a101), .unset, .unset, .unset, .unset, .unset, .unset] [(.int 3), (.int 1)]))
          refine Fin.by (fun tt_ kk_ => XS.icmpYes X118.here hx rfl (pc0 := 126) (pc' := 140) rfl (hb hby at_126) rfl (flt (by decide : ¬ (3 : Int32) < (1 : Int32))).2.2.2 (by decide) (by decide) kk_) ?_
          refine Fin.by (fun tt_ kk_ => XS.aload X118.here hx rfl (hb hby at_140) rfl rfl (XS.iload X118.here hx rfl (hb hby at_142) rfl kk_)) ?_
          have hC := own_n1 hp
          have F122 : Fld Z T118.heap y111 "java/lang/Long" "value" "J" (.long el0) := (p110_2.keep p118_0 (ninS (own_exne p110_1 E112 (by decide)) nin0))
          have z123 : n0 ≤ T118.heap.size := Nat.le_trans z117 p118_0.1
          obtain ⟨v124, _, ⟨T124, L124, k124, n124⟩, -, X124, ⟨Lc124, hQ124, l124, y124, z124⟩, st124⟩ := Jvm.LawKit.callS X118 hx (y := y_20) hown (mvT hZ (w_ hw 28 rfl)) (mvT hZ (w_ hw 29 rfl)) (mvT hZ (w_ hw 30 rfl)) (mvT hZ (w_ hw 31 rfl)) (by decide) (backOf (W := 0) (rm_per1 l Z a0 hw [] a101 (0 : Int32) ed119 kE120 ([(.ref y111), .null, .null, .null, .null, .null, .null, .null, .null, .null] : List Value) y111 (1 : Int32) pp el0 T118.heap n0 z123 (by decide) hC.2 (by decide) (by decide) (by decide) rfl p118_2 p118_3 p118_6 p118_4 E121 F122) hZ (w_ hw 31 rfl) (w_ hw 30 rfl) (by decide) (by decide)) (g := (mkF m 144 #[.val (.int sz), .val (.int pc_), .val (.long v1), .second, .val (.long v2), .second, .val (.long v3), .second, .val (.long v4), .second, .val (.int 1), .val (.int pp), .val (.long (1152921504606846975 : Int64)), .second, .val (.long el0), .second, .val (.long el1), .second, .val (.long el2), .second, .val (.long el3), .second, .val (.ref a101), .unset, .unset, .unset, .unset, .unset, .unset] [(.int pp), (.ref a101)])) rfl (by rw [hml]; rfl) (argsL := [(.ref a101), (.int pp)]) (rest := []) (lenOf pd_204 rfl) rfl (by show 2 * 0 + _ ≤ _; exact Nat.le_of_eq rfl) (hb hby at_144) (fun _ _ => ⟨rfl, rfl, (by decide : 3 + 0 ≤ _), (by decide : 14 + 0 ≤ _)⟩)
          dsimp only [Pt.U, Pt.locs, Pt.cells, Pt.slots] at X124 l124 y124 z124 st124 hQ124
          subst l124 y124 z124
          obtain ⟨rfl, Nq124, e124_⟩ := hQ124
          have N124_ := Fr.app N118_ Nq124
          refine Fin.by (fun tt_ kk_ => st124 tt_ kk_) ?_
          have e124 := e124_
          refine Fin.by (fun tt_ kk_ => XS.dstore X124.here hx rfl (hb hby at_147) rfl (l' := #[.val (.int sz), .val (.int pc_), .val (.long v1), .second, .val (.long v2), .second, .val (.long v3), .second, .val (.long v4), .second, .val (.int 1), .val (.int pp), .val (.long (1152921504606846975 : Int64)), .second, .val (.long el0), .second, .val (.long el1), .second, .val (.long el2), .second, .val (.long el3), .second, .val (.ref a101), .val (.double (FP.l2d el0)), .second, .unset, .unset, .unset, .unset]) rfl (XS.iload X124.here hx rfl (hb hby at_149) rfl kk_)) ?_
          show Fin _ _ _ _ _ _ _ (T124.setTop (mkF m 151 #[.val (.int sz), .val (.int pc_), .val (.long v1), .second, .val (.long v2), .second, .val (.long v3), .second, .val (.long v4), .second, .val (.int 1), .val (.int pp), .val (.long (1152921504606846975 : Int64)), .second, .val (.long el0), .second, .val (.long el1), .second, .val (.long el2), .second, .val (.long el3), .second, .val (.ref a101), .val (.double (FP.l2d el0)), .second, .unset, .unset, .unset, .unset] [(.int 1)]))
          refine Fin.by (fun tt_ kk_ => XS.ifYes X124.here hx rfl (pc0 := 151) (pc' := 168) rfl (hb hby at_151) rfl ((if0 _ _).trans (feq (by decide : ¬ (1 : Int32) = (0 : Int32))).2) (by decide) (by decide) kk_) ?_
          refine Fin.by (fun tt_ kk_ => XS.iload X124.here hx rfl (hb hby at_168) rfl (XS.i2l X124.here hx rfl (hb hby at_170) rfl (XS.iload X124.here hx rfl (hb hby at_171) rfl (XS.i2l X124.here hx rfl (hb hby at_173) rfl (XS.lmul X124.here hx rfl (hb hby at_174) rfl (XS.lstore X124.here hx rfl (hb hby at_175) rfl (l' := #[.val (.int sz), .val (.int pc_), .val (.long v1), .second, .val (.long v2), .second, .val (.long v3), .second, .val (.long v4), .second, .val (.int 1), .val (.int pp), .val (.long (1152921504606846975 : Int64)), .second, .val (.long el0), .second, .val (.long el1), .second, .val (.long el2), .second, .val (.long el3), .second, .val (.ref a101), .val (.double (FP.l2d el0)), .second, .val (.long ((pp.toInt64) * (1 : Int64))), .second, .unset, .unset]) rfl (XS.lload X124.here hx rfl (hb hby at_177) rfl kk_))))))) ?_
          refine Fin.by (fun tt_ kk_ => X124.ldc2Long hx hown (mvT hZ (w_ hw 136 rfl)) (g := (mkF m 179 #[.val (.int sz), .val (.int pc_), .val (.long v1), .second, .val (.long v2), .second, .val (.long v3), .second, .val (.long v4), .second, .val (.int 1), .val (.int pp), .val (.long (1152921504606846975 : Int64)), .second, .val (.long el0), .second, .val (.long el1), .second, .val (.long el2), .second, .val (.long el3), .second, .val (.ref a101), .val (.double (FP.l2d el0)), .second, .val (.long ((pp.toInt64) * (1 : Int64))), .second, .unset, .unset] [(.long ((pp.toInt64) * (1 : Int64)))])) rfl (hb hby at_179) _ kk_) ?_
          refine Fin.by (fun tt_ kk_ => XS.lcmp X124.here hx rfl (hb hby at_182) rfl kk_) ?_
          show Fin _ _ _ _ _ _ _ (T124.setTop (mkF m 183 #[.val (.int sz), .val (.int pc_), .val (.long v1), .second, .val (.long v2), .second, .val (.long v3), .second, .val (.long v4), .second, .val (.int 1), .val (.int pp), .val (.long (1152921504606846975 : Int64)), .second, .val (.long el0), .second, .val (.long el1), .second, .val (.long el2), .second, .val (.long el3), .second, .val (.ref a101), .val (.double (FP.l2d el0)), .second, .val (.long ((pp.toInt64) * (1 : Int64))), .second, .unset, .unset] [(.int (lcmpW ((pp.toInt64) * (1 : Int64)) (100 : Int64)))]))
          refine Fin.by (fun tt_ kk_ => XS.ifNo X124.here hx rfl (hb hby at_183) rfl ((if0 _ _).trans (flt (hC.1 : ¬ (0 : Int32) < (lcmpW ((pp.toInt64) * (1 : Int64)) (100 : Int64)))).2.2.1) kk_) ?_
          refine Fin.by (fun tt_ kk_ => XS.lload X124.here hx rfl (hb hby at_186) rfl (XS.lstore X124.here hx rfl (hb hby at_188) rfl (l' := #[.val (.int sz), .val (.int pc_), .val (.long v1), .second, .val (.long v2), .second, .val (.long v3), .second, .val (.long v4), .second, .val (.int 1), .val (.int pp), .val (.long (1152921504606846975 : Int64)), .second, .val (.long el0), .second, .val (.long el1), .second, .val (.long el2), .second, .val (.long el3), .second, .val (.ref a101), .val (.double (FP.l2d el0)), .second, .val (.long ((pp.toInt64) * (1 : Int64))), .second, .val (.long el0), .second]) rfl (XS.goto X124.here hx rfl (pc0 := 190) (pc' := 229) rfl (hb hby at_190) (by decide) (by decide) (XS.dload X124.here hx rfl (hb hby at_229) rfl (XS.lload X124.here hx rfl (hb hby at_231) rfl (XS.l2dS X124.here hx rfl (hb hby at_233) rfl rfl (XS.dcmpS X124.here hx rfl (hb hby at_234) rfl rfl kk_))))))) ?_
          show Fin _ _ _ _ _ _ _ (T124.setTop (mkF m 235 #[.val (.int sz), .val (.int pc_), .val (.long v1), .second, .val (.long v2), .second, .val (.long v3), .second, .val (.long v4), .second, .val (.int 1), .val (.int pp), .val (.long (1152921504606846975 : Int64)), .second, .val (.long el0), .second, .val (.long el1), .second, .val (.long el2), .second, .val (.long el3), .second, .val (.ref a101), .val (.double (FP.l2d el0)), .second, .val (.long ((pp.toInt64) * (1 : Int64))), .second, .val (.long el0), .second] [(.int (cmpValue (FP.dcmp (FP.l2d el0) (FP.l2d el0)) .l))]))
          refine Fin.by (fun tt_ kk_ => XS.ifNo X124.here hx rfl (hb hby at_235) rfl ((if0 _ _).trans (teq (dcmpV_self (nn_w rfl) _ : (cmpValue (FP.dcmp (FP.l2d el0) (FP.l2d el0)) .l) = (0 : Int32))).2) kk_) ?_
          refine Fin.by (fun tt_ kk_ => XS.iconst X124.here hx rfl (hb hby at_238) (XS.goto X124.here hx rfl (pc0 := 239) (pc' := 243) rfl (hb hby at_239) (by decide) (by decide) kk_)) ?_
          show Fin _ _ _ _ _ _ _ (T124.setTop (mkF m 243 #[.val (.int sz), .val (.int pc_), .val (.long v1), .second, .val (.long v2), .second, .val (.long v3), .second, .val (.long v4), .second, .val (.int 1), .val (.int pp), .val (.long (1152921504606846975 : Int64)), .second, .val (.long el0), .second, .val (.long el1), .second, .val (.long el2), .second, .val (.long el3), .second, .val (.ref a101), .val (.double (FP.l2d el0)), .second, .val (.long ((pp.toInt64) * (1 : Int64))), .second, .val (.long el0), .second] [(.int 1)]))
          exact Fin.ret (v := some (.int (nar .boolean (1 : Int32)))) X124 (fun h => by rw [Bd.returns] at h; cases h) Bd.notSynchronized (by rw [e124]; exact ⟨rfl, N124_⟩) (by decide) (by decide) (fun fs hr => retN X124 hx (t := .boolean) Bd.returns (by simp) (hb hby at_243) hr)
        · show Fin _ _ _ _ _ _ _ (T105.setTop (mkF m 75 #[.val (.int sz), .val (.int pc_), .val (.long v1), .second, .val (.long v2), .second, .val (.long v3), .second, .val (.long v4), .second, .val (.int 2), .val (.int pp), .val (.long (1152921504606846975 : Int64)), .second, .val (.long el0), .second, .val (.long el1), .second, .val (.long el2), .second, .val (.long el3), .second, .val (.ref a101), .unset, .unset, .unset, .unset, .unset, .unset] [(.int 2)]))
          refine Fin.by (fun tt_ kk_ => XS.ifNo X105.here hx rfl (hb hby at_75) rfl ((if0 _ _).trans (tlt (by decide : (0 : Int32) < (2 : Int32))).2.2.2) kk_) ?_
          refine Fin.by (fun tt_ kk_ => XS.aload X105.here hx rfl (hb hby at_78) rfl rfl (XS.lload X105.here hx rfl (hb hby at_80) rfl kk_)) ?_
          have O125 : Old Z n0 T105.heap := (O103.keep p105_0 (allS g102 all0))
          have z126 : n0 ≤ T105.heap.size := Nat.le_trans z104 p105_0.1
          obtain ⟨v127, _, ⟨T127, L127, k127, n127⟩, -, X127, ⟨Lc127, hQ127, l127, y127, z127⟩, st127⟩ := Jvm.LawKit.callS X105 hx (y := y_2) hown (mvT hZ (w_ hw 44 rfl)) (mvT hZ (w_ hw 45 rfl)) (mvT hZ (w_ hw 46 rfl)) (mvT hZ (w_ hw 47 rfl)) (by decide) (backOf (W := 1) (rm_vof l Z a0 hw [] el0 aC kC vC T105.heap n0 z126 S5 VC HC O125) hZ (w_ hw 47 rfl) (w_ hw 46 rfl) (by decide) (by decide)) (g := (mkF m 82 #[.val (.int sz), .val (.int pc_), .val (.long v1), .second, .val (.long v2), .second, .val (.long v3), .second, .val (.long v4), .second, .val (.int 2), .val (.int pp), .val (.long (1152921504606846975 : Int64)), .second, .val (.long el0), .second, .val (.long el1), .second, .val (.long el2), .second, .val (.long el3), .second, .val (.ref a101), .unset, .unset, .unset, .unset, .unset, .unset] [(.long el0), (.ref a101)])) rfl (by rw [hml]; rfl) (argsL := [(.long el0)]) (rest := [(.ref a101)]) (lenOf pd_205 rfl) rfl (by show 2 * 0 + _ ≤ _; exact Nat.le_of_eq rfl) (hb hby at_82) (fun _ _ => ⟨rfl, rfl, (by decide : 1 + 1 ≤ _), (by decide : 3 + 1 ≤ _)⟩)
          dsimp only [Pt.U, Pt.locs, Pt.cells, Pt.slots] at X127 l127 y127 z127 st127 hQ127
          subst l127 y127 z127
          obtain ⟨y128, rfl, Nq127, p127_0, p127_1, p127_2⟩ := hQ127
          have N127_ := Fr.app N105_ Nq127
          refine Fin.by (fun tt_ kk_ => st127 tt_ kk_) ?_
          have E129 : Exa Z T127.heap a101 "java/util/ArrayList" := (p105_1.keep p127_0)
          have F130 : Fld Z T127.heap a101 "java/util/ArrayList" "elementData" "[Ljava/lang/Object;" (.ref aD) := (p105_2.keep p127_0 nin0)
          have F131 : Fld Z T127.heap a101 "java/util/ArrayList" "size" "I" (.int (0 : Int32)) := (p105_3.keep p127_0 nin0)
          have F132 : Fld Z T127.heap a101 "java/util/AbstractList" "modCount" "I" (.int (0 : Int32)) := (p105_4.keep p127_0 nin0)
          have O133 : Old Z n0 T127.heap := (O125.keep p127_0 all0)
          have z134 : n0 ≤ T127.heap.size := Nat.le_trans z126 p127_0.1
          obtain ⟨cq135, kq135, qa135, qb135, qc135⟩ := isOf hZ rfl E129
          obtain ⟨v135, _, ⟨T135, L135, k135, n135⟩, -, X135, ⟨Lc135, hQ135, l135, y135, z135⟩, st135⟩ := X127.virtualBack hx (y := y_10) (z := y_10) hown (mvT hZ (w_ hw 52 rfl)) (mvT hZ (w_ hw 53 rfl)) (notFace_of_selects (args := #[]) (mvT hZ (w_ hw 55 rfl))) (mvT hZ (w_ hw 55 rfl)) (mvT hZ (w_ hw 54 rfl)) (by decide) (backOf (W := 0) (rm_add0 l Z a0 hw [] a101 y128 (0 : Int32) aD kD T127.heap n0 z134 E129 F130 F131 F132 p127_1 g102 S2 VD O133) hZ (w_ hw 56 rfl) (w_ hw 4 rfl) (by decide) (by decide)) qa135 qc135 (g := (mkF m 85 #[.val (.int sz), .val (.int pc_), .val (.long v1), .second, .val (.long v2), .second, .val (.long v3), .second, .val (.long v4), .second, .val (.int 2), .val (.int pp), .val (.long (1152921504606846975 : Int64)), .second, .val (.long el0), .second, .val (.long el1), .second, .val (.long el2), .second, .val (.long el3), .second, .val (.ref a101), .unset, .unset, .unset, .unset, .unset, .unset] [(.ref y128), (.ref a101)])) rfl (by rw [hml]; rfl) (Steps.refl _) (argsL := [(.ref y128)]) (rest := []) (lenOf pd_206 rfl) rfl (by show 2 * 0 + _ ≤ _; exact Nat.le_of_eq rfl) (hb hby at_85) (fun _ _ => ⟨rfl, rfl, (by decide : 2 + 1 ≤ _), (by decide : 4 + 10 ≤ _)⟩)
          dsimp only [Pt.U, Pt.locs, Pt.cells, Pt.slots] at X135 l135 y135 z135 st135 hQ135
          subst l135 y135 z135
          obtain ⟨ed136, kE137, rfl, Nq135, p135_0, p135_1, p135_2, p135_3, p135_4, p135_5, p135_6, p135_7⟩ := hQ135
          have N135_ := Fr.app N127_ Nq135
          refine Fin.byS st135 ?_
          have E138 : Exa Z T135.heap y128 "java/lang/Long" := (p127_1.keep p135_0)
          refine Fin.by (fun tt_ kk_ => XS.pop X135.here hx rfl (hb hby at_88) rfl rfl (XS.iload X135.here hx rfl (hb hby at_89) rfl (XS.iconst X135.here hx rfl (hb hby at_91) kk_))) ?_
          show Fin _ _ _ _ _ _ _ (T135.setTop (mkF m 92 #[.val (.int sz), .val (.int pc_), .val (.long v1), .second, .val (.long v2), .second, .val (.long v3), .second, .val (.long v4), .second, .val (.int 2), .val (.int pp), .val (.long (1152921504606846975 : Int64)), .second, .val (.long el0), .second, .val (.long el1), .second, .val (.long el2), .second, .val (.long el3), .second, .val (.ref a101), .unset, .unset, .unset, .unset, .unset, .unset] [(.int 1), (.int 2)]))
          refine Fin.by (fun tt_ kk_ => XS.icmpNo X135.here hx rfl (hb hby at_92) rfl (tlt (by decide : (1 : Int32) < (2 : Int32))).2.2.2 kk_) ?_
          refine Fin.by (fun tt_ kk_ => XS.aload X135.here hx rfl (hb hby at_95) rfl rfl (XS.lload X135.here hx rfl (hb hby at_97) rfl kk_)) ?_
          have O139 : Old Z n0 T135.heap := (O133.keep p135_0 (allS g102 all0))
          have z140 : n0 ≤ T135.heap.size := Nat.le_trans z134 p135_0.1
          obtain ⟨v141, _, ⟨T141, L141, k141, n141⟩, -, X141, ⟨Lc141, hQ141, l141, y141, z141⟩, st141⟩ := Jvm.LawKit.callS X135 hx (y := y_2) hown (mvT hZ (w_ hw 44 rfl)) (mvT hZ (w_ hw 45 rfl)) (mvT hZ (w_ hw 46 rfl)) (mvT hZ (w_ hw 47 rfl)) (by decide) (backOf (W := 1) (rm_vof l Z a0 hw [] el1 aC kC vC T135.heap n0 z140 S5 VC HC O139) hZ (w_ hw 47 rfl) (w_ hw 46 rfl) (by decide) (by decide)) (g := (mkF m 99 #[.val (.int sz), .val (.int pc_), .val (.long v1), .second, .val (.long v2), .second, .val (.long v3), .second, .val (.long v4), .second, .val (.int 2), .val (.int pp), .val (.long (1152921504606846975 : Int64)), .second, .val (.long el0), .second, .val (.long el1), .second, .val (.long el2), .second, .val (.long el3), .second, .val (.ref a101), .unset, .unset, .unset, .unset, .unset, .unset] [(.long el1), (.ref a101)])) rfl (by rw [hml]; rfl) (argsL := [(.long el1)]) (rest := [(.ref a101)]) (lenOf pd_205 rfl) rfl (by show 2 * 0 + _ ≤ _; exact Nat.le_of_eq rfl) (hb hby at_99) (fun _ _ => ⟨rfl, rfl, (by decide : 3 + 1 ≤ _), (by decide : 14 + 1 ≤ _)⟩)
          dsimp only [Pt.U, Pt.locs, Pt.cells, Pt.slots] at X141 l141 y141 z141 st141 hQ141
          subst l141 y141 z141
          obtain ⟨y142, rfl, Nq141, p141_0, p141_1, p141_2⟩ := hQ141
          have N141_ := Fr.app N135_ Nq141
          refine Fin.by (fun tt_ kk_ => st141 tt_ kk_) ?_
          have E143 : Exa Z T141.heap a101 "java/util/ArrayList" := (p135_2.keep p141_0)
          have A144 : Arv Z T141.heap ed136 kE137 (.object "java/lang/Object") (10 : Int32) [(.ref y128), .null, .null, .null, .null, .null, .null, .null, .null, .null] .null := (p135_6.keep p141_0 nin0)
          have F145 : Fld Z T141.heap a101 "java/util/ArrayList" "elementData" "[Ljava/lang/Object;" (.ref ed136) := (p135_3.keep p141_0 nin0)
          have F146 : Fld Z T141.heap a101 "java/util/ArrayList" "size" "I" (.int (1 : Int32)) := (p135_4.keep p141_0 nin0)
          have F147 : Fld Z T141.heap a101 "java/util/AbstractList" "modCount" "I" (.int ((0 : Int32) + (1 : Int32))) := (p135_5.keep p141_0 nin0)
          have z149 : n0 ≤ T127.heap.size := Nat.le_trans Z0 (Nat.le_trans (Nat.le_trans E101.1 p105_0.1) p127_0.1)
          have g148 : n0 ≤ ed136 := Nat.le_trans z149 p135_1
          have lt151 : a101 < T127.heap.size := Nat.lt_of_lt_of_le A101.lt (Nat.le_trans p105_0.1 p127_0.1)
          have ne150 : a101 ≠ ed136 := Nat.ne_of_lt (Nat.lt_of_lt_of_le lt151 p135_1)
          have z152 : n0 ≤ T141.heap.size := Nat.le_trans z140 p141_0.1
          obtain ⟨cq153, kq153, qa153, qb153, qc153⟩ := isOf hZ rfl E143
          obtain ⟨v153, _, ⟨T153, L153, k153, n153⟩, -, X153, ⟨Lc153, hQ153, l153, y153, z153⟩, st153⟩ := X141.virtualBack hx (y := y_10) (z := y_10) hown (mvT hZ (w_ hw 52 rfl)) (mvT hZ (w_ hw 53 rfl)) (notFace_of_selects (args := #[]) (mvT hZ (w_ hw 55 rfl))) (mvT hZ (w_ hw 55 rfl)) (mvT hZ (w_ hw 54 rfl)) (by decide) (backOf (W := 0) (rm_add1 l Z a0 hw [] a101 y142 ((0 : Int32) + (1 : Int32)) ed136 kE137 y128 T141.heap n0 z152 E143 F145 F146 F147 A144 p135_7 p141_1 g102 g148 (Ne.symm ne150)) hZ (w_ hw 56 rfl) (w_ hw 4 rfl) (by decide) (by decide)) qa153 qc153 (g := (mkF m 102 #[.val (.int sz), .val (.int pc_), .val (.long v1), .second, .val (.long v2), .second, .val (.long v3), .second, .val (.long v4), .second, .val (.int 2), .val (.int pp), .val (.long (1152921504606846975 : Int64)), .second, .val (.long el0), .second, .val (.long el1), .second, .val (.long el2), .second, .val (.long el3), .second, .val (.ref a101), .unset, .unset, .unset, .unset, .unset, .unset] [(.ref y142), (.ref a101)])) rfl (by rw [hml]; rfl) (Steps.refl _) (argsL := [(.ref y142)]) (rest := []) (lenOf pd_206 rfl) rfl (by show 2 * 0 + _ ≤ _; exact Nat.le_of_eq rfl) (hb hby at_102) (fun _ _ => ⟨rfl, rfl, (by decide : 4 + 0 ≤ _), (by decide : 15 + 0 ≤ _)⟩)
          dsimp only [Pt.U, Pt.locs, Pt.cells, Pt.slots] at X153 l153 y153 z153 st153 hQ153
          subst l153 y153 z153
          obtain ⟨rfl, Nq153, p153_0, p153_1, p153_2, p153_3, p153_4, p153_5⟩ := hQ153
          have N153_ := Fr.app N141_ Nq153
          refine Fin.byS st153 ?_
          refine Fin.by (fun tt_ kk_ => XS.pop X153.here hx rfl (hb hby at_105) rfl rfl (XS.iload X153.here hx rfl (hb hby at_106) rfl (XS.iconst X153.here hx rfl (hb hby at_108) kk_))) ?_
          show Fin _ _ _ _ _ _ _ (T153.setTop (mkF m 109 #[.val (.int sz), .val (.int pc_), .val (.long v1), .second, .val (.long v2), .second, .val (.long v3), .second, .val (.long v4), .second, .val (.int 2), .val (.int pp), .val (.long (1152921504606846975 : Int64)), .second, .val (.long el0), .second, .val (.long el1), .second, .val (.long el2), .second, .val (.long el3), .second, .val (.ref a101), .unset, .unset, .unset, .unset, .unset, .unset] [(.int 2), (.int 2)]))
          refine Fin.by (fun tt_ kk_ => XS.icmpYes X153.here hx rfl (pc0 := 109) (pc' := 123) rfl (hb hby at_109) rfl (flt (by decide : ¬ (2 : Int32) < (2 : Int32))).2.2.2 (by decide) (by decide) kk_) ?_
          refine Fin.by (fun tt_ kk_ => XS.iload X153.here hx rfl (hb hby at_123) rfl (XS.iconst X153.here hx rfl (hb hby at_125) kk_)) ?_
          show Fin _ _ _ _ _ _ _ (T153.setTop (mkF m 126 #[.val (.int sz), .val (.int pc_), .val (.long v1), .second, .val (.long v2), .second, .val (.long v3), .second, .val (.long v4), .second, .val (.int 2), .val (.int pp), .val (.long (1152921504606846975 : Int64)), .second, .val (.long el0), .second, .val (.long el1), .second, .val (.long el2), .second, .val (.long el3), .second, .val (.ref a101), .unset, .unset, .unset, .unset, .unset, .unset] [(.int 3), (.int 2)]))
          refine Fin.by (fun tt_ kk_ => XS.icmpYes X153.here hx rfl (pc0 := 126) (pc' := 140) rfl (hb hby at_126) rfl (flt (by decide : ¬ (3 : Int32) < (2 : Int32))).2.2.2 (by decide) (by decide) kk_) ?_
          refine Fin.by (fun tt_ kk_ => XS.aload X153.here hx rfl (hb hby at_140) rfl rfl (XS.iload X153.here hx rfl (hb hby at_142) rfl kk_)) ?_
          rcases own_n2 hp with hC | hC
          · have E154 : Exa Z T153.heap y128 "java/lang/Long" := ((E138.keep p141_0).keep p153_0)
            have F155 : Fld Z T153.heap y128 "java/lang/Long" "value" "J" (.long el0) := (((p127_2.keep p135_0 (ninS (own_exne p127_1 E129 (by decide)) nin0)).keep p141_0 nin0).keep p153_0 (ninS (own_exne p127_1 E129 (by decide)) (ninS (Ne.symm (own_arne p135_6 E138 (w_ hw 82 rfl))) nin0)))
            have z156 : n0 ≤ T153.heap.size := Nat.le_trans z152 p153_0.1
            obtain ⟨v157, _, ⟨T157, L157, k157, n157⟩, -, X157, ⟨Lc157, hQ157, l157, y157, z157⟩, st157⟩ := Jvm.LawKit.callS X153 hx (y := y_20) hown (mvT hZ (w_ hw 28 rfl)) (mvT hZ (w_ hw 29 rfl)) (mvT hZ (w_ hw 30 rfl)) (mvT hZ (w_ hw 31 rfl)) (by decide) (backOf (W := 0) (rm_per1 l Z a0 hw [] a101 (0 : Int32) ed136 kE137 ([(.ref y128), (.ref y142), .null, .null, .null, .null, .null, .null, .null, .null] : List Value) y128 (2 : Int32) pp el0 T153.heap n0 z156 (by decide) hC.2 (by decide) (by decide) (by decide) rfl p153_1 p153_2 p153_5 p153_3 E154 F155) hZ (w_ hw 31 rfl) (w_ hw 30 rfl) (by decide) (by decide)) (g := (mkF m 144 #[.val (.int sz), .val (.int pc_), .val (.long v1), .second, .val (.long v2), .second, .val (.long v3), .second, .val (.long v4), .second, .val (.int 2), .val (.int pp), .val (.long (1152921504606846975 : Int64)), .second, .val (.long el0), .second, .val (.long el1), .second, .val (.long el2), .second, .val (.long el3), .second, .val (.ref a101), .unset, .unset, .unset, .unset, .unset, .unset] [(.int pp), (.ref a101)])) rfl (by rw [hml]; rfl) (argsL := [(.ref a101), (.int pp)]) (rest := []) (lenOf pd_204 rfl) rfl (by show 2 * 0 + _ ≤ _; exact Nat.le_of_eq rfl) (hb hby at_144) (fun _ _ => ⟨rfl, rfl, (by decide : 4 + 0 ≤ _), (by decide : 15 + 0 ≤ _)⟩)
            dsimp only [Pt.U, Pt.locs, Pt.cells, Pt.slots] at X157 l157 y157 z157 st157 hQ157
            subst l157 y157 z157
            obtain ⟨rfl, Nq157, e157_⟩ := hQ157
            have N157_ := Fr.app N153_ Nq157
            refine Fin.by (fun tt_ kk_ => st157 tt_ kk_) ?_
            have e157 := e157_
            refine Fin.by (fun tt_ kk_ => XS.dstore X157.here hx rfl (hb hby at_147) rfl (l' := #[.val (.int sz), .val (.int pc_), .val (.long v1), .second, .val (.long v2), .second, .val (.long v3), .second, .val (.long v4), .second, .val (.int 2), .val (.int pp), .val (.long (1152921504606846975 : Int64)), .second, .val (.long el0), .second, .val (.long el1), .second, .val (.long el2), .second, .val (.long el3), .second, .val (.ref a101), .val (.double (FP.l2d el0)), .second, .unset, .unset, .unset, .unset]) rfl (XS.iload X157.here hx rfl (hb hby at_149) rfl kk_)) ?_
            show Fin _ _ _ _ _ _ _ (T157.setTop (mkF m 151 #[.val (.int sz), .val (.int pc_), .val (.long v1), .second, .val (.long v2), .second, .val (.long v3), .second, .val (.long v4), .second, .val (.int 2), .val (.int pp), .val (.long (1152921504606846975 : Int64)), .second, .val (.long el0), .second, .val (.long el1), .second, .val (.long el2), .second, .val (.long el3), .second, .val (.ref a101), .val (.double (FP.l2d el0)), .second, .unset, .unset, .unset, .unset] [(.int 2)]))
            refine Fin.by (fun tt_ kk_ => XS.ifYes X157.here hx rfl (pc0 := 151) (pc' := 168) rfl (hb hby at_151) rfl ((if0 _ _).trans (feq (by decide : ¬ (2 : Int32) = (0 : Int32))).2) (by decide) (by decide) kk_) ?_
            refine Fin.by (fun tt_ kk_ => XS.iload X157.here hx rfl (hb hby at_168) rfl (XS.i2l X157.here hx rfl (hb hby at_170) rfl (XS.iload X157.here hx rfl (hb hby at_171) rfl (XS.i2l X157.here hx rfl (hb hby at_173) rfl (XS.lmul X157.here hx rfl (hb hby at_174) rfl (XS.lstore X157.here hx rfl (hb hby at_175) rfl (l' := #[.val (.int sz), .val (.int pc_), .val (.long v1), .second, .val (.long v2), .second, .val (.long v3), .second, .val (.long v4), .second, .val (.int 2), .val (.int pp), .val (.long (1152921504606846975 : Int64)), .second, .val (.long el0), .second, .val (.long el1), .second, .val (.long el2), .second, .val (.long el3), .second, .val (.ref a101), .val (.double (FP.l2d el0)), .second, .val (.long ((pp.toInt64) * (2 : Int64))), .second, .unset, .unset]) rfl (XS.lload X157.here hx rfl (hb hby at_177) rfl kk_))))))) ?_
            refine Fin.by (fun tt_ kk_ => X157.ldc2Long hx hown (mvT hZ (w_ hw 136 rfl)) (g := (mkF m 179 #[.val (.int sz), .val (.int pc_), .val (.long v1), .second, .val (.long v2), .second, .val (.long v3), .second, .val (.long v4), .second, .val (.int 2), .val (.int pp), .val (.long (1152921504606846975 : Int64)), .second, .val (.long el0), .second, .val (.long el1), .second, .val (.long el2), .second, .val (.long el3), .second, .val (.ref a101), .val (.double (FP.l2d el0)), .second, .val (.long ((pp.toInt64) * (2 : Int64))), .second, .unset, .unset] [(.long ((pp.toInt64) * (2 : Int64)))])) rfl (hb hby at_179) _ kk_) ?_
            refine Fin.by (fun tt_ kk_ => XS.lcmp X157.here hx rfl (hb hby at_182) rfl kk_) ?_
            show Fin _ _ _ _ _ _ _ (T157.setTop (mkF m 183 #[.val (.int sz), .val (.int pc_), .val (.long v1), .second, .val (.long v2), .second, .val (.long v3), .second, .val (.long v4), .second, .val (.int 2), .val (.int pp), .val (.long (1152921504606846975 : Int64)), .second, .val (.long el0), .second, .val (.long el1), .second, .val (.long el2), .second, .val (.long el3), .second, .val (.ref a101), .val (.double (FP.l2d el0)), .second, .val (.long ((pp.toInt64) * (2 : Int64))), .second, .unset, .unset] [(.int (lcmpW ((pp.toInt64) * (2 : Int64)) (100 : Int64)))]))
            refine Fin.by (fun tt_ kk_ => XS.ifNo X157.here hx rfl (hb hby at_183) rfl ((if0 _ _).trans (flt (hC.1 : ¬ (0 : Int32) < (lcmpW ((pp.toInt64) * (2 : Int64)) (100 : Int64)))).2.2.1) kk_) ?_
            refine Fin.by (fun tt_ kk_ => XS.lload X157.here hx rfl (hb hby at_186) rfl (XS.lstore X157.here hx rfl (hb hby at_188) rfl (l' := #[.val (.int sz), .val (.int pc_), .val (.long v1), .second, .val (.long v2), .second, .val (.long v3), .second, .val (.long v4), .second, .val (.int 2), .val (.int pp), .val (.long (1152921504606846975 : Int64)), .second, .val (.long el0), .second, .val (.long el1), .second, .val (.long el2), .second, .val (.long el3), .second, .val (.ref a101), .val (.double (FP.l2d el0)), .second, .val (.long ((pp.toInt64) * (2 : Int64))), .second, .val (.long el0), .second]) rfl (XS.goto X157.here hx rfl (pc0 := 190) (pc' := 229) rfl (hb hby at_190) (by decide) (by decide) (XS.dload X157.here hx rfl (hb hby at_229) rfl (XS.lload X157.here hx rfl (hb hby at_231) rfl (XS.l2dS X157.here hx rfl (hb hby at_233) rfl rfl (XS.dcmpS X157.here hx rfl (hb hby at_234) rfl rfl kk_))))))) ?_
            show Fin _ _ _ _ _ _ _ (T157.setTop (mkF m 235 #[.val (.int sz), .val (.int pc_), .val (.long v1), .second, .val (.long v2), .second, .val (.long v3), .second, .val (.long v4), .second, .val (.int 2), .val (.int pp), .val (.long (1152921504606846975 : Int64)), .second, .val (.long el0), .second, .val (.long el1), .second, .val (.long el2), .second, .val (.long el3), .second, .val (.ref a101), .val (.double (FP.l2d el0)), .second, .val (.long ((pp.toInt64) * (2 : Int64))), .second, .val (.long el0), .second] [(.int (cmpValue (FP.dcmp (FP.l2d el0) (FP.l2d el0)) .l))]))
            refine Fin.by (fun tt_ kk_ => XS.ifNo X157.here hx rfl (hb hby at_235) rfl ((if0 _ _).trans (teq (dcmpV_self (nn_w rfl) _ : (cmpValue (FP.dcmp (FP.l2d el0) (FP.l2d el0)) .l) = (0 : Int32))).2) kk_) ?_
            refine Fin.by (fun tt_ kk_ => XS.iconst X157.here hx rfl (hb hby at_238) (XS.goto X157.here hx rfl (pc0 := 239) (pc' := 243) rfl (hb hby at_239) (by decide) (by decide) kk_)) ?_
            show Fin _ _ _ _ _ _ _ (T157.setTop (mkF m 243 #[.val (.int sz), .val (.int pc_), .val (.long v1), .second, .val (.long v2), .second, .val (.long v3), .second, .val (.long v4), .second, .val (.int 2), .val (.int pp), .val (.long (1152921504606846975 : Int64)), .second, .val (.long el0), .second, .val (.long el1), .second, .val (.long el2), .second, .val (.long el3), .second, .val (.ref a101), .val (.double (FP.l2d el0)), .second, .val (.long ((pp.toInt64) * (2 : Int64))), .second, .val (.long el0), .second] [(.int 1)]))
            exact Fin.ret (v := some (.int (nar .boolean (1 : Int32)))) X157 (fun h => by rw [Bd.returns] at h; cases h) Bd.notSynchronized (by rw [e157]; exact ⟨rfl, N157_⟩) (by decide) (by decide) (fun fs hr => retN X157 hx (t := .boolean) Bd.returns (by simp) (hb hby at_243) hr)
          · have E158 : Exa Z T153.heap y142 "java/lang/Long" := (p141_1.keep p153_0)
            have F159 : Fld Z T153.heap y142 "java/lang/Long" "value" "J" (.long el1) := (p141_2.keep p153_0 (ninS (own_exne p141_1 E143 (by decide)) (ninS (Ne.symm (own_arne A144 p141_1 (w_ hw 82 rfl))) nin0)))
            have z160 : n0 ≤ T153.heap.size := Nat.le_trans z152 p153_0.1
            obtain ⟨v161, _, ⟨T161, L161, k161, n161⟩, -, X161, ⟨Lc161, hQ161, l161, y161, z161⟩, st161⟩ := Jvm.LawKit.callS X153 hx (y := y_20) hown (mvT hZ (w_ hw 28 rfl)) (mvT hZ (w_ hw 29 rfl)) (mvT hZ (w_ hw 30 rfl)) (mvT hZ (w_ hw 31 rfl)) (by decide) (backOf (W := 0) (rm_per1 l Z a0 hw [] a101 (1 : Int32) ed136 kE137 ([(.ref y128), (.ref y142), .null, .null, .null, .null, .null, .null, .null, .null] : List Value) y142 (2 : Int32) pp el1 T153.heap n0 z160 (by decide) hC.2.2 (by decide) (by decide) (by decide) rfl p153_1 p153_2 p153_5 p153_3 E158 F159) hZ (w_ hw 31 rfl) (w_ hw 30 rfl) (by decide) (by decide)) (g := (mkF m 144 #[.val (.int sz), .val (.int pc_), .val (.long v1), .second, .val (.long v2), .second, .val (.long v3), .second, .val (.long v4), .second, .val (.int 2), .val (.int pp), .val (.long (1152921504606846975 : Int64)), .second, .val (.long el0), .second, .val (.long el1), .second, .val (.long el2), .second, .val (.long el3), .second, .val (.ref a101), .unset, .unset, .unset, .unset, .unset, .unset] [(.int pp), (.ref a101)])) rfl (by rw [hml]; rfl) (argsL := [(.ref a101), (.int pp)]) (rest := []) (lenOf pd_204 rfl) rfl (by show 2 * 0 + _ ≤ _; exact Nat.le_of_eq rfl) (hb hby at_144) (fun _ _ => ⟨rfl, rfl, (by decide : 4 + 0 ≤ _), (by decide : 15 + 0 ≤ _)⟩)
            dsimp only [Pt.U, Pt.locs, Pt.cells, Pt.slots] at X161 l161 y161 z161 st161 hQ161
            subst l161 y161 z161
            obtain ⟨rfl, Nq161, e161_⟩ := hQ161
            have N161_ := Fr.app N153_ Nq161
            refine Fin.by (fun tt_ kk_ => st161 tt_ kk_) ?_
            have e161 := e161_
            refine Fin.by (fun tt_ kk_ => XS.dstore X161.here hx rfl (hb hby at_147) rfl (l' := #[.val (.int sz), .val (.int pc_), .val (.long v1), .second, .val (.long v2), .second, .val (.long v3), .second, .val (.long v4), .second, .val (.int 2), .val (.int pp), .val (.long (1152921504606846975 : Int64)), .second, .val (.long el0), .second, .val (.long el1), .second, .val (.long el2), .second, .val (.long el3), .second, .val (.ref a101), .val (.double (FP.l2d el1)), .second, .unset, .unset, .unset, .unset]) rfl (XS.iload X161.here hx rfl (hb hby at_149) rfl kk_)) ?_
            show Fin _ _ _ _ _ _ _ (T161.setTop (mkF m 151 #[.val (.int sz), .val (.int pc_), .val (.long v1), .second, .val (.long v2), .second, .val (.long v3), .second, .val (.long v4), .second, .val (.int 2), .val (.int pp), .val (.long (1152921504606846975 : Int64)), .second, .val (.long el0), .second, .val (.long el1), .second, .val (.long el2), .second, .val (.long el3), .second, .val (.ref a101), .val (.double (FP.l2d el1)), .second, .unset, .unset, .unset, .unset] [(.int 2)]))
            refine Fin.by (fun tt_ kk_ => XS.ifYes X161.here hx rfl (pc0 := 151) (pc' := 168) rfl (hb hby at_151) rfl ((if0 _ _).trans (feq (by decide : ¬ (2 : Int32) = (0 : Int32))).2) (by decide) (by decide) kk_) ?_
            refine Fin.by (fun tt_ kk_ => XS.iload X161.here hx rfl (hb hby at_168) rfl (XS.i2l X161.here hx rfl (hb hby at_170) rfl (XS.iload X161.here hx rfl (hb hby at_171) rfl (XS.i2l X161.here hx rfl (hb hby at_173) rfl (XS.lmul X161.here hx rfl (hb hby at_174) rfl (XS.lstore X161.here hx rfl (hb hby at_175) rfl (l' := #[.val (.int sz), .val (.int pc_), .val (.long v1), .second, .val (.long v2), .second, .val (.long v3), .second, .val (.long v4), .second, .val (.int 2), .val (.int pp), .val (.long (1152921504606846975 : Int64)), .second, .val (.long el0), .second, .val (.long el1), .second, .val (.long el2), .second, .val (.long el3), .second, .val (.ref a101), .val (.double (FP.l2d el1)), .second, .val (.long ((pp.toInt64) * (2 : Int64))), .second, .unset, .unset]) rfl (XS.lload X161.here hx rfl (hb hby at_177) rfl kk_))))))) ?_
            refine Fin.by (fun tt_ kk_ => X161.ldc2Long hx hown (mvT hZ (w_ hw 136 rfl)) (g := (mkF m 179 #[.val (.int sz), .val (.int pc_), .val (.long v1), .second, .val (.long v2), .second, .val (.long v3), .second, .val (.long v4), .second, .val (.int 2), .val (.int pp), .val (.long (1152921504606846975 : Int64)), .second, .val (.long el0), .second, .val (.long el1), .second, .val (.long el2), .second, .val (.long el3), .second, .val (.ref a101), .val (.double (FP.l2d el1)), .second, .val (.long ((pp.toInt64) * (2 : Int64))), .second, .unset, .unset] [(.long ((pp.toInt64) * (2 : Int64)))])) rfl (hb hby at_179) _ kk_) ?_
            refine Fin.by (fun tt_ kk_ => XS.lcmp X161.here hx rfl (hb hby at_182) rfl kk_) ?_
            show Fin _ _ _ _ _ _ _ (T161.setTop (mkF m 183 #[.val (.int sz), .val (.int pc_), .val (.long v1), .second, .val (.long v2), .second, .val (.long v3), .second, .val (.long v4), .second, .val (.int 2), .val (.int pp), .val (.long (1152921504606846975 : Int64)), .second, .val (.long el0), .second, .val (.long el1), .second, .val (.long el2), .second, .val (.long el3), .second, .val (.ref a101), .val (.double (FP.l2d el1)), .second, .val (.long ((pp.toInt64) * (2 : Int64))), .second, .unset, .unset] [(.int (lcmpW ((pp.toInt64) * (2 : Int64)) (100 : Int64)))]))
            refine Fin.by (fun tt_ kk_ => XS.ifYes X161.here hx rfl (pc0 := 183) (pc' := 193) rfl (hb hby at_183) rfl ((if0 _ _).trans (tlt (hC.1 : (0 : Int32) < (lcmpW ((pp.toInt64) * (2 : Int64)) (100 : Int64)))).2.2.1) (by decide) (by decide) kk_) ?_
            refine Fin.by (fun tt_ kk_ => XS.lload X161.here hx rfl (hb hby at_193) rfl kk_) ?_
            refine Fin.by (fun tt_ kk_ => X161.ldc2Long hx hown (mvT hZ (w_ hw 137 rfl)) (g := (mkF m 195 #[.val (.int sz), .val (.int pc_), .val (.long v1), .second, .val (.long v2), .second, .val (.long v3), .second, .val (.long v4), .second, .val (.int 2), .val (.int pp), .val (.long (1152921504606846975 : Int64)), .second, .val (.long el0), .second, .val (.long el1), .second, .val (.long el2), .second, .val (.long el3), .second, .val (.ref a101), .val (.double (FP.l2d el1)), .second, .val (.long ((pp.toInt64) * (2 : Int64))), .second, .unset, .unset] [(.long ((pp.toInt64) * (2 : Int64)))])) rfl (hb hby at_195) _ kk_) ?_
            refine Fin.by (fun tt_ kk_ => XS.lcmp X161.here hx rfl (hb hby at_198) rfl kk_) ?_
            show Fin _ _ _ _ _ _ _ (T161.setTop (mkF m 199 #[.val (.int sz), .val (.int pc_), .val (.long v1), .second, .val (.long v2), .second, .val (.long v3), .second, .val (.long v4), .second, .val (.int 2), .val (.int pp), .val (.long (1152921504606846975 : Int64)), .second, .val (.long el0), .second, .val (.long el1), .second, .val (.long el2), .second, .val (.long el3), .second, .val (.ref a101), .val (.double (FP.l2d el1)), .second, .val (.long ((pp.toInt64) * (2 : Int64))), .second, .unset, .unset] [(.int (lcmpW ((pp.toInt64) * (2 : Int64)) (200 : Int64)))]))
            refine Fin.by (fun tt_ kk_ => XS.ifNo X161.here hx rfl (hb hby at_199) rfl ((if0 _ _).trans (flt (hC.2.1 : ¬ (0 : Int32) < (lcmpW ((pp.toInt64) * (2 : Int64)) (200 : Int64)))).2.2.1) kk_) ?_
            refine Fin.by (fun tt_ kk_ => XS.lload X161.here hx rfl (hb hby at_202) rfl (XS.lstore X161.here hx rfl (hb hby at_204) rfl (l' := #[.val (.int sz), .val (.int pc_), .val (.long v1), .second, .val (.long v2), .second, .val (.long v3), .second, .val (.long v4), .second, .val (.int 2), .val (.int pp), .val (.long (1152921504606846975 : Int64)), .second, .val (.long el0), .second, .val (.long el1), .second, .val (.long el2), .second, .val (.long el3), .second, .val (.ref a101), .val (.double (FP.l2d el1)), .second, .val (.long ((pp.toInt64) * (2 : Int64))), .second, .val (.long el1), .second]) rfl (XS.goto X161.here hx rfl (pc0 := 206) (pc' := 229) rfl (hb hby at_206) (by decide) (by decide) (XS.dload X161.here hx rfl (hb hby at_229) rfl (XS.lload X161.here hx rfl (hb hby at_231) rfl (XS.l2dS X161.here hx rfl (hb hby at_233) rfl rfl (XS.dcmpS X161.here hx rfl (hb hby at_234) rfl rfl kk_))))))) ?_
            show Fin _ _ _ _ _ _ _ (T161.setTop (mkF m 235 #[.val (.int sz), .val (.int pc_), .val (.long v1), .second, .val (.long v2), .second, .val (.long v3), .second, .val (.long v4), .second, .val (.int 2), .val (.int pp), .val (.long (1152921504606846975 : Int64)), .second, .val (.long el0), .second, .val (.long el1), .second, .val (.long el2), .second, .val (.long el3), .second, .val (.ref a101), .val (.double (FP.l2d el1)), .second, .val (.long ((pp.toInt64) * (2 : Int64))), .second, .val (.long el1), .second] [(.int (cmpValue (FP.dcmp (FP.l2d el1) (FP.l2d el1)) .l))]))
            refine Fin.by (fun tt_ kk_ => XS.ifNo X161.here hx rfl (hb hby at_235) rfl ((if0 _ _).trans (teq (dcmpV_self (nn_w rfl) _ : (cmpValue (FP.dcmp (FP.l2d el1) (FP.l2d el1)) .l) = (0 : Int32))).2) kk_) ?_
            refine Fin.by (fun tt_ kk_ => XS.iconst X161.here hx rfl (hb hby at_238) (XS.goto X161.here hx rfl (pc0 := 239) (pc' := 243) rfl (hb hby at_239) (by decide) (by decide) kk_)) ?_
            show Fin _ _ _ _ _ _ _ (T161.setTop (mkF m 243 #[.val (.int sz), .val (.int pc_), .val (.long v1), .second, .val (.long v2), .second, .val (.long v3), .second, .val (.long v4), .second, .val (.int 2), .val (.int pp), .val (.long (1152921504606846975 : Int64)), .second, .val (.long el0), .second, .val (.long el1), .second, .val (.long el2), .second, .val (.long el3), .second, .val (.ref a101), .val (.double (FP.l2d el1)), .second, .val (.long ((pp.toInt64) * (2 : Int64))), .second, .val (.long el1), .second] [(.int 1)]))
            exact Fin.ret (v := some (.int (nar .boolean (1 : Int32)))) X161 (fun h => by rw [Bd.returns] at h; cases h) Bd.notSynchronized (by rw [e161]; exact ⟨rfl, N161_⟩) (by decide) (by decide) (fun fs hr => retN X161 hx (t := .boolean) Bd.returns (by simp) (hb hby at_243) hr)
        · show Fin _ _ _ _ _ _ _ (T105.setTop (mkF m 75 #[.val (.int sz), .val (.int pc_), .val (.long v1), .second, .val (.long v2), .second, .val (.long v3), .second, .val (.long v4), .second, .val (.int 3), .val (.int pp), .val (.long (1152921504606846975 : Int64)), .second, .val (.long el0), .second, .val (.long el1), .second, .val (.long el2), .second, .val (.long el3), .second, .val (.ref a101), .unset, .unset, .unset, .unset, .unset, .unset] [(.int 3)]))
          refine Fin.by (fun tt_ kk_ => XS.ifNo X105.here hx rfl (hb hby at_75) rfl ((if0 _ _).trans (tlt (by decide : (0 : Int32) < (3 : Int32))).2.2.2) kk_) ?_
          refine Fin.by (fun tt_ kk_ => XS.aload X105.here hx rfl (hb hby at_78) rfl rfl (XS.lload X105.here hx rfl (hb hby at_80) rfl kk_)) ?_
          have O162 : Old Z n0 T105.heap := (O103.keep p105_0 (allS g102 all0))
          have z163 : n0 ≤ T105.heap.size := Nat.le_trans z104 p105_0.1
          obtain ⟨v164, _, ⟨T164, L164, k164, n164⟩, -, X164, ⟨Lc164, hQ164, l164, y164, z164⟩, st164⟩ := Jvm.LawKit.callS X105 hx (y := y_2) hown (mvT hZ (w_ hw 44 rfl)) (mvT hZ (w_ hw 45 rfl)) (mvT hZ (w_ hw 46 rfl)) (mvT hZ (w_ hw 47 rfl)) (by decide) (backOf (W := 1) (rm_vof l Z a0 hw [] el0 aC kC vC T105.heap n0 z163 S5 VC HC O162) hZ (w_ hw 47 rfl) (w_ hw 46 rfl) (by decide) (by decide)) (g := (mkF m 82 #[.val (.int sz), .val (.int pc_), .val (.long v1), .second, .val (.long v2), .second, .val (.long v3), .second, .val (.long v4), .second, .val (.int 3), .val (.int pp), .val (.long (1152921504606846975 : Int64)), .second, .val (.long el0), .second, .val (.long el1), .second, .val (.long el2), .second, .val (.long el3), .second, .val (.ref a101), .unset, .unset, .unset, .unset, .unset, .unset] [(.long el0), (.ref a101)])) rfl (by rw [hml]; rfl) (argsL := [(.long el0)]) (rest := [(.ref a101)]) (lenOf pd_205 rfl) rfl (by show 2 * 0 + _ ≤ _; exact Nat.le_of_eq rfl) (hb hby at_82) (fun _ _ => ⟨rfl, rfl, (by decide : 1 + 1 ≤ _), (by decide : 3 + 1 ≤ _)⟩)
          dsimp only [Pt.U, Pt.locs, Pt.cells, Pt.slots] at X164 l164 y164 z164 st164 hQ164
          subst l164 y164 z164
          obtain ⟨y165, rfl, Nq164, p164_0, p164_1, p164_2⟩ := hQ164
          have N164_ := Fr.app N105_ Nq164
          refine Fin.by (fun tt_ kk_ => st164 tt_ kk_) ?_
          have E166 : Exa Z T164.heap a101 "java/util/ArrayList" := (p105_1.keep p164_0)
          have F167 : Fld Z T164.heap a101 "java/util/ArrayList" "elementData" "[Ljava/lang/Object;" (.ref aD) := (p105_2.keep p164_0 nin0)
          have F168 : Fld Z T164.heap a101 "java/util/ArrayList" "size" "I" (.int (0 : Int32)) := (p105_3.keep p164_0 nin0)
          have F169 : Fld Z T164.heap a101 "java/util/AbstractList" "modCount" "I" (.int (0 : Int32)) := (p105_4.keep p164_0 nin0)
          have O170 : Old Z n0 T164.heap := (O162.keep p164_0 all0)
          have z171 : n0 ≤ T164.heap.size := Nat.le_trans z163 p164_0.1
          obtain ⟨cq172, kq172, qa172, qb172, qc172⟩ := isOf hZ rfl E166
          obtain ⟨v172, _, ⟨T172, L172, k172, n172⟩, -, X172, ⟨Lc172, hQ172, l172, y172, z172⟩, st172⟩ := X164.virtualBack hx (y := y_10) (z := y_10) hown (mvT hZ (w_ hw 52 rfl)) (mvT hZ (w_ hw 53 rfl)) (notFace_of_selects (args := #[]) (mvT hZ (w_ hw 55 rfl))) (mvT hZ (w_ hw 55 rfl)) (mvT hZ (w_ hw 54 rfl)) (by decide) (backOf (W := 0) (rm_add0 l Z a0 hw [] a101 y165 (0 : Int32) aD kD T164.heap n0 z171 E166 F167 F168 F169 p164_1 g102 S2 VD O170) hZ (w_ hw 56 rfl) (w_ hw 4 rfl) (by decide) (by decide)) qa172 qc172 (g := (mkF m 85 #[.val (.int sz), .val (.int pc_), .val (.long v1), .second, .val (.long v2), .second, .val (.long v3), .second, .val (.long v4), .second, .val (.int 3), .val (.int pp), .val (.long (1152921504606846975 : Int64)), .second, .val (.long el0), .second, .val (.long el1), .second, .val (.long el2), .second, .val (.long el3), .second, .val (.ref a101), .unset, .unset, .unset, .unset, .unset, .unset] [(.ref y165), (.ref a101)])) rfl (by rw [hml]; rfl) (Steps.refl _) (argsL := [(.ref y165)]) (rest := []) (lenOf pd_206 rfl) rfl (by show 2 * 0 + _ ≤ _; exact Nat.le_of_eq rfl) (hb hby at_85) (fun _ _ => ⟨rfl, rfl, (by decide : 2 + 1 ≤ _), (by decide : 4 + 10 ≤ _)⟩)
          dsimp only [Pt.U, Pt.locs, Pt.cells, Pt.slots] at X172 l172 y172 z172 st172 hQ172
          subst l172 y172 z172
          obtain ⟨ed173, kE174, rfl, Nq172, p172_0, p172_1, p172_2, p172_3, p172_4, p172_5, p172_6, p172_7⟩ := hQ172
          have N172_ := Fr.app N164_ Nq172
          refine Fin.byS st172 ?_
          have E175 : Exa Z T172.heap y165 "java/lang/Long" := (p164_1.keep p172_0)
          refine Fin.by (fun tt_ kk_ => XS.pop X172.here hx rfl (hb hby at_88) rfl rfl (XS.iload X172.here hx rfl (hb hby at_89) rfl (XS.iconst X172.here hx rfl (hb hby at_91) kk_))) ?_
          show Fin _ _ _ _ _ _ _ (T172.setTop (mkF m 92 #[.val (.int sz), .val (.int pc_), .val (.long v1), .second, .val (.long v2), .second, .val (.long v3), .second, .val (.long v4), .second, .val (.int 3), .val (.int pp), .val (.long (1152921504606846975 : Int64)), .second, .val (.long el0), .second, .val (.long el1), .second, .val (.long el2), .second, .val (.long el3), .second, .val (.ref a101), .unset, .unset, .unset, .unset, .unset, .unset] [(.int 1), (.int 3)]))
          refine Fin.by (fun tt_ kk_ => XS.icmpNo X172.here hx rfl (hb hby at_92) rfl (tlt (by decide : (1 : Int32) < (3 : Int32))).2.2.2 kk_) ?_
          refine Fin.by (fun tt_ kk_ => XS.aload X172.here hx rfl (hb hby at_95) rfl rfl (XS.lload X172.here hx rfl (hb hby at_97) rfl kk_)) ?_
          have O176 : Old Z n0 T172.heap := (O170.keep p172_0 (allS g102 all0))
          have z177 : n0 ≤ T172.heap.size := Nat.le_trans z171 p172_0.1
          obtain ⟨v178, _, ⟨T178, L178, k178, n178⟩, -, X178, ⟨Lc178, hQ178, l178, y178, z178⟩, st178⟩ := Jvm.LawKit.callS X172 hx (y := y_2) hown (mvT hZ (w_ hw 44 rfl)) (mvT hZ (w_ hw 45 rfl)) (mvT hZ (w_ hw 46 rfl)) (mvT hZ (w_ hw 47 rfl)) (by decide) (backOf (W := 1) (rm_vof l Z a0 hw [] el1 aC kC vC T172.heap n0 z177 S5 VC HC O176) hZ (w_ hw 47 rfl) (w_ hw 46 rfl) (by decide) (by decide)) (g := (mkF m 99 #[.val (.int sz), .val (.int pc_), .val (.long v1), .second, .val (.long v2), .second, .val (.long v3), .second, .val (.long v4), .second, .val (.int 3), .val (.int pp), .val (.long (1152921504606846975 : Int64)), .second, .val (.long el0), .second, .val (.long el1), .second, .val (.long el2), .second, .val (.long el3), .second, .val (.ref a101), .unset, .unset, .unset, .unset, .unset, .unset] [(.long el1), (.ref a101)])) rfl (by rw [hml]; rfl) (argsL := [(.long el1)]) (rest := [(.ref a101)]) (lenOf pd_205 rfl) rfl (by show 2 * 0 + _ ≤ _; exact Nat.le_of_eq rfl) (hb hby at_99) (fun _ _ => ⟨rfl, rfl, (by decide : 3 + 1 ≤ _), (by decide : 14 + 1 ≤ _)⟩)
          dsimp only [Pt.U, Pt.locs, Pt.cells, Pt.slots] at X178 l178 y178 z178 st178 hQ178
          subst l178 y178 z178
          obtain ⟨y179, rfl, Nq178, p178_0, p178_1, p178_2⟩ := hQ178
          have N178_ := Fr.app N172_ Nq178
          refine Fin.by (fun tt_ kk_ => st178 tt_ kk_) ?_
          have E180 : Exa Z T178.heap a101 "java/util/ArrayList" := (p172_2.keep p178_0)
          have A181 : Arv Z T178.heap ed173 kE174 (.object "java/lang/Object") (10 : Int32) [(.ref y165), .null, .null, .null, .null, .null, .null, .null, .null, .null] .null := (p172_6.keep p178_0 nin0)
          have F182 : Fld Z T178.heap a101 "java/util/ArrayList" "elementData" "[Ljava/lang/Object;" (.ref ed173) := (p172_3.keep p178_0 nin0)
          have F183 : Fld Z T178.heap a101 "java/util/ArrayList" "size" "I" (.int (1 : Int32)) := (p172_4.keep p178_0 nin0)
          have F184 : Fld Z T178.heap a101 "java/util/AbstractList" "modCount" "I" (.int ((0 : Int32) + (1 : Int32))) := (p172_5.keep p178_0 nin0)
          have z186 : n0 ≤ T164.heap.size := Nat.le_trans Z0 (Nat.le_trans (Nat.le_trans E101.1 p105_0.1) p164_0.1)
          have g185 : n0 ≤ ed173 := Nat.le_trans z186 p172_1
          have lt188 : a101 < T164.heap.size := Nat.lt_of_lt_of_le A101.lt (Nat.le_trans p105_0.1 p164_0.1)
          have ne187 : a101 ≠ ed173 := Nat.ne_of_lt (Nat.lt_of_lt_of_le lt188 p172_1)
          have z189 : n0 ≤ T178.heap.size := Nat.le_trans z177 p178_0.1
          obtain ⟨cq190, kq190, qa190, qb190, qc190⟩ := isOf hZ rfl E180
          obtain ⟨v190, _, ⟨T190, L190, k190, n190⟩, -, X190, ⟨Lc190, hQ190, l190, y190, z190⟩, st190⟩ := X178.virtualBack hx (y := y_10) (z := y_10) hown (mvT hZ (w_ hw 52 rfl)) (mvT hZ (w_ hw 53 rfl)) (notFace_of_selects (args := #[]) (mvT hZ (w_ hw 55 rfl))) (mvT hZ (w_ hw 55 rfl)) (mvT hZ (w_ hw 54 rfl)) (by decide) (backOf (W := 0) (rm_add1 l Z a0 hw [] a101 y179 ((0 : Int32) + (1 : Int32)) ed173 kE174 y165 T178.heap n0 z189 E180 F182 F183 F184 A181 p172_7 p178_1 g102 g185 (Ne.symm ne187)) hZ (w_ hw 56 rfl) (w_ hw 4 rfl) (by decide) (by decide)) qa190 qc190 (g := (mkF m 102 #[.val (.int sz), .val (.int pc_), .val (.long v1), .second, .val (.long v2), .second, .val (.long v3), .second, .val (.long v4), .second, .val (.int 3), .val (.int pp), .val (.long (1152921504606846975 : Int64)), .second, .val (.long el0), .second, .val (.long el1), .second, .val (.long el2), .second, .val (.long el3), .second, .val (.ref a101), .unset, .unset, .unset, .unset, .unset, .unset] [(.ref y179), (.ref a101)])) rfl (by rw [hml]; rfl) (Steps.refl _) (argsL := [(.ref y179)]) (rest := []) (lenOf pd_206 rfl) rfl (by show 2 * 0 + _ ≤ _; exact Nat.le_of_eq rfl) (hb hby at_102) (fun _ _ => ⟨rfl, rfl, (by decide : 4 + 0 ≤ _), (by decide : 15 + 0 ≤ _)⟩)
          dsimp only [Pt.U, Pt.locs, Pt.cells, Pt.slots] at X190 l190 y190 z190 st190 hQ190
          subst l190 y190 z190
          obtain ⟨rfl, Nq190, p190_0, p190_1, p190_2, p190_3, p190_4, p190_5⟩ := hQ190
          have N190_ := Fr.app N178_ Nq190
          refine Fin.byS st190 ?_
          refine Fin.by (fun tt_ kk_ => XS.pop X190.here hx rfl (hb hby at_105) rfl rfl (XS.iload X190.here hx rfl (hb hby at_106) rfl (XS.iconst X190.here hx rfl (hb hby at_108) kk_))) ?_
          show Fin _ _ _ _ _ _ _ (T190.setTop (mkF m 109 #[.val (.int sz), .val (.int pc_), .val (.long v1), .second, .val (.long v2), .second, .val (.long v3), .second, .val (.long v4), .second, .val (.int 3), .val (.int pp), .val (.long (1152921504606846975 : Int64)), .second, .val (.long el0), .second, .val (.long el1), .second, .val (.long el2), .second, .val (.long el3), .second, .val (.ref a101), .unset, .unset, .unset, .unset, .unset, .unset] [(.int 2), (.int 3)]))
          refine Fin.by (fun tt_ kk_ => XS.icmpNo X190.here hx rfl (hb hby at_109) rfl (tlt (by decide : (2 : Int32) < (3 : Int32))).2.2.2 kk_) ?_
          refine Fin.by (fun tt_ kk_ => XS.aload X190.here hx rfl (hb hby at_112) rfl rfl (XS.lload X190.here hx rfl (hb hby at_114) rfl kk_)) ?_
          have O191 : Old Z n0 T190.heap := ((O176.keep p178_0 all0).keep p190_0 (allS g102 (allS g185 all0)))
          have z192 : n0 ≤ T190.heap.size := Nat.le_trans z189 p190_0.1
          obtain ⟨v193, _, ⟨T193, L193, k193, n193⟩, -, X193, ⟨Lc193, hQ193, l193, y193, z193⟩, st193⟩ := Jvm.LawKit.callS X190 hx (y := y_2) hown (mvT hZ (w_ hw 44 rfl)) (mvT hZ (w_ hw 45 rfl)) (mvT hZ (w_ hw 46 rfl)) (mvT hZ (w_ hw 47 rfl)) (by decide) (backOf (W := 1) (rm_vof l Z a0 hw [] el2 aC kC vC T190.heap n0 z192 S5 VC HC O191) hZ (w_ hw 47 rfl) (w_ hw 46 rfl) (by decide) (by decide)) (g := (mkF m 116 #[.val (.int sz), .val (.int pc_), .val (.long v1), .second, .val (.long v2), .second, .val (.long v3), .second, .val (.long v4), .second, .val (.int 3), .val (.int pp), .val (.long (1152921504606846975 : Int64)), .second, .val (.long el0), .second, .val (.long el1), .second, .val (.long el2), .second, .val (.long el3), .second, .val (.ref a101), .unset, .unset, .unset, .unset, .unset, .unset] [(.long el2), (.ref a101)])) rfl (by rw [hml]; rfl) (argsL := [(.long el2)]) (rest := [(.ref a101)]) (lenOf pd_205 rfl) rfl (by show 2 * 0 + _ ≤ _; exact Nat.le_of_eq rfl) (hb hby at_116) (fun _ _ => ⟨rfl, rfl, (by decide : 4 + 1 ≤ _), (by decide : 15 + 1 ≤ _)⟩)
          dsimp only [Pt.U, Pt.locs, Pt.cells, Pt.slots] at X193 l193 y193 z193 st193 hQ193
          subst l193 y193 z193
          obtain ⟨y194, rfl, Nq193, p193_0, p193_1, p193_2⟩ := hQ193
          have N193_ := Fr.app N190_ Nq193
          refine Fin.by (fun tt_ kk_ => st193 tt_ kk_) ?_
          have E195 : Exa Z T193.heap a101 "java/util/ArrayList" := (p190_1.keep p193_0)
          have A196 : Arv Z T193.heap ed173 kE174 (.object "java/lang/Object") (10 : Int32) [(.ref y165), (.ref y179), .null, .null, .null, .null, .null, .null, .null, .null] .null := (p190_5.keep p193_0 nin0)
          have F197 : Fld Z T193.heap a101 "java/util/ArrayList" "elementData" "[Ljava/lang/Object;" (.ref ed173) := (p190_2.keep p193_0 nin0)
          have F198 : Fld Z T193.heap a101 "java/util/ArrayList" "size" "I" (.int (2 : Int32)) := (p190_3.keep p193_0 nin0)
          have F199 : Fld Z T193.heap a101 "java/util/AbstractList" "modCount" "I" (.int (((0 : Int32) + (1 : Int32)) + (1 : Int32))) := (p190_4.keep p193_0 nin0)
          have z200 : n0 ≤ T193.heap.size := Nat.le_trans z192 p193_0.1
          obtain ⟨cq201, kq201, qa201, qb201, qc201⟩ := isOf hZ rfl E195
          obtain ⟨v201, _, ⟨T201, L201, k201, n201⟩, -, X201, ⟨Lc201, hQ201, l201, y201, z201⟩, st201⟩ := X193.virtualBack hx (y := y_10) (z := y_10) hown (mvT hZ (w_ hw 52 rfl)) (mvT hZ (w_ hw 53 rfl)) (notFace_of_selects (args := #[]) (mvT hZ (w_ hw 55 rfl))) (mvT hZ (w_ hw 55 rfl)) (mvT hZ (w_ hw 54 rfl)) (by decide) (backOf (W := 0) (rm_add2 l Z a0 hw [] a101 y194 (((0 : Int32) + (1 : Int32)) + (1 : Int32)) ed173 kE174 y165 y179 T193.heap n0 z200 E195 F197 F198 F199 A196 p172_7 p193_1 g102 g185 (Ne.symm ne187)) hZ (w_ hw 56 rfl) (w_ hw 4 rfl) (by decide) (by decide)) qa201 qc201 (g := (mkF m 119 #[.val (.int sz), .val (.int pc_), .val (.long v1), .second, .val (.long v2), .second, .val (.long v3), .second, .val (.long v4), .second, .val (.int 3), .val (.int pp), .val (.long (1152921504606846975 : Int64)), .second, .val (.long el0), .second, .val (.long el1), .second, .val (.long el2), .second, .val (.long el3), .second, .val (.ref a101), .unset, .unset, .unset, .unset, .unset, .unset] [(.ref y194), (.ref a101)])) rfl (by rw [hml]; rfl) (Steps.refl _) (argsL := [(.ref y194)]) (rest := []) (lenOf pd_206 rfl) rfl (by show 2 * 0 + _ ≤ _; exact Nat.le_of_eq rfl) (hb hby at_119) (fun _ _ => ⟨rfl, rfl, (by decide : 5 + 0 ≤ _), (by decide : 16 + 0 ≤ _)⟩)
          dsimp only [Pt.U, Pt.locs, Pt.cells, Pt.slots] at X201 l201 y201 z201 st201 hQ201
          subst l201 y201 z201
          obtain ⟨rfl, Nq201, p201_0, p201_1, p201_2, p201_3, p201_4, p201_5⟩ := hQ201
          have N201_ := Fr.app N193_ Nq201
          refine Fin.byS st201 ?_
          refine Fin.by (fun tt_ kk_ => XS.pop X201.here hx rfl (hb hby at_122) rfl rfl (XS.iload X201.here hx rfl (hb hby at_123) rfl (XS.iconst X201.here hx rfl (hb hby at_125) kk_))) ?_
          show Fin _ _ _ _ _ _ _ (T201.setTop (mkF m 126 #[.val (.int sz), .val (.int pc_), .val (.long v1), .second, .val (.long v2), .second, .val (.long v3), .second, .val (.long v4), .second, .val (.int 3), .val (.int pp), .val (.long (1152921504606846975 : Int64)), .second, .val (.long el0), .second, .val (.long el1), .second, .val (.long el2), .second, .val (.long el3), .second, .val (.ref a101), .unset, .unset, .unset, .unset, .unset, .unset] [(.int 3), (.int 3)]))
          refine Fin.by (fun tt_ kk_ => XS.icmpYes X201.here hx rfl (pc0 := 126) (pc' := 140) rfl (hb hby at_126) rfl (flt (by decide : ¬ (3 : Int32) < (3 : Int32))).2.2.2 (by decide) (by decide) kk_) ?_
          refine Fin.by (fun tt_ kk_ => XS.aload X201.here hx rfl (hb hby at_140) rfl rfl (XS.iload X201.here hx rfl (hb hby at_142) rfl kk_)) ?_
          rcases own_n3 hp with hC | hC | hC
          · have E202 : Exa Z T201.heap y165 "java/lang/Long" := ((((E175.keep p178_0).keep p190_0).keep p193_0).keep p201_0)
            have F203 : Fld Z T201.heap y165 "java/lang/Long" "value" "J" (.long el0) := (((((p164_2.keep p172_0 (ninS (own_exne p164_1 E166 (by decide)) nin0)).keep p178_0 nin0).keep p190_0 (ninS (own_exne p164_1 E166 (by decide)) (ninS (Ne.symm (own_arne p172_6 E175 (w_ hw 82 rfl))) nin0))).keep p193_0 nin0).keep p201_0 (ninS (own_exne p164_1 E166 (by decide)) (ninS (Ne.symm (own_arne p172_6 E175 (w_ hw 82 rfl))) nin0)))
            have z204 : n0 ≤ T201.heap.size := Nat.le_trans z200 p201_0.1
            obtain ⟨v205, _, ⟨T205, L205, k205, n205⟩, -, X205, ⟨Lc205, hQ205, l205, y205, z205⟩, st205⟩ := Jvm.LawKit.callS X201 hx (y := y_20) hown (mvT hZ (w_ hw 28 rfl)) (mvT hZ (w_ hw 29 rfl)) (mvT hZ (w_ hw 30 rfl)) (mvT hZ (w_ hw 31 rfl)) (by decide) (backOf (W := 0) (rm_per1 l Z a0 hw [] a101 (0 : Int32) ed173 kE174 ([(.ref y165), (.ref y179), (.ref y194), .null, .null, .null, .null, .null, .null, .null] : List Value) y165 (3 : Int32) pp el0 T201.heap n0 z204 (by decide) hC.2 (by decide) (by decide) (by decide) rfl p201_1 p201_2 p201_5 p201_3 E202 F203) hZ (w_ hw 31 rfl) (w_ hw 30 rfl) (by decide) (by decide)) (g := (mkF m 144 #[.val (.int sz), .val (.int pc_), .val (.long v1), .second, .val (.long v2), .second, .val (.long v3), .second, .val (.long v4), .second, .val (.int 3), .val (.int pp), .val (.long (1152921504606846975 : Int64)), .second, .val (.long el0), .second, .val (.long el1), .second, .val (.long el2), .second, .val (.long el3), .second, .val (.ref a101), .unset, .unset, .unset, .unset, .unset, .unset] [(.int pp), (.ref a101)])) rfl (by rw [hml]; rfl) (argsL := [(.ref a101), (.int pp)]) (rest := []) (lenOf pd_204 rfl) rfl (by show 2 * 0 + _ ≤ _; exact Nat.le_of_eq rfl) (hb hby at_144) (fun _ _ => ⟨rfl, rfl, (by decide : 5 + 0 ≤ _), (by decide : 16 + 0 ≤ _)⟩)
            dsimp only [Pt.U, Pt.locs, Pt.cells, Pt.slots] at X205 l205 y205 z205 st205 hQ205
            subst l205 y205 z205
            obtain ⟨rfl, Nq205, e205_⟩ := hQ205
            have N205_ := Fr.app N201_ Nq205
            refine Fin.by (fun tt_ kk_ => st205 tt_ kk_) ?_
            have e205 := e205_
            refine Fin.by (fun tt_ kk_ => XS.dstore X205.here hx rfl (hb hby at_147) rfl (l' := #[.val (.int sz), .val (.int pc_), .val (.long v1), .second, .val (.long v2), .second, .val (.long v3), .second, .val (.long v4), .second, .val (.int 3), .val (.int pp), .val (.long (1152921504606846975 : Int64)), .second, .val (.long el0), .second, .val (.long el1), .second, .val (.long el2), .second, .val (.long el3), .second, .val (.ref a101), .val (.double (FP.l2d el0)), .second, .unset, .unset, .unset, .unset]) rfl (XS.iload X205.here hx rfl (hb hby at_149) rfl kk_)) ?_
            show Fin _ _ _ _ _ _ _ (T205.setTop (mkF m 151 #[.val (.int sz), .val (.int pc_), .val (.long v1), .second, .val (.long v2), .second, .val (.long v3), .second, .val (.long v4), .second, .val (.int 3), .val (.int pp), .val (.long (1152921504606846975 : Int64)), .second, .val (.long el0), .second, .val (.long el1), .second, .val (.long el2), .second, .val (.long el3), .second, .val (.ref a101), .val (.double (FP.l2d el0)), .second, .unset, .unset, .unset, .unset] [(.int 3)]))
            refine Fin.by (fun tt_ kk_ => XS.ifYes X205.here hx rfl (pc0 := 151) (pc' := 168) rfl (hb hby at_151) rfl ((if0 _ _).trans (feq (by decide : ¬ (3 : Int32) = (0 : Int32))).2) (by decide) (by decide) kk_) ?_
            refine Fin.by (fun tt_ kk_ => XS.iload X205.here hx rfl (hb hby at_168) rfl (XS.i2l X205.here hx rfl (hb hby at_170) rfl (XS.iload X205.here hx rfl (hb hby at_171) rfl (XS.i2l X205.here hx rfl (hb hby at_173) rfl (XS.lmul X205.here hx rfl (hb hby at_174) rfl (XS.lstore X205.here hx rfl (hb hby at_175) rfl (l' := #[.val (.int sz), .val (.int pc_), .val (.long v1), .second, .val (.long v2), .second, .val (.long v3), .second, .val (.long v4), .second, .val (.int 3), .val (.int pp), .val (.long (1152921504606846975 : Int64)), .second, .val (.long el0), .second, .val (.long el1), .second, .val (.long el2), .second, .val (.long el3), .second, .val (.ref a101), .val (.double (FP.l2d el0)), .second, .val (.long ((pp.toInt64) * (3 : Int64))), .second, .unset, .unset]) rfl (XS.lload X205.here hx rfl (hb hby at_177) rfl kk_))))))) ?_
            refine Fin.by (fun tt_ kk_ => X205.ldc2Long hx hown (mvT hZ (w_ hw 136 rfl)) (g := (mkF m 179 #[.val (.int sz), .val (.int pc_), .val (.long v1), .second, .val (.long v2), .second, .val (.long v3), .second, .val (.long v4), .second, .val (.int 3), .val (.int pp), .val (.long (1152921504606846975 : Int64)), .second, .val (.long el0), .second, .val (.long el1), .second, .val (.long el2), .second, .val (.long el3), .second, .val (.ref a101), .val (.double (FP.l2d el0)), .second, .val (.long ((pp.toInt64) * (3 : Int64))), .second, .unset, .unset] [(.long ((pp.toInt64) * (3 : Int64)))])) rfl (hb hby at_179) _ kk_) ?_
            refine Fin.by (fun tt_ kk_ => XS.lcmp X205.here hx rfl (hb hby at_182) rfl kk_) ?_
            show Fin _ _ _ _ _ _ _ (T205.setTop (mkF m 183 #[.val (.int sz), .val (.int pc_), .val (.long v1), .second, .val (.long v2), .second, .val (.long v3), .second, .val (.long v4), .second, .val (.int 3), .val (.int pp), .val (.long (1152921504606846975 : Int64)), .second, .val (.long el0), .second, .val (.long el1), .second, .val (.long el2), .second, .val (.long el3), .second, .val (.ref a101), .val (.double (FP.l2d el0)), .second, .val (.long ((pp.toInt64) * (3 : Int64))), .second, .unset, .unset] [(.int (lcmpW ((pp.toInt64) * (3 : Int64)) (100 : Int64)))]))
            refine Fin.by (fun tt_ kk_ => XS.ifNo X205.here hx rfl (hb hby at_183) rfl ((if0 _ _).trans (flt (hC.1 : ¬ (0 : Int32) < (lcmpW ((pp.toInt64) * (3 : Int64)) (100 : Int64)))).2.2.1) kk_) ?_
            refine Fin.by (fun tt_ kk_ => XS.lload X205.here hx rfl (hb hby at_186) rfl (XS.lstore X205.here hx rfl (hb hby at_188) rfl (l' := #[.val (.int sz), .val (.int pc_), .val (.long v1), .second, .val (.long v2), .second, .val (.long v3), .second, .val (.long v4), .second, .val (.int 3), .val (.int pp), .val (.long (1152921504606846975 : Int64)), .second, .val (.long el0), .second, .val (.long el1), .second, .val (.long el2), .second, .val (.long el3), .second, .val (.ref a101), .val (.double (FP.l2d el0)), .second, .val (.long ((pp.toInt64) * (3 : Int64))), .second, .val (.long el0), .second]) rfl (XS.goto X205.here hx rfl (pc0 := 190) (pc' := 229) rfl (hb hby at_190) (by decide) (by decide) (XS.dload X205.here hx rfl (hb hby at_229) rfl (XS.lload X205.here hx rfl (hb hby at_231) rfl (XS.l2dS X205.here hx rfl (hb hby at_233) rfl rfl (XS.dcmpS X205.here hx rfl (hb hby at_234) rfl rfl kk_))))))) ?_
            show Fin _ _ _ _ _ _ _ (T205.setTop (mkF m 235 #[.val (.int sz), .val (.int pc_), .val (.long v1), .second, .val (.long v2), .second, .val (.long v3), .second, .val (.long v4), .second, .val (.int 3), .val (.int pp), .val (.long (1152921504606846975 : Int64)), .second, .val (.long el0), .second, .val (.long el1), .second, .val (.long el2), .second, .val (.long el3), .second, .val (.ref a101), .val (.double (FP.l2d el0)), .second, .val (.long ((pp.toInt64) * (3 : Int64))), .second, .val (.long el0), .second] [(.int (cmpValue (FP.dcmp (FP.l2d el0) (FP.l2d el0)) .l))]))
            refine Fin.by (fun tt_ kk_ => XS.ifNo X205.here hx rfl (hb hby at_235) rfl ((if0 _ _).trans (teq (dcmpV_self (nn_w rfl) _ : (cmpValue (FP.dcmp (FP.l2d el0) (FP.l2d el0)) .l) = (0 : Int32))).2) kk_) ?_
            refine Fin.by (fun tt_ kk_ => XS.iconst X205.here hx rfl (hb hby at_238) (XS.goto X205.here hx rfl (pc0 := 239) (pc' := 243) rfl (hb hby at_239) (by decide) (by decide) kk_)) ?_
            show Fin _ _ _ _ _ _ _ (T205.setTop (mkF m 243 #[.val (.int sz), .val (.int pc_), .val (.long v1), .second, .val (.long v2), .second, .val (.long v3), .second, .val (.long v4), .second, .val (.int 3), .val (.int pp), .val (.long (1152921504606846975 : Int64)), .second, .val (.long el0), .second, .val (.long el1), .second, .val (.long el2), .second, .val (.long el3), .second, .val (.ref a101), .val (.double (FP.l2d el0)), .second, .val (.long ((pp.toInt64) * (3 : Int64))), .second, .val (.long el0), .second] [(.int 1)]))
            exact Fin.ret (v := some (.int (nar .boolean (1 : Int32)))) X205 (fun h => by rw [Bd.returns] at h; cases h) Bd.notSynchronized (by rw [e205]; exact ⟨rfl, N205_⟩) (by decide) (by decide) (fun fs hr => retN X205 hx (t := .boolean) Bd.returns (by simp) (hb hby at_243) hr)
          · have E206 : Exa Z T201.heap y179 "java/lang/Long" := (((p178_1.keep p190_0).keep p193_0).keep p201_0)
            have F207 : Fld Z T201.heap y179 "java/lang/Long" "value" "J" (.long el1) := (((p178_2.keep p190_0 (ninS (own_exne p178_1 E180 (by decide)) (ninS (Ne.symm (own_arne A181 p178_1 (w_ hw 82 rfl))) nin0))).keep p193_0 nin0).keep p201_0 (ninS (own_exne p178_1 E180 (by decide)) (ninS (Ne.symm (own_arne A181 p178_1 (w_ hw 82 rfl))) nin0)))
            have z208 : n0 ≤ T201.heap.size := Nat.le_trans z200 p201_0.1
            obtain ⟨v209, _, ⟨T209, L209, k209, n209⟩, -, X209, ⟨Lc209, hQ209, l209, y209, z209⟩, st209⟩ := Jvm.LawKit.callS X201 hx (y := y_20) hown (mvT hZ (w_ hw 28 rfl)) (mvT hZ (w_ hw 29 rfl)) (mvT hZ (w_ hw 30 rfl)) (mvT hZ (w_ hw 31 rfl)) (by decide) (backOf (W := 0) (rm_per1 l Z a0 hw [] a101 (1 : Int32) ed173 kE174 ([(.ref y165), (.ref y179), (.ref y194), .null, .null, .null, .null, .null, .null, .null] : List Value) y179 (3 : Int32) pp el1 T201.heap n0 z208 (by decide) hC.2.2 (by decide) (by decide) (by decide) rfl p201_1 p201_2 p201_5 p201_3 E206 F207) hZ (w_ hw 31 rfl) (w_ hw 30 rfl) (by decide) (by decide)) (g := (mkF m 144 #[.val (.int sz), .val (.int pc_), .val (.long v1), .second, .val (.long v2), .second, .val (.long v3), .second, .val (.long v4), .second, .val (.int 3), .val (.int pp), .val (.long (1152921504606846975 : Int64)), .second, .val (.long el0), .second, .val (.long el1), .second, .val (.long el2), .second, .val (.long el3), .second, .val (.ref a101), .unset, .unset, .unset, .unset, .unset, .unset] [(.int pp), (.ref a101)])) rfl (by rw [hml]; rfl) (argsL := [(.ref a101), (.int pp)]) (rest := []) (lenOf pd_204 rfl) rfl (by show 2 * 0 + _ ≤ _; exact Nat.le_of_eq rfl) (hb hby at_144) (fun _ _ => ⟨rfl, rfl, (by decide : 5 + 0 ≤ _), (by decide : 16 + 0 ≤ _)⟩)
            dsimp only [Pt.U, Pt.locs, Pt.cells, Pt.slots] at X209 l209 y209 z209 st209 hQ209
            subst l209 y209 z209
            obtain ⟨rfl, Nq209, e209_⟩ := hQ209
            have N209_ := Fr.app N201_ Nq209
            refine Fin.by (fun tt_ kk_ => st209 tt_ kk_) ?_
            have e209 := e209_
            refine Fin.by (fun tt_ kk_ => XS.dstore X209.here hx rfl (hb hby at_147) rfl (l' := #[.val (.int sz), .val (.int pc_), .val (.long v1), .second, .val (.long v2), .second, .val (.long v3), .second, .val (.long v4), .second, .val (.int 3), .val (.int pp), .val (.long (1152921504606846975 : Int64)), .second, .val (.long el0), .second, .val (.long el1), .second, .val (.long el2), .second, .val (.long el3), .second, .val (.ref a101), .val (.double (FP.l2d el1)), .second, .unset, .unset, .unset, .unset]) rfl (XS.iload X209.here hx rfl (hb hby at_149) rfl kk_)) ?_
            show Fin _ _ _ _ _ _ _ (T209.setTop (mkF m 151 #[.val (.int sz), .val (.int pc_), .val (.long v1), .second, .val (.long v2), .second, .val (.long v3), .second, .val (.long v4), .second, .val (.int 3), .val (.int pp), .val (.long (1152921504606846975 : Int64)), .second, .val (.long el0), .second, .val (.long el1), .second, .val (.long el2), .second, .val (.long el3), .second, .val (.ref a101), .val (.double (FP.l2d el1)), .second, .unset, .unset, .unset, .unset] [(.int 3)]))
            refine Fin.by (fun tt_ kk_ => XS.ifYes X209.here hx rfl (pc0 := 151) (pc' := 168) rfl (hb hby at_151) rfl ((if0 _ _).trans (feq (by decide : ¬ (3 : Int32) = (0 : Int32))).2) (by decide) (by decide) kk_) ?_
            refine Fin.by (fun tt_ kk_ => XS.iload X209.here hx rfl (hb hby at_168) rfl (XS.i2l X209.here hx rfl (hb hby at_170) rfl (XS.iload X209.here hx rfl (hb hby at_171) rfl (XS.i2l X209.here hx rfl (hb hby at_173) rfl (XS.lmul X209.here hx rfl (hb hby at_174) rfl (XS.lstore X209.here hx rfl (hb hby at_175) rfl (l' := #[.val (.int sz), .val (.int pc_), .val (.long v1), .second, .val (.long v2), .second, .val (.long v3), .second, .val (.long v4), .second, .val (.int 3), .val (.int pp), .val (.long (1152921504606846975 : Int64)), .second, .val (.long el0), .second, .val (.long el1), .second, .val (.long el2), .second, .val (.long el3), .second, .val (.ref a101), .val (.double (FP.l2d el1)), .second, .val (.long ((pp.toInt64) * (3 : Int64))), .second, .unset, .unset]) rfl (XS.lload X209.here hx rfl (hb hby at_177) rfl kk_))))))) ?_
            refine Fin.by (fun tt_ kk_ => X209.ldc2Long hx hown (mvT hZ (w_ hw 136 rfl)) (g := (mkF m 179 #[.val (.int sz), .val (.int pc_), .val (.long v1), .second, .val (.long v2), .second, .val (.long v3), .second, .val (.long v4), .second, .val (.int 3), .val (.int pp), .val (.long (1152921504606846975 : Int64)), .second, .val (.long el0), .second, .val (.long el1), .second, .val (.long el2), .second, .val (.long el3), .second, .val (.ref a101), .val (.double (FP.l2d el1)), .second, .val (.long ((pp.toInt64) * (3 : Int64))), .second, .unset, .unset] [(.long ((pp.toInt64) * (3 : Int64)))])) rfl (hb hby at_179) _ kk_) ?_
            refine Fin.by (fun tt_ kk_ => XS.lcmp X209.here hx rfl (hb hby at_182) rfl kk_) ?_
            show Fin _ _ _ _ _ _ _ (T209.setTop (mkF m 183 #[.val (.int sz), .val (.int pc_), .val (.long v1), .second, .val (.long v2), .second, .val (.long v3), .second, .val (.long v4), .second, .val (.int 3), .val (.int pp), .val (.long (1152921504606846975 : Int64)), .second, .val (.long el0), .second, .val (.long el1), .second, .val (.long el2), .second, .val (.long el3), .second, .val (.ref a101), .val (.double (FP.l2d el1)), .second, .val (.long ((pp.toInt64) * (3 : Int64))), .second, .unset, .unset] [(.int (lcmpW ((pp.toInt64) * (3 : Int64)) (100 : Int64)))]))
            refine Fin.by (fun tt_ kk_ => XS.ifYes X209.here hx rfl (pc0 := 183) (pc' := 193) rfl (hb hby at_183) rfl ((if0 _ _).trans (tlt (hC.1 : (0 : Int32) < (lcmpW ((pp.toInt64) * (3 : Int64)) (100 : Int64)))).2.2.1) (by decide) (by decide) kk_) ?_
            refine Fin.by (fun tt_ kk_ => XS.lload X209.here hx rfl (hb hby at_193) rfl kk_) ?_
            refine Fin.by (fun tt_ kk_ => X209.ldc2Long hx hown (mvT hZ (w_ hw 137 rfl)) (g := (mkF m 195 #[.val (.int sz), .val (.int pc_), .val (.long v1), .second, .val (.long v2), .second, .val (.long v3), .second, .val (.long v4), .second, .val (.int 3), .val (.int pp), .val (.long (1152921504606846975 : Int64)), .second, .val (.long el0), .second, .val (.long el1), .second, .val (.long el2), .second, .val (.long el3), .second, .val (.ref a101), .val (.double (FP.l2d el1)), .second, .val (.long ((pp.toInt64) * (3 : Int64))), .second, .unset, .unset] [(.long ((pp.toInt64) * (3 : Int64)))])) rfl (hb hby at_195) _ kk_) ?_
            refine Fin.by (fun tt_ kk_ => XS.lcmp X209.here hx rfl (hb hby at_198) rfl kk_) ?_
            show Fin _ _ _ _ _ _ _ (T209.setTop (mkF m 199 #[.val (.int sz), .val (.int pc_), .val (.long v1), .second, .val (.long v2), .second, .val (.long v3), .second, .val (.long v4), .second, .val (.int 3), .val (.int pp), .val (.long (1152921504606846975 : Int64)), .second, .val (.long el0), .second, .val (.long el1), .second, .val (.long el2), .second, .val (.long el3), .second, .val (.ref a101), .val (.double (FP.l2d el1)), .second, .val (.long ((pp.toInt64) * (3 : Int64))), .second, .unset, .unset] [(.int (lcmpW ((pp.toInt64) * (3 : Int64)) (200 : Int64)))]))
            refine Fin.by (fun tt_ kk_ => XS.ifNo X209.here hx rfl (hb hby at_199) rfl ((if0 _ _).trans (flt (hC.2.1 : ¬ (0 : Int32) < (lcmpW ((pp.toInt64) * (3 : Int64)) (200 : Int64)))).2.2.1) kk_) ?_
            refine Fin.by (fun tt_ kk_ => XS.lload X209.here hx rfl (hb hby at_202) rfl (XS.lstore X209.here hx rfl (hb hby at_204) rfl (l' := #[.val (.int sz), .val (.int pc_), .val (.long v1), .second, .val (.long v2), .second, .val (.long v3), .second, .val (.long v4), .second, .val (.int 3), .val (.int pp), .val (.long (1152921504606846975 : Int64)), .second, .val (.long el0), .second, .val (.long el1), .second, .val (.long el2), .second, .val (.long el3), .second, .val (.ref a101), .val (.double (FP.l2d el1)), .second, .val (.long ((pp.toInt64) * (3 : Int64))), .second, .val (.long el1), .second]) rfl (XS.goto X209.here hx rfl (pc0 := 206) (pc' := 229) rfl (hb hby at_206) (by decide) (by decide) (XS.dload X209.here hx rfl (hb hby at_229) rfl (XS.lload X209.here hx rfl (hb hby at_231) rfl (XS.l2dS X209.here hx rfl (hb hby at_233) rfl rfl (XS.dcmpS X209.here hx rfl (hb hby at_234) rfl rfl kk_))))))) ?_
            show Fin _ _ _ _ _ _ _ (T209.setTop (mkF m 235 #[.val (.int sz), .val (.int pc_), .val (.long v1), .second, .val (.long v2), .second, .val (.long v3), .second, .val (.long v4), .second, .val (.int 3), .val (.int pp), .val (.long (1152921504606846975 : Int64)), .second, .val (.long el0), .second, .val (.long el1), .second, .val (.long el2), .second, .val (.long el3), .second, .val (.ref a101), .val (.double (FP.l2d el1)), .second, .val (.long ((pp.toInt64) * (3 : Int64))), .second, .val (.long el1), .second] [(.int (cmpValue (FP.dcmp (FP.l2d el1) (FP.l2d el1)) .l))]))
            refine Fin.by (fun tt_ kk_ => XS.ifNo X209.here hx rfl (hb hby at_235) rfl ((if0 _ _).trans (teq (dcmpV_self (nn_w rfl) _ : (cmpValue (FP.dcmp (FP.l2d el1) (FP.l2d el1)) .l) = (0 : Int32))).2) kk_) ?_
            refine Fin.by (fun tt_ kk_ => XS.iconst X209.here hx rfl (hb hby at_238) (XS.goto X209.here hx rfl (pc0 := 239) (pc' := 243) rfl (hb hby at_239) (by decide) (by decide) kk_)) ?_
            show Fin _ _ _ _ _ _ _ (T209.setTop (mkF m 243 #[.val (.int sz), .val (.int pc_), .val (.long v1), .second, .val (.long v2), .second, .val (.long v3), .second, .val (.long v4), .second, .val (.int 3), .val (.int pp), .val (.long (1152921504606846975 : Int64)), .second, .val (.long el0), .second, .val (.long el1), .second, .val (.long el2), .second, .val (.long el3), .second, .val (.ref a101), .val (.double (FP.l2d el1)), .second, .val (.long ((pp.toInt64) * (3 : Int64))), .second, .val (.long el1), .second] [(.int 1)]))
            exact Fin.ret (v := some (.int (nar .boolean (1 : Int32)))) X209 (fun h => by rw [Bd.returns] at h; cases h) Bd.notSynchronized (by rw [e209]; exact ⟨rfl, N209_⟩) (by decide) (by decide) (fun fs hr => retN X209 hx (t := .boolean) Bd.returns (by simp) (hb hby at_243) hr)
          · have E210 : Exa Z T201.heap y194 "java/lang/Long" := (p193_1.keep p201_0)
            have F211 : Fld Z T201.heap y194 "java/lang/Long" "value" "J" (.long el2) := (p193_2.keep p201_0 (ninS (own_exne p193_1 E195 (by decide)) (ninS (Ne.symm (own_arne A196 p193_1 (w_ hw 82 rfl))) nin0)))
            have z212 : n0 ≤ T201.heap.size := Nat.le_trans z200 p201_0.1
            obtain ⟨v213, _, ⟨T213, L213, k213, n213⟩, -, X213, ⟨Lc213, hQ213, l213, y213, z213⟩, st213⟩ := Jvm.LawKit.callS X201 hx (y := y_20) hown (mvT hZ (w_ hw 28 rfl)) (mvT hZ (w_ hw 29 rfl)) (mvT hZ (w_ hw 30 rfl)) (mvT hZ (w_ hw 31 rfl)) (by decide) (backOf (W := 0) (rm_per1 l Z a0 hw [] a101 (2 : Int32) ed173 kE174 ([(.ref y165), (.ref y179), (.ref y194), .null, .null, .null, .null, .null, .null, .null] : List Value) y194 (3 : Int32) pp el2 T201.heap n0 z212 (by decide) hC.2.2.2 (by decide) (by decide) (by decide) rfl p201_1 p201_2 p201_5 p201_3 E210 F211) hZ (w_ hw 31 rfl) (w_ hw 30 rfl) (by decide) (by decide)) (g := (mkF m 144 #[.val (.int sz), .val (.int pc_), .val (.long v1), .second, .val (.long v2), .second, .val (.long v3), .second, .val (.long v4), .second, .val (.int 3), .val (.int pp), .val (.long (1152921504606846975 : Int64)), .second, .val (.long el0), .second, .val (.long el1), .second, .val (.long el2), .second, .val (.long el3), .second, .val (.ref a101), .unset, .unset, .unset, .unset, .unset, .unset] [(.int pp), (.ref a101)])) rfl (by rw [hml]; rfl) (argsL := [(.ref a101), (.int pp)]) (rest := []) (lenOf pd_204 rfl) rfl (by show 2 * 0 + _ ≤ _; exact Nat.le_of_eq rfl) (hb hby at_144) (fun _ _ => ⟨rfl, rfl, (by decide : 5 + 0 ≤ _), (by decide : 16 + 0 ≤ _)⟩)
            dsimp only [Pt.U, Pt.locs, Pt.cells, Pt.slots] at X213 l213 y213 z213 st213 hQ213
            subst l213 y213 z213
            obtain ⟨rfl, Nq213, e213_⟩ := hQ213
            have N213_ := Fr.app N201_ Nq213
            refine Fin.by (fun tt_ kk_ => st213 tt_ kk_) ?_
            have e213 := e213_
            refine Fin.by (fun tt_ kk_ => XS.dstore X213.here hx rfl (hb hby at_147) rfl (l' := #[.val (.int sz), .val (.int pc_), .val (.long v1), .second, .val (.long v2), .second, .val (.long v3), .second, .val (.long v4), .second, .val (.int 3), .val (.int pp), .val (.long (1152921504606846975 : Int64)), .second, .val (.long el0), .second, .val (.long el1), .second, .val (.long el2), .second, .val (.long el3), .second, .val (.ref a101), .val (.double (FP.l2d el2)), .second, .unset, .unset, .unset, .unset]) rfl (XS.iload X213.here hx rfl (hb hby at_149) rfl kk_)) ?_
            show Fin _ _ _ _ _ _ _ (T213.setTop (mkF m 151 #[.val (.int sz), .val (.int pc_), .val (.long v1), .second, .val (.long v2), .second, .val (.long v3), .second, .val (.long v4), .second, .val (.int 3), .val (.int pp), .val (.long (1152921504606846975 : Int64)), .second, .val (.long el0), .second, .val (.long el1), .second, .val (.long el2), .second, .val (.long el3), .second, .val (.ref a101), .val (.double (FP.l2d el2)), .second, .unset, .unset, .unset, .unset] [(.int 3)]))
            refine Fin.by (fun tt_ kk_ => XS.ifYes X213.here hx rfl (pc0 := 151) (pc' := 168) rfl (hb hby at_151) rfl ((if0 _ _).trans (feq (by decide : ¬ (3 : Int32) = (0 : Int32))).2) (by decide) (by decide) kk_) ?_
            refine Fin.by (fun tt_ kk_ => XS.iload X213.here hx rfl (hb hby at_168) rfl (XS.i2l X213.here hx rfl (hb hby at_170) rfl (XS.iload X213.here hx rfl (hb hby at_171) rfl (XS.i2l X213.here hx rfl (hb hby at_173) rfl (XS.lmul X213.here hx rfl (hb hby at_174) rfl (XS.lstore X213.here hx rfl (hb hby at_175) rfl (l' := #[.val (.int sz), .val (.int pc_), .val (.long v1), .second, .val (.long v2), .second, .val (.long v3), .second, .val (.long v4), .second, .val (.int 3), .val (.int pp), .val (.long (1152921504606846975 : Int64)), .second, .val (.long el0), .second, .val (.long el1), .second, .val (.long el2), .second, .val (.long el3), .second, .val (.ref a101), .val (.double (FP.l2d el2)), .second, .val (.long ((pp.toInt64) * (3 : Int64))), .second, .unset, .unset]) rfl (XS.lload X213.here hx rfl (hb hby at_177) rfl kk_))))))) ?_
            refine Fin.by (fun tt_ kk_ => X213.ldc2Long hx hown (mvT hZ (w_ hw 136 rfl)) (g := (mkF m 179 #[.val (.int sz), .val (.int pc_), .val (.long v1), .second, .val (.long v2), .second, .val (.long v3), .second, .val (.long v4), .second, .val (.int 3), .val (.int pp), .val (.long (1152921504606846975 : Int64)), .second, .val (.long el0), .second, .val (.long el1), .second, .val (.long el2), .second, .val (.long el3), .second, .val (.ref a101), .val (.double (FP.l2d el2)), .second, .val (.long ((pp.toInt64) * (3 : Int64))), .second, .unset, .unset] [(.long ((pp.toInt64) * (3 : Int64)))])) rfl (hb hby at_179) _ kk_) ?_
            refine Fin.by (fun tt_ kk_ => XS.lcmp X213.here hx rfl (hb hby at_182) rfl kk_) ?_
            show Fin _ _ _ _ _ _ _ (T213.setTop (mkF m 183 #[.val (.int sz), .val (.int pc_), .val (.long v1), .second, .val (.long v2), .second, .val (.long v3), .second, .val (.long v4), .second, .val (.int 3), .val (.int pp), .val (.long (1152921504606846975 : Int64)), .second, .val (.long el0), .second, .val (.long el1), .second, .val (.long el2), .second, .val (.long el3), .second, .val (.ref a101), .val (.double (FP.l2d el2)), .second, .val (.long ((pp.toInt64) * (3 : Int64))), .second, .unset, .unset] [(.int (lcmpW ((pp.toInt64) * (3 : Int64)) (100 : Int64)))]))
            refine Fin.by (fun tt_ kk_ => XS.ifYes X213.here hx rfl (pc0 := 183) (pc' := 193) rfl (hb hby at_183) rfl ((if0 _ _).trans (tlt (hC.1 : (0 : Int32) < (lcmpW ((pp.toInt64) * (3 : Int64)) (100 : Int64)))).2.2.1) (by decide) (by decide) kk_) ?_
            refine Fin.by (fun tt_ kk_ => XS.lload X213.here hx rfl (hb hby at_193) rfl kk_) ?_
            refine Fin.by (fun tt_ kk_ => X213.ldc2Long hx hown (mvT hZ (w_ hw 137 rfl)) (g := (mkF m 195 #[.val (.int sz), .val (.int pc_), .val (.long v1), .second, .val (.long v2), .second, .val (.long v3), .second, .val (.long v4), .second, .val (.int 3), .val (.int pp), .val (.long (1152921504606846975 : Int64)), .second, .val (.long el0), .second, .val (.long el1), .second, .val (.long el2), .second, .val (.long el3), .second, .val (.ref a101), .val (.double (FP.l2d el2)), .second, .val (.long ((pp.toInt64) * (3 : Int64))), .second, .unset, .unset] [(.long ((pp.toInt64) * (3 : Int64)))])) rfl (hb hby at_195) _ kk_) ?_
            refine Fin.by (fun tt_ kk_ => XS.lcmp X213.here hx rfl (hb hby at_198) rfl kk_) ?_
            show Fin _ _ _ _ _ _ _ (T213.setTop (mkF m 199 #[.val (.int sz), .val (.int pc_), .val (.long v1), .second, .val (.long v2), .second, .val (.long v3), .second, .val (.long v4), .second, .val (.int 3), .val (.int pp), .val (.long (1152921504606846975 : Int64)), .second, .val (.long el0), .second, .val (.long el1), .second, .val (.long el2), .second, .val (.long el3), .second, .val (.ref a101), .val (.double (FP.l2d el2)), .second, .val (.long ((pp.toInt64) * (3 : Int64))), .second, .unset, .unset] [(.int (lcmpW ((pp.toInt64) * (3 : Int64)) (200 : Int64)))]))
            refine Fin.by (fun tt_ kk_ => XS.ifYes X213.here hx rfl (pc0 := 199) (pc' := 209) rfl (hb hby at_199) rfl ((if0 _ _).trans (tlt (hC.2.1 : (0 : Int32) < (lcmpW ((pp.toInt64) * (3 : Int64)) (200 : Int64)))).2.2.1) (by decide) (by decide) kk_) ?_
            refine Fin.by (fun tt_ kk_ => XS.lload X213.here hx rfl (hb hby at_209) rfl kk_) ?_
            refine Fin.by (fun tt_ kk_ => X213.ldc2Long hx hown (mvT hZ (w_ hw 138 rfl)) (g := (mkF m 211 #[.val (.int sz), .val (.int pc_), .val (.long v1), .second, .val (.long v2), .second, .val (.long v3), .second, .val (.long v4), .second, .val (.int 3), .val (.int pp), .val (.long (1152921504606846975 : Int64)), .second, .val (.long el0), .second, .val (.long el1), .second, .val (.long el2), .second, .val (.long el3), .second, .val (.ref a101), .val (.double (FP.l2d el2)), .second, .val (.long ((pp.toInt64) * (3 : Int64))), .second, .unset, .unset] [(.long ((pp.toInt64) * (3 : Int64)))])) rfl (hb hby at_211) _ kk_) ?_
            refine Fin.by (fun tt_ kk_ => XS.lcmp X213.here hx rfl (hb hby at_214) rfl kk_) ?_
            show Fin _ _ _ _ _ _ _ (T213.setTop (mkF m 215 #[.val (.int sz), .val (.int pc_), .val (.long v1), .second, .val (.long v2), .second, .val (.long v3), .second, .val (.long v4), .second, .val (.int 3), .val (.int pp), .val (.long (1152921504606846975 : Int64)), .second, .val (.long el0), .second, .val (.long el1), .second, .val (.long el2), .second, .val (.long el3), .second, .val (.ref a101), .val (.double (FP.l2d el2)), .second, .val (.long ((pp.toInt64) * (3 : Int64))), .second, .unset, .unset] [(.int (lcmpW ((pp.toInt64) * (3 : Int64)) (300 : Int64)))]))
            refine Fin.by (fun tt_ kk_ => XS.ifNo X213.here hx rfl (hb hby at_215) rfl ((if0 _ _).trans (flt (hC.2.2.1 : ¬ (0 : Int32) < (lcmpW ((pp.toInt64) * (3 : Int64)) (300 : Int64)))).2.2.1) kk_) ?_
            refine Fin.by (fun tt_ kk_ => XS.lload X213.here hx rfl (hb hby at_218) rfl (XS.lstore X213.here hx rfl (hb hby at_220) rfl (l' := #[.val (.int sz), .val (.int pc_), .val (.long v1), .second, .val (.long v2), .second, .val (.long v3), .second, .val (.long v4), .second, .val (.int 3), .val (.int pp), .val (.long (1152921504606846975 : Int64)), .second, .val (.long el0), .second, .val (.long el1), .second, .val (.long el2), .second, .val (.long el3), .second, .val (.ref a101), .val (.double (FP.l2d el2)), .second, .val (.long ((pp.toInt64) * (3 : Int64))), .second, .val (.long el2), .second]) rfl (XS.goto X213.here hx rfl (pc0 := 222) (pc' := 229) rfl (hb hby at_222) (by decide) (by decide) (XS.dload X213.here hx rfl (hb hby at_229) rfl (XS.lload X213.here hx rfl (hb hby at_231) rfl (XS.l2dS X213.here hx rfl (hb hby at_233) rfl rfl (XS.dcmpS X213.here hx rfl (hb hby at_234) rfl rfl kk_))))))) ?_
            show Fin _ _ _ _ _ _ _ (T213.setTop (mkF m 235 #[.val (.int sz), .val (.int pc_), .val (.long v1), .second, .val (.long v2), .second, .val (.long v3), .second, .val (.long v4), .second, .val (.int 3), .val (.int pp), .val (.long (1152921504606846975 : Int64)), .second, .val (.long el0), .second, .val (.long el1), .second, .val (.long el2), .second, .val (.long el3), .second, .val (.ref a101), .val (.double (FP.l2d el2)), .second, .val (.long ((pp.toInt64) * (3 : Int64))), .second, .val (.long el2), .second] [(.int (cmpValue (FP.dcmp (FP.l2d el2) (FP.l2d el2)) .l))]))
            refine Fin.by (fun tt_ kk_ => XS.ifNo X213.here hx rfl (hb hby at_235) rfl ((if0 _ _).trans (teq (dcmpV_self (nn_w rfl) _ : (cmpValue (FP.dcmp (FP.l2d el2) (FP.l2d el2)) .l) = (0 : Int32))).2) kk_) ?_
            refine Fin.by (fun tt_ kk_ => XS.iconst X213.here hx rfl (hb hby at_238) (XS.goto X213.here hx rfl (pc0 := 239) (pc' := 243) rfl (hb hby at_239) (by decide) (by decide) kk_)) ?_
            show Fin _ _ _ _ _ _ _ (T213.setTop (mkF m 243 #[.val (.int sz), .val (.int pc_), .val (.long v1), .second, .val (.long v2), .second, .val (.long v3), .second, .val (.long v4), .second, .val (.int 3), .val (.int pp), .val (.long (1152921504606846975 : Int64)), .second, .val (.long el0), .second, .val (.long el1), .second, .val (.long el2), .second, .val (.long el3), .second, .val (.ref a101), .val (.double (FP.l2d el2)), .second, .val (.long ((pp.toInt64) * (3 : Int64))), .second, .val (.long el2), .second] [(.int 1)]))
            exact Fin.ret (v := some (.int (nar .boolean (1 : Int32)))) X213 (fun h => by rw [Bd.returns] at h; cases h) Bd.notSynchronized (by rw [e213]; exact ⟨rfl, N213_⟩) (by decide) (by decide) (fun fs hr => retN X213 hx (t := .boolean) Bd.returns (by simp) (hb hby at_243) hr)
        · show Fin _ _ _ _ _ _ _ (T105.setTop (mkF m 75 #[.val (.int sz), .val (.int pc_), .val (.long v1), .second, .val (.long v2), .second, .val (.long v3), .second, .val (.long v4), .second, .val (.int 4), .val (.int pp), .val (.long (1152921504606846975 : Int64)), .second, .val (.long el0), .second, .val (.long el1), .second, .val (.long el2), .second, .val (.long el3), .second, .val (.ref a101), .unset, .unset, .unset, .unset, .unset, .unset] [(.int 4)]))
          refine Fin.by (fun tt_ kk_ => XS.ifNo X105.here hx rfl (hb hby at_75) rfl ((if0 _ _).trans (tlt (by decide : (0 : Int32) < (4 : Int32))).2.2.2) kk_) ?_
          refine Fin.by (fun tt_ kk_ => XS.aload X105.here hx rfl (hb hby at_78) rfl rfl (XS.lload X105.here hx rfl (hb hby at_80) rfl kk_)) ?_
          have O214 : Old Z n0 T105.heap := (O103.keep p105_0 (allS g102 all0))
          have z215 : n0 ≤ T105.heap.size := Nat.le_trans z104 p105_0.1
          obtain ⟨v216, _, ⟨T216, L216, k216, n216⟩, -, X216, ⟨Lc216, hQ216, l216, y216, z216⟩, st216⟩ := Jvm.LawKit.callS X105 hx (y := y_2) hown (mvT hZ (w_ hw 44 rfl)) (mvT hZ (w_ hw 45 rfl)) (mvT hZ (w_ hw 46 rfl)) (mvT hZ (w_ hw 47 rfl)) (by decide) (backOf (W := 1) (rm_vof l Z a0 hw [] el0 aC kC vC T105.heap n0 z215 S5 VC HC O214) hZ (w_ hw 47 rfl) (w_ hw 46 rfl) (by decide) (by decide)) (g := (mkF m 82 #[.val (.int sz), .val (.int pc_), .val (.long v1), .second, .val (.long v2), .second, .val (.long v3), .second, .val (.long v4), .second, .val (.int 4), .val (.int pp), .val (.long (1152921504606846975 : Int64)), .second, .val (.long el0), .second, .val (.long el1), .second, .val (.long el2), .second, .val (.long el3), .second, .val (.ref a101), .unset, .unset, .unset, .unset, .unset, .unset] [(.long el0), (.ref a101)])) rfl (by rw [hml]; rfl) (argsL := [(.long el0)]) (rest := [(.ref a101)]) (lenOf pd_205 rfl) rfl (by show 2 * 0 + _ ≤ _; exact Nat.le_of_eq rfl) (hb hby at_82) (fun _ _ => ⟨rfl, rfl, (by decide : 1 + 1 ≤ _), (by decide : 3 + 1 ≤ _)⟩)
          dsimp only [Pt.U, Pt.locs, Pt.cells, Pt.slots] at X216 l216 y216 z216 st216 hQ216
          subst l216 y216 z216
          obtain ⟨y217, rfl, Nq216, p216_0, p216_1, p216_2⟩ := hQ216
          have N216_ := Fr.app N105_ Nq216
          refine Fin.by (fun tt_ kk_ => st216 tt_ kk_) ?_
          have E218 : Exa Z T216.heap a101 "java/util/ArrayList" := (p105_1.keep p216_0)
          have F219 : Fld Z T216.heap a101 "java/util/ArrayList" "elementData" "[Ljava/lang/Object;" (.ref aD) := (p105_2.keep p216_0 nin0)
          have F220 : Fld Z T216.heap a101 "java/util/ArrayList" "size" "I" (.int (0 : Int32)) := (p105_3.keep p216_0 nin0)
          have F221 : Fld Z T216.heap a101 "java/util/AbstractList" "modCount" "I" (.int (0 : Int32)) := (p105_4.keep p216_0 nin0)
          have O222 : Old Z n0 T216.heap := (O214.keep p216_0 all0)
          have z223 : n0 ≤ T216.heap.size := Nat.le_trans z215 p216_0.1
          obtain ⟨cq224, kq224, qa224, qb224, qc224⟩ := isOf hZ rfl E218
          obtain ⟨v224, _, ⟨T224, L224, k224, n224⟩, -, X224, ⟨Lc224, hQ224, l224, y224, z224⟩, st224⟩ := X216.virtualBack hx (y := y_10) (z := y_10) hown (mvT hZ (w_ hw 52 rfl)) (mvT hZ (w_ hw 53 rfl)) (notFace_of_selects (args := #[]) (mvT hZ (w_ hw 55 rfl))) (mvT hZ (w_ hw 55 rfl)) (mvT hZ (w_ hw 54 rfl)) (by decide) (backOf (W := 0) (rm_add0 l Z a0 hw [] a101 y217 (0 : Int32) aD kD T216.heap n0 z223 E218 F219 F220 F221 p216_1 g102 S2 VD O222) hZ (w_ hw 56 rfl) (w_ hw 4 rfl) (by decide) (by decide)) qa224 qc224 (g := (mkF m 85 #[.val (.int sz), .val (.int pc_), .val (.long v1), .second, .val (.long v2), .second, .val (.long v3), .second, .val (.long v4), .second, .val (.int 4), .val (.int pp), .val (.long (1152921504606846975 : Int64)), .second, .val (.long el0), .second, .val (.long el1), .second, .val (.long el2), .second, .val (.long el3), .second, .val (.ref a101), .unset, .unset, .unset, .unset, .unset, .unset] [(.ref y217), (.ref a101)])) rfl (by rw [hml]; rfl) (Steps.refl _) (argsL := [(.ref y217)]) (rest := []) (lenOf pd_206 rfl) rfl (by show 2 * 0 + _ ≤ _; exact Nat.le_of_eq rfl) (hb hby at_85) (fun _ _ => ⟨rfl, rfl, (by decide : 2 + 1 ≤ _), (by decide : 4 + 10 ≤ _)⟩)
          dsimp only [Pt.U, Pt.locs, Pt.cells, Pt.slots] at X224 l224 y224 z224 st224 hQ224
          subst l224 y224 z224
          obtain ⟨ed225, kE226, rfl, Nq224, p224_0, p224_1, p224_2, p224_3, p224_4, p224_5, p224_6, p224_7⟩ := hQ224
          have N224_ := Fr.app N216_ Nq224
          refine Fin.byS st224 ?_
          have E227 : Exa Z T224.heap y217 "java/lang/Long" := (p216_1.keep p224_0)
          refine Fin.by (fun tt_ kk_ => XS.pop X224.here hx rfl (hb hby at_88) rfl rfl (XS.iload X224.here hx rfl (hb hby at_89) rfl (XS.iconst X224.here hx rfl (hb hby at_91) kk_))) ?_
          show Fin _ _ _ _ _ _ _ (T224.setTop (mkF m 92 #[.val (.int sz), .val (.int pc_), .val (.long v1), .second, .val (.long v2), .second, .val (.long v3), .second, .val (.long v4), .second, .val (.int 4), .val (.int pp), .val (.long (1152921504606846975 : Int64)), .second, .val (.long el0), .second, .val (.long el1), .second, .val (.long el2), .second, .val (.long el3), .second, .val (.ref a101), .unset, .unset, .unset, .unset, .unset, .unset] [(.int 1), (.int 4)]))
          refine Fin.by (fun tt_ kk_ => XS.icmpNo X224.here hx rfl (hb hby at_92) rfl (tlt (by decide : (1 : Int32) < (4 : Int32))).2.2.2 kk_) ?_
          refine Fin.by (fun tt_ kk_ => XS.aload X224.here hx rfl (hb hby at_95) rfl rfl (XS.lload X224.here hx rfl (hb hby at_97) rfl kk_)) ?_
          have O228 : Old Z n0 T224.heap := (O222.keep p224_0 (allS g102 all0))
          have z229 : n0 ≤ T224.heap.size := Nat.le_trans z223 p224_0.1
          obtain ⟨v230, _, ⟨T230, L230, k230, n230⟩, -, X230, ⟨Lc230, hQ230, l230, y230, z230⟩, st230⟩ := Jvm.LawKit.callS X224 hx (y := y_2) hown (mvT hZ (w_ hw 44 rfl)) (mvT hZ (w_ hw 45 rfl)) (mvT hZ (w_ hw 46 rfl)) (mvT hZ (w_ hw 47 rfl)) (by decide) (backOf (W := 1) (rm_vof l Z a0 hw [] el1 aC kC vC T224.heap n0 z229 S5 VC HC O228) hZ (w_ hw 47 rfl) (w_ hw 46 rfl) (by decide) (by decide)) (g := (mkF m 99 #[.val (.int sz), .val (.int pc_), .val (.long v1), .second, .val (.long v2), .second, .val (.long v3), .second, .val (.long v4), .second, .val (.int 4), .val (.int pp), .val (.long (1152921504606846975 : Int64)), .second, .val (.long el0), .second, .val (.long el1), .second, .val (.long el2), .second, .val (.long el3), .second, .val (.ref a101), .unset, .unset, .unset, .unset, .unset, .unset] [(.long el1), (.ref a101)])) rfl (by rw [hml]; rfl) (argsL := [(.long el1)]) (rest := [(.ref a101)]) (lenOf pd_205 rfl) rfl (by show 2 * 0 + _ ≤ _; exact Nat.le_of_eq rfl) (hb hby at_99) (fun _ _ => ⟨rfl, rfl, (by decide : 3 + 1 ≤ _), (by decide : 14 + 1 ≤ _)⟩)
          dsimp only [Pt.U, Pt.locs, Pt.cells, Pt.slots] at X230 l230 y230 z230 st230 hQ230
          subst l230 y230 z230
          obtain ⟨y231, rfl, Nq230, p230_0, p230_1, p230_2⟩ := hQ230
          have N230_ := Fr.app N224_ Nq230
          refine Fin.by (fun tt_ kk_ => st230 tt_ kk_) ?_
          have E232 : Exa Z T230.heap a101 "java/util/ArrayList" := (p224_2.keep p230_0)
          have A233 : Arv Z T230.heap ed225 kE226 (.object "java/lang/Object") (10 : Int32) [(.ref y217), .null, .null, .null, .null, .null, .null, .null, .null, .null] .null := (p224_6.keep p230_0 nin0)
          have F234 : Fld Z T230.heap a101 "java/util/ArrayList" "elementData" "[Ljava/lang/Object;" (.ref ed225) := (p224_3.keep p230_0 nin0)
          have F235 : Fld Z T230.heap a101 "java/util/ArrayList" "size" "I" (.int (1 : Int32)) := (p224_4.keep p230_0 nin0)
          have F236 : Fld Z T230.heap a101 "java/util/AbstractList" "modCount" "I" (.int ((0 : Int32) + (1 : Int32))) := (p224_5.keep p230_0 nin0)
          have z238 : n0 ≤ T216.heap.size := Nat.le_trans Z0 (Nat.le_trans (Nat.le_trans E101.1 p105_0.1) p216_0.1)
          have g237 : n0 ≤ ed225 := Nat.le_trans z238 p224_1
          have lt240 : a101 < T216.heap.size := Nat.lt_of_lt_of_le A101.lt (Nat.le_trans p105_0.1 p216_0.1)
          have ne239 : a101 ≠ ed225 := Nat.ne_of_lt (Nat.lt_of_lt_of_le lt240 p224_1)
          have z241 : n0 ≤ T230.heap.size := Nat.le_trans z229 p230_0.1
          obtain ⟨cq242, kq242, qa242, qb242, qc242⟩ := isOf hZ rfl E232
          obtain ⟨v242, _, ⟨T242, L242, k242, n242⟩, -, X242, ⟨Lc242, hQ242, l242, y242, z242⟩, st242⟩ := X230.virtualBack hx (y := y_10) (z := y_10) hown (mvT hZ (w_ hw 52 rfl)) (mvT hZ (w_ hw 53 rfl)) (notFace_of_selects (args := #[]) (mvT hZ (w_ hw 55 rfl))) (mvT hZ (w_ hw 55 rfl)) (mvT hZ (w_ hw 54 rfl)) (by decide) (backOf (W := 0) (rm_add1 l Z a0 hw [] a101 y231 ((0 : Int32) + (1 : Int32)) ed225 kE226 y217 T230.heap n0 z241 E232 F234 F235 F236 A233 p224_7 p230_1 g102 g237 (Ne.symm ne239)) hZ (w_ hw 56 rfl) (w_ hw 4 rfl) (by decide) (by decide)) qa242 qc242 (g := (mkF m 102 #[.val (.int sz), .val (.int pc_), .val (.long v1), .second, .val (.long v2), .second, .val (.long v3), .second, .val (.long v4), .second, .val (.int 4), .val (.int pp), .val (.long (1152921504606846975 : Int64)), .second, .val (.long el0), .second, .val (.long el1), .second, .val (.long el2), .second, .val (.long el3), .second, .val (.ref a101), .unset, .unset, .unset, .unset, .unset, .unset] [(.ref y231), (.ref a101)])) rfl (by rw [hml]; rfl) (Steps.refl _) (argsL := [(.ref y231)]) (rest := []) (lenOf pd_206 rfl) rfl (by show 2 * 0 + _ ≤ _; exact Nat.le_of_eq rfl) (hb hby at_102) (fun _ _ => ⟨rfl, rfl, (by decide : 4 + 0 ≤ _), (by decide : 15 + 0 ≤ _)⟩)
          dsimp only [Pt.U, Pt.locs, Pt.cells, Pt.slots] at X242 l242 y242 z242 st242 hQ242
          subst l242 y242 z242
          obtain ⟨rfl, Nq242, p242_0, p242_1, p242_2, p242_3, p242_4, p242_5⟩ := hQ242
          have N242_ := Fr.app N230_ Nq242
          refine Fin.byS st242 ?_
          refine Fin.by (fun tt_ kk_ => XS.pop X242.here hx rfl (hb hby at_105) rfl rfl (XS.iload X242.here hx rfl (hb hby at_106) rfl (XS.iconst X242.here hx rfl (hb hby at_108) kk_))) ?_
          show Fin _ _ _ _ _ _ _ (T242.setTop (mkF m 109 #[.val (.int sz), .val (.int pc_), .val (.long v1), .second, .val (.long v2), .second, .val (.long v3), .second, .val (.long v4), .second, .val (.int 4), .val (.int pp), .val (.long (1152921504606846975 : Int64)), .second, .val (.long el0), .second, .val (.long el1), .second, .val (.long el2), .second, .val (.long el3), .second, .val (.ref a101), .unset, .unset, .unset, .unset, .unset, .unset] [(.int 2), (.int 4)]))
          refine Fin.by (fun tt_ kk_ => XS.icmpNo X242.here hx rfl (hb hby at_109) rfl (tlt (by decide : (2 : Int32) < (4 : Int32))).2.2.2 kk_) ?_
          refine Fin.by (fun tt_ kk_ => XS.aload X242.here hx rfl (hb hby at_112) rfl rfl (XS.lload X242.here hx rfl (hb hby at_114) rfl kk_)) ?_
          have O243 : Old Z n0 T242.heap := ((O228.keep p230_0 all0).keep p242_0 (allS g102 (allS g237 all0)))
          have z244 : n0 ≤ T242.heap.size := Nat.le_trans z241 p242_0.1
          obtain ⟨v245, _, ⟨T245, L245, k245, n245⟩, -, X245, ⟨Lc245, hQ245, l245, y245, z245⟩, st245⟩ := Jvm.LawKit.callS X242 hx (y := y_2) hown (mvT hZ (w_ hw 44 rfl)) (mvT hZ (w_ hw 45 rfl)) (mvT hZ (w_ hw 46 rfl)) (mvT hZ (w_ hw 47 rfl)) (by decide) (backOf (W := 1) (rm_vof l Z a0 hw [] el2 aC kC vC T242.heap n0 z244 S5 VC HC O243) hZ (w_ hw 47 rfl) (w_ hw 46 rfl) (by decide) (by decide)) (g := (mkF m 116 #[.val (.int sz), .val (.int pc_), .val (.long v1), .second, .val (.long v2), .second, .val (.long v3), .second, .val (.long v4), .second, .val (.int 4), .val (.int pp), .val (.long (1152921504606846975 : Int64)), .second, .val (.long el0), .second, .val (.long el1), .second, .val (.long el2), .second, .val (.long el3), .second, .val (.ref a101), .unset, .unset, .unset, .unset, .unset, .unset] [(.long el2), (.ref a101)])) rfl (by rw [hml]; rfl) (argsL := [(.long el2)]) (rest := [(.ref a101)]) (lenOf pd_205 rfl) rfl (by show 2 * 0 + _ ≤ _; exact Nat.le_of_eq rfl) (hb hby at_116) (fun _ _ => ⟨rfl, rfl, (by decide : 4 + 1 ≤ _), (by decide : 15 + 1 ≤ _)⟩)
          dsimp only [Pt.U, Pt.locs, Pt.cells, Pt.slots] at X245 l245 y245 z245 st245 hQ245
          subst l245 y245 z245
          obtain ⟨y246, rfl, Nq245, p245_0, p245_1, p245_2⟩ := hQ245
          have N245_ := Fr.app N242_ Nq245
          refine Fin.by (fun tt_ kk_ => st245 tt_ kk_) ?_
          have E247 : Exa Z T245.heap a101 "java/util/ArrayList" := (p242_1.keep p245_0)
          have A248 : Arv Z T245.heap ed225 kE226 (.object "java/lang/Object") (10 : Int32) [(.ref y217), (.ref y231), .null, .null, .null, .null, .null, .null, .null, .null] .null := (p242_5.keep p245_0 nin0)
          have F249 : Fld Z T245.heap a101 "java/util/ArrayList" "elementData" "[Ljava/lang/Object;" (.ref ed225) := (p242_2.keep p245_0 nin0)
          have F250 : Fld Z T245.heap a101 "java/util/ArrayList" "size" "I" (.int (2 : Int32)) := (p242_3.keep p245_0 nin0)
          have F251 : Fld Z T245.heap a101 "java/util/AbstractList" "modCount" "I" (.int (((0 : Int32) + (1 : Int32)) + (1 : Int32))) := (p242_4.keep p245_0 nin0)
          have z252 : n0 ≤ T245.heap.size := Nat.le_trans z244 p245_0.1
          obtain ⟨cq253, kq253, qa253, qb253, qc253⟩ := isOf hZ rfl E247
          obtain ⟨v253, _, ⟨T253, L253, k253, n253⟩, -, X253, ⟨Lc253, hQ253, l253, y253, z253⟩, st253⟩ := X245.virtualBack hx (y := y_10) (z := y_10) hown (mvT hZ (w_ hw 52 rfl)) (mvT hZ (w_ hw 53 rfl)) (notFace_of_selects (args := #[]) (mvT hZ (w_ hw 55 rfl))) (mvT hZ (w_ hw 55 rfl)) (mvT hZ (w_ hw 54 rfl)) (by decide) (backOf (W := 0) (rm_add2 l Z a0 hw [] a101 y246 (((0 : Int32) + (1 : Int32)) + (1 : Int32)) ed225 kE226 y217 y231 T245.heap n0 z252 E247 F249 F250 F251 A248 p224_7 p245_1 g102 g237 (Ne.symm ne239)) hZ (w_ hw 56 rfl) (w_ hw 4 rfl) (by decide) (by decide)) qa253 qc253 (g := (mkF m 119 #[.val (.int sz), .val (.int pc_), .val (.long v1), .second, .val (.long v2), .second, .val (.long v3), .second, .val (.long v4), .second, .val (.int 4), .val (.int pp), .val (.long (1152921504606846975 : Int64)), .second, .val (.long el0), .second, .val (.long el1), .second, .val (.long el2), .second, .val (.long el3), .second, .val (.ref a101), .unset, .unset, .unset, .unset, .unset, .unset] [(.ref y246), (.ref a101)])) rfl (by rw [hml]; rfl) (Steps.refl _) (argsL := [(.ref y246)]) (rest := []) (lenOf pd_206 rfl) rfl (by show 2 * 0 + _ ≤ _; exact Nat.le_of_eq rfl) (hb hby at_119) (fun _ _ => ⟨rfl, rfl, (by decide : 5 + 0 ≤ _), (by decide : 16 + 0 ≤ _)⟩)
          dsimp only [Pt.U, Pt.locs, Pt.cells, Pt.slots] at X253 l253 y253 z253 st253 hQ253
          subst l253 y253 z253
          obtain ⟨rfl, Nq253, p253_0, p253_1, p253_2, p253_3, p253_4, p253_5⟩ := hQ253
          have N253_ := Fr.app N245_ Nq253
          refine Fin.byS st253 ?_
          refine Fin.by (fun tt_ kk_ => XS.pop X253.here hx rfl (hb hby at_122) rfl rfl (XS.iload X253.here hx rfl (hb hby at_123) rfl (XS.iconst X253.here hx rfl (hb hby at_125) kk_))) ?_
          show Fin _ _ _ _ _ _ _ (T253.setTop (mkF m 126 #[.val (.int sz), .val (.int pc_), .val (.long v1), .second, .val (.long v2), .second, .val (.long v3), .second, .val (.long v4), .second, .val (.int 4), .val (.int pp), .val (.long (1152921504606846975 : Int64)), .second, .val (.long el0), .second, .val (.long el1), .second, .val (.long el2), .second, .val (.long el3), .second, .val (.ref a101), .unset, .unset, .unset, .unset, .unset, .unset] [(.int 3), (.int 4)]))
          refine Fin.by (fun tt_ kk_ => XS.icmpNo X253.here hx rfl (hb hby at_126) rfl (tlt (by decide : (3 : Int32) < (4 : Int32))).2.2.2 kk_) ?_
          refine Fin.by (fun tt_ kk_ => XS.aload X253.here hx rfl (hb hby at_129) rfl rfl (XS.lload X253.here hx rfl (hb hby at_131) rfl kk_)) ?_
          have O254 : Old Z n0 T253.heap := ((O243.keep p245_0 all0).keep p253_0 (allS g102 (allS g237 all0)))
          have z255 : n0 ≤ T253.heap.size := Nat.le_trans z252 p253_0.1
          obtain ⟨v256, _, ⟨T256, L256, k256, n256⟩, -, X256, ⟨Lc256, hQ256, l256, y256, z256⟩, st256⟩ := Jvm.LawKit.callS X253 hx (y := y_2) hown (mvT hZ (w_ hw 44 rfl)) (mvT hZ (w_ hw 45 rfl)) (mvT hZ (w_ hw 46 rfl)) (mvT hZ (w_ hw 47 rfl)) (by decide) (backOf (W := 1) (rm_vof l Z a0 hw [] el3 aC kC vC T253.heap n0 z255 S5 VC HC O254) hZ (w_ hw 47 rfl) (w_ hw 46 rfl) (by decide) (by decide)) (g := (mkF m 133 #[.val (.int sz), .val (.int pc_), .val (.long v1), .second, .val (.long v2), .second, .val (.long v3), .second, .val (.long v4), .second, .val (.int 4), .val (.int pp), .val (.long (1152921504606846975 : Int64)), .second, .val (.long el0), .second, .val (.long el1), .second, .val (.long el2), .second, .val (.long el3), .second, .val (.ref a101), .unset, .unset, .unset, .unset, .unset, .unset] [(.long el3), (.ref a101)])) rfl (by rw [hml]; rfl) (argsL := [(.long el3)]) (rest := [(.ref a101)]) (lenOf pd_205 rfl) rfl (by show 2 * 0 + _ ≤ _; exact Nat.le_of_eq rfl) (hb hby at_133) (fun _ _ => ⟨rfl, rfl, (by decide : 5 + 1 ≤ _), (by decide : 16 + 1 ≤ _)⟩)
          dsimp only [Pt.U, Pt.locs, Pt.cells, Pt.slots] at X256 l256 y256 z256 st256 hQ256
          subst l256 y256 z256
          obtain ⟨y257, rfl, Nq256, p256_0, p256_1, p256_2⟩ := hQ256
          have N256_ := Fr.app N253_ Nq256
          refine Fin.by (fun tt_ kk_ => st256 tt_ kk_) ?_
          have E258 : Exa Z T256.heap a101 "java/util/ArrayList" := (p253_1.keep p256_0)
          have A259 : Arv Z T256.heap ed225 kE226 (.object "java/lang/Object") (10 : Int32) [(.ref y217), (.ref y231), (.ref y246), .null, .null, .null, .null, .null, .null, .null] .null := (p253_5.keep p256_0 nin0)
          have F260 : Fld Z T256.heap a101 "java/util/ArrayList" "elementData" "[Ljava/lang/Object;" (.ref ed225) := (p253_2.keep p256_0 nin0)
          have F261 : Fld Z T256.heap a101 "java/util/ArrayList" "size" "I" (.int (3 : Int32)) := (p253_3.keep p256_0 nin0)
          have F262 : Fld Z T256.heap a101 "java/util/AbstractList" "modCount" "I" (.int ((((0 : Int32) + (1 : Int32)) + (1 : Int32)) + (1 : Int32))) := (p253_4.keep p256_0 nin0)
          have z263 : n0 ≤ T256.heap.size := Nat.le_trans z255 p256_0.1
          obtain ⟨cq264, kq264, qa264, qb264, qc264⟩ := isOf hZ rfl E258
          obtain ⟨v264, _, ⟨T264, L264, k264, n264⟩, -, X264, ⟨Lc264, hQ264, l264, y264, z264⟩, st264⟩ := X256.virtualBack hx (y := y_10) (z := y_10) hown (mvT hZ (w_ hw 52 rfl)) (mvT hZ (w_ hw 53 rfl)) (notFace_of_selects (args := #[]) (mvT hZ (w_ hw 55 rfl))) (mvT hZ (w_ hw 55 rfl)) (mvT hZ (w_ hw 54 rfl)) (by decide) (backOf (W := 0) (rm_add3 l Z a0 hw [] a101 y257 ((((0 : Int32) + (1 : Int32)) + (1 : Int32)) + (1 : Int32)) ed225 kE226 y217 y231 y246 T256.heap n0 z263 E258 F260 F261 F262 A259 p224_7 p256_1 g102 g237 (Ne.symm ne239)) hZ (w_ hw 56 rfl) (w_ hw 4 rfl) (by decide) (by decide)) qa264 qc264 (g := (mkF m 136 #[.val (.int sz), .val (.int pc_), .val (.long v1), .second, .val (.long v2), .second, .val (.long v3), .second, .val (.long v4), .second, .val (.int 4), .val (.int pp), .val (.long (1152921504606846975 : Int64)), .second, .val (.long el0), .second, .val (.long el1), .second, .val (.long el2), .second, .val (.long el3), .second, .val (.ref a101), .unset, .unset, .unset, .unset, .unset, .unset] [(.ref y257), (.ref a101)])) rfl (by rw [hml]; rfl) (Steps.refl _) (argsL := [(.ref y257)]) (rest := []) (lenOf pd_206 rfl) rfl (by show 2 * 0 + _ ≤ _; exact Nat.le_of_eq rfl) (hb hby at_136) (fun _ _ => ⟨rfl, rfl, (by decide : 6 + 0 ≤ _), (by decide : 17 + 0 ≤ _)⟩)
          dsimp only [Pt.U, Pt.locs, Pt.cells, Pt.slots] at X264 l264 y264 z264 st264 hQ264
          subst l264 y264 z264
          obtain ⟨rfl, Nq264, p264_0, p264_1, p264_2, p264_3, p264_4, p264_5⟩ := hQ264
          have N264_ := Fr.app N256_ Nq264
          refine Fin.byS st264 ?_
          refine Fin.by (fun tt_ kk_ => XS.pop X264.here hx rfl (hb hby at_139) rfl rfl (XS.aload X264.here hx rfl (hb hby at_140) rfl rfl (XS.iload X264.here hx rfl (hb hby at_142) rfl kk_))) ?_
          rcases own_n4 hp with hC | hC | hC | hC
          · have E265 : Exa Z T264.heap y217 "java/lang/Long" := ((((((E227.keep p230_0).keep p242_0).keep p245_0).keep p253_0).keep p256_0).keep p264_0)
            have F266 : Fld Z T264.heap y217 "java/lang/Long" "value" "J" (.long el0) := (((((((p216_2.keep p224_0 (ninS (own_exne p216_1 E218 (by decide)) nin0)).keep p230_0 nin0).keep p242_0 (ninS (own_exne p216_1 E218 (by decide)) (ninS (Ne.symm (own_arne p224_6 E227 (w_ hw 82 rfl))) nin0))).keep p245_0 nin0).keep p253_0 (ninS (own_exne p216_1 E218 (by decide)) (ninS (Ne.symm (own_arne p224_6 E227 (w_ hw 82 rfl))) nin0))).keep p256_0 nin0).keep p264_0 (ninS (own_exne p216_1 E218 (by decide)) (ninS (Ne.symm (own_arne p224_6 E227 (w_ hw 82 rfl))) nin0)))
            have z267 : n0 ≤ T264.heap.size := Nat.le_trans z263 p264_0.1
            obtain ⟨v268, _, ⟨T268, L268, k268, n268⟩, -, X268, ⟨Lc268, hQ268, l268, y268, z268⟩, st268⟩ := Jvm.LawKit.callS X264 hx (y := y_20) hown (mvT hZ (w_ hw 28 rfl)) (mvT hZ (w_ hw 29 rfl)) (mvT hZ (w_ hw 30 rfl)) (mvT hZ (w_ hw 31 rfl)) (by decide) (backOf (W := 0) (rm_per1 l Z a0 hw [] a101 (0 : Int32) ed225 kE226 ([(.ref y217), (.ref y231), (.ref y246), (.ref y257), .null, .null, .null, .null, .null, .null] : List Value) y217 (4 : Int32) pp el0 T264.heap n0 z267 (by decide) hC.2 (by decide) (by decide) (by decide) rfl p264_1 p264_2 p264_5 p264_3 E265 F266) hZ (w_ hw 31 rfl) (w_ hw 30 rfl) (by decide) (by decide)) (g := (mkF m 144 #[.val (.int sz), .val (.int pc_), .val (.long v1), .second, .val (.long v2), .second, .val (.long v3), .second, .val (.long v4), .second, .val (.int 4), .val (.int pp), .val (.long (1152921504606846975 : Int64)), .second, .val (.long el0), .second, .val (.long el1), .second, .val (.long el2), .second, .val (.long el3), .second, .val (.ref a101), .unset, .unset, .unset, .unset, .unset, .unset] [(.int pp), (.ref a101)])) rfl (by rw [hml]; rfl) (argsL := [(.ref a101), (.int pp)]) (rest := []) (lenOf pd_204 rfl) rfl (by show 2 * 0 + _ ≤ _; exact Nat.le_of_eq rfl) (hb hby at_144) (fun _ _ => ⟨rfl, rfl, (by decide : 6 + 0 ≤ _), (by decide : 17 + 0 ≤ _)⟩)
            dsimp only [Pt.U, Pt.locs, Pt.cells, Pt.slots] at X268 l268 y268 z268 st268 hQ268
            subst l268 y268 z268
            obtain ⟨rfl, Nq268, e268_⟩ := hQ268
            have N268_ := Fr.app N264_ Nq268
            refine Fin.by (fun tt_ kk_ => st268 tt_ kk_) ?_
            have e268 := e268_
            refine Fin.by (fun tt_ kk_ => XS.dstore X268.here hx rfl (hb hby at_147) rfl (l' := #[.val (.int sz), .val (.int pc_), .val (.long v1), .second, .val (.long v2), .second, .val (.long v3), .second, .val (.long v4), .second, .val (.int 4), .val (.int pp), .val (.long (1152921504606846975 : Int64)), .second, .val (.long el0), .second, .val (.long el1), .second, .val (.long el2), .second, .val (.long el3), .second, .val (.ref a101), .val (.double (FP.l2d el0)), .second, .unset, .unset, .unset, .unset]) rfl (XS.iload X268.here hx rfl (hb hby at_149) rfl kk_)) ?_
            show Fin _ _ _ _ _ _ _ (T268.setTop (mkF m 151 #[.val (.int sz), .val (.int pc_), .val (.long v1), .second, .val (.long v2), .second, .val (.long v3), .second, .val (.long v4), .second, .val (.int 4), .val (.int pp), .val (.long (1152921504606846975 : Int64)), .second, .val (.long el0), .second, .val (.long el1), .second, .val (.long el2), .second, .val (.long el3), .second, .val (.ref a101), .val (.double (FP.l2d el0)), .second, .unset, .unset, .unset, .unset] [(.int 4)]))
            refine Fin.by (fun tt_ kk_ => XS.ifYes X268.here hx rfl (pc0 := 151) (pc' := 168) rfl (hb hby at_151) rfl ((if0 _ _).trans (feq (by decide : ¬ (4 : Int32) = (0 : Int32))).2) (by decide) (by decide) kk_) ?_
            refine Fin.by (fun tt_ kk_ => XS.iload X268.here hx rfl (hb hby at_168) rfl (XS.i2l X268.here hx rfl (hb hby at_170) rfl (XS.iload X268.here hx rfl (hb hby at_171) rfl (XS.i2l X268.here hx rfl (hb hby at_173) rfl (XS.lmul X268.here hx rfl (hb hby at_174) rfl (XS.lstore X268.here hx rfl (hb hby at_175) rfl (l' := #[.val (.int sz), .val (.int pc_), .val (.long v1), .second, .val (.long v2), .second, .val (.long v3), .second, .val (.long v4), .second, .val (.int 4), .val (.int pp), .val (.long (1152921504606846975 : Int64)), .second, .val (.long el0), .second, .val (.long el1), .second, .val (.long el2), .second, .val (.long el3), .second, .val (.ref a101), .val (.double (FP.l2d el0)), .second, .val (.long ((pp.toInt64) * (4 : Int64))), .second, .unset, .unset]) rfl (XS.lload X268.here hx rfl (hb hby at_177) rfl kk_))))))) ?_
            refine Fin.by (fun tt_ kk_ => X268.ldc2Long hx hown (mvT hZ (w_ hw 136 rfl)) (g := (mkF m 179 #[.val (.int sz), .val (.int pc_), .val (.long v1), .second, .val (.long v2), .second, .val (.long v3), .second, .val (.long v4), .second, .val (.int 4), .val (.int pp), .val (.long (1152921504606846975 : Int64)), .second, .val (.long el0), .second, .val (.long el1), .second, .val (.long el2), .second, .val (.long el3), .second, .val (.ref a101), .val (.double (FP.l2d el0)), .second, .val (.long ((pp.toInt64) * (4 : Int64))), .second, .unset, .unset] [(.long ((pp.toInt64) * (4 : Int64)))])) rfl (hb hby at_179) _ kk_) ?_
            refine Fin.by (fun tt_ kk_ => XS.lcmp X268.here hx rfl (hb hby at_182) rfl kk_) ?_
            show Fin _ _ _ _ _ _ _ (T268.setTop (mkF m 183 #[.val (.int sz), .val (.int pc_), .val (.long v1), .second, .val (.long v2), .second, .val (.long v3), .second, .val (.long v4), .second, .val (.int 4), .val (.int pp), .val (.long (1152921504606846975 : Int64)), .second, .val (.long el0), .second, .val (.long el1), .second, .val (.long el2), .second, .val (.long el3), .second, .val (.ref a101), .val (.double (FP.l2d el0)), .second, .val (.long ((pp.toInt64) * (4 : Int64))), .second, .unset, .unset] [(.int (lcmpW ((pp.toInt64) * (4 : Int64)) (100 : Int64)))]))
            refine Fin.by (fun tt_ kk_ => XS.ifNo X268.here hx rfl (hb hby at_183) rfl ((if0 _ _).trans (flt (hC.1 : ¬ (0 : Int32) < (lcmpW ((pp.toInt64) * (4 : Int64)) (100 : Int64)))).2.2.1) kk_) ?_
            refine Fin.by (fun tt_ kk_ => XS.lload X268.here hx rfl (hb hby at_186) rfl (XS.lstore X268.here hx rfl (hb hby at_188) rfl (l' := #[.val (.int sz), .val (.int pc_), .val (.long v1), .second, .val (.long v2), .second, .val (.long v3), .second, .val (.long v4), .second, .val (.int 4), .val (.int pp), .val (.long (1152921504606846975 : Int64)), .second, .val (.long el0), .second, .val (.long el1), .second, .val (.long el2), .second, .val (.long el3), .second, .val (.ref a101), .val (.double (FP.l2d el0)), .second, .val (.long ((pp.toInt64) * (4 : Int64))), .second, .val (.long el0), .second]) rfl (XS.goto X268.here hx rfl (pc0 := 190) (pc' := 229) rfl (hb hby at_190) (by decide) (by decide) (XS.dload X268.here hx rfl (hb hby at_229) rfl (XS.lload X268.here hx rfl (hb hby at_231) rfl (XS.l2dS X268.here hx rfl (hb hby at_233) rfl rfl (XS.dcmpS X268.here hx rfl (hb hby at_234) rfl rfl kk_))))))) ?_
            show Fin _ _ _ _ _ _ _ (T268.setTop (mkF m 235 #[.val (.int sz), .val (.int pc_), .val (.long v1), .second, .val (.long v2), .second, .val (.long v3), .second, .val (.long v4), .second, .val (.int 4), .val (.int pp), .val (.long (1152921504606846975 : Int64)), .second, .val (.long el0), .second, .val (.long el1), .second, .val (.long el2), .second, .val (.long el3), .second, .val (.ref a101), .val (.double (FP.l2d el0)), .second, .val (.long ((pp.toInt64) * (4 : Int64))), .second, .val (.long el0), .second] [(.int (cmpValue (FP.dcmp (FP.l2d el0) (FP.l2d el0)) .l))]))
            refine Fin.by (fun tt_ kk_ => XS.ifNo X268.here hx rfl (hb hby at_235) rfl ((if0 _ _).trans (teq (dcmpV_self (nn_w rfl) _ : (cmpValue (FP.dcmp (FP.l2d el0) (FP.l2d el0)) .l) = (0 : Int32))).2) kk_) ?_
            refine Fin.by (fun tt_ kk_ => XS.iconst X268.here hx rfl (hb hby at_238) (XS.goto X268.here hx rfl (pc0 := 239) (pc' := 243) rfl (hb hby at_239) (by decide) (by decide) kk_)) ?_
            show Fin _ _ _ _ _ _ _ (T268.setTop (mkF m 243 #[.val (.int sz), .val (.int pc_), .val (.long v1), .second, .val (.long v2), .second, .val (.long v3), .second, .val (.long v4), .second, .val (.int 4), .val (.int pp), .val (.long (1152921504606846975 : Int64)), .second, .val (.long el0), .second, .val (.long el1), .second, .val (.long el2), .second, .val (.long el3), .second, .val (.ref a101), .val (.double (FP.l2d el0)), .second, .val (.long ((pp.toInt64) * (4 : Int64))), .second, .val (.long el0), .second] [(.int 1)]))
            exact Fin.ret (v := some (.int (nar .boolean (1 : Int32)))) X268 (fun h => by rw [Bd.returns] at h; cases h) Bd.notSynchronized (by rw [e268]; exact ⟨rfl, N268_⟩) (by decide) (by decide) (fun fs hr => retN X268 hx (t := .boolean) Bd.returns (by simp) (hb hby at_243) hr)
          · have E269 : Exa Z T264.heap y231 "java/lang/Long" := (((((p230_1.keep p242_0).keep p245_0).keep p253_0).keep p256_0).keep p264_0)
            have F270 : Fld Z T264.heap y231 "java/lang/Long" "value" "J" (.long el1) := (((((p230_2.keep p242_0 (ninS (own_exne p230_1 E232 (by decide)) (ninS (Ne.symm (own_arne A233 p230_1 (w_ hw 82 rfl))) nin0))).keep p245_0 nin0).keep p253_0 (ninS (own_exne p230_1 E232 (by decide)) (ninS (Ne.symm (own_arne A233 p230_1 (w_ hw 82 rfl))) nin0))).keep p256_0 nin0).keep p264_0 (ninS (own_exne p230_1 E232 (by decide)) (ninS (Ne.symm (own_arne A233 p230_1 (w_ hw 82 rfl))) nin0)))
            have z271 : n0 ≤ T264.heap.size := Nat.le_trans z263 p264_0.1
            obtain ⟨v272, _, ⟨T272, L272, k272, n272⟩, -, X272, ⟨Lc272, hQ272, l272, y272, z272⟩, st272⟩ := Jvm.LawKit.callS X264 hx (y := y_20) hown (mvT hZ (w_ hw 28 rfl)) (mvT hZ (w_ hw 29 rfl)) (mvT hZ (w_ hw 30 rfl)) (mvT hZ (w_ hw 31 rfl)) (by decide) (backOf (W := 0) (rm_per1 l Z a0 hw [] a101 (1 : Int32) ed225 kE226 ([(.ref y217), (.ref y231), (.ref y246), (.ref y257), .null, .null, .null, .null, .null, .null] : List Value) y231 (4 : Int32) pp el1 T264.heap n0 z271 (by decide) hC.2.2 (by decide) (by decide) (by decide) rfl p264_1 p264_2 p264_5 p264_3 E269 F270) hZ (w_ hw 31 rfl) (w_ hw 30 rfl) (by decide) (by decide)) (g := (mkF m 144 #[.val (.int sz), .val (.int pc_), .val (.long v1), .second, .val (.long v2), .second, .val (.long v3), .second, .val (.long v4), .second, .val (.int 4), .val (.int pp), .val (.long (1152921504606846975 : Int64)), .second, .val (.long el0), .second, .val (.long el1), .second, .val (.long el2), .second, .val (.long el3), .second, .val (.ref a101), .unset, .unset, .unset, .unset, .unset, .unset] [(.int pp), (.ref a101)])) rfl (by rw [hml]; rfl) (argsL := [(.ref a101), (.int pp)]) (rest := []) (lenOf pd_204 rfl) rfl (by show 2 * 0 + _ ≤ _; exact Nat.le_of_eq rfl) (hb hby at_144) (fun _ _ => ⟨rfl, rfl, (by decide : 6 + 0 ≤ _), (by decide : 17 + 0 ≤ _)⟩)
            dsimp only [Pt.U, Pt.locs, Pt.cells, Pt.slots] at X272 l272 y272 z272 st272 hQ272
            subst l272 y272 z272
            obtain ⟨rfl, Nq272, e272_⟩ := hQ272
            have N272_ := Fr.app N264_ Nq272
            refine Fin.by (fun tt_ kk_ => st272 tt_ kk_) ?_
            have e272 := e272_
            refine Fin.by (fun tt_ kk_ => XS.dstore X272.here hx rfl (hb hby at_147) rfl (l' := #[.val (.int sz), .val (.int pc_), .val (.long v1), .second, .val (.long v2), .second, .val (.long v3), .second, .val (.long v4), .second, .val (.int 4), .val (.int pp), .val (.long (1152921504606846975 : Int64)), .second, .val (.long el0), .second, .val (.long el1), .second, .val (.long el2), .second, .val (.long el3), .second, .val (.ref a101), .val (.double (FP.l2d el1)), .second, .unset, .unset, .unset, .unset]) rfl (XS.iload X272.here hx rfl (hb hby at_149) rfl kk_)) ?_
            show Fin _ _ _ _ _ _ _ (T272.setTop (mkF m 151 #[.val (.int sz), .val (.int pc_), .val (.long v1), .second, .val (.long v2), .second, .val (.long v3), .second, .val (.long v4), .second, .val (.int 4), .val (.int pp), .val (.long (1152921504606846975 : Int64)), .second, .val (.long el0), .second, .val (.long el1), .second, .val (.long el2), .second, .val (.long el3), .second, .val (.ref a101), .val (.double (FP.l2d el1)), .second, .unset, .unset, .unset, .unset] [(.int 4)]))
            refine Fin.by (fun tt_ kk_ => XS.ifYes X272.here hx rfl (pc0 := 151) (pc' := 168) rfl (hb hby at_151) rfl ((if0 _ _).trans (feq (by decide : ¬ (4 : Int32) = (0 : Int32))).2) (by decide) (by decide) kk_) ?_
            refine Fin.by (fun tt_ kk_ => XS.iload X272.here hx rfl (hb hby at_168) rfl (XS.i2l X272.here hx rfl (hb hby at_170) rfl (XS.iload X272.here hx rfl (hb hby at_171) rfl (XS.i2l X272.here hx rfl (hb hby at_173) rfl (XS.lmul X272.here hx rfl (hb hby at_174) rfl (XS.lstore X272.here hx rfl (hb hby at_175) rfl (l' := #[.val (.int sz), .val (.int pc_), .val (.long v1), .second, .val (.long v2), .second, .val (.long v3), .second, .val (.long v4), .second, .val (.int 4), .val (.int pp), .val (.long (1152921504606846975 : Int64)), .second, .val (.long el0), .second, .val (.long el1), .second, .val (.long el2), .second, .val (.long el3), .second, .val (.ref a101), .val (.double (FP.l2d el1)), .second, .val (.long ((pp.toInt64) * (4 : Int64))), .second, .unset, .unset]) rfl (XS.lload X272.here hx rfl (hb hby at_177) rfl kk_))))))) ?_
            refine Fin.by (fun tt_ kk_ => X272.ldc2Long hx hown (mvT hZ (w_ hw 136 rfl)) (g := (mkF m 179 #[.val (.int sz), .val (.int pc_), .val (.long v1), .second, .val (.long v2), .second, .val (.long v3), .second, .val (.long v4), .second, .val (.int 4), .val (.int pp), .val (.long (1152921504606846975 : Int64)), .second, .val (.long el0), .second, .val (.long el1), .second, .val (.long el2), .second, .val (.long el3), .second, .val (.ref a101), .val (.double (FP.l2d el1)), .second, .val (.long ((pp.toInt64) * (4 : Int64))), .second, .unset, .unset] [(.long ((pp.toInt64) * (4 : Int64)))])) rfl (hb hby at_179) _ kk_) ?_
            refine Fin.by (fun tt_ kk_ => XS.lcmp X272.here hx rfl (hb hby at_182) rfl kk_) ?_
            show Fin _ _ _ _ _ _ _ (T272.setTop (mkF m 183 #[.val (.int sz), .val (.int pc_), .val (.long v1), .second, .val (.long v2), .second, .val (.long v3), .second, .val (.long v4), .second, .val (.int 4), .val (.int pp), .val (.long (1152921504606846975 : Int64)), .second, .val (.long el0), .second, .val (.long el1), .second, .val (.long el2), .second, .val (.long el3), .second, .val (.ref a101), .val (.double (FP.l2d el1)), .second, .val (.long ((pp.toInt64) * (4 : Int64))), .second, .unset, .unset] [(.int (lcmpW ((pp.toInt64) * (4 : Int64)) (100 : Int64)))]))
            refine Fin.by (fun tt_ kk_ => XS.ifYes X272.here hx rfl (pc0 := 183) (pc' := 193) rfl (hb hby at_183) rfl ((if0 _ _).trans (tlt (hC.1 : (0 : Int32) < (lcmpW ((pp.toInt64) * (4 : Int64)) (100 : Int64)))).2.2.1) (by decide) (by decide) kk_) ?_
            refine Fin.by (fun tt_ kk_ => XS.lload X272.here hx rfl (hb hby at_193) rfl kk_) ?_
            refine Fin.by (fun tt_ kk_ => X272.ldc2Long hx hown (mvT hZ (w_ hw 137 rfl)) (g := (mkF m 195 #[.val (.int sz), .val (.int pc_), .val (.long v1), .second, .val (.long v2), .second, .val (.long v3), .second, .val (.long v4), .second, .val (.int 4), .val (.int pp), .val (.long (1152921504606846975 : Int64)), .second, .val (.long el0), .second, .val (.long el1), .second, .val (.long el2), .second, .val (.long el3), .second, .val (.ref a101), .val (.double (FP.l2d el1)), .second, .val (.long ((pp.toInt64) * (4 : Int64))), .second, .unset, .unset] [(.long ((pp.toInt64) * (4 : Int64)))])) rfl (hb hby at_195) _ kk_) ?_
            refine Fin.by (fun tt_ kk_ => XS.lcmp X272.here hx rfl (hb hby at_198) rfl kk_) ?_
            show Fin _ _ _ _ _ _ _ (T272.setTop (mkF m 199 #[.val (.int sz), .val (.int pc_), .val (.long v1), .second, .val (.long v2), .second, .val (.long v3), .second, .val (.long v4), .second, .val (.int 4), .val (.int pp), .val (.long (1152921504606846975 : Int64)), .second, .val (.long el0), .second, .val (.long el1), .second, .val (.long el2), .second, .val (.long el3), .second, .val (.ref a101), .val (.double (FP.l2d el1)), .second, .val (.long ((pp.toInt64) * (4 : Int64))), .second, .unset, .unset] [(.int (lcmpW ((pp.toInt64) * (4 : Int64)) (200 : Int64)))]))
            refine Fin.by (fun tt_ kk_ => XS.ifNo X272.here hx rfl (hb hby at_199) rfl ((if0 _ _).trans (flt (hC.2.1 : ¬ (0 : Int32) < (lcmpW ((pp.toInt64) * (4 : Int64)) (200 : Int64)))).2.2.1) kk_) ?_
            refine Fin.by (fun tt_ kk_ => XS.lload X272.here hx rfl (hb hby at_202) rfl (XS.lstore X272.here hx rfl (hb hby at_204) rfl (l' := #[.val (.int sz), .val (.int pc_), .val (.long v1), .second, .val (.long v2), .second, .val (.long v3), .second, .val (.long v4), .second, .val (.int 4), .val (.int pp), .val (.long (1152921504606846975 : Int64)), .second, .val (.long el0), .second, .val (.long el1), .second, .val (.long el2), .second, .val (.long el3), .second, .val (.ref a101), .val (.double (FP.l2d el1)), .second, .val (.long ((pp.toInt64) * (4 : Int64))), .second, .val (.long el1), .second]) rfl (XS.goto X272.here hx rfl (pc0 := 206) (pc' := 229) rfl (hb hby at_206) (by decide) (by decide) (XS.dload X272.here hx rfl (hb hby at_229) rfl (XS.lload X272.here hx rfl (hb hby at_231) rfl (XS.l2dS X272.here hx rfl (hb hby at_233) rfl rfl (XS.dcmpS X272.here hx rfl (hb hby at_234) rfl rfl kk_))))))) ?_
            show Fin _ _ _ _ _ _ _ (T272.setTop (mkF m 235 #[.val (.int sz), .val (.int pc_), .val (.long v1), .second, .val (.long v2), .second, .val (.long v3), .second, .val (.long v4), .second, .val (.int 4), .val (.int pp), .val (.long (1152921504606846975 : Int64)), .second, .val (.long el0), .second, .val (.long el1), .second, .val (.long el2), .second, .val (.long el3), .second, .val (.ref a101), .val (.double (FP.l2d el1)), .second, .val (.long ((pp.toInt64) * (4 : Int64))), .second, .val (.long el1), .second] [(.int (cmpValue (FP.dcmp (FP.l2d el1) (FP.l2d el1)) .l))]))
            refine Fin.by (fun tt_ kk_ => XS.ifNo X272.here hx rfl (hb hby at_235) rfl ((if0 _ _).trans (teq (dcmpV_self (nn_w rfl) _ : (cmpValue (FP.dcmp (FP.l2d el1) (FP.l2d el1)) .l) = (0 : Int32))).2) kk_) ?_
            refine Fin.by (fun tt_ kk_ => XS.iconst X272.here hx rfl (hb hby at_238) (XS.goto X272.here hx rfl (pc0 := 239) (pc' := 243) rfl (hb hby at_239) (by decide) (by decide) kk_)) ?_
            show Fin _ _ _ _ _ _ _ (T272.setTop (mkF m 243 #[.val (.int sz), .val (.int pc_), .val (.long v1), .second, .val (.long v2), .second, .val (.long v3), .second, .val (.long v4), .second, .val (.int 4), .val (.int pp), .val (.long (1152921504606846975 : Int64)), .second, .val (.long el0), .second, .val (.long el1), .second, .val (.long el2), .second, .val (.long el3), .second, .val (.ref a101), .val (.double (FP.l2d el1)), .second, .val (.long ((pp.toInt64) * (4 : Int64))), .second, .val (.long el1), .second] [(.int 1)]))
            exact Fin.ret (v := some (.int (nar .boolean (1 : Int32)))) X272 (fun h => by rw [Bd.returns] at h; cases h) Bd.notSynchronized (by rw [e272]; exact ⟨rfl, N272_⟩) (by decide) (by decide) (fun fs hr => retN X272 hx (t := .boolean) Bd.returns (by simp) (hb hby at_243) hr)
          · have E273 : Exa Z T264.heap y246 "java/lang/Long" := (((p245_1.keep p253_0).keep p256_0).keep p264_0)
            have F274 : Fld Z T264.heap y246 "java/lang/Long" "value" "J" (.long el2) := (((p245_2.keep p253_0 (ninS (own_exne p245_1 E247 (by decide)) (ninS (Ne.symm (own_arne A248 p245_1 (w_ hw 82 rfl))) nin0))).keep p256_0 nin0).keep p264_0 (ninS (own_exne p245_1 E247 (by decide)) (ninS (Ne.symm (own_arne A248 p245_1 (w_ hw 82 rfl))) nin0)))
            have z275 : n0 ≤ T264.heap.size := Nat.le_trans z263 p264_0.1
            obtain ⟨v276, _, ⟨T276, L276, k276, n276⟩, -, X276, ⟨Lc276, hQ276, l276, y276, z276⟩, st276⟩ := Jvm.LawKit.callS X264 hx (y := y_20) hown (mvT hZ (w_ hw 28 rfl)) (mvT hZ (w_ hw 29 rfl)) (mvT hZ (w_ hw 30 rfl)) (mvT hZ (w_ hw 31 rfl)) (by decide) (backOf (W := 0) (rm_per1 l Z a0 hw [] a101 (2 : Int32) ed225 kE226 ([(.ref y217), (.ref y231), (.ref y246), (.ref y257), .null, .null, .null, .null, .null, .null] : List Value) y246 (4 : Int32) pp el2 T264.heap n0 z275 (by decide) hC.2.2.2 (by decide) (by decide) (by decide) rfl p264_1 p264_2 p264_5 p264_3 E273 F274) hZ (w_ hw 31 rfl) (w_ hw 30 rfl) (by decide) (by decide)) (g := (mkF m 144 #[.val (.int sz), .val (.int pc_), .val (.long v1), .second, .val (.long v2), .second, .val (.long v3), .second, .val (.long v4), .second, .val (.int 4), .val (.int pp), .val (.long (1152921504606846975 : Int64)), .second, .val (.long el0), .second, .val (.long el1), .second, .val (.long el2), .second, .val (.long el3), .second, .val (.ref a101), .unset, .unset, .unset, .unset, .unset, .unset] [(.int pp), (.ref a101)])) rfl (by rw [hml]; rfl) (argsL := [(.ref a101), (.int pp)]) (rest := []) (lenOf pd_204 rfl) rfl (by show 2 * 0 + _ ≤ _; exact Nat.le_of_eq rfl) (hb hby at_144) (fun _ _ => ⟨rfl, rfl, (by decide : 6 + 0 ≤ _), (by decide : 17 + 0 ≤ _)⟩)
            dsimp only [Pt.U, Pt.locs, Pt.cells, Pt.slots] at X276 l276 y276 z276 st276 hQ276
            subst l276 y276 z276
            obtain ⟨rfl, Nq276, e276_⟩ := hQ276
            have N276_ := Fr.app N264_ Nq276
            refine Fin.by (fun tt_ kk_ => st276 tt_ kk_) ?_
            have e276 := e276_
            refine Fin.by (fun tt_ kk_ => XS.dstore X276.here hx rfl (hb hby at_147) rfl (l' := #[.val (.int sz), .val (.int pc_), .val (.long v1), .second, .val (.long v2), .second, .val (.long v3), .second, .val (.long v4), .second, .val (.int 4), .val (.int pp), .val (.long (1152921504606846975 : Int64)), .second, .val (.long el0), .second, .val (.long el1), .second, .val (.long el2), .second, .val (.long el3), .second, .val (.ref a101), .val (.double (FP.l2d el2)), .second, .unset, .unset, .unset, .unset]) rfl (XS.iload X276.here hx rfl (hb hby at_149) rfl kk_)) ?_
            show Fin _ _ _ _ _ _ _ (T276.setTop (mkF m 151 #[.val (.int sz), .val (.int pc_), .val (.long v1), .second, .val (.long v2), .second, .val (.long v3), .second, .val (.long v4), .second, .val (.int 4), .val (.int pp), .val (.long (1152921504606846975 : Int64)), .second, .val (.long el0), .second, .val (.long el1), .second, .val (.long el2), .second, .val (.long el3), .second, .val (.ref a101), .val (.double (FP.l2d el2)), .second, .unset, .unset, .unset, .unset] [(.int 4)]))
            refine Fin.by (fun tt_ kk_ => XS.ifYes X276.here hx rfl (pc0 := 151) (pc' := 168) rfl (hb hby at_151) rfl ((if0 _ _).trans (feq (by decide : ¬ (4 : Int32) = (0 : Int32))).2) (by decide) (by decide) kk_) ?_
            refine Fin.by (fun tt_ kk_ => XS.iload X276.here hx rfl (hb hby at_168) rfl (XS.i2l X276.here hx rfl (hb hby at_170) rfl (XS.iload X276.here hx rfl (hb hby at_171) rfl (XS.i2l X276.here hx rfl (hb hby at_173) rfl (XS.lmul X276.here hx rfl (hb hby at_174) rfl (XS.lstore X276.here hx rfl (hb hby at_175) rfl (l' := #[.val (.int sz), .val (.int pc_), .val (.long v1), .second, .val (.long v2), .second, .val (.long v3), .second, .val (.long v4), .second, .val (.int 4), .val (.int pp), .val (.long (1152921504606846975 : Int64)), .second, .val (.long el0), .second, .val (.long el1), .second, .val (.long el2), .second, .val (.long el3), .second, .val (.ref a101), .val (.double (FP.l2d el2)), .second, .val (.long ((pp.toInt64) * (4 : Int64))), .second, .unset, .unset]) rfl (XS.lload X276.here hx rfl (hb hby at_177) rfl kk_))))))) ?_
            refine Fin.by (fun tt_ kk_ => X276.ldc2Long hx hown (mvT hZ (w_ hw 136 rfl)) (g := (mkF m 179 #[.val (.int sz), .val (.int pc_), .val (.long v1), .second, .val (.long v2), .second, .val (.long v3), .second, .val (.long v4), .second, .val (.int 4), .val (.int pp), .val (.long (1152921504606846975 : Int64)), .second, .val (.long el0), .second, .val (.long el1), .second, .val (.long el2), .second, .val (.long el3), .second, .val (.ref a101), .val (.double (FP.l2d el2)), .second, .val (.long ((pp.toInt64) * (4 : Int64))), .second, .unset, .unset] [(.long ((pp.toInt64) * (4 : Int64)))])) rfl (hb hby at_179) _ kk_) ?_
            refine Fin.by (fun tt_ kk_ => XS.lcmp X276.here hx rfl (hb hby at_182) rfl kk_) ?_
            show Fin _ _ _ _ _ _ _ (T276.setTop (mkF m 183 #[.val (.int sz), .val (.int pc_), .val (.long v1), .second, .val (.long v2), .second, .val (.long v3), .second, .val (.long v4), .second, .val (.int 4), .val (.int pp), .val (.long (1152921504606846975 : Int64)), .second, .val (.long el0), .second, .val (.long el1), .second, .val (.long el2), .second, .val (.long el3), .second, .val (.ref a101), .val (.double (FP.l2d el2)), .second, .val (.long ((pp.toInt64) * (4 : Int64))), .second, .unset, .unset] [(.int (lcmpW ((pp.toInt64) * (4 : Int64)) (100 : Int64)))]))
            refine Fin.by (fun tt_ kk_ => XS.ifYes X276.here hx rfl (pc0 := 183) (pc' := 193) rfl (hb hby at_183) rfl ((if0 _ _).trans (tlt (hC.1 : (0 : Int32) < (lcmpW ((pp.toInt64) * (4 : Int64)) (100 : Int64)))).2.2.1) (by decide) (by decide) kk_) ?_
            refine Fin.by (fun tt_ kk_ => XS.lload X276.here hx rfl (hb hby at_193) rfl kk_) ?_
            refine Fin.by (fun tt_ kk_ => X276.ldc2Long hx hown (mvT hZ (w_ hw 137 rfl)) (g := (mkF m 195 #[.val (.int sz), .val (.int pc_), .val (.long v1), .second, .val (.long v2), .second, .val (.long v3), .second, .val (.long v4), .second, .val (.int 4), .val (.int pp), .val (.long (1152921504606846975 : Int64)), .second, .val (.long el0), .second, .val (.long el1), .second, .val (.long el2), .second, .val (.long el3), .second, .val (.ref a101), .val (.double (FP.l2d el2)), .second, .val (.long ((pp.toInt64) * (4 : Int64))), .second, .unset, .unset] [(.long ((pp.toInt64) * (4 : Int64)))])) rfl (hb hby at_195) _ kk_) ?_
            refine Fin.by (fun tt_ kk_ => XS.lcmp X276.here hx rfl (hb hby at_198) rfl kk_) ?_
            show Fin _ _ _ _ _ _ _ (T276.setTop (mkF m 199 #[.val (.int sz), .val (.int pc_), .val (.long v1), .second, .val (.long v2), .second, .val (.long v3), .second, .val (.long v4), .second, .val (.int 4), .val (.int pp), .val (.long (1152921504606846975 : Int64)), .second, .val (.long el0), .second, .val (.long el1), .second, .val (.long el2), .second, .val (.long el3), .second, .val (.ref a101), .val (.double (FP.l2d el2)), .second, .val (.long ((pp.toInt64) * (4 : Int64))), .second, .unset, .unset] [(.int (lcmpW ((pp.toInt64) * (4 : Int64)) (200 : Int64)))]))
            refine Fin.by (fun tt_ kk_ => XS.ifYes X276.here hx rfl (pc0 := 199) (pc' := 209) rfl (hb hby at_199) rfl ((if0 _ _).trans (tlt (hC.2.1 : (0 : Int32) < (lcmpW ((pp.toInt64) * (4 : Int64)) (200 : Int64)))).2.2.1) (by decide) (by decide) kk_) ?_
            refine Fin.by (fun tt_ kk_ => XS.lload X276.here hx rfl (hb hby at_209) rfl kk_) ?_
            refine Fin.by (fun tt_ kk_ => X276.ldc2Long hx hown (mvT hZ (w_ hw 138 rfl)) (g := (mkF m 211 #[.val (.int sz), .val (.int pc_), .val (.long v1), .second, .val (.long v2), .second, .val (.long v3), .second, .val (.long v4), .second, .val (.int 4), .val (.int pp), .val (.long (1152921504606846975 : Int64)), .second, .val (.long el0), .second, .val (.long el1), .second, .val (.long el2), .second, .val (.long el3), .second, .val (.ref a101), .val (.double (FP.l2d el2)), .second, .val (.long ((pp.toInt64) * (4 : Int64))), .second, .unset, .unset] [(.long ((pp.toInt64) * (4 : Int64)))])) rfl (hb hby at_211) _ kk_) ?_
            refine Fin.by (fun tt_ kk_ => XS.lcmp X276.here hx rfl (hb hby at_214) rfl kk_) ?_
            show Fin _ _ _ _ _ _ _ (T276.setTop (mkF m 215 #[.val (.int sz), .val (.int pc_), .val (.long v1), .second, .val (.long v2), .second, .val (.long v3), .second, .val (.long v4), .second, .val (.int 4), .val (.int pp), .val (.long (1152921504606846975 : Int64)), .second, .val (.long el0), .second, .val (.long el1), .second, .val (.long el2), .second, .val (.long el3), .second, .val (.ref a101), .val (.double (FP.l2d el2)), .second, .val (.long ((pp.toInt64) * (4 : Int64))), .second, .unset, .unset] [(.int (lcmpW ((pp.toInt64) * (4 : Int64)) (300 : Int64)))]))
            refine Fin.by (fun tt_ kk_ => XS.ifNo X276.here hx rfl (hb hby at_215) rfl ((if0 _ _).trans (flt (hC.2.2.1 : ¬ (0 : Int32) < (lcmpW ((pp.toInt64) * (4 : Int64)) (300 : Int64)))).2.2.1) kk_) ?_
            refine Fin.by (fun tt_ kk_ => XS.lload X276.here hx rfl (hb hby at_218) rfl (XS.lstore X276.here hx rfl (hb hby at_220) rfl (l' := #[.val (.int sz), .val (.int pc_), .val (.long v1), .second, .val (.long v2), .second, .val (.long v3), .second, .val (.long v4), .second, .val (.int 4), .val (.int pp), .val (.long (1152921504606846975 : Int64)), .second, .val (.long el0), .second, .val (.long el1), .second, .val (.long el2), .second, .val (.long el3), .second, .val (.ref a101), .val (.double (FP.l2d el2)), .second, .val (.long ((pp.toInt64) * (4 : Int64))), .second, .val (.long el2), .second]) rfl (XS.goto X276.here hx rfl (pc0 := 222) (pc' := 229) rfl (hb hby at_222) (by decide) (by decide) (XS.dload X276.here hx rfl (hb hby at_229) rfl (XS.lload X276.here hx rfl (hb hby at_231) rfl (XS.l2dS X276.here hx rfl (hb hby at_233) rfl rfl (XS.dcmpS X276.here hx rfl (hb hby at_234) rfl rfl kk_))))))) ?_
            show Fin _ _ _ _ _ _ _ (T276.setTop (mkF m 235 #[.val (.int sz), .val (.int pc_), .val (.long v1), .second, .val (.long v2), .second, .val (.long v3), .second, .val (.long v4), .second, .val (.int 4), .val (.int pp), .val (.long (1152921504606846975 : Int64)), .second, .val (.long el0), .second, .val (.long el1), .second, .val (.long el2), .second, .val (.long el3), .second, .val (.ref a101), .val (.double (FP.l2d el2)), .second, .val (.long ((pp.toInt64) * (4 : Int64))), .second, .val (.long el2), .second] [(.int (cmpValue (FP.dcmp (FP.l2d el2) (FP.l2d el2)) .l))]))
            refine Fin.by (fun tt_ kk_ => XS.ifNo X276.here hx rfl (hb hby at_235) rfl ((if0 _ _).trans (teq (dcmpV_self (nn_w rfl) _ : (cmpValue (FP.dcmp (FP.l2d el2) (FP.l2d el2)) .l) = (0 : Int32))).2) kk_) ?_
            refine Fin.by (fun tt_ kk_ => XS.iconst X276.here hx rfl (hb hby at_238) (XS.goto X276.here hx rfl (pc0 := 239) (pc' := 243) rfl (hb hby at_239) (by decide) (by decide) kk_)) ?_
            show Fin _ _ _ _ _ _ _ (T276.setTop (mkF m 243 #[.val (.int sz), .val (.int pc_), .val (.long v1), .second, .val (.long v2), .second, .val (.long v3), .second, .val (.long v4), .second, .val (.int 4), .val (.int pp), .val (.long (1152921504606846975 : Int64)), .second, .val (.long el0), .second, .val (.long el1), .second, .val (.long el2), .second, .val (.long el3), .second, .val (.ref a101), .val (.double (FP.l2d el2)), .second, .val (.long ((pp.toInt64) * (4 : Int64))), .second, .val (.long el2), .second] [(.int 1)]))
            exact Fin.ret (v := some (.int (nar .boolean (1 : Int32)))) X276 (fun h => by rw [Bd.returns] at h; cases h) Bd.notSynchronized (by rw [e276]; exact ⟨rfl, N276_⟩) (by decide) (by decide) (fun fs hr => retN X276 hx (t := .boolean) Bd.returns (by simp) (hb hby at_243) hr)
          · have E277 : Exa Z T264.heap y257 "java/lang/Long" := (p256_1.keep p264_0)
            have F278 : Fld Z T264.heap y257 "java/lang/Long" "value" "J" (.long el3) := (p256_2.keep p264_0 (ninS (own_exne p256_1 E258 (by decide)) (ninS (Ne.symm (own_arne A259 p256_1 (w_ hw 82 rfl))) nin0)))
            have z279 : n0 ≤ T264.heap.size := Nat.le_trans z263 p264_0.1
            obtain ⟨v280, _, ⟨T280, L280, k280, n280⟩, -, X280, ⟨Lc280, hQ280, l280, y280, z280⟩, st280⟩ := Jvm.LawKit.callS X264 hx (y := y_20) hown (mvT hZ (w_ hw 28 rfl)) (mvT hZ (w_ hw 29 rfl)) (mvT hZ (w_ hw 30 rfl)) (mvT hZ (w_ hw 31 rfl)) (by decide) (backOf (W := 0) (rm_per1 l Z a0 hw [] a101 (3 : Int32) ed225 kE226 ([(.ref y217), (.ref y231), (.ref y246), (.ref y257), .null, .null, .null, .null, .null, .null] : List Value) y257 (4 : Int32) pp el3 T264.heap n0 z279 (by decide) hC.2.2.2 (by decide) (by decide) (by decide) rfl p264_1 p264_2 p264_5 p264_3 E277 F278) hZ (w_ hw 31 rfl) (w_ hw 30 rfl) (by decide) (by decide)) (g := (mkF m 144 #[.val (.int sz), .val (.int pc_), .val (.long v1), .second, .val (.long v2), .second, .val (.long v3), .second, .val (.long v4), .second, .val (.int 4), .val (.int pp), .val (.long (1152921504606846975 : Int64)), .second, .val (.long el0), .second, .val (.long el1), .second, .val (.long el2), .second, .val (.long el3), .second, .val (.ref a101), .unset, .unset, .unset, .unset, .unset, .unset] [(.int pp), (.ref a101)])) rfl (by rw [hml]; rfl) (argsL := [(.ref a101), (.int pp)]) (rest := []) (lenOf pd_204 rfl) rfl (by show 2 * 0 + _ ≤ _; exact Nat.le_of_eq rfl) (hb hby at_144) (fun _ _ => ⟨rfl, rfl, (by decide : 6 + 0 ≤ _), (by decide : 17 + 0 ≤ _)⟩)
            dsimp only [Pt.U, Pt.locs, Pt.cells, Pt.slots] at X280 l280 y280 z280 st280 hQ280
            subst l280 y280 z280
            obtain ⟨rfl, Nq280, e280_⟩ := hQ280
            have N280_ := Fr.app N264_ Nq280
            refine Fin.by (fun tt_ kk_ => st280 tt_ kk_) ?_
            have e280 := e280_
            refine Fin.by (fun tt_ kk_ => XS.dstore X280.here hx rfl (hb hby at_147) rfl (l' := #[.val (.int sz), .val (.int pc_), .val (.long v1), .second, .val (.long v2), .second, .val (.long v3), .second, .val (.long v4), .second, .val (.int 4), .val (.int pp), .val (.long (1152921504606846975 : Int64)), .second, .val (.long el0), .second, .val (.long el1), .second, .val (.long el2), .second, .val (.long el3), .second, .val (.ref a101), .val (.double (FP.l2d el3)), .second, .unset, .unset, .unset, .unset]) rfl (XS.iload X280.here hx rfl (hb hby at_149) rfl kk_)) ?_
            show Fin _ _ _ _ _ _ _ (T280.setTop (mkF m 151 #[.val (.int sz), .val (.int pc_), .val (.long v1), .second, .val (.long v2), .second, .val (.long v3), .second, .val (.long v4), .second, .val (.int 4), .val (.int pp), .val (.long (1152921504606846975 : Int64)), .second, .val (.long el0), .second, .val (.long el1), .second, .val (.long el2), .second, .val (.long el3), .second, .val (.ref a101), .val (.double (FP.l2d el3)), .second, .unset, .unset, .unset, .unset] [(.int 4)]))
            refine Fin.by (fun tt_ kk_ => XS.ifYes X280.here hx rfl (pc0 := 151) (pc' := 168) rfl (hb hby at_151) rfl ((if0 _ _).trans (feq (by decide : ¬ (4 : Int32) = (0 : Int32))).2) (by decide) (by decide) kk_) ?_
            refine Fin.by (fun tt_ kk_ => XS.iload X280.here hx rfl (hb hby at_168) rfl (XS.i2l X280.here hx rfl (hb hby at_170) rfl (XS.iload X280.here hx rfl (hb hby at_171) rfl (XS.i2l X280.here hx rfl (hb hby at_173) rfl (XS.lmul X280.here hx rfl (hb hby at_174) rfl (XS.lstore X280.here hx rfl (hb hby at_175) rfl (l' := #[.val (.int sz), .val (.int pc_), .val (.long v1), .second, .val (.long v2), .second, .val (.long v3), .second, .val (.long v4), .second, .val (.int 4), .val (.int pp), .val (.long (1152921504606846975 : Int64)), .second, .val (.long el0), .second, .val (.long el1), .second, .val (.long el2), .second, .val (.long el3), .second, .val (.ref a101), .val (.double (FP.l2d el3)), .second, .val (.long ((pp.toInt64) * (4 : Int64))), .second, .unset, .unset]) rfl (XS.lload X280.here hx rfl (hb hby at_177) rfl kk_))))))) ?_
            refine Fin.by (fun tt_ kk_ => X280.ldc2Long hx hown (mvT hZ (w_ hw 136 rfl)) (g := (mkF m 179 #[.val (.int sz), .val (.int pc_), .val (.long v1), .second, .val (.long v2), .second, .val (.long v3), .second, .val (.long v4), .second, .val (.int 4), .val (.int pp), .val (.long (1152921504606846975 : Int64)), .second, .val (.long el0), .second, .val (.long el1), .second, .val (.long el2), .second, .val (.long el3), .second, .val (.ref a101), .val (.double (FP.l2d el3)), .second, .val (.long ((pp.toInt64) * (4 : Int64))), .second, .unset, .unset] [(.long ((pp.toInt64) * (4 : Int64)))])) rfl (hb hby at_179) _ kk_) ?_
            refine Fin.by (fun tt_ kk_ => XS.lcmp X280.here hx rfl (hb hby at_182) rfl kk_) ?_
            show Fin _ _ _ _ _ _ _ (T280.setTop (mkF m 183 #[.val (.int sz), .val (.int pc_), .val (.long v1), .second, .val (.long v2), .second, .val (.long v3), .second, .val (.long v4), .second, .val (.int 4), .val (.int pp), .val (.long (1152921504606846975 : Int64)), .second, .val (.long el0), .second, .val (.long el1), .second, .val (.long el2), .second, .val (.long el3), .second, .val (.ref a101), .val (.double (FP.l2d el3)), .second, .val (.long ((pp.toInt64) * (4 : Int64))), .second, .unset, .unset] [(.int (lcmpW ((pp.toInt64) * (4 : Int64)) (100 : Int64)))]))
            refine Fin.by (fun tt_ kk_ => XS.ifYes X280.here hx rfl (pc0 := 183) (pc' := 193) rfl (hb hby at_183) rfl ((if0 _ _).trans (tlt (hC.1 : (0 : Int32) < (lcmpW ((pp.toInt64) * (4 : Int64)) (100 : Int64)))).2.2.1) (by decide) (by decide) kk_) ?_
            refine Fin.by (fun tt_ kk_ => XS.lload X280.here hx rfl (hb hby at_193) rfl kk_) ?_
            refine Fin.by (fun tt_ kk_ => X280.ldc2Long hx hown (mvT hZ (w_ hw 137 rfl)) (g := (mkF m 195 #[.val (.int sz), .val (.int pc_), .val (.long v1), .second, .val (.long v2), .second, .val (.long v3), .second, .val (.long v4), .second, .val (.int 4), .val (.int pp), .val (.long (1152921504606846975 : Int64)), .second, .val (.long el0), .second, .val (.long el1), .second, .val (.long el2), .second, .val (.long el3), .second, .val (.ref a101), .val (.double (FP.l2d el3)), .second, .val (.long ((pp.toInt64) * (4 : Int64))), .second, .unset, .unset] [(.long ((pp.toInt64) * (4 : Int64)))])) rfl (hb hby at_195) _ kk_) ?_
            refine Fin.by (fun tt_ kk_ => XS.lcmp X280.here hx rfl (hb hby at_198) rfl kk_) ?_
            show Fin _ _ _ _ _ _ _ (T280.setTop (mkF m 199 #[.val (.int sz), .val (.int pc_), .val (.long v1), .second, .val (.long v2), .second, .val (.long v3), .second, .val (.long v4), .second, .val (.int 4), .val (.int pp), .val (.long (1152921504606846975 : Int64)), .second, .val (.long el0), .second, .val (.long el1), .second, .val (.long el2), .second, .val (.long el3), .second, .val (.ref a101), .val (.double (FP.l2d el3)), .second, .val (.long ((pp.toInt64) * (4 : Int64))), .second, .unset, .unset] [(.int (lcmpW ((pp.toInt64) * (4 : Int64)) (200 : Int64)))]))
            refine Fin.by (fun tt_ kk_ => XS.ifYes X280.here hx rfl (pc0 := 199) (pc' := 209) rfl (hb hby at_199) rfl ((if0 _ _).trans (tlt (hC.2.1 : (0 : Int32) < (lcmpW ((pp.toInt64) * (4 : Int64)) (200 : Int64)))).2.2.1) (by decide) (by decide) kk_) ?_
            refine Fin.by (fun tt_ kk_ => XS.lload X280.here hx rfl (hb hby at_209) rfl kk_) ?_
            refine Fin.by (fun tt_ kk_ => X280.ldc2Long hx hown (mvT hZ (w_ hw 138 rfl)) (g := (mkF m 211 #[.val (.int sz), .val (.int pc_), .val (.long v1), .second, .val (.long v2), .second, .val (.long v3), .second, .val (.long v4), .second, .val (.int 4), .val (.int pp), .val (.long (1152921504606846975 : Int64)), .second, .val (.long el0), .second, .val (.long el1), .second, .val (.long el2), .second, .val (.long el3), .second, .val (.ref a101), .val (.double (FP.l2d el3)), .second, .val (.long ((pp.toInt64) * (4 : Int64))), .second, .unset, .unset] [(.long ((pp.toInt64) * (4 : Int64)))])) rfl (hb hby at_211) _ kk_) ?_
            refine Fin.by (fun tt_ kk_ => XS.lcmp X280.here hx rfl (hb hby at_214) rfl kk_) ?_
            show Fin _ _ _ _ _ _ _ (T280.setTop (mkF m 215 #[.val (.int sz), .val (.int pc_), .val (.long v1), .second, .val (.long v2), .second, .val (.long v3), .second, .val (.long v4), .second, .val (.int 4), .val (.int pp), .val (.long (1152921504606846975 : Int64)), .second, .val (.long el0), .second, .val (.long el1), .second, .val (.long el2), .second, .val (.long el3), .second, .val (.ref a101), .val (.double (FP.l2d el3)), .second, .val (.long ((pp.toInt64) * (4 : Int64))), .second, .unset, .unset] [(.int (lcmpW ((pp.toInt64) * (4 : Int64)) (300 : Int64)))]))
            refine Fin.by (fun tt_ kk_ => XS.ifYes X280.here hx rfl (pc0 := 215) (pc' := 225) rfl (hb hby at_215) rfl ((if0 _ _).trans (tlt (hC.2.2.1 : (0 : Int32) < (lcmpW ((pp.toInt64) * (4 : Int64)) (300 : Int64)))).2.2.1) (by decide) (by decide) kk_) ?_
            refine Fin.by (fun tt_ kk_ => XS.lload X280.here hx rfl (hb hby at_225) rfl (XS.lstore X280.here hx rfl (hb hby at_227) rfl (l' := #[.val (.int sz), .val (.int pc_), .val (.long v1), .second, .val (.long v2), .second, .val (.long v3), .second, .val (.long v4), .second, .val (.int 4), .val (.int pp), .val (.long (1152921504606846975 : Int64)), .second, .val (.long el0), .second, .val (.long el1), .second, .val (.long el2), .second, .val (.long el3), .second, .val (.ref a101), .val (.double (FP.l2d el3)), .second, .val (.long ((pp.toInt64) * (4 : Int64))), .second, .val (.long el3), .second]) rfl (XS.dload X280.here hx rfl (hb hby at_229) rfl (XS.lload X280.here hx rfl (hb hby at_231) rfl (XS.l2dS X280.here hx rfl (hb hby at_233) rfl rfl (XS.dcmpS X280.here hx rfl (hb hby at_234) rfl rfl kk_)))))) ?_
            show Fin _ _ _ _ _ _ _ (T280.setTop (mkF m 235 #[.val (.int sz), .val (.int pc_), .val (.long v1), .second, .val (.long v2), .second, .val (.long v3), .second, .val (.long v4), .second, .val (.int 4), .val (.int pp), .val (.long (1152921504606846975 : Int64)), .second, .val (.long el0), .second, .val (.long el1), .second, .val (.long el2), .second, .val (.long el3), .second, .val (.ref a101), .val (.double (FP.l2d el3)), .second, .val (.long ((pp.toInt64) * (4 : Int64))), .second, .val (.long el3), .second] [(.int (cmpValue (FP.dcmp (FP.l2d el3) (FP.l2d el3)) .l))]))
            refine Fin.by (fun tt_ kk_ => XS.ifNo X280.here hx rfl (hb hby at_235) rfl ((if0 _ _).trans (teq (dcmpV_self (nn_w rfl) _ : (cmpValue (FP.dcmp (FP.l2d el3) (FP.l2d el3)) .l) = (0 : Int32))).2) kk_) ?_
            refine Fin.by (fun tt_ kk_ => XS.iconst X280.here hx rfl (hb hby at_238) (XS.goto X280.here hx rfl (pc0 := 239) (pc' := 243) rfl (hb hby at_239) (by decide) (by decide) kk_)) ?_
            show Fin _ _ _ _ _ _ _ (T280.setTop (mkF m 243 #[.val (.int sz), .val (.int pc_), .val (.long v1), .second, .val (.long v2), .second, .val (.long v3), .second, .val (.long v4), .second, .val (.int 4), .val (.int pp), .val (.long (1152921504606846975 : Int64)), .second, .val (.long el0), .second, .val (.long el1), .second, .val (.long el2), .second, .val (.long el3), .second, .val (.ref a101), .val (.double (FP.l2d el3)), .second, .val (.long ((pp.toInt64) * (4 : Int64))), .second, .val (.long el3), .second] [(.int 1)]))
            exact Fin.ret (v := some (.int (nar .boolean (1 : Int32)))) X280 (fun h => by rw [Bd.returns] at h; cases h) Bd.notSynchronized (by rw [e280]; exact ⟨rfl, N280_⟩) (by decide) (by decide) (fun fs hr => retN X280 hx (t := .boolean) Bd.returns (by simp) (hb hby at_243) hr)
      show Fin _ _ _ _ _ _ _ (s₁.setTop (mkF m 64 #[.val (.int sz), .val (.int pc_), .val (.long v1), .second, .val (.long v2), .second, .val (.long v3), .second, .val (.long v4), .second, .val (.int n), .val (.int pp), .val (.long (1152921504606846975 : Int64)), .second, .val (.long (v1 >>> ((2 : Int32) &&& 63).toInt64)), .second, .val (.long ((v1 >>> ((2 : Int32) &&& 63).toInt64) + (v2 &&& (1152921504606846975 : Int64)))), .second, .val (.long (((v1 >>> ((2 : Int32) &&& 63).toInt64) + (v2 &&& (1152921504606846975 : Int64))) + (v3 &&& (1152921504606846975 : Int64)))), .second, .val (.long ((((v1 >>> ((2 : Int32) &&& 63).toInt64) + (v2 &&& (1152921504606846975 : Int64))) + (v3 &&& (1152921504606846975 : Int64))) + (v4 &&& (1152921504606846975 : Int64)))), .second, .unset, .unset, .unset, .unset, .unset, .unset, .unset] []))
      exact Je (v1 >>> ((2 : Int32) &&& 63).toInt64) ((v1 >>> ((2 : Int32) &&& 63).toInt64) + (v2 &&& (1152921504606846975 : Int64))) (((v1 >>> ((2 : Int32) &&& 63).toInt64) + (v2 &&& (1152921504606846975 : Int64))) + (v3 &&& (1152921504606846975 : Int64))) ((((v1 >>> ((2 : Int32) &&& 63).toInt64) + (v2 &&& (1152921504606846975 : Int64))) + (v3 &&& (1152921504606846975 : Int64))) + (v4 &&& (1152921504606846975 : Int64)))
    show Fin _ _ _ _ _ _ _ (s₁.setTop (mkF m 11 #[.val (.int sz), .val (.int pc_), .val (.long v1), .second, .val (.long v2), .second, .val (.long v3), .second, .val (.long v4), .second, .val (.int n), .unset, .unset, .unset, .unset, .unset, .unset, .unset, .unset, .unset, .unset, .unset, .unset, .unset, .unset, .unset, .unset, .unset, .unset] [(.int 100), (.int pc_)]))
    by_cases hc : (100 : Int32) < pc_
    · refine Fin.by (fun tt_ kk_ => XS.icmpNo X0.here hx rfl (hb hby at_11) rfl (tlt hc).2.2.2 kk_) ?_
      refine Fin.by (fun tt_ kk_ => XS.iloadN X0.here hx rfl (hb hby at_14) rfl (XS.bipush X0.here hx rfl (hb hby at_15) (iremM X0 hx rfl (hb hby at_17) rfl (by decide) (XS.goto X0.here hx rfl (pc0 := 18) (pc' := 22) rfl (hb hby at_18) (by decide) (by decide) (XS.istore X0.here hx rfl (hb hby at_22) rfl (l' := #[.val (.int sz), .val (.int pc_), .val (.long v1), .second, .val (.long v2), .second, .val (.long v3), .second, .val (.long v4), .second, .val (.int n), .val (.int (pc_ % 101)), .unset, .unset, .unset, .unset, .unset, .unset, .unset, .unset, .unset, .unset, .unset, .unset, .unset, .unset, .unset, .unset, .unset]) rfl kk_))))) ?_
      show Fin _ _ _ _ _ _ _ (s₁.setTop (mkF m 24 #[.val (.int sz), .val (.int pc_), .val (.long v1), .second, .val (.long v2), .second, .val (.long v3), .second, .val (.long v4), .second, .val (.int n), .val (.int (pc_ % 101)), .unset, .unset, .unset, .unset, .unset, .unset, .unset, .unset, .unset, .unset, .unset, .unset, .unset, .unset, .unset, .unset, .unset] []))
      exact Jp (pc_ % (101 : Int32)) (own_p101 hc)
    · refine Fin.by (fun tt_ kk_ => XS.icmpYes X0.here hx rfl (pc0 := 11) (pc' := 21) rfl (hb hby at_11) rfl (flt hc).2.2.2 (by decide) (by decide) kk_) ?_
      refine Fin.by (fun tt_ kk_ => XS.iloadN X0.here hx rfl (hb hby at_21) rfl (XS.istore X0.here hx rfl (hb hby at_22) rfl (l' := #[.val (.int sz), .val (.int pc_), .val (.long v1), .second, .val (.long v2), .second, .val (.long v3), .second, .val (.long v4), .second, .val (.int n), .val (.int pc_), .unset, .unset, .unset, .unset, .unset, .unset, .unset, .unset, .unset, .unset, .unset, .unset, .unset, .unset, .unset, .unset, .unset]) rfl kk_)) ?_
      show Fin _ _ _ _ _ _ _ (s₁.setTop (mkF m 24 #[.val (.int sz), .val (.int pc_), .val (.long v1), .second, .val (.long v2), .second, .val (.long v3), .second, .val (.long v4), .second, .val (.int n), .val (.int pc_), .unset, .unset, .unset, .unset, .unset, .unset, .unset, .unset, .unset, .unset, .unset, .unset, .unset, .unset, .unset, .unset, .unset] []))
      exact Jp pc_ (own_p100 hc)
  show Fin _ _ _ _ _ _ _ (s₁.setTop (mkF m 8 #[.val (.int sz), .val (.int pc_), .val (.long v1), .second, .val (.long v2), .second, .val (.long v3), .second, .val (.long v4), .second, .val (.int ((sz &&& 2147483647) % 5)), .unset, .unset, .unset, .unset, .unset, .unset, .unset, .unset, .unset, .unset, .unset, .unset, .unset, .unset, .unset, .unset, .unset, .unset] []))
  exact Jn ((sz &&& (2147483647 : Int32)) % (5 : Int32)) (own_mod5 _)
theorem own_len {t : Term} {s : State} {args : Array Value} {a : Addr} {c : Cell} {ty : FieldType} {n : Int32} (ev : t.eval args s none [] s = some (.ref a)) (A : Arr s s.heap a c ty) (h : (Jvm.Cond.eq (.length t) (.int n)).value args s none s [] = some true) : c.slots.size < 2 ^ 31 ∧ c.slots.size.toInt32 = n := by
  obtain ⟨x, y, hx, hy, -, -⟩ := cmp_v (Or.inl h)
  have hp : c.vm.isStatics = false := Arr.plain A
  obtain ⟨h1, ⟨h2, k, hk, comp, hkind⟩, h3⟩ := A
  have hA : s.arrayAt? a = some c := by simp [State.arrayAt?, h1, hk, hkind, h3, hp]
  have hlt : c.slots.size < 2 ^ 31 := by
    apply Classical.byContradiction; intro q
    simp [Term.eval, ev, hA] at hx
    omega
  exact ⟨hlt, gotT (Cond.eq_ints (len_f ev hA hlt) (Term.int_eval n)) h⟩
theorem own_eqv {x y : Term} {s : State} {args : Array Value} {idx : List Nat} {v : Value} (h : (Jvm.Cond.eq x y).value args s none s idx = some true) (hy : y.eval args s none idx s = some v) (hk : (match v with | .float _ | .double _ | .retAddr _ => false | _ => true) = true) : x.eval args s none idx s = some v := by
  cases hx : x.eval args s none idx s with
  | none => simp [Jvm.Cond.value, hx] at h
  | some u => cases u <;> cases v <;> simp [Jvm.Cond.value, hx, hy] at h hk ⊢ <;> exact h
theorem own_hasl (c : Cell) : ∀ (l : List Value) (i : Nat), (∀ j, j < l.length → c.slots[i + j]? = l[j]?) → HasL c i l
  | [], _, _ => trivial
  | v :: r, i, h => ⟨h 0 (Nat.succ_pos _), own_hasl c r (i + 1) fun j hj => by
      have q := h (j + 1) (Nat.succ_lt_succ hj)
      rw [show i + 1 + j = i + (j + 1) from by omega]; simpa using q⟩
theorem own_cache {s : State} {args : Array Value} {aC : Addr} {cl : Cell} {T : Term} (hev : ∀ idx, T.eval args s none idx s = some (.ref aC)) (A : Arr s s.heap aC cl (.object "java/lang/Long")) (sz : cl.slots.size = 256)
    (h : (Jvm.Cond.all T (Jvm.Cond.and (Jvm.Cond.exactly (Jvm.Term.elem T (Jvm.Term.index (0 : Nat))) "java/lang/Long") (Jvm.Cond.eq (Jvm.Term.field (Jvm.Term.elem T (Jvm.Term.index (0 : Nat))) "java/lang/Long" "value" "J") (Jvm.Term.op1 Jvm.Unary.i2l (Jvm.Term.sub (Jvm.Term.index (0 : Nat)) (Jvm.Term.int (128 : Int32))))))).value args s none s [] = some true) : own_HC s cl.slots.toList := by
  intro i hi
  have hp : cl.vm.isStatics = false := Arr.plain A
  have hA : s.arrayAt? aC = some cl := by
    obtain ⟨h1, ⟨h2, k, hk, comp, hkind⟩, h3⟩ := A
    simp [State.arrayAt?, h1, hk, hkind, h3, hp]
  have q := Cond.all_elim (hev []) hA h i (by omega)
  obtain ⟨q1, q2⟩ := and_e q
  obtain ⟨y, hy⟩ := exa_v q1
  have hidx : (Jvm.Term.index (0 : Nat)).eval args s none [i] s = some (.int i.toInt32) := by simp [Term.eval]
  have hslot := (elem_in hy (hev _) hidx A.1).2
  have hcl : (i.toInt32).toNatClampNeg = i := clamp_of rfl (by omega)
  rw [hcl] at hslot
  have ev' : (Jvm.Term.elem T (Jvm.Term.int i.toInt32)).eval args s none [] s = some (.ref y) := by
    rw [← hy]; simp [Term.eval, hev]
  have q1' : (Jvm.Cond.exactly (Jvm.Term.elem T (Jvm.Term.int i.toInt32)) "java/lang/Long").value args s none s [] = some true := by
    rw [← q1]; simp only [Jvm.Cond.value, ev', hy]
  have hsub : (Jvm.Term.op1 Jvm.Unary.i2l (Jvm.Term.sub (Jvm.Term.index (0 : Nat)) (Jvm.Term.int (128 : Int32)))).eval args s none [i] s = some (.long ((Int32.ofNat i - 128).toInt64)) := by simp [Term.eval]; rfl
  have q2' := own_eqv q2 hsub rfl
  rw [fld_at hy] at q2'
  refine ⟨y, ?_, Exa.start ev' q1', Fld.start q2'⟩
  rw [List.getD_eq_getElem?_getD, Array.getElem?_toList, hslot]; rfl
set_option maxRecDepth 65536 in
set_option maxHeartbeats 40000000 in
theorem comes_1 {Post : Tables → Env → Array Value → State → Outcome → State → Prop} (hpost : ∀ tb e args s v u, (limb_1_1.after args s (.returned v) u = true ∧ limb_1_2.after args s (.returned v) u = true ∧ True) → FrameEnd s (.returned v) u (Jvm.fieldLocs frame_1_writes args s ++ Jvm.arrayLocs frame_1_arrays args s ++ Jvm.staticLocs frame_1_statics s) 24 128 → Post tb e args s (.returned v) u) :
    ArmFor flags0 classFile x code maxLocals ret World_1 tables_1 room_1 Calls_1 rest_1 Pre_1 Post := by
  intro l hfl _ _ p e ha hc hk s m args below hf hA hF happ hP
  obtain ⟨hcalls, hrest, hpre⟩ := hP
  obtain ⟨-, -, -, hnamed, -, -, -, hat⟩ := (Spec.applies_iff hf).mp happ
  obtain ⟨hg, hn⟩ := and_e (Cond.before_iff.mp (show (Jvm.Cond.and given_1 narrow_1).before args s = true from hpre))
  obtain ⟨q0, r0⟩ := and_e hg
  obtain ⟨q1, r1⟩ := and_e r0
  obtain ⟨q2, r2⟩ := and_e r1
  obtain ⟨q3, r3⟩ := and_e r2
  obtain ⟨q4, r4⟩ := and_e r3
  obtain ⟨q5, r5⟩ := and_e r4
  obtain ⟨w0, w1, w2, w3, w4, w5, rfl⟩ : ∃ w0 w1 w2 w3 w4 w5 : Value, args = #[w0, w1, w2, w3, w4, w5] := by
    have hs : args.size = 6 := by simpa [Cond.value, given_1] using q0
    obtain ⟨L⟩ := args
    match L, hs with
    | [w0, w1, w2, w3, w4, w5], _ => exact ⟨w0, w1, w2, w3, w4, w5, rfl⟩
  have hw := fun d (hd : d ∈ tables_1) => atoms_spec (ws := Jvm.Cond.code x code maxLocals ret :: tables_1) hat d (List.mem_cons_of_mem _ hd)
  obtain ⟨hsets, hown0⟩ := atoms_of _ (rest_1_c_eq ▸ (show rest_1_c.before _ s = true from hrest))
  have hfit : Fit s := fun {y c} hc i hi => by
    obtain ⟨ha, rfl⟩ := Array.getElem?_eq_some_iff.mp hc
    have q := List.all_eq_true.mp ((Array.all_eq_true_iff_forall_mem.mp hF) _ (Array.getElem_mem ha)) i (List.mem_range.mpr hi)
    simpa [Array.getElem?_eq_getElem hi] using q
  obtain ⟨i0, e0⟩ := is_v q1
  obtain rfl : w0 = (.int i0) := Option.some.inj e0
  obtain ⟨i1, e1⟩ := is_v q2
  obtain rfl : w1 = (.int i1) := Option.some.inj e1
  obtain ⟨i2, e2⟩ := isL_v q3
  obtain rfl : w2 = (.long i2) := Option.some.inj e2
  obtain ⟨i3, e3⟩ := isL_v q4
  obtain rfl : w3 = (.long i3) := Option.some.inj e3
  obtain ⟨i4, e4⟩ := isL_v q5
  obtain rfl : w4 = (.long i4) := Option.some.inj e4
  obtain ⟨i5, e5⟩ := isL_v r5
  obtain rfl : w5 = (.long i5) := Option.some.inj e5
  obtain ⟨aD, evD⟩ := arr_v (Cond.before_iff.mp (hsets _ (List.mem_of_getElem? (i := 6) rfl)))
  have S2 : Sta s s.heap "java/util/ArrayList" "DEFAULTCAPACITY_EMPTY_ELEMENTDATA" "[Ljava/lang/Object;" (.ref aD) := Sta.start evD (Or.inr ⟨(w_ hw 4 rfl), (hsets _ (List.mem_of_getElem? (i := 2) rfl))⟩)
  obtain ⟨clD, AD⟩ := Arr.start evD (Cond.before_iff.mp (hsets _ (List.mem_of_getElem? (i := 6) rfl)))
  obtain ⟨lD1, lD2⟩ := own_len evD AD (Cond.before_iff.mp (hsets _ (List.mem_of_getElem? (i := 8) rfl)))
  have VD : Arv s s.heap aD clD.cls (.object "java/lang/Object") (0 : Int32) [] .null := Arv.start hfit AD lD1 lD2 (by decide) rfl trivial
  obtain ⟨aC, evC⟩ := arr_v (Cond.before_iff.mp (hsets _ (List.mem_of_getElem? (i := 11) rfl)))
  have S5 : Sta s s.heap "java/lang/Long$LongCache" "cache" "[Ljava/lang/Long;" (.ref aC) := Sta.start evC (Or.inl (hsets _ (List.mem_of_getElem? (i := 10) rfl)))
  obtain ⟨clC, AC⟩ := Arr.start evC (Cond.before_iff.mp (hsets _ (List.mem_of_getElem? (i := 11) rfl)))
  obtain ⟨lC1, lC2⟩ := own_len evC AC (Cond.before_iff.mp (hsets _ (List.mem_of_getElem? (i := 13) rfl)))
  have zC : clC.slots.size = 256 := by
    have q := congrArg Int32.toInt lC2
    rw [len_toInt lC1] at q
    have e : (256 : Int32).toInt = 256 := by decide
    omega
  have VC : Arv s s.heap aC clC.cls (.object "java/lang/Long") (256 : Int32) clC.slots.toList .null := Arv.start hfit AC lC1 lC2 (by decide) (by rw [Array.length_toList, zC]; rfl) (own_hasl _ _ 0 fun j hj => by rw [Nat.zero_add, Array.getElem?_toList])
  have HC := own_cache (T := (Jvm.Term.static "java/lang/Long$LongCache" "cache" "[Ljava/lang/Long;")) (fun _ => evC) AC zC (Cond.before_iff.mp (hsets _ (List.mem_of_getElem? (i := 14) rfl)))
  obtain ⟨n, o, h1, h2, h3, _, L, rfl, ⟨rfl, N⟩, hq⟩ := rm_law l s _ hw tables_1 i0 i1 i2 i3 i4 i5 aD clD.cls aC clC.cls clC.slots.toList s.heap s.heap.size (Nat.le_refl _) S2 VD S5 VC HC (Old.start s) p e ha hc hk s m _ below hf ((Spec.applies_iff_loose hf).mp happ).1 ⟨rfl, State.Warmed39.refl s, rfl⟩ trivial
  refine ⟨n, _, h1, h2, h3, hpost _ _ _ _ _ _ ⟨Cond.after_iff.mpr rfl, Cond.after_iff.mpr (eq_i res_at (Term.int_eval (1)) rfl), trivial⟩ ⟨hq.1, hq.2.1, (hq.2.2.sift fun y hy => Or.inr (N y hy)).mono (by decide) (by decide)⟩⟩
theorem main_1_1 : Claimed_1_1 := comes_1 fun _ _ _ _ _ _ h hF => ⟨h.1, hF⟩
theorem main_1_2 : Claimed_1_2 := comes_1 fun _ _ _ _ _ _ h hF => ⟨h.2.1, hF⟩
end Jvm.Pilot.@@N@@
namespace Jvm.Pilot.@@N@@
open Jvm Jvm.ClassFile Sem Op Lib Jvm.Free Jvm.Stand Jvm.Pilot.@@N@@.Jvm.D
/-! MADE BY PROGRAM (witnessworld.py) out of the Statement's table words and the real class files: 28 classes; the members and pool entries that the words name. The judged class is class 1, her method 1. -/
namespace start1
open Jvm.ClassFile
def u (s : String) : CpInfo := .utf8 (stringToUtf16 s)
/-- a pool by its gaps: so many unusable entries, then the entry; so many at the end -/
def gap : Nat → List CpInfo → List CpInfo
  | 0, r => r
  | n + 1, r => .unusable :: gap n r
def poolList (es : List (Nat × CpInfo)) (last : Nat) : List CpInfo := es.foldr (fun e r => gap e.1 (e.2 :: r)) (gap last [])
def pool (es : List (Nat × CpInfo)) (last : Nat) : Array CpInfo := ⟨poolList es last⟩
def fileOf (pool : Array CpInfo) (this : Nat) (attrs : Array Attribute := #[]) (ms : Array MethodInfo := #[]) (fl : Nat := 33) (sup : Nat := 0) (ifs : Array Nat := #[]) (fds : Array FieldInfo := #[]) : ClassFile where
  minorVersion := 0
  majorVersion := 65
  constantPool := pool
  accessFlags := fl
  thisClass := this
  superClass := sup
  interfaces := ifs
  fields := fds
  methods := ms
  attributes := attrs
def plain (name : String) (sup : Option ClassId) : Class where
  name := name
  kind := .ordinary
  loader := none
  accessFlags := 33
  super := sup
  interfaces := #[]
  cf := none
  fields := #[]
  methods := #[]
  instanceTypes := #[]
  staticTypes := #[]
  resolved := #[]
  callSites := []
  init := .initialized
  statics := none
  mirror := none

def pool0 : Array CpInfo := pool [(5, u "<init>"), (0, u "()V"), (1, .class_ 10), (1, u "java/lang/Object")] 113

def k0c0 : Code := { maxStack := 0, maxLocals := 1, code := object_method_1_code, exceptionTable := #[], attributes := #[] }
def k0m0 : Method := { name := "<init>", desc := "()V", sig := { parameters := [], returnType := none }, accessFlags := 1, code := some k0c0 }
/-- java/lang/Object -/
def k0 : Class := { plain "java/lang/Object" none with
  accessFlags := 33
  interfaces := #[]
  cf := some (fileOf pool0 8 #[] #[{ accessFlags := 1, nameIndex := 5, descriptorIndex := 6, attributes := #[] }] 33 0 #[] #[])
  fields := #[]
  methods := #[k0m0]
  instanceTypes := #[]
  staticTypes := #[]
  resolved := Array.replicate 124 none
  statics := none }

def pool1 : Array CpInfo := pool [(2, .class_ 4), (0, .nameAndType 5 6), (0, u "java/lang/Object"), (0, u "<init>"), (0, u "()V"), (0, .integer 2147483647), (0, .long 1152921504606846975), (1, .class_ 11), (0, u "java/util/ArrayList"), (0, .methodref 10 3), (0, .methodref 14 15), (0, .class_ 16), (0, .nameAndType 17 18), (0, u "java/lang/Long"), (0, u "valueOf"), (0, u "(J)Ljava/lang/Long;"), (0, .methodref 10 20), (0, .nameAndType 21 22), (0, u "add"), (0, u "(Ljava/lang/Object;)Z"), (0, .methodref 24 25), (0, .class_ 26), (0, .nameAndType 27 28), (0, u "com/example/ermine/ermine/bench/Figures"), (0, u "percentile"), (0, u "(Ljava/util/List;I)D"), (0, .long 100), (1, .long 200), (1, .long 300), (1, .class_ 36), (0, u "com/example/ermine/ermine/bench/FiguresPercentilePinLaw"), (2, u "law"), (0, u "(IIJJJJ)Z")] 3

def k1m0 : Method := { name := "<init>", desc := "()V", sig := { parameters := [], returnType := none }, accessFlags := 2, code := none }
def k1c1 : Code := { maxStack := 6, maxLocals := 29, code := code, exceptionTable := #[], attributes := #[] }
def k1m1 : Method := { name := "law", desc := "(IIJJJJ)Z", sig := { parameters := [.int, .int, .long, .long, .long, .long], returnType := some .boolean }, accessFlags := 9, code := some k1c1 }
/-- com/example/ermine/ermine/bench/FiguresPercentilePinLaw -/
def k1 : Class := { plain "com/example/ermine/ermine/bench/FiguresPercentilePinLaw" (some 0) with
  accessFlags := 49
  interfaces := #[]
  cf := some (fileOf pool1 35 #[] #[{ accessFlags := 2, nameIndex := 5, descriptorIndex := 6, attributes := #[] }, { accessFlags := 9, nameIndex := 39, descriptorIndex := 40, attributes := #[] }] 49 2 #[] #[])
  fields := #[]
  methods := #[k1m0, k1m1]
  instanceTypes := #[]
  staticTypes := #[]
  resolved := Array.replicate 44 none
  statics := none }

def pool2 : Array CpInfo := pool [(8, .class_ 10), (1, u "java/lang/Iterable"), (24, .class_ 36), (0, u "java/lang/Object")] 25

/-- java/lang/Iterable -/
def k2 : Class := { plain "java/lang/Iterable" (some 0) with
  accessFlags := 1537
  interfaces := #[]
  cf := some (fileOf pool2 8 #[] #[] 1537 35 #[] #[])
  fields := #[]
  methods := #[]
  instanceTypes := #[]
  staticTypes := #[]
  resolved := Array.replicate 62 none
  statics := none }

def pool3 : Array CpInfo := pool [(10, .class_ 12), (1, u "java/util/Collection"), (47, .class_ 61), (0, u "java/lang/Object"), (0, .class_ 63), (0, u "java/lang/Iterable")] 51

/-- java/util/Collection -/
def k3 : Class := { plain "java/util/Collection" (some 0) with
  accessFlags := 1537
  interfaces := #[2]
  cf := some (fileOf pool3 10 #[] #[] 1537 60 #[62] #[])
  fields := #[]
  methods := #[]
  instanceTypes := #[]
  staticTypes := #[]
  resolved := Array.replicate 115 none
  statics := none }

def pool4 : Array CpInfo := pool [(1, .methodref 2 3), (0, .class_ 4), (0, .nameAndType 5 6), (0, u "java/lang/Object"), (0, u "<init>"), (0, u "()V"), (1, .class_ 10), (1, u "java/util/AbstractCollection"), (66, .class_ 78), (0, u "java/util/Collection")] 81

def k4c0 : Code := { maxStack := 1, maxLocals := 1, code := jdk_22_method_1_code, exceptionTable := #[], attributes := #[] }
def k4m0 : Method := { name := "<init>", desc := "()V", sig := { parameters := [], returnType := none }, accessFlags := 4, code := some k4c0 }
/-- java/util/AbstractCollection -/
def k4 : Class := { plain "java/util/AbstractCollection" (some 0) with
  accessFlags := 1057
  interfaces := #[3]
  cf := some (fileOf pool4 8 #[] #[{ accessFlags := 4, nameIndex := 5, descriptorIndex := 6, attributes := #[] }] 1057 2 #[77] #[])
  fields := #[]
  methods := #[k4m0]
  instanceTypes := #[]
  staticTypes := #[]
  resolved := Array.replicate 160 none
  statics := none }

def pool5 : Array CpInfo := pool [(8, .class_ 10), (1, u "java/util/SequencedCollection"), (15, .class_ 27), (0, u "java/lang/Object"), (0, .class_ 29), (0, u "java/util/Collection")] 27

/-- java/util/SequencedCollection -/
def k5 : Class := { plain "java/util/SequencedCollection" (some 0) with
  accessFlags := 1537
  interfaces := #[3]
  cf := some (fileOf pool5 8 #[] #[] 1537 26 #[28] #[])
  fields := #[]
  methods := #[]
  instanceTypes := #[]
  staticTypes := #[]
  resolved := Array.replicate 57 none
  statics := none }

def pool6 : Array CpInfo := pool [(8, .class_ 10), (1, u "java/util/List"), (7, u "()Z"), (48, u "isEmpty"), (7, u "get"), (0, u "(I)Ljava/lang/Object;"), (2, u "size"), (0, u "()I"), (22, .class_ 104), (0, u "java/lang/Object"), (15, .class_ 121), (0, u "java/util/SequencedCollection")] 129

def k6m0 : Method := { name := "size", desc := "()I", sig := { parameters := [], returnType := some .int }, accessFlags := 1025, code := none }
def k6m1 : Method := { name := "isEmpty", desc := "()Z", sig := { parameters := [], returnType := some .boolean }, accessFlags := 1025, code := none }
def k6m2 : Method := { name := "get", desc := "(I)Ljava/lang/Object;", sig := { parameters := [.int], returnType := some (.object "java/lang/Object") }, accessFlags := 1025, code := none }
/-- java/util/List -/
def k6 : Class := { plain "java/util/List" (some 0) with
  accessFlags := 1537
  interfaces := #[5]
  cf := some (fileOf pool6 8 #[] #[{ accessFlags := 1025, nameIndex := 79, descriptorIndex := 80, attributes := #[] }, { accessFlags := 1025, nameIndex := 67, descriptorIndex := 18, attributes := #[] }, { accessFlags := 1025, nameIndex := 75, descriptorIndex := 76, attributes := #[] }] 1537 103 #[120] #[])
  fields := #[]
  methods := #[k6m0, k6m1, k6m2]
  instanceTypes := #[]
  staticTypes := #[]
  resolved := Array.replicate 251 none
  statics := none }

def pool7 : Array CpInfo := pool [(1, .methodref 2 3), (0, .class_ 4), (0, .nameAndType 5 6), (0, u "java/util/AbstractCollection"), (0, u "<init>"), (0, u "()V"), (0, .fieldref 8 9), (0, .class_ 10), (0, .nameAndType 11 12), (0, u "java/util/AbstractList"), (0, u "modCount"), (0, u "I"), (64, .class_ 78), (0, u "java/util/AbstractList$Itr"), (3, .class_ 83), (0, u "java/util/AbstractList$ListItr"), (9, .class_ 94), (0, u "java/util/AbstractList$RandomAccessSubList"), (3, .class_ 99), (0, u "java/util/AbstractList$SubList"), (33, .class_ 134), (0, u "java/util/List"), (73, .class_ 209), (0, u "java/util/AbstractList$SubList$1"), (0, .class_ 211), (0, u "java/util/AbstractList$RandomAccessSpliterator")] 6

def k7c0 : Code := { maxStack := 2, maxLocals := 1, code := jdk_39_method_1_code, exceptionTable := #[], attributes := #[] }
def k7m0 : Method := { name := "<init>", desc := "()V", sig := { parameters := [], returnType := none }, accessFlags := 4, code := some k7c0 }
/-- java/util/AbstractList -/
def k7 : Class := { plain "java/util/AbstractList" (some 4) with
  accessFlags := 1057
  interfaces := #[6]
  cf := some (fileOf pool7 8 #[.nestMembers #[93, 98, 208, 210, 82, 77]] #[{ accessFlags := 4, nameIndex := 5, descriptorIndex := 6, attributes := #[] }] 1057 2 #[133] #[{ accessFlags := 132, nameIndex := 11, descriptorIndex := 12, attributes := #[] }])
  fields := #[{ name := "modCount", type := .int, accessFlags := 132, slot := 0, constantValue := 0 }]
  methods := #[k7m0]
  instanceTypes := #[.int]
  staticTypes := #[]
  resolved := Array.replicate 218 none
  statics := none }

def pool8 : Array CpInfo := pool [(1, .class_ 2), (0, u "java/util/RandomAccess"), (0, .class_ 4), (0, u "java/lang/Object")] 2

/-- java/util/RandomAccess -/
def k8 : Class := { plain "java/util/RandomAccess" (some 0) with
  accessFlags := 1537
  interfaces := #[]
  cf := some (fileOf pool8 1 #[] #[] 1537 3 #[] #[])
  fields := #[]
  methods := #[]
  instanceTypes := #[]
  staticTypes := #[]
  resolved := Array.replicate 7 none
  statics := none }

def pool9 : Array CpInfo := pool [(1, .class_ 2), (0, u "java/lang/Cloneable"), (0, .class_ 4), (0, u "java/lang/Object")] 2

/-- java/lang/Cloneable -/
def k9 : Class := { plain "java/lang/Cloneable" (some 0) with
  accessFlags := 1537
  interfaces := #[]
  cf := some (fileOf pool9 1 #[] #[] 1537 3 #[] #[])
  fields := #[]
  methods := #[]
  instanceTypes := #[]
  staticTypes := #[]
  resolved := Array.replicate 7 none
  statics := none }

def pool10 : Array CpInfo := pool [(1, .class_ 2), (0, u "java/io/Serializable"), (0, .class_ 4), (0, u "java/lang/Object")] 2

/-- java/io/Serializable -/
def k10 : Class := { plain "java/io/Serializable" (some 0) with
  accessFlags := 1537
  interfaces := #[]
  cf := some (fileOf pool10 1 #[] #[] 1537 3 #[] #[])
  fields := #[]
  methods := #[]
  instanceTypes := #[]
  staticTypes := #[]
  resolved := Array.replicate 7 none
  statics := none }

def pool11 : Array CpInfo := pool [(1, .methodref 2 3), (0, .class_ 4), (0, .nameAndType 5 6), (0, u "java/util/AbstractList"), (0, u "<init>"), (0, u "()V"), (0, .class_ 8), (0, u "java/lang/Object"), (0, .fieldref 10 11), (0, .class_ 12), (0, .nameAndType 13 14), (0, u "java/util/ArrayList"), (0, u "elementData"), (0, u "[Ljava/lang/Object;"), (2, u "EMPTY_ELEMENTDATA"), (21, .fieldref 10 40), (0, .nameAndType 41 14), (0, u "DEFAULTCAPACITY_EMPTY_ELEMENTDATA"), (5, u "()[Ljava/lang/Object;"), (0, .fieldref 10 49), (0, .nameAndType 50 51), (0, u "size"), (0, u "I"), (11, .fieldref 10 64), (0, .nameAndType 65 51), (0, u "modCount"), (3, .methodref 10 70), (0, .nameAndType 71 72), (0, u "grow"), (0, u "(I)[Ljava/lang/Object;"), (6, .methodref 80 81), (0, .class_ 82), (0, .nameAndType 83 84), (0, u "java/lang/Math"), (0, u "max"), (0, u "(II)I"), (11, u "(Ljava/lang/Object;)Z"), (21, .methodref 119 120), (0, .class_ 121), (0, .nameAndType 122 84), (0, u "java/util/Objects"), (0, u "checkIndex"), (0, .methodref 10 124), (0, .nameAndType 13 125), (0, u "(I)Ljava/lang/Object;"), (3, .methodref 10 130), (0, .nameAndType 71 47), (0, .methodref 10 132), (0, .nameAndType 133 134), (0, u "add"), (0, u "(Ljava/lang/Object;[Ljava/lang/Object;I)V"), (13, .class_ 149), (0, u "java/util/List"), (23, u "()Z"), (12, u "()I"), (75, .class_ 263), (0, u "java/util/ArrayList$ListItr"), (3, .class_ 268), (0, u "java/util/ArrayList$Itr"), (7, .class_ 277), (0, u "java/util/ArrayList$SubList"), (12, .class_ 291), (0, u "java/util/ArrayList$ArrayListSpliterator"), (37, .class_ 330), (0, u "java/util/RandomAccess"), (0, .class_ 332), (0, u "java/lang/Cloneable"), (0, .class_ 334), (0, u "java/io/Serializable"), (0, u "serialVersionUID"), (0, u "J"), (3, u "DEFAULT_CAPACITY"), (22, u "isEmpty"), (17, u "get"), (118, .class_ 501), (0, u "java/util/ArrayList$SubList$2"), (0, .class_ 503), (0, u "java/util/ArrayList$SubList$1")] 5

def k11c0 : Code := { maxStack := 2, maxLocals := 1, code := jdk_38_method_2_code, exceptionTable := #[], attributes := #[] }
def k11m0 : Method := { name := "<init>", desc := "()V", sig := { parameters := [], returnType := none }, accessFlags := 1, code := some k11c0 }
def k11c1 : Code := { maxStack := 4, maxLocals := 4, code := jdk_38_method_6_code, exceptionTable := #[], attributes := #[] }
def k11m1 : Method := { name := "grow", desc := "(I)[Ljava/lang/Object;", sig := { parameters := [.int], returnType := some (.array (.object "java/lang/Object")) }, accessFlags := 2, code := some k11c1 }
def k11c2 : Code := { maxStack := 3, maxLocals := 1, code := jdk_38_method_7_code, exceptionTable := #[], attributes := #[] }
def k11m2 : Method := { name := "grow", desc := "()[Ljava/lang/Object;", sig := { parameters := [], returnType := some (.array (.object "java/lang/Object")) }, accessFlags := 2, code := some k11c2 }
def k11c3 : Code := { maxStack := 1, maxLocals := 1, code := jdk_38_method_8_code, exceptionTable := #[], attributes := #[] }
def k11m3 : Method := { name := "size", desc := "()I", sig := { parameters := [], returnType := some .int }, accessFlags := 1, code := some k11c3 }
def k11c4 : Code := { maxStack := 1, maxLocals := 1, code := jdk_38_method_9_code, exceptionTable := #[], attributes := #[] }
def k11m4 : Method := { name := "isEmpty", desc := "()Z", sig := { parameters := [], returnType := some .boolean }, accessFlags := 1, code := some k11c4 }
def k11c5 : Code := { maxStack := 2, maxLocals := 2, code := jdk_38_method_18_code, exceptionTable := #[], attributes := #[] }
def k11m5 : Method := { name := "elementData", desc := "(I)Ljava/lang/Object;", sig := { parameters := [.int], returnType := some (.object "java/lang/Object") }, accessFlags := 0, code := some k11c5 }
def k11c6 : Code := { maxStack := 2, maxLocals := 2, code := jdk_38_method_20_code, exceptionTable := #[], attributes := #[] }
def k11m6 : Method := { name := "get", desc := "(I)Ljava/lang/Object;", sig := { parameters := [.int], returnType := some (.object "java/lang/Object") }, accessFlags := 1, code := some k11c6 }
def k11c7 : Code := { maxStack := 3, maxLocals := 4, code := jdk_38_method_24_code, exceptionTable := #[], attributes := #[] }
def k11m7 : Method := { name := "add", desc := "(Ljava/lang/Object;[Ljava/lang/Object;I)V", sig := { parameters := [(.object "java/lang/Object"), (.array (.object "java/lang/Object")), .int], returnType := none }, accessFlags := 2, code := some k11c7 }
def k11c8 : Code := { maxStack := 4, maxLocals := 2, code := jdk_38_method_25_code, exceptionTable := #[], attributes := #[] }
def k11m8 : Method := { name := "add", desc := "(Ljava/lang/Object;)Z", sig := { parameters := [(.object "java/lang/Object")], returnType := some .boolean }, accessFlags := 1, code := some k11c8 }
/-- java/util/ArrayList -/
def k11 : Class := { plain "java/util/ArrayList" (some 7) with
  accessFlags := 33
  interfaces := #[6, 8, 9, 10]
  cf := some (fileOf pool11 10 #[.nestMembers #[290, 276, 500, 502, 262, 267]] #[{ accessFlags := 1, nameIndex := 5, descriptorIndex := 6, attributes := #[] }, { accessFlags := 2, nameIndex := 71, descriptorIndex := 72, attributes := #[] }, { accessFlags := 2, nameIndex := 71, descriptorIndex := 47, attributes := #[] }, { accessFlags := 1, nameIndex := 50, descriptorIndex := 186, attributes := #[] }, { accessFlags := 1, nameIndex := 363, descriptorIndex := 173, attributes := #[] }, { accessFlags := 0, nameIndex := 13, descriptorIndex := 125, attributes := #[] }, { accessFlags := 1, nameIndex := 381, descriptorIndex := 125, attributes := #[] }, { accessFlags := 2, nameIndex := 133, descriptorIndex := 134, attributes := #[] }, { accessFlags := 1, nameIndex := 133, descriptorIndex := 96, attributes := #[] }] 33 2 #[148, 329, 331, 333] #[{ accessFlags := 26, nameIndex := 335, descriptorIndex := 336, attributes := #[] }, { accessFlags := 26, nameIndex := 340, descriptorIndex := 51, attributes := #[] }, { accessFlags := 26, nameIndex := 17, descriptorIndex := 14, attributes := #[] }, { accessFlags := 26, nameIndex := 41, descriptorIndex := 14, attributes := #[] }, { accessFlags := 128, nameIndex := 13, descriptorIndex := 14, attributes := #[] }, { accessFlags := 2, nameIndex := 50, descriptorIndex := 51, attributes := #[] }])
  fields := #[{ name := "serialVersionUID", type := .long, accessFlags := 26, slot := 0, constantValue := 0 }, { name := "DEFAULT_CAPACITY", type := .int, accessFlags := 26, slot := 1, constantValue := 0 }, { name := "EMPTY_ELEMENTDATA", type := (.array (.object "java/lang/Object")), accessFlags := 26, slot := 2, constantValue := 0 }, { name := "DEFAULTCAPACITY_EMPTY_ELEMENTDATA", type := (.array (.object "java/lang/Object")), accessFlags := 26, slot := 3, constantValue := 0 }, { name := "elementData", type := (.array (.object "java/lang/Object")), accessFlags := 128, slot := 1, constantValue := 0 }, { name := "size", type := .int, accessFlags := 2, slot := 2, constantValue := 0 }]
  methods := #[k11m0, k11m1, k11m2, k11m3, k11m4, k11m5, k11m6, k11m7, k11m8]
  instanceTypes := #[.int, (.array (.object "java/lang/Object")), .int]
  staticTypes := #[.long, .int, (.array (.object "java/lang/Object")), (.array (.object "java/lang/Object"))]
  resolved := Array.replicate 509 none
  statics := some 0 }

def pool12 : Array CpInfo := pool [(2, .class_ 4), (1, u "java/lang/Object"), (0, u "<init>"), (0, u "()V"), (4, .class_ 13), (1, u "java/util/List"), (7, u "()Z"), (26, .interfaceMethodref 11 49), (0, .nameAndType 50 51), (0, u "size"), (0, u "()I"), (0, .interfaceMethodref 11 53), (0, .nameAndType 54 21), (0, u "isEmpty"), (0, .double 9221120237041090560), (1, .interfaceMethodref 11 58), (0, .nameAndType 59 60), (0, u "get"), (0, u "(I)Ljava/lang/Object;"), (3, .long 99), (1, .long 100), (1, .methodref 69 70), (0, .class_ 71), (0, .nameAndType 72 73), (0, u "java/lang/Math"), (0, u "max"), (0, u "(JJ)J"), (0, .class_ 75), (0, u "java/lang/Long"), (0, .methodref 74 77), (0, .nameAndType 78 79), (0, u "longValue"), (0, u "()J"), (0, .class_ 81), (0, u "com/example/ermine/ermine/bench/Figures"), (7, u "percentile"), (0, u "(Ljava/util/List;I)D")] 3

def k12m0 : Method := { name := "<init>", desc := "()V", sig := { parameters := [], returnType := none }, accessFlags := 2, code := none }
def k12c1 : Code := { maxStack := 5, maxLocals := 4, code := prog_1_method_3_code, exceptionTable := #[], attributes := #[] }
def k12m1 : Method := { name := "percentile", desc := "(Ljava/util/List;I)D", sig := { parameters := [(.object "java/util/List"), .int], returnType := some .double }, accessFlags := 8, code := some k12c1 }
/-- com/example/ermine/ermine/bench/Figures -/
def k12 : Class := { plain "com/example/ermine/ermine/bench/Figures" (some 0) with
  accessFlags := 49
  interfaces := #[]
  cf := some (fileOf pool12 80 #[] #[{ accessFlags := 2, nameIndex := 5, descriptorIndex := 6, attributes := #[] }, { accessFlags := 8, nameIndex := 89, descriptorIndex := 90, attributes := #[] }] 49 2 #[] #[])
  fields := #[]
  methods := #[k12m0, k12m1]
  instanceTypes := #[]
  staticTypes := #[]
  resolved := Array.replicate 94 none
  statics := none }

def pool13 : Array CpInfo := pool [(1, .methodref 2 3), (0, .class_ 4), (0, .nameAndType 5 6), (0, u "java/lang/Object"), (0, u "<init>"), (0, u "()V"), (1, .class_ 10), (1, u "java/lang/Number"), (2, .class_ 14), (0, u "java/io/Serializable"), (0, u "serialVersionUID"), (0, u "J")] 20

def k13c0 : Code := { maxStack := 1, maxLocals := 1, code := jdk_18_method_1_code, exceptionTable := #[], attributes := #[] }
def k13m0 : Method := { name := "<init>", desc := "()V", sig := { parameters := [], returnType := none }, accessFlags := 1, code := some k13c0 }
/-- java/lang/Number -/
def k13 : Class := { plain "java/lang/Number" (some 0) with
  accessFlags := 1057
  interfaces := #[10]
  cf := some (fileOf pool13 8 #[] #[{ accessFlags := 1, nameIndex := 5, descriptorIndex := 6, attributes := #[] }] 1057 2 #[13] #[{ accessFlags := 26, nameIndex := 15, descriptorIndex := 16, attributes := #[] }])
  fields := #[{ name := "serialVersionUID", type := .long, accessFlags := 26, slot := 0, constantValue := 0 }]
  methods := #[k13m0]
  instanceTypes := #[]
  staticTypes := #[.long]
  resolved := Array.replicate 37 none
  statics := none }

def pool14 : Array CpInfo := pool [(1, .class_ 2), (0, u "java/lang/Comparable"), (0, .class_ 4), (0, u "java/lang/Object")] 7

/-- java/lang/Comparable -/
def k14 : Class := { plain "java/lang/Comparable" (some 0) with
  accessFlags := 1537
  interfaces := #[]
  cf := some (fileOf pool14 1 #[] #[] 1537 3 #[] #[])
  fields := #[]
  methods := #[]
  instanceTypes := #[]
  staticTypes := #[]
  resolved := Array.replicate 12 none
  statics := none }

def pool15 : Array CpInfo := pool [(1, .class_ 2), (0, u "java/lang/constant/Constable"), (0, .class_ 4), (0, u "java/lang/Object")] 6

/-- java/lang/constant/Constable -/
def k15 : Class := { plain "java/lang/constant/Constable" (some 0) with
  accessFlags := 1537
  interfaces := #[]
  cf := some (fileOf pool15 1 #[] #[] 1537 3 #[] #[])
  fields := #[]
  methods := #[]
  instanceTypes := #[]
  staticTypes := #[]
  resolved := Array.replicate 11 none
  statics := none }

def pool16 : Array CpInfo := pool [(1, .class_ 2), (0, u "java/lang/constant/ConstantDesc"), (0, .class_ 4), (0, u "java/lang/Object")] 32

/-- java/lang/constant/ConstantDesc -/
def k16 : Class := { plain "java/lang/constant/ConstantDesc" (some 0) with
  accessFlags := 1537
  interfaces := #[]
  cf := some (fileOf pool16 1 #[] #[] 1537 3 #[] #[])
  fields := #[]
  methods := #[]
  instanceTypes := #[]
  staticTypes := #[]
  resolved := Array.replicate 37 none
  statics := none }

def pool17 : Array CpInfo := pool [(1, .class_ 2), (0, u "java/lang/Long"), (55, .nameAndType 59 60), (0, u "<init>"), (0, u "()V"), (24, u "valueOf"), (143, u "(J)Ljava/lang/Long;"), (0, .long 18446744073709551488), (1, .long 127), (1, .fieldref 235 236), (0, .class_ 237), (0, .nameAndType 238 239), (0, u "java/lang/Long$LongCache"), (0, u "cache"), (0, u "[Ljava/lang/Long;"), (0, .methodref 1 241), (0, .nameAndType 59 242), (0, u "(J)V"), (27, .methodref 271 58), (0, .class_ 272), (0, u "java/lang/Number"), (0, .fieldref 1 274), (0, .nameAndType 275 276), (0, u "value"), (0, u "J"), (5, u "longValue"), (0, u "()J"), (77, u "TYPE"), (0, u "Ljava/lang/Class;"), (0, .class_ 364), (0, u "java/lang/Comparable"), (0, .class_ 366), (0, u "java/lang/constant/Constable"), (0, .class_ 368), (0, u "java/lang/constant/ConstantDesc"), (0, u "MIN_VALUE"), (1, u "MAX_VALUE"), (4, u "SIZE"), (0, u "I"), (1, u "BYTES"), (1, u "serialVersionUID")] 142

def k17c0 : Code := { maxStack := 4, maxLocals := 3, code := jdk_35_method_24_code, exceptionTable := #[], attributes := #[] }
def k17m0 : Method := { name := "valueOf", desc := "(J)Ljava/lang/Long;", sig := { parameters := [.long], returnType := some (.object "java/lang/Long") }, accessFlags := 9, code := some k17c0 }
def k17c1 : Code := { maxStack := 3, maxLocals := 3, code := jdk_35_method_26_code, exceptionTable := #[], attributes := #[] }
def k17m1 : Method := { name := "<init>", desc := "(J)V", sig := { parameters := [.long], returnType := none }, accessFlags := 1, code := some k17c1 }
def k17c2 : Code := { maxStack := 2, maxLocals := 1, code := jdk_35_method_31_code, exceptionTable := #[], attributes := #[] }
def k17m2 : Method := { name := "longValue", desc := "()J", sig := { parameters := [], returnType := some .long }, accessFlags := 1, code := some k17c2 }
/-- java/lang/Long -/
def k17 : Class := { plain "java/lang/Long" (some 13) with
  accessFlags := 49
  interfaces := #[14, 15, 16]
  cf := some (fileOf pool17 1 #[.nestMembers #[235]] #[{ accessFlags := 9, nameIndex := 85, descriptorIndex := 229, attributes := #[] }, { accessFlags := 1, nameIndex := 59, descriptorIndex := 242, attributes := #[] }, { accessFlags := 1, nameIndex := 282, descriptorIndex := 283, attributes := #[] }] 49 271 #[363, 365, 367] #[{ accessFlags := 25, nameIndex := 369, descriptorIndex := 276, attributes := #[] }, { accessFlags := 25, nameIndex := 371, descriptorIndex := 276, attributes := #[] }, { accessFlags := 25, nameIndex := 361, descriptorIndex := 362, attributes := #[] }, { accessFlags := 18, nameIndex := 275, descriptorIndex := 276, attributes := #[] }, { accessFlags := 25, nameIndex := 376, descriptorIndex := 377, attributes := #[] }, { accessFlags := 25, nameIndex := 379, descriptorIndex := 377, attributes := #[] }, { accessFlags := 26, nameIndex := 381, descriptorIndex := 276, attributes := #[] }])
  fields := #[{ name := "MIN_VALUE", type := .long, accessFlags := 25, slot := 0, constantValue := 0 }, { name := "MAX_VALUE", type := .long, accessFlags := 25, slot := 1, constantValue := 0 }, { name := "TYPE", type := (.object "java/lang/Class"), accessFlags := 25, slot := 2, constantValue := 0 }, { name := "value", type := .long, accessFlags := 18, slot := 0, constantValue := 0 }, { name := "SIZE", type := .int, accessFlags := 25, slot := 3, constantValue := 0 }, { name := "BYTES", type := .int, accessFlags := 25, slot := 4, constantValue := 0 }, { name := "serialVersionUID", type := .long, accessFlags := 26, slot := 5, constantValue := 0 }]
  methods := #[k17m0, k17m1, k17m2]
  instanceTypes := #[.long]
  staticTypes := #[.long, .long, (.object "java/lang/Class"), .int, .int, .long]
  resolved := Array.replicate 524 none
  statics := none }

def pool18 : Array CpInfo := pool [(2, .class_ 4), (1, u "java/lang/Object"), (0, u "<init>"), (0, u "()V"), (0, .class_ 8), (0, u "java/lang/Long"), (7, .class_ 18), (1, u "java/lang/Long$LongCache"), (0, u "$assertionsDisabled"), (0, u "Z"), (8, u "archivedCache"), (0, u "[Ljava/lang/Long;"), (7, u "cache")] 24

def k18m0 : Method := { name := "<init>", desc := "()V", sig := { parameters := [], returnType := none }, accessFlags := 2, code := none }
/-- java/lang/Long$LongCache -/
def k18 : Class := { plain "java/lang/Long$LongCache" (some 0) with
  accessFlags := 48
  interfaces := #[]
  cf := some (fileOf pool18 16 #[.nestHost 7] #[{ accessFlags := 2, nameIndex := 5, descriptorIndex := 6, attributes := #[] }] 48 2 #[] #[{ accessFlags := 24, nameIndex := 38, descriptorIndex := 30, attributes := #[] }, { accessFlags := 8, nameIndex := 29, descriptorIndex := 30, attributes := #[] }, { accessFlags := 4120, nameIndex := 19, descriptorIndex := 20, attributes := #[] }])
  fields := #[{ name := "cache", type := (.array (.object "java/lang/Long")), accessFlags := 24, slot := 0, constantValue := 0 }, { name := "archivedCache", type := (.array (.object "java/lang/Long")), accessFlags := 8, slot := 1, constantValue := 0 }, { name := "$assertionsDisabled", type := .boolean, accessFlags := 4120, slot := 2, constantValue := 0 }]
  methods := #[k18m0]
  instanceTypes := #[]
  staticTypes := #[(.array (.object "java/lang/Long")), (.array (.object "java/lang/Long")), .boolean]
  resolved := Array.replicate 63 none
  statics := some 1 }

def pool19 : Array CpInfo := pool [(1, .class_ 2), (0, u "java/lang/Math"), (1, .class_ 6), (1, u "java/lang/Object"), (0, u "<init>"), (0, u "()V"), (89, .class_ 100), (1, u "java/lang/Math$RandomNumberGeneratorHolder"), (20, u "(JJ)J"), (50, u "negativeZeroFloatBits"), (0, u "J"), (2, u "negativeZeroDoubleBits"), (21, u "max"), (46, u "$assertionsDisabled"), (0, u "Z"), (88, u "(II)I"), (2, u "twoToTheDoubleScaleDown"), (0, u "D"), (4, u "twoToTheDoubleScaleUp"), (9, u "E"), (3, u "PI"), (2, u "TAU"), (2, u "DEGREES_TO_RADIANS"), (0, u "RADIANS_TO_DEGREES")] 94

def k19m0 : Method := { name := "<init>", desc := "()V", sig := { parameters := [], returnType := none }, accessFlags := 2, code := none }
def k19c1 : Code := { maxStack := 2, maxLocals := 2, code := jdk_29_method_65_code, exceptionTable := #[], attributes := #[] }
def k19m1 : Method := { name := "max", desc := "(II)I", sig := { parameters := [.int, .int], returnType := some .int }, accessFlags := 9, code := some k19c1 }
def k19c2 : Code := { maxStack := 4, maxLocals := 4, code := jdk_29_method_66_code, exceptionTable := #[], attributes := #[] }
def k19m2 : Method := { name := "max", desc := "(JJ)J", sig := { parameters := [.long, .long], returnType := some .long }, accessFlags := 9, code := some k19c2 }
/-- java/lang/Math -/
def k19 : Class := { plain "java/lang/Math" (some 0) with
  accessFlags := 49
  interfaces := #[]
  cf := some (fileOf pool19 1 #[.nestMembers #[98]] #[{ accessFlags := 2, nameIndex := 7, descriptorIndex := 8, attributes := #[] }, { accessFlags := 9, nameIndex := 198, descriptorIndex := 335, attributes := #[] }, { accessFlags := 9, nameIndex := 198, descriptorIndex := 121, attributes := #[] }] 49 4 #[] #[{ accessFlags := 25, nameIndex := 354, descriptorIndex := 339, attributes := #[] }, { accessFlags := 25, nameIndex := 358, descriptorIndex := 339, attributes := #[] }, { accessFlags := 25, nameIndex := 361, descriptorIndex := 339, attributes := #[] }, { accessFlags := 26, nameIndex := 364, descriptorIndex := 339, attributes := #[] }, { accessFlags := 26, nameIndex := 365, descriptorIndex := 339, attributes := #[] }, { accessFlags := 26, nameIndex := 172, descriptorIndex := 173, attributes := #[] }, { accessFlags := 26, nameIndex := 176, descriptorIndex := 173, attributes := #[] }, { accessFlags := 8, nameIndex := 344, descriptorIndex := 339, attributes := #[] }, { accessFlags := 8, nameIndex := 338, descriptorIndex := 339, attributes := #[] }, { accessFlags := 4120, nameIndex := 245, descriptorIndex := 246, attributes := #[] }])
  fields := #[{ name := "E", type := .double, accessFlags := 25, slot := 0, constantValue := 0 }, { name := "PI", type := .double, accessFlags := 25, slot := 1, constantValue := 0 }, { name := "TAU", type := .double, accessFlags := 25, slot := 2, constantValue := 0 }, { name := "DEGREES_TO_RADIANS", type := .double, accessFlags := 26, slot := 3, constantValue := 0 }, { name := "RADIANS_TO_DEGREES", type := .double, accessFlags := 26, slot := 4, constantValue := 0 }, { name := "negativeZeroFloatBits", type := .long, accessFlags := 26, slot := 5, constantValue := 0 }, { name := "negativeZeroDoubleBits", type := .long, accessFlags := 26, slot := 6, constantValue := 0 }, { name := "twoToTheDoubleScaleUp", type := .double, accessFlags := 8, slot := 7, constantValue := 0 }, { name := "twoToTheDoubleScaleDown", type := .double, accessFlags := 8, slot := 8, constantValue := 0 }, { name := "$assertionsDisabled", type := .boolean, accessFlags := 4120, slot := 9, constantValue := 0 }]
  methods := #[k19m0, k19m1, k19m2]
  instanceTypes := #[]
  staticTypes := #[.double, .double, .double, .double, .double, .long, .long, .double, .double, .boolean]
  resolved := Array.replicate 460 none
  statics := none }

def pool20 : Array CpInfo := pool [(2, .class_ 4), (1, u "java/lang/Object"), (0, u "<init>"), (0, u "()V"), (35, .class_ 44), (1, u "java/util/Objects"), (60, .methodref 106 107), (0, .class_ 108), (0, .nameAndType 109 110), (0, u "jdk/internal/util/Preconditions"), (0, u "checkIndex"), (0, u "(IILjava/util/function/BiFunction;)I"), (60, u "(II)I")] 12

def k20m0 : Method := { name := "<init>", desc := "()V", sig := { parameters := [], returnType := none }, accessFlags := 2, code := none }
def k20c1 : Code := { maxStack := 3, maxLocals := 2, code := jdk_31_method_17_code, exceptionTable := #[], attributes := #[] }
def k20m1 : Method := { name := "checkIndex", desc := "(II)I", sig := { parameters := [.int, .int], returnType := some .int }, accessFlags := 9, code := some k20c1 }
/-- java/util/Objects -/
def k20 : Class := { plain "java/util/Objects" (some 0) with
  accessFlags := 49
  interfaces := #[]
  cf := some (fileOf pool20 42 #[] #[{ accessFlags := 2, nameIndex := 5, descriptorIndex := 6, attributes := #[] }, { accessFlags := 9, nameIndex := 109, descriptorIndex := 171, attributes := #[] }] 49 2 #[] #[])
  fields := #[]
  methods := #[k20m0, k20m1]
  instanceTypes := #[]
  staticTypes := #[]
  resolved := Array.replicate 184 none
  statics := none }

def pool21 : Array CpInfo := pool [(2, .class_ 4), (1, u "java/lang/Object"), (0, u "<init>"), (0, u "()V"), (17, .class_ 26), (1, u "jdk/internal/util/Preconditions"), (6, u "checkIndex"), (21, .class_ 56), (0, u "jdk/internal/util/Preconditions$4"), (57, .class_ 115), (0, u "jdk/internal/util/Preconditions$1"), (7, u "SIOOBE_FORMATTER"), (0, u "Ljava/util/function/BiFunction;"), (0, .class_ 126), (0, u "jdk/internal/util/Preconditions$2"), (3, u "AIOOBE_FORMATTER"), (0, .class_ 132), (0, u "jdk/internal/util/Preconditions$3"), (3, u "IOOBE_FORMATTER"), (41, u "(IILjava/util/function/BiFunction;)I")] 15

def k21m0 : Method := { name := "<init>", desc := "()V", sig := { parameters := [], returnType := none }, accessFlags := 1, code := none }
def k21c1 : Code := { maxStack := 3, maxLocals := 3, code := jdk_41_method_11_code, exceptionTable := #[], attributes := #[] }
def k21m1 : Method := { name := "checkIndex", desc := "(IILjava/util/function/BiFunction;)I", sig := { parameters := [.int, .int, (.object "java/util/function/BiFunction")], returnType := some .int }, accessFlags := 9, code := some k21c1 }
/-- jdk/internal/util/Preconditions -/
def k21 : Class := { plain "jdk/internal/util/Preconditions" (some 0) with
  accessFlags := 33
  interfaces := #[]
  cf := some (fileOf pool21 24 #[.nestMembers #[55, 131, 125, 114]] #[{ accessFlags := 1, nameIndex := 5, descriptorIndex := 6, attributes := #[] }, { accessFlags := 9, nameIndex := 33, descriptorIndex := 178, attributes := #[] }] 33 2 #[] #[{ accessFlags := 25, nameIndex := 123, descriptorIndex := 124, attributes := #[] }, { accessFlags := 25, nameIndex := 130, descriptorIndex := 124, attributes := #[] }, { accessFlags := 25, nameIndex := 136, descriptorIndex := 124, attributes := #[] }])
  fields := #[{ name := "SIOOBE_FORMATTER", type := (.object "java/util/function/BiFunction"), accessFlags := 25, slot := 0, constantValue := 0 }, { name := "AIOOBE_FORMATTER", type := (.object "java/util/function/BiFunction"), accessFlags := 25, slot := 1, constantValue := 0 }, { name := "IOOBE_FORMATTER", type := (.object "java/util/function/BiFunction"), accessFlags := 25, slot := 2, constantValue := 0 }]
  methods := #[k21m0, k21m1]
  instanceTypes := #[]
  staticTypes := #[(.object "java/util/function/BiFunction"), (.object "java/util/function/BiFunction"), (.object "java/util/function/BiFunction")]
  resolved := Array.replicate 194 none
  statics := none }

/-- the primitive byte -/
def k22 : Class := { plain "byte" none with kind := .primitive 'B', accessFlags := 0x411 }
/-- [B -/
def k23 : Class := { plain "[B" (some 0) with kind := .array 22 .byte, interfaces := #[9, 10], accessFlags := 1041 }

/-- the primitive int -/
def k24 : Class := { plain "int" none with kind := .primitive 'I', accessFlags := 0x411 }
/-- [I -/
def k25 : Class := { plain "[I" (some 0) with kind := .array 24 .int, interfaces := #[9, 10], accessFlags := 1041 }

/-- [Ljava/lang/Long; -/
def k26 : Class := { plain "[Ljava/lang/Long;" (some 0) with kind := .array 17 (.object "java/lang/Long"), interfaces := #[9, 10], accessFlags := 1041 }

/-- [Ljava/lang/Object; -/
def k27 : Class := { plain "[Ljava/lang/Object;" (some 0) with kind := .array 0 (.object "java/lang/Object"), interfaces := #[9, 10], accessFlags := 1041 }

def heap : Heap := #[{ cls := 11, slots := #[.long 0, .int 0, .ref 3, .ref 4], vm := .statics 11 },
  { cls := 18, slots := #[.ref 2, .null, .int 0], vm := .statics 18 },
  { cls := 26, slots := #[.ref 5, .ref 6, .ref 7, .ref 8, .ref 9, .ref 10, .ref 11, .ref 12, .ref 13, .ref 14, .ref 15, .ref 16, .ref 17, .ref 18, .ref 19, .ref 20, .ref 21, .ref 22, .ref 23, .ref 24, .ref 25, .ref 26, .ref 27, .ref 28, .ref 29, .ref 30, .ref 31, .ref 32, .ref 33, .ref 34, .ref 35, .ref 36, .ref 37, .ref 38, .ref 39, .ref 40, .ref 41, .ref 42, .ref 43, .ref 44, .ref 45, .ref 46, .ref 47, .ref 48, .ref 49, .ref 50, .ref 51, .ref 52, .ref 53, .ref 54, .ref 55, .ref 56, .ref 57, .ref 58, .ref 59, .ref 60, .ref 61, .ref 62, .ref 63, .ref 64, .ref 65, .ref 66, .ref 67, .ref 68, .ref 69, .ref 70, .ref 71, .ref 72, .ref 73, .ref 74, .ref 75, .ref 76, .ref 77, .ref 78, .ref 79, .ref 80, .ref 81, .ref 82, .ref 83, .ref 84, .ref 85, .ref 86, .ref 87, .ref 88, .ref 89, .ref 90, .ref 91, .ref 92, .ref 93, .ref 94, .ref 95, .ref 96, .ref 97, .ref 98, .ref 99, .ref 100, .ref 101, .ref 102, .ref 103, .ref 104, .ref 105, .ref 106, .ref 107, .ref 108, .ref 109, .ref 110, .ref 111, .ref 112, .ref 113, .ref 114, .ref 115, .ref 116, .ref 117, .ref 118, .ref 119, .ref 120, .ref 121, .ref 122, .ref 123, .ref 124, .ref 125, .ref 126, .ref 127, .ref 128, .ref 129, .ref 130, .ref 131, .ref 132, .ref 133, .ref 134, .ref 135, .ref 136, .ref 137, .ref 138, .ref 139, .ref 140, .ref 141, .ref 142, .ref 143, .ref 144, .ref 145, .ref 146, .ref 147, .ref 148, .ref 149, .ref 150, .ref 151, .ref 152, .ref 153, .ref 154, .ref 155, .ref 156, .ref 157, .ref 158, .ref 159, .ref 160, .ref 161, .ref 162, .ref 163, .ref 164, .ref 165, .ref 166, .ref 167, .ref 168, .ref 169, .ref 170, .ref 171, .ref 172, .ref 173, .ref 174, .ref 175, .ref 176, .ref 177, .ref 178, .ref 179, .ref 180, .ref 181, .ref 182, .ref 183, .ref 184, .ref 185, .ref 186, .ref 187, .ref 188, .ref 189, .ref 190, .ref 191, .ref 192, .ref 193, .ref 194, .ref 195, .ref 196, .ref 197, .ref 198, .ref 199, .ref 200, .ref 201, .ref 202, .ref 203, .ref 204, .ref 205, .ref 206, .ref 207, .ref 208, .ref 209, .ref 210, .ref 211, .ref 212, .ref 213, .ref 214, .ref 215, .ref 216, .ref 217, .ref 218, .ref 219, .ref 220, .ref 221, .ref 222, .ref 223, .ref 224, .ref 225, .ref 226, .ref 227, .ref 228, .ref 229, .ref 230, .ref 231, .ref 232, .ref 233, .ref 234, .ref 235, .ref 236, .ref 237, .ref 238, .ref 239, .ref 240, .ref 241, .ref 242, .ref 243, .ref 244, .ref 245, .ref 246, .ref 247, .ref 248, .ref 249, .ref 250, .ref 251, .ref 252, .ref 253, .ref 254, .ref 255, .ref 256, .ref 257, .ref 258, .ref 259, .ref 260], vm := .none },
  { cls := 27, slots := #[], vm := .none },
  { cls := 27, slots := #[], vm := .none },
  { cls := 17, slots := #[.long (-128)], vm := .none },
  { cls := 17, slots := #[.long (-127)], vm := .none },
  { cls := 17, slots := #[.long (-126)], vm := .none },
  { cls := 17, slots := #[.long (-125)], vm := .none },
  { cls := 17, slots := #[.long (-124)], vm := .none },
  { cls := 17, slots := #[.long (-123)], vm := .none },
  { cls := 17, slots := #[.long (-122)], vm := .none },
  { cls := 17, slots := #[.long (-121)], vm := .none },
  { cls := 17, slots := #[.long (-120)], vm := .none },
  { cls := 17, slots := #[.long (-119)], vm := .none },
  { cls := 17, slots := #[.long (-118)], vm := .none },
  { cls := 17, slots := #[.long (-117)], vm := .none },
  { cls := 17, slots := #[.long (-116)], vm := .none },
  { cls := 17, slots := #[.long (-115)], vm := .none },
  { cls := 17, slots := #[.long (-114)], vm := .none },
  { cls := 17, slots := #[.long (-113)], vm := .none },
  { cls := 17, slots := #[.long (-112)], vm := .none },
  { cls := 17, slots := #[.long (-111)], vm := .none },
  { cls := 17, slots := #[.long (-110)], vm := .none },
  { cls := 17, slots := #[.long (-109)], vm := .none },
  { cls := 17, slots := #[.long (-108)], vm := .none },
  { cls := 17, slots := #[.long (-107)], vm := .none },
  { cls := 17, slots := #[.long (-106)], vm := .none },
  { cls := 17, slots := #[.long (-105)], vm := .none },
  { cls := 17, slots := #[.long (-104)], vm := .none },
  { cls := 17, slots := #[.long (-103)], vm := .none },
  { cls := 17, slots := #[.long (-102)], vm := .none },
  { cls := 17, slots := #[.long (-101)], vm := .none },
  { cls := 17, slots := #[.long (-100)], vm := .none },
  { cls := 17, slots := #[.long (-99)], vm := .none },
  { cls := 17, slots := #[.long (-98)], vm := .none },
  { cls := 17, slots := #[.long (-97)], vm := .none },
  { cls := 17, slots := #[.long (-96)], vm := .none },
  { cls := 17, slots := #[.long (-95)], vm := .none },
  { cls := 17, slots := #[.long (-94)], vm := .none },
  { cls := 17, slots := #[.long (-93)], vm := .none },
  { cls := 17, slots := #[.long (-92)], vm := .none },
  { cls := 17, slots := #[.long (-91)], vm := .none },
  { cls := 17, slots := #[.long (-90)], vm := .none },
  { cls := 17, slots := #[.long (-89)], vm := .none },
  { cls := 17, slots := #[.long (-88)], vm := .none },
  { cls := 17, slots := #[.long (-87)], vm := .none },
  { cls := 17, slots := #[.long (-86)], vm := .none },
  { cls := 17, slots := #[.long (-85)], vm := .none },
  { cls := 17, slots := #[.long (-84)], vm := .none },
  { cls := 17, slots := #[.long (-83)], vm := .none },
  { cls := 17, slots := #[.long (-82)], vm := .none },
  { cls := 17, slots := #[.long (-81)], vm := .none },
  { cls := 17, slots := #[.long (-80)], vm := .none },
  { cls := 17, slots := #[.long (-79)], vm := .none },
  { cls := 17, slots := #[.long (-78)], vm := .none },
  { cls := 17, slots := #[.long (-77)], vm := .none },
  { cls := 17, slots := #[.long (-76)], vm := .none },
  { cls := 17, slots := #[.long (-75)], vm := .none },
  { cls := 17, slots := #[.long (-74)], vm := .none },
  { cls := 17, slots := #[.long (-73)], vm := .none },
  { cls := 17, slots := #[.long (-72)], vm := .none },
  { cls := 17, slots := #[.long (-71)], vm := .none },
  { cls := 17, slots := #[.long (-70)], vm := .none },
  { cls := 17, slots := #[.long (-69)], vm := .none },
  { cls := 17, slots := #[.long (-68)], vm := .none },
  { cls := 17, slots := #[.long (-67)], vm := .none },
  { cls := 17, slots := #[.long (-66)], vm := .none },
  { cls := 17, slots := #[.long (-65)], vm := .none },
  { cls := 17, slots := #[.long (-64)], vm := .none },
  { cls := 17, slots := #[.long (-63)], vm := .none },
  { cls := 17, slots := #[.long (-62)], vm := .none },
  { cls := 17, slots := #[.long (-61)], vm := .none },
  { cls := 17, slots := #[.long (-60)], vm := .none },
  { cls := 17, slots := #[.long (-59)], vm := .none },
  { cls := 17, slots := #[.long (-58)], vm := .none },
  { cls := 17, slots := #[.long (-57)], vm := .none },
  { cls := 17, slots := #[.long (-56)], vm := .none },
  { cls := 17, slots := #[.long (-55)], vm := .none },
  { cls := 17, slots := #[.long (-54)], vm := .none },
  { cls := 17, slots := #[.long (-53)], vm := .none },
  { cls := 17, slots := #[.long (-52)], vm := .none },
  { cls := 17, slots := #[.long (-51)], vm := .none },
  { cls := 17, slots := #[.long (-50)], vm := .none },
  { cls := 17, slots := #[.long (-49)], vm := .none },
  { cls := 17, slots := #[.long (-48)], vm := .none },
  { cls := 17, slots := #[.long (-47)], vm := .none },
  { cls := 17, slots := #[.long (-46)], vm := .none },
  { cls := 17, slots := #[.long (-45)], vm := .none },
  { cls := 17, slots := #[.long (-44)], vm := .none },
  { cls := 17, slots := #[.long (-43)], vm := .none },
  { cls := 17, slots := #[.long (-42)], vm := .none },
  { cls := 17, slots := #[.long (-41)], vm := .none },
  { cls := 17, slots := #[.long (-40)], vm := .none },
  { cls := 17, slots := #[.long (-39)], vm := .none },
  { cls := 17, slots := #[.long (-38)], vm := .none },
  { cls := 17, slots := #[.long (-37)], vm := .none },
  { cls := 17, slots := #[.long (-36)], vm := .none },
  { cls := 17, slots := #[.long (-35)], vm := .none },
  { cls := 17, slots := #[.long (-34)], vm := .none },
  { cls := 17, slots := #[.long (-33)], vm := .none },
  { cls := 17, slots := #[.long (-32)], vm := .none },
  { cls := 17, slots := #[.long (-31)], vm := .none },
  { cls := 17, slots := #[.long (-30)], vm := .none },
  { cls := 17, slots := #[.long (-29)], vm := .none },
  { cls := 17, slots := #[.long (-28)], vm := .none },
  { cls := 17, slots := #[.long (-27)], vm := .none },
  { cls := 17, slots := #[.long (-26)], vm := .none },
  { cls := 17, slots := #[.long (-25)], vm := .none },
  { cls := 17, slots := #[.long (-24)], vm := .none },
  { cls := 17, slots := #[.long (-23)], vm := .none },
  { cls := 17, slots := #[.long (-22)], vm := .none },
  { cls := 17, slots := #[.long (-21)], vm := .none },
  { cls := 17, slots := #[.long (-20)], vm := .none },
  { cls := 17, slots := #[.long (-19)], vm := .none },
  { cls := 17, slots := #[.long (-18)], vm := .none },
  { cls := 17, slots := #[.long (-17)], vm := .none },
  { cls := 17, slots := #[.long (-16)], vm := .none },
  { cls := 17, slots := #[.long (-15)], vm := .none },
  { cls := 17, slots := #[.long (-14)], vm := .none },
  { cls := 17, slots := #[.long (-13)], vm := .none },
  { cls := 17, slots := #[.long (-12)], vm := .none },
  { cls := 17, slots := #[.long (-11)], vm := .none },
  { cls := 17, slots := #[.long (-10)], vm := .none },
  { cls := 17, slots := #[.long (-9)], vm := .none },
  { cls := 17, slots := #[.long (-8)], vm := .none },
  { cls := 17, slots := #[.long (-7)], vm := .none },
  { cls := 17, slots := #[.long (-6)], vm := .none },
  { cls := 17, slots := #[.long (-5)], vm := .none },
  { cls := 17, slots := #[.long (-4)], vm := .none },
  { cls := 17, slots := #[.long (-3)], vm := .none },
  { cls := 17, slots := #[.long (-2)], vm := .none },
  { cls := 17, slots := #[.long (-1)], vm := .none },
  { cls := 17, slots := #[.long (0)], vm := .none },
  { cls := 17, slots := #[.long (1)], vm := .none },
  { cls := 17, slots := #[.long (2)], vm := .none },
  { cls := 17, slots := #[.long (3)], vm := .none },
  { cls := 17, slots := #[.long (4)], vm := .none },
  { cls := 17, slots := #[.long (5)], vm := .none },
  { cls := 17, slots := #[.long (6)], vm := .none },
  { cls := 17, slots := #[.long (7)], vm := .none },
  { cls := 17, slots := #[.long (8)], vm := .none },
  { cls := 17, slots := #[.long (9)], vm := .none },
  { cls := 17, slots := #[.long (10)], vm := .none },
  { cls := 17, slots := #[.long (11)], vm := .none },
  { cls := 17, slots := #[.long (12)], vm := .none },
  { cls := 17, slots := #[.long (13)], vm := .none },
  { cls := 17, slots := #[.long (14)], vm := .none },
  { cls := 17, slots := #[.long (15)], vm := .none },
  { cls := 17, slots := #[.long (16)], vm := .none },
  { cls := 17, slots := #[.long (17)], vm := .none },
  { cls := 17, slots := #[.long (18)], vm := .none },
  { cls := 17, slots := #[.long (19)], vm := .none },
  { cls := 17, slots := #[.long (20)], vm := .none },
  { cls := 17, slots := #[.long (21)], vm := .none },
  { cls := 17, slots := #[.long (22)], vm := .none },
  { cls := 17, slots := #[.long (23)], vm := .none },
  { cls := 17, slots := #[.long (24)], vm := .none },
  { cls := 17, slots := #[.long (25)], vm := .none },
  { cls := 17, slots := #[.long (26)], vm := .none },
  { cls := 17, slots := #[.long (27)], vm := .none },
  { cls := 17, slots := #[.long (28)], vm := .none },
  { cls := 17, slots := #[.long (29)], vm := .none },
  { cls := 17, slots := #[.long (30)], vm := .none },
  { cls := 17, slots := #[.long (31)], vm := .none },
  { cls := 17, slots := #[.long (32)], vm := .none },
  { cls := 17, slots := #[.long (33)], vm := .none },
  { cls := 17, slots := #[.long (34)], vm := .none },
  { cls := 17, slots := #[.long (35)], vm := .none },
  { cls := 17, slots := #[.long (36)], vm := .none },
  { cls := 17, slots := #[.long (37)], vm := .none },
  { cls := 17, slots := #[.long (38)], vm := .none },
  { cls := 17, slots := #[.long (39)], vm := .none },
  { cls := 17, slots := #[.long (40)], vm := .none },
  { cls := 17, slots := #[.long (41)], vm := .none },
  { cls := 17, slots := #[.long (42)], vm := .none },
  { cls := 17, slots := #[.long (43)], vm := .none },
  { cls := 17, slots := #[.long (44)], vm := .none },
  { cls := 17, slots := #[.long (45)], vm := .none },
  { cls := 17, slots := #[.long (46)], vm := .none },
  { cls := 17, slots := #[.long (47)], vm := .none },
  { cls := 17, slots := #[.long (48)], vm := .none },
  { cls := 17, slots := #[.long (49)], vm := .none },
  { cls := 17, slots := #[.long (50)], vm := .none },
  { cls := 17, slots := #[.long (51)], vm := .none },
  { cls := 17, slots := #[.long (52)], vm := .none },
  { cls := 17, slots := #[.long (53)], vm := .none },
  { cls := 17, slots := #[.long (54)], vm := .none },
  { cls := 17, slots := #[.long (55)], vm := .none },
  { cls := 17, slots := #[.long (56)], vm := .none },
  { cls := 17, slots := #[.long (57)], vm := .none },
  { cls := 17, slots := #[.long (58)], vm := .none },
  { cls := 17, slots := #[.long (59)], vm := .none },
  { cls := 17, slots := #[.long (60)], vm := .none },
  { cls := 17, slots := #[.long (61)], vm := .none },
  { cls := 17, slots := #[.long (62)], vm := .none },
  { cls := 17, slots := #[.long (63)], vm := .none },
  { cls := 17, slots := #[.long (64)], vm := .none },
  { cls := 17, slots := #[.long (65)], vm := .none },
  { cls := 17, slots := #[.long (66)], vm := .none },
  { cls := 17, slots := #[.long (67)], vm := .none },
  { cls := 17, slots := #[.long (68)], vm := .none },
  { cls := 17, slots := #[.long (69)], vm := .none },
  { cls := 17, slots := #[.long (70)], vm := .none },
  { cls := 17, slots := #[.long (71)], vm := .none },
  { cls := 17, slots := #[.long (72)], vm := .none },
  { cls := 17, slots := #[.long (73)], vm := .none },
  { cls := 17, slots := #[.long (74)], vm := .none },
  { cls := 17, slots := #[.long (75)], vm := .none },
  { cls := 17, slots := #[.long (76)], vm := .none },
  { cls := 17, slots := #[.long (77)], vm := .none },
  { cls := 17, slots := #[.long (78)], vm := .none },
  { cls := 17, slots := #[.long (79)], vm := .none },
  { cls := 17, slots := #[.long (80)], vm := .none },
  { cls := 17, slots := #[.long (81)], vm := .none },
  { cls := 17, slots := #[.long (82)], vm := .none },
  { cls := 17, slots := #[.long (83)], vm := .none },
  { cls := 17, slots := #[.long (84)], vm := .none },
  { cls := 17, slots := #[.long (85)], vm := .none },
  { cls := 17, slots := #[.long (86)], vm := .none },
  { cls := 17, slots := #[.long (87)], vm := .none },
  { cls := 17, slots := #[.long (88)], vm := .none },
  { cls := 17, slots := #[.long (89)], vm := .none },
  { cls := 17, slots := #[.long (90)], vm := .none },
  { cls := 17, slots := #[.long (91)], vm := .none },
  { cls := 17, slots := #[.long (92)], vm := .none },
  { cls := 17, slots := #[.long (93)], vm := .none },
  { cls := 17, slots := #[.long (94)], vm := .none },
  { cls := 17, slots := #[.long (95)], vm := .none },
  { cls := 17, slots := #[.long (96)], vm := .none },
  { cls := 17, slots := #[.long (97)], vm := .none },
  { cls := 17, slots := #[.long (98)], vm := .none },
  { cls := 17, slots := #[.long (99)], vm := .none },
  { cls := 17, slots := #[.long (100)], vm := .none },
  { cls := 17, slots := #[.long (101)], vm := .none },
  { cls := 17, slots := #[.long (102)], vm := .none },
  { cls := 17, slots := #[.long (103)], vm := .none },
  { cls := 17, slots := #[.long (104)], vm := .none },
  { cls := 17, slots := #[.long (105)], vm := .none },
  { cls := 17, slots := #[.long (106)], vm := .none },
  { cls := 17, slots := #[.long (107)], vm := .none },
  { cls := 17, slots := #[.long (108)], vm := .none },
  { cls := 17, slots := #[.long (109)], vm := .none },
  { cls := 17, slots := #[.long (110)], vm := .none },
  { cls := 17, slots := #[.long (111)], vm := .none },
  { cls := 17, slots := #[.long (112)], vm := .none },
  { cls := 17, slots := #[.long (113)], vm := .none },
  { cls := 17, slots := #[.long (114)], vm := .none },
  { cls := 17, slots := #[.long (115)], vm := .none },
  { cls := 17, slots := #[.long (116)], vm := .none },
  { cls := 17, slots := #[.long (117)], vm := .none },
  { cls := 17, slots := #[.long (118)], vm := .none },
  { cls := 17, slots := #[.long (119)], vm := .none },
  { cls := 17, slots := #[.long (120)], vm := .none },
  { cls := 17, slots := #[.long (121)], vm := .none },
  { cls := 17, slots := #[.long (122)], vm := .none },
  { cls := 17, slots := #[.long (123)], vm := .none },
  { cls := 17, slots := #[.long (124)], vm := .none },
  { cls := 17, slots := #[.long (125)], vm := .none },
  { cls := 17, slots := #[.long (126)], vm := .none },
  { cls := 17, slots := #[.long (127)], vm := .none }]
def classes : Array Class := #[k0, k1, k2, k3, k4, k5, k6, k7, k8, k9, k10, k11, k12, k13, k14, k15, k16, k17, k18, k19, k20, k21, k22, k23, k24, k25, k26, k27]
def interned : List (Array UInt16 × Addr) := []
def slotsUsed : Nat := 519
def theMethod : MethodId := ⟨1, 1⟩
def args0 : Array Value := #[.int 5, .int 5, .long 5, .long 5, .long 5, .long 5]
def aboutOver (below : List Frame) : State where
  vm := { classes := classes, interned := interned.toArray }
  heap := heap
  slotsUsed := slotsUsed
  threads := #[{ frames := .invoking theMethod args0 :: below }]
def below0 : List Frame := [.native { method := ⟨0, 0⟩, args := #[] }]
def about1 : State := aboutOver below0
def p0 : Program := .bare "" "" ""
def e0 : Env := launch0.env 0 0 0
theorem w_frames : about1.frames = Frame.invoking theMethod args0 :: below0 := rfl
set_option maxRecDepth 65536 in
theorem w_args : argsFit about1.vm theMethod args0 = true := by decide +kernel
set_option maxRecDepth 65536 in
theorem w_heap : heapFits about1 = true := by decide +kernel
set_option maxRecDepth 65536 in
theorem w_runnable : about1.curStatus? = some .runnable := by decide +kernel
set_option maxRecDepth 65536 in
theorem w_alone : about1.alone = true := by decide +kernel
set_option maxRecDepth 65536 in
theorem w_named : about1.methodNamed? x = some theMethod := by decide +kernel
set_option maxRecDepth 65536 in
theorem w_hears : about1.hears theMethod below0 = true := by decide +kernel
set_option maxRecDepth 65536 in
theorem w_ripe : about1.ripe theMethod args0 below0 = true := by decide +kernel
theorem w_running : about1.status = .running := rfl
set_option maxRecDepth 65536 in
theorem w_room : about1.hasRoom e0.platform room_1 = true :=
  launch0.hasRoom_least _ room_1 (by decide +kernel) (by decide +kernel) (by decide +kernel) (by decide +kernel) (by decide +kernel) (by decide +kernel)
theorem allAtoms_all (ts : List Jvm.Cond) (a : Array Jvm.Value) (st : Jvm.State) : (allAtoms ts).before a st = ts.all (fun c => c.before a st) := by
  induction ts with
  | nil => rfl
  | cons c t ih =>
    show (Jvm.Cond.and c (allAtoms t)).before a st = _
    rw [Jvm.Cond.before_and, ih, List.all_cons]
def words1 : List Jvm.Cond := Jvm.Cond.code x code maxLocals ret :: tables_1
/-- a 'code' word, met by the world's own term for the bytes: nothing is compared byte by byte -/
theorem code_word {y : MethodName} {bytes : ByteArray} {mx : Nat} {rt : Option FieldType} {a : Array Value} {s : State} {m : MethodId} {meth : Method} {c : Code} (h1 : s.methodNamed? y = some m) (h2 : s.vm.method? m = some meth) (h3 : meth.code = some c) (h4 : c.code = bytes)
    (h5 : (c.maxLocals == mx && c.exceptionTable.isEmpty && decide (c.maxStack ≤ mostOperands) && decide (meth.sig.returnType = rt) && !meth.locks && decide (parseMethodDescriptor y.desc = some meth.sig)) = true) : (Jvm.Cond.code y bytes mx rt).before a s = true := by
  simp only [Bool.and_eq_true, beq_iff_eq, Bool.not_eq_true', decide_eq_true_eq] at h5
  obtain ⟨⟨⟨⟨⟨g1, g2⟩, g3⟩, g4⟩, g5⟩, g6⟩ := h5
  simp [Cond.before, Cond.holds, Cond.value, h1, h2, h3, h4, g1, g2, g3, g4, g5, g6]
def isCode : Jvm.Cond → Bool
  | .code _ _ _ _ => true
  | _ => false
theorem all_split {L : List Jvm.Cond} {P : Jvm.Cond → Bool} (h1 : L.all (fun c => isCode c || P c) = true) (h2 : ∀ c ∈ L.filter isCode, P c = true) : L.all P = true := by
  refine List.all_eq_true.mpr fun c hc => ?_
  have h := List.all_eq_true.mp h1 c hc
  rcases Bool.eq_false_or_eq_true (isCode c) with hi | hi
  · exact h2 c (List.mem_filter.mpr ⟨hc, hi⟩)
  · simpa [hi] using h
set_option maxRecDepth 65536 in
theorem w_c0 : (Jvm.Cond.code x code maxLocals ret).before args0 about1 = true := code_word (m := ⟨1, 1⟩) (meth := k1m1) (c := k1c1) (by decide +kernel) rfl rfl rfl (by decide +kernel)
set_option maxRecDepth 65536 in
theorem w_c1 : (Jvm.Cond.code ({ cls := "java/util/ArrayList", name := "<init>", desc := "()V" } : Jvm.MethodName) jdk_38_method_2_code (1 : Nat) (Option.none : Option Jvm.ClassFile.FieldType)).before args0 about1 = true := code_word (m := ⟨11, 0⟩) (meth := k11m0) (c := k11c0) (by decide +kernel) rfl rfl rfl (by decide +kernel)
set_option maxRecDepth 65536 in
theorem w_c2 : (Jvm.Cond.code ({ cls := "java/util/AbstractList", name := "<init>", desc := "()V" } : Jvm.MethodName) jdk_39_method_1_code (1 : Nat) (Option.none : Option Jvm.ClassFile.FieldType)).before args0 about1 = true := code_word (m := ⟨7, 0⟩) (meth := k7m0) (c := k7c0) (by decide +kernel) rfl rfl rfl (by decide +kernel)
set_option maxRecDepth 65536 in
theorem w_c3 : (Jvm.Cond.code ({ cls := "java/util/AbstractCollection", name := "<init>", desc := "()V" } : Jvm.MethodName) jdk_22_method_1_code (1 : Nat) (Option.none : Option Jvm.ClassFile.FieldType)).before args0 about1 = true := code_word (m := ⟨4, 0⟩) (meth := k4m0) (c := k4c0) (by decide +kernel) rfl rfl rfl (by decide +kernel)
set_option maxRecDepth 65536 in
theorem w_c4 : (Jvm.Cond.code ({ cls := "java/lang/Object", name := "<init>", desc := "()V" } : Jvm.MethodName) object_method_1_code (1 : Nat) (Option.none : Option Jvm.ClassFile.FieldType)).before args0 about1 = true := code_word (m := ⟨0, 0⟩) (meth := k0m0) (c := k0c0) (by decide +kernel) rfl rfl rfl (by decide +kernel)
set_option maxRecDepth 65536 in
theorem w_c5 : (Jvm.Cond.code ({ cls := "com/example/ermine/ermine/bench/Figures", name := "percentile", desc := "(Ljava/util/List;I)D" } : Jvm.MethodName) prog_1_method_3_code (4 : Nat) (Option.some Jvm.ClassFile.FieldType.double)).before args0 about1 = true := code_word (m := ⟨12, 1⟩) (meth := k12m1) (c := k12c1) (by decide +kernel) rfl rfl rfl (by decide +kernel)
set_option maxRecDepth 65536 in
theorem w_c6 : (Jvm.Cond.code ({ cls := "java/util/ArrayList", name := "isEmpty", desc := "()Z" } : Jvm.MethodName) jdk_38_method_9_code (1 : Nat) (Option.some Jvm.ClassFile.FieldType.boolean)).before args0 about1 = true := code_word (m := ⟨11, 4⟩) (meth := k11m4) (c := k11c4) (by decide +kernel) rfl rfl rfl (by decide +kernel)
set_option maxRecDepth 65536 in
theorem w_c7 : (Jvm.Cond.code ({ cls := "java/lang/Long", name := "valueOf", desc := "(J)Ljava/lang/Long;" } : Jvm.MethodName) jdk_35_method_24_code (3 : Nat) (Option.some (Jvm.ClassFile.FieldType.object "java/lang/Long"))).before args0 about1 = true := code_word (m := ⟨17, 0⟩) (meth := k17m0) (c := k17c0) (by decide +kernel) rfl rfl rfl (by decide +kernel)
set_option maxRecDepth 65536 in
theorem w_c8 : (Jvm.Cond.code ({ cls := "java/util/ArrayList", name := "add", desc := "(Ljava/lang/Object;)Z" } : Jvm.MethodName) jdk_38_method_25_code (2 : Nat) (Option.some Jvm.ClassFile.FieldType.boolean)).before args0 about1 = true := code_word (m := ⟨11, 8⟩) (meth := k11m8) (c := k11c8) (by decide +kernel) rfl rfl rfl (by decide +kernel)
set_option maxRecDepth 65536 in
theorem w_c9 : (Jvm.Cond.code ({ cls := "java/util/ArrayList", name := "add", desc := "(Ljava/lang/Object;[Ljava/lang/Object;I)V" } : Jvm.MethodName) jdk_38_method_24_code (4 : Nat) (Option.none : Option Jvm.ClassFile.FieldType)).before args0 about1 = true := code_word (m := ⟨11, 7⟩) (meth := k11m7) (c := k11c7) (by decide +kernel) rfl rfl rfl (by decide +kernel)
set_option maxRecDepth 65536 in
theorem w_c10 : (Jvm.Cond.code ({ cls := "java/util/ArrayList", name := "grow", desc := "()[Ljava/lang/Object;" } : Jvm.MethodName) jdk_38_method_7_code (1 : Nat) (Option.some (Jvm.ClassFile.FieldType.array (Jvm.ClassFile.FieldType.object "java/lang/Object")))).before args0 about1 = true := code_word (m := ⟨11, 2⟩) (meth := k11m2) (c := k11c2) (by decide +kernel) rfl rfl rfl (by decide +kernel)
set_option maxRecDepth 65536 in
theorem w_c11 : (Jvm.Cond.code ({ cls := "java/util/ArrayList", name := "grow", desc := "(I)[Ljava/lang/Object;" } : Jvm.MethodName) jdk_38_method_6_code (4 : Nat) (Option.some (Jvm.ClassFile.FieldType.array (Jvm.ClassFile.FieldType.object "java/lang/Object")))).before args0 about1 = true := code_word (m := ⟨11, 1⟩) (meth := k11m1) (c := k11c1) (by decide +kernel) rfl rfl rfl (by decide +kernel)
set_option maxRecDepth 65536 in
theorem w_c12 : (Jvm.Cond.code ({ cls := "java/lang/Math", name := "max", desc := "(II)I" } : Jvm.MethodName) jdk_29_method_65_code (2 : Nat) (Option.some Jvm.ClassFile.FieldType.int)).before args0 about1 = true := code_word (m := ⟨19, 1⟩) (meth := k19m1) (c := k19c1) (by decide +kernel) rfl rfl rfl (by decide +kernel)
set_option maxRecDepth 65536 in
theorem w_c13 : (Jvm.Cond.code ({ cls := "java/lang/Long", name := "<init>", desc := "(J)V" } : Jvm.MethodName) jdk_35_method_26_code (3 : Nat) (Option.none : Option Jvm.ClassFile.FieldType)).before args0 about1 = true := code_word (m := ⟨17, 1⟩) (meth := k17m1) (c := k17c1) (by decide +kernel) rfl rfl rfl (by decide +kernel)
set_option maxRecDepth 65536 in
theorem w_c14 : (Jvm.Cond.code ({ cls := "java/lang/Number", name := "<init>", desc := "()V" } : Jvm.MethodName) jdk_18_method_1_code (1 : Nat) (Option.none : Option Jvm.ClassFile.FieldType)).before args0 about1 = true := code_word (m := ⟨13, 0⟩) (meth := k13m0) (c := k13c0) (by decide +kernel) rfl rfl rfl (by decide +kernel)
set_option maxRecDepth 65536 in
theorem w_c15 : (Jvm.Cond.code ({ cls := "java/util/ArrayList", name := "size", desc := "()I" } : Jvm.MethodName) jdk_38_method_8_code (1 : Nat) (Option.some Jvm.ClassFile.FieldType.int)).before args0 about1 = true := code_word (m := ⟨11, 3⟩) (meth := k11m3) (c := k11c3) (by decide +kernel) rfl rfl rfl (by decide +kernel)
set_option maxRecDepth 65536 in
theorem w_c16 : (Jvm.Cond.code ({ cls := "java/lang/Math", name := "max", desc := "(JJ)J" } : Jvm.MethodName) jdk_29_method_66_code (4 : Nat) (Option.some Jvm.ClassFile.FieldType.long)).before args0 about1 = true := code_word (m := ⟨19, 2⟩) (meth := k19m2) (c := k19c2) (by decide +kernel) rfl rfl rfl (by decide +kernel)
set_option maxRecDepth 65536 in
theorem w_c17 : (Jvm.Cond.code ({ cls := "java/util/ArrayList", name := "get", desc := "(I)Ljava/lang/Object;" } : Jvm.MethodName) jdk_38_method_20_code (2 : Nat) (Option.some (Jvm.ClassFile.FieldType.object "java/lang/Object"))).before args0 about1 = true := code_word (m := ⟨11, 6⟩) (meth := k11m6) (c := k11c6) (by decide +kernel) rfl rfl rfl (by decide +kernel)
set_option maxRecDepth 65536 in
theorem w_c18 : (Jvm.Cond.code ({ cls := "java/util/Objects", name := "checkIndex", desc := "(II)I" } : Jvm.MethodName) jdk_31_method_17_code (2 : Nat) (Option.some Jvm.ClassFile.FieldType.int)).before args0 about1 = true := code_word (m := ⟨20, 1⟩) (meth := k20m1) (c := k20c1) (by decide +kernel) rfl rfl rfl (by decide +kernel)
set_option maxRecDepth 65536 in
theorem w_c19 : (Jvm.Cond.code ({ cls := "jdk/internal/util/Preconditions", name := "checkIndex", desc := "(IILjava/util/function/BiFunction;)I" } : Jvm.MethodName) jdk_41_method_11_code (3 : Nat) (Option.some Jvm.ClassFile.FieldType.int)).before args0 about1 = true := code_word (m := ⟨21, 1⟩) (meth := k21m1) (c := k21c1) (by decide +kernel) rfl rfl rfl (by decide +kernel)
set_option maxRecDepth 65536 in
theorem w_c20 : (Jvm.Cond.code ({ cls := "java/util/ArrayList", name := "elementData", desc := "(I)Ljava/lang/Object;" } : Jvm.MethodName) jdk_38_method_18_code (2 : Nat) (Option.some (Jvm.ClassFile.FieldType.object "java/lang/Object"))).before args0 about1 = true := code_word (m := ⟨11, 5⟩) (meth := k11m5) (c := k11c5) (by decide +kernel) rfl rfl rfl (by decide +kernel)
set_option maxRecDepth 65536 in
theorem w_c21 : (Jvm.Cond.code ({ cls := "java/lang/Long", name := "longValue", desc := "()J" } : Jvm.MethodName) jdk_35_method_31_code (1 : Nat) (Option.some Jvm.ClassFile.FieldType.long)).before args0 about1 = true := code_word (m := ⟨17, 2⟩) (meth := k17m2) (c := k17c2) (by decide +kernel) rfl rfl rfl (by decide +kernel)
def codes1 : List Jvm.Cond := [Jvm.Cond.code x code maxLocals ret, Jvm.Cond.code ({ cls := "java/util/ArrayList", name := "<init>", desc := "()V" } : Jvm.MethodName) jdk_38_method_2_code (1 : Nat) (Option.none : Option Jvm.ClassFile.FieldType), Jvm.Cond.code ({ cls := "java/util/AbstractList", name := "<init>", desc := "()V" } : Jvm.MethodName) jdk_39_method_1_code (1 : Nat) (Option.none : Option Jvm.ClassFile.FieldType), Jvm.Cond.code ({ cls := "java/util/AbstractCollection", name := "<init>", desc := "()V" } : Jvm.MethodName) jdk_22_method_1_code (1 : Nat) (Option.none : Option Jvm.ClassFile.FieldType), Jvm.Cond.code ({ cls := "java/lang/Object", name := "<init>", desc := "()V" } : Jvm.MethodName) object_method_1_code (1 : Nat) (Option.none : Option Jvm.ClassFile.FieldType), Jvm.Cond.code ({ cls := "com/example/ermine/ermine/bench/Figures", name := "percentile", desc := "(Ljava/util/List;I)D" } : Jvm.MethodName) prog_1_method_3_code (4 : Nat) (Option.some Jvm.ClassFile.FieldType.double), Jvm.Cond.code ({ cls := "java/util/ArrayList", name := "isEmpty", desc := "()Z" } : Jvm.MethodName) jdk_38_method_9_code (1 : Nat) (Option.some Jvm.ClassFile.FieldType.boolean), Jvm.Cond.code ({ cls := "java/lang/Long", name := "valueOf", desc := "(J)Ljava/lang/Long;" } : Jvm.MethodName) jdk_35_method_24_code (3 : Nat) (Option.some (Jvm.ClassFile.FieldType.object "java/lang/Long")), Jvm.Cond.code ({ cls := "java/util/ArrayList", name := "add", desc := "(Ljava/lang/Object;)Z" } : Jvm.MethodName) jdk_38_method_25_code (2 : Nat) (Option.some Jvm.ClassFile.FieldType.boolean), Jvm.Cond.code ({ cls := "java/util/ArrayList", name := "add", desc := "(Ljava/lang/Object;[Ljava/lang/Object;I)V" } : Jvm.MethodName) jdk_38_method_24_code (4 : Nat) (Option.none : Option Jvm.ClassFile.FieldType), Jvm.Cond.code ({ cls := "java/util/ArrayList", name := "grow", desc := "()[Ljava/lang/Object;" } : Jvm.MethodName) jdk_38_method_7_code (1 : Nat) (Option.some (Jvm.ClassFile.FieldType.array (Jvm.ClassFile.FieldType.object "java/lang/Object"))), Jvm.Cond.code ({ cls := "java/util/ArrayList", name := "grow", desc := "(I)[Ljava/lang/Object;" } : Jvm.MethodName) jdk_38_method_6_code (4 : Nat) (Option.some (Jvm.ClassFile.FieldType.array (Jvm.ClassFile.FieldType.object "java/lang/Object"))), Jvm.Cond.code ({ cls := "java/lang/Math", name := "max", desc := "(II)I" } : Jvm.MethodName) jdk_29_method_65_code (2 : Nat) (Option.some Jvm.ClassFile.FieldType.int), Jvm.Cond.code ({ cls := "java/lang/Long", name := "<init>", desc := "(J)V" } : Jvm.MethodName) jdk_35_method_26_code (3 : Nat) (Option.none : Option Jvm.ClassFile.FieldType), Jvm.Cond.code ({ cls := "java/lang/Number", name := "<init>", desc := "()V" } : Jvm.MethodName) jdk_18_method_1_code (1 : Nat) (Option.none : Option Jvm.ClassFile.FieldType), Jvm.Cond.code ({ cls := "java/util/ArrayList", name := "size", desc := "()I" } : Jvm.MethodName) jdk_38_method_8_code (1 : Nat) (Option.some Jvm.ClassFile.FieldType.int), Jvm.Cond.code ({ cls := "java/lang/Math", name := "max", desc := "(JJ)J" } : Jvm.MethodName) jdk_29_method_66_code (4 : Nat) (Option.some Jvm.ClassFile.FieldType.long), Jvm.Cond.code ({ cls := "java/util/ArrayList", name := "get", desc := "(I)Ljava/lang/Object;" } : Jvm.MethodName) jdk_38_method_20_code (2 : Nat) (Option.some (Jvm.ClassFile.FieldType.object "java/lang/Object")), Jvm.Cond.code ({ cls := "java/util/Objects", name := "checkIndex", desc := "(II)I" } : Jvm.MethodName) jdk_31_method_17_code (2 : Nat) (Option.some Jvm.ClassFile.FieldType.int), Jvm.Cond.code ({ cls := "jdk/internal/util/Preconditions", name := "checkIndex", desc := "(IILjava/util/function/BiFunction;)I" } : Jvm.MethodName) jdk_41_method_11_code (3 : Nat) (Option.some Jvm.ClassFile.FieldType.int), Jvm.Cond.code ({ cls := "java/util/ArrayList", name := "elementData", desc := "(I)Ljava/lang/Object;" } : Jvm.MethodName) jdk_38_method_18_code (2 : Nat) (Option.some (Jvm.ClassFile.FieldType.object "java/lang/Object")), Jvm.Cond.code ({ cls := "java/lang/Long", name := "longValue", desc := "()J" } : Jvm.MethodName) jdk_35_method_31_code (1 : Nat) (Option.some Jvm.ClassFile.FieldType.long)]
set_option maxRecDepth 65536 in
theorem codes_eq : words1.filter isCode = codes1 := rfl
theorem w_codes : ∀ c ∈ words1.filter isCode, c.before args0 about1 = true := by
  rw [codes_eq]
  intro c hc
  simp only [codes1, List.mem_cons, List.not_mem_nil, or_false] at hc
  rcases hc with rfl | rfl | rfl | rfl | rfl | rfl | rfl | rfl | rfl | rfl | rfl | rfl | rfl | rfl | rfl | rfl | rfl | rfl | rfl | rfl | rfl | rfl
  · exact w_c0
  · exact w_c1
  · exact w_c2
  · exact w_c3
  · exact w_c4
  · exact w_c5
  · exact w_c6
  · exact w_c7
  · exact w_c8
  · exact w_c9
  · exact w_c10
  · exact w_c11
  · exact w_c12
  · exact w_c13
  · exact w_c14
  · exact w_c15
  · exact w_c16
  · exact w_c17
  · exact w_c18
  · exact w_c19
  · exact w_c20
  · exact w_c21
set_option maxRecDepth 65536 in
theorem w_t1 : (words1.take 24).all (fun c => isCode c || c.before args0 about1) = true := by decide +kernel
set_option maxRecDepth 65536 in
theorem w_t2 : ((words1.drop 24).take 24).all (fun c => isCode c || c.before args0 about1) = true := by decide +kernel
set_option maxRecDepth 65536 in
theorem w_t3 : (((words1.drop 24).drop 24).take 24).all (fun c => isCode c || c.before args0 about1) = true := by decide +kernel
set_option maxRecDepth 65536 in
theorem w_t4 : ((((words1.drop 24).drop 24).drop 24).take 24).all (fun c => isCode c || c.before args0 about1) = true := by decide +kernel
set_option maxRecDepth 65536 in
theorem w_t5 : (((((words1.drop 24).drop 24).drop 24).drop 24).take 24).all (fun c => isCode c || c.before args0 about1) = true := by decide +kernel
set_option maxRecDepth 65536 in
theorem w_t6 : (((((words1.drop 24).drop 24).drop 24).drop 24).drop 24).all (fun c => isCode c || c.before args0 about1) = true := by decide +kernel
theorem w_tables : (allAtoms (Jvm.Cond.code x code maxLocals ret :: tables_1)).before args0 about1 = true := by
  rw [allAtoms_all]
  show words1.all (fun c => c.before args0 about1) = true
  refine all_split ?_ w_codes
  rw [← List.take_append_drop 24 words1, List.all_append, w_t1, ← List.take_append_drop 24 (words1.drop 24), List.all_append, w_t2, ← List.take_append_drop 24 ((words1.drop 24).drop 24), List.all_append, w_t3, ← List.take_append_drop 24 (((words1.drop 24).drop 24).drop 24), List.all_append, w_t4, ← List.take_append_drop 24 ((((words1.drop 24).drop 24).drop 24).drop 24), List.all_append, w_t5, w_t6]
  rfl
set_option maxRecDepth 65536 in
theorem w_rest : rest_1_c.before args0 about1 = true := by decide +kernel
set_option maxRecDepth 65536 in
theorem w_case : (Jvm.Cond.and given_1 narrow_1).before args0 about1 = true := by decide +kernel
theorem w_applies : (headSpec (Jvm.Cond.code x code maxLocals ret :: tables_1) room_1).applies x e0.platform about1 = true :=
  (Spec.applies_iff w_frames).mpr ⟨w_running, w_runnable, w_alone, w_named, w_hears, w_ripe, w_room, w_tables⟩
theorem atStart : AtStart classFile x code maxLocals ret World_1 tables_1 room_1 Calls_1 rest_1 Pre_1 launch0 p0 e0 about1 theMethod args0 below0 :=
  ⟨lists_1, trivial, launch0.admits_env _ _ _, launch0.least_env, fairChoices_fair.cas, fairChoices_fair.clock, w_frames, w_args, w_heap, w_applies, trivial, w_rest, w_case⟩
end start1
theorem witness_1 : WitnessClaimed_1 := ⟨start1.p0, start1.e0, start1.about1, start1.theMethod, start1.args0, start1.below0, start1.atStart⟩
end Jvm.Pilot.@@N@@
