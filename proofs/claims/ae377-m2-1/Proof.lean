import JvmDerived
import JvmDerived.Pilot.@@N@@Statement
import JvmDerived.Pilot.@@N@@Code
set_option linter.unusedVariables false
set_option linter.unusedSimpArgs false
namespace Jvm.Pilot.@@N@@
open Jvm Jvm.ClassFile Sem Op Lib Jvm.Free Jvm.Stand Jvm.LawKit Jvm.RoadKit Bundle Jvm.Pilot.@@N@@.Jvm.D
theorem w_ {Z : State} {a0 : Array Value} (hw : ∀ d ∈ tables_1, d.before a0 Z = true) {d : Jvm.Cond} (i : Nat) (h : tables_1[i]? = some d) : d.before a0 Z = true := hw d (List.mem_of_getElem? h)
section OwnKit
variable {p : Program} {l : Launch} {e : Env} {R : Room} {s : State} {m : MethodId} {args : Array Value} {below : List Frame} {meth : Method} {c : Code} {T : State} {locs : List Loc} {cells slots : Nat}
/-- the walk from t comes back with what Q says -/
def Fin (p : Program) (e : Env) (below : List Frame) (s : State) (Q : Option Value → Heap → List Loc → Prop) (C S : Nat) (t : State) : Prop :=
  ∃ s₂ o, Steps p.tables e below t s₂ ∧ s₂.status = .running ∧ Ended s₂ below o ∧ ∃ v L, o = .returned v ∧ Q v s₂.heap L ∧ FrameEnd s o s₂ L C S
theorem Fin.by {Q : Option Value → Heap → List Loc → Prop} {C S : Nat} {a b : State} (h : ∀ t, Steps p.tables e below b t → Steps p.tables e below a t) (k : Fin p e below s Q C S b) : Fin p e below s Q C S a := by
  obtain ⟨s₂, o, h1, h2⟩ := k; exact ⟨s₂, o, h _ h1, h2⟩
theorem Fin.byS {Q : Option Value → Heap → List Loc → Prop} {C S : Nat} {a b : State} (h : Steps p.tables e below a b) (k : Fin p e below s Q C S b) : Fin p e below s Q C S a := Fin.by (fun _ k => h.trans k) k
theorem Fin.start {Q : Option Value → Heap → List Loc → Prop} {C S : Nat} {g g' : JFrame} (q : g = g') (k : Fin p e below s Q C S (T.setTop g')) :
    ∃ s₂ o, Steps p.tables e below (T.setTop g) s₂ ∧ s₂.status = .running ∧ Ended s₂ below o ∧ ∃ v L, o = .returned v ∧ Q v s₂.heap L ∧ FrameEnd s o s₂ L C S := by
  subst q; exact k
theorem Fin.ret {Q : Option Value → Heap → List Loc → Prop} {C S : Nat} {v : Option Value} {g : JFrame} (X : Stand p l e R s m args below meth c T locs cells slots) (hv : meth.sig.returnType = none → v = none) (hl : meth.locks = false)
    (hq : Q v T.heap locs) (hc : cells ≤ C) (hs : slots ≤ S) (st : ∀ fs, (∀ (f : JFrame) (acts : List Action), f.method = m → f.locked = none → f.entered = [] → (doReturn e (T.setTop f) acts v).1 = T.setFrames fs) → Steps p.tables e below (T.setTop g) (T.setFrames fs)) :
    Fin p e below s Q C S (T.setTop g) := by
  obtain ⟨fs, hr, hrun, hended, hW, hsame⟩ := X.leave hv hl
  exact ⟨_, _, st fs hr, hrun, hended, _, _, rfl, hq, ⟨_, rfl⟩, hW, hsame.mono hc hs⟩
theorem retI (X : Stand p l e R s m args below meth c T locs cells slots) (hx : p.tables.exec = Jvm.exec) {pc : Nat} {Ls : Array Slot} {z : Int32} {rest : List Value} (hret : meth.sig.returnType = some .int) (hd : decode c.code pc = .ok (.ireturn, 1)) {fs : List Frame}
    (hl : ∀ (f : JFrame) (acts : List Action), f.method = m → f.locked = none → f.entered = [] → (doReturn e (T.setTop f) acts (some (.int z))).1 = T.setFrames fs) : Steps p.tables e below (T.setTop (mkF m pc Ls (.int z :: rest))) (T.setFrames fs) :=
  retOut X hx hret rfl (Or.inl ⟨rfl, Or.inl rfl, _, rfl⟩) hd hl
theorem retA (X : Stand p l e R s m args below meth c T locs cells slots) (hx : p.tables.exec = Jvm.exec) {pc : Nat} {Ls : Array Slot} {w : Value} {t : FieldType} {rest : List Value} (hret : meth.sig.returnType = some t) (ht : t.isReference = true) (hw : w.isRef = true) (hd : decode c.code pc = .ok (.areturn, 1)) {fs : List Frame}
    (hl : ∀ (f : JFrame) (acts : List Action), f.method = m → f.locked = none → f.entered = [] → (doReturn e (T.setTop f) acts (some w)).1 = T.setFrames fs) : Steps p.tables e below (T.setTop (mkF m pc Ls (w :: rest))) (T.setFrames fs) :=
  retOut X hx hret (by cases t <;> first | (cases ht; done) | rfl) (Or.inr (Or.inr (Or.inr (Or.inr ⟨rfl, ht, hw⟩)))) hd hl
theorem retJ (X : Stand p l e R s m args below meth c T locs cells slots) (hx : p.tables.exec = Jvm.exec) {pc : Nat} {Ls : Array Slot} {z : Int64} {rest : List Value} (hret : meth.sig.returnType = some .long) (hd : decode c.code pc = .ok (.lreturn, 1)) {fs : List Frame}
    (hl : ∀ (f : JFrame) (acts : List Action), f.method = m → f.locked = none → f.entered = [] → (doReturn e (T.setTop f) acts (some (.long z))).1 = T.setFrames fs) : Steps p.tables e below (T.setTop (mkF m pc Ls (.long z :: rest))) (T.setFrames fs) :=
  retOut X hx hret rfl (Or.inr (Or.inl ⟨rfl, rfl, _, rfl⟩)) hd hl
theorem retD (X : Stand p l e R s m args below meth c T locs cells slots) (hx : p.tables.exec = Jvm.exec) {pc : Nat} {Ls : Array Slot} {z : UInt64} {rest : List Value} (hret : meth.sig.returnType = some .double) (hd : decode c.code pc = .ok (.dreturn, 1)) {fs : List Frame}
    (hl : ∀ (f : JFrame) (acts : List Action), f.method = m → f.locked = none → f.entered = [] → (doReturn e (T.setTop f) acts (some (.double z))).1 = T.setFrames fs) : Steps p.tables e below (T.setTop (mkF m pc Ls (.double z :: rest))) (T.setFrames fs) :=
  retOut X hx hret rfl (Or.inr (Or.inr (Or.inl ⟨rfl, rfl, _, rfl⟩))) hd hl
theorem XnullYes {target : State} (X : Stand p l e R s m args below meth c T locs cells slots) (hx : p.tables.exec = Jvm.exec) {g : JFrame} (hg : g.method = m) {v : Value} {rest : List Value} {o : Int} {pc0 pc' : Nat} (hv : v = .null) (hpc : g.pc = pc0) (hd : decode c.code g.pc = .ok (.ifnull o, 3)) (hs : g.stack = v :: rest) (ho : 0 ≤ (pc0 : Int) + o) (hp : ((pc0 : Int) + o).toNat = pc')
    (k : Steps p.tables e below (T.setTop { g with pc := pc', stack := rest }) target) : Steps p.tables e below (T.setTop g) target := by subst hv; exact XS.ifnullYes X.here hx hg hpc hd hs ho hp k
theorem XnullNo {target : State} (X : Stand p l e R s m args below meth c T locs cells slots) (hx : p.tables.exec = Jvm.exec) {g : JFrame} (hg : g.method = m) {v : Value} {a : Addr} {rest : List Value} {o : Int} (hv : v = .ref a) (hd : decode c.code g.pc = .ok (.ifnull o, 3)) (hs : g.stack = v :: rest)
    (k : Steps p.tables e below (T.setTop { g with pc := g.pc + 3, stack := rest }) target) : Steps p.tables e below (T.setTop g) target := by subst hv; exact XS.ifnullNo X.here hx hg hd hs k
theorem XnonnullYes {target : State} (X : Stand p l e R s m args below meth c T locs cells slots) (hx : p.tables.exec = Jvm.exec) {g : JFrame} (hg : g.method = m) {v : Value} {a : Addr} {rest : List Value} {o : Int} {pc0 pc' : Nat} (hv : v = .ref a) (hpc : g.pc = pc0) (hd : decode c.code g.pc = .ok (.ifnonnull o, 3)) (hs : g.stack = v :: rest) (ho : 0 ≤ (pc0 : Int) + o) (hp : ((pc0 : Int) + o).toNat = pc')
    (k : Steps p.tables e below (T.setTop { g with pc := pc', stack := rest }) target) : Steps p.tables e below (T.setTop g) target := by subst hv; exact XS.ifnonnullYes X.here hx hg hpc hd hs ho hp k
theorem XnonnullNo {target : State} (X : Stand p l e R s m args below meth c T locs cells slots) (hx : p.tables.exec = Jvm.exec) {g : JFrame} (hg : g.method = m) {v : Value} {rest : List Value} {o : Int} (hv : v = .null) (hd : decode c.code g.pc = .ok (.ifnonnull o, 3)) (hs : g.stack = v :: rest)
    (k : Steps p.tables e below (T.setTop { g with pc := g.pc + 3, stack := rest }) target) : Steps p.tables e below (T.setTop g) target := by subst hv; exact XS.ifnonnullNo X.here hx hg hd hs k
theorem cat_ref {v : Value} (h : v.isRef = true) : v.category = 1 := by rcases ref_cases h with rfl | ⟨a, rfl⟩ <;> rfl
theorem nar_ref (C : String) {v : Value} (h : v.isRef = true) : narrow (.object C) v = v := rfl
theorem fits_obj {C : String} {v : Value} (h : v.isRef = true) : fits (.object C) v = true := by rcases ref_cases h with rfl | ⟨a, rfl⟩ <;> rfl
def FinW (p : Program) (e : Env) (below : List Frame) (s : State) (Q : Option Value → Heap → List Loc → Prop) (C S : Nat) (t : State) : Prop :=
  ∃ s₂ o, Steps p.tables e below t s₂ ∧ s₂.status = .running ∧ Ended s₂ below o ∧ ∃ v L, o = .returned v ∧ Q v s₂.heap L ∧ ReturnedEndW s o s₂ L C S
theorem FinW.by {Q : Option Value → Heap → List Loc → Prop} {C S : Nat} {a b : State} (h : ∀ t, Steps p.tables e below b t → Steps p.tables e below a t) (k : FinW p e below s Q C S b) : FinW p e below s Q C S a := by
  obtain ⟨s₂, o, h1, h2⟩ := k; exact ⟨s₂, o, h _ h1, h2⟩
theorem FinW.byS {Q : Option Value → Heap → List Loc → Prop} {C S : Nat} {a b : State} (h : Steps p.tables e below a b) (k : FinW p e below s Q C S b) : FinW p e below s Q C S a := FinW.by (fun _ k => h.trans k) k
theorem FinW.start {Q : Option Value → Heap → List Loc → Prop} {C S : Nat} {g g' : JFrame} (q : g = g') (k : FinW p e below s Q C S (T.setTop g')) :
    ∃ s₂ o, Steps p.tables e below (T.setTop g) s₂ ∧ s₂.status = .running ∧ Ended s₂ below o ∧ ∃ v L, o = .returned v ∧ Q v s₂.heap L ∧ ReturnedEndW s o s₂ L C S := by
  subst q; exact k
theorem FinW.ret {Q : Option Value → Heap → List Loc → Prop} {C S : Nat} {v : Option Value} {g : JFrame} {V : Vm} {n : Nat} (X : Stand p l e R (s.setVm V) m args below meth c T locs cells slots) (hS : s.Since V n) (hn : n ≤ T.heap.size) (hv : meth.sig.returnType = none → v = none) (hl : meth.locks = false)
    (hq : Q v T.heap locs) (hc : cells ≤ C) (hs : slots ≤ S) (st : ∀ fs, (∀ (f : JFrame) (acts : List Action), f.method = m → f.locked = none → f.entered = [] → (doReturn e (T.setTop f) acts v).1 = T.setFrames fs) → Steps p.tables e below (T.setTop g) (T.setFrames fs)) :
    FinW p e below s Q C S (T.setTop g) := by
  obtain ⟨fs, hr, hrun, hended, hE⟩ := X.leaveW hS hn hv hl
  exact ⟨_, _, st fs hr, hrun, hended, _, _, rfl, hq, hE.1, hE.2.1, hE.2.2.1, hE.2.2.2.mono hc hs⟩
def FinH (p : Program) (e : Env) (below : List Frame) (Z : State) (EL : List (String × Nat)) (s : State) (Q : Option Value → Heap → List Loc → Prop) (C S : Nat) (t : State) : Prop :=
  ∃ s₂ o, Steps p.tables e below t s₂ ∧ s₂.status = .running ∧ Ended s₂ below o ∧ ∃ v L, o = .returned v ∧ Q v s₂.heap L ∧ CHr Z EL s.vm s.heap s₂.vm s₂.heap ∧ ReturnedEndW s o s₂ L C S
theorem FinH.by {Z : State} {EL : List (String × Nat)} {Q : Option Value → Heap → List Loc → Prop} {C S : Nat} {a b : State} (h : ∀ t, Steps p.tables e below b t → Steps p.tables e below a t) (k : FinH p e below Z EL s Q C S b) : FinH p e below Z EL s Q C S a := by
  obtain ⟨s₂, o, h1, h2⟩ := k; exact ⟨s₂, o, h _ h1, h2⟩
theorem FinH.byS {Z : State} {EL : List (String × Nat)} {Q : Option Value → Heap → List Loc → Prop} {C S : Nat} {a b : State} (h : Steps p.tables e below a b) (k : FinH p e below Z EL s Q C S b) : FinH p e below Z EL s Q C S a := FinH.by (fun _ k => h.trans k) k
theorem FinH.start {Z : State} {EL : List (String × Nat)} {Q : Option Value → Heap → List Loc → Prop} {C S : Nat} {g g' : JFrame} (q : g = g') (k : FinH p e below Z EL s Q C S (T.setTop g')) :
    ∃ s₂ o, Steps p.tables e below (T.setTop g) s₂ ∧ s₂.status = .running ∧ Ended s₂ below o ∧ ∃ v L, o = .returned v ∧ Q v s₂.heap L ∧ CHr Z EL s.vm s.heap s₂.vm s₂.heap ∧ ReturnedEndW s o s₂ L C S := by
  subst q; exact k
theorem FinH.ret {Z : State} {EL : List (String × Nat)} {Q : Option Value → Heap → List Loc → Prop} {C S : Nat} {v : Option Value} {g : JFrame} {V : Vm} {n : Nat} (X : Stand p l e R (s.setVm V) m args below meth c T locs cells slots) (hS : s.Since V n) (hn : n ≤ T.heap.size) (hv : meth.sig.returnType = none → v = none) (hl : meth.locks = false)
    (hq : Q v T.heap locs) (hC : CHr Z EL s.vm s.heap T.vm T.heap) (hc : cells ≤ C) (hs : slots ≤ S) (st : ∀ fs, (∀ (f : JFrame) (acts : List Action), f.method = m → f.locked = none → f.entered = [] → (doReturn e (T.setTop f) acts v).1 = T.setFrames fs) → Steps p.tables e below (T.setTop g) (T.setFrames fs)) :
    FinH p e below Z EL s Q C S (T.setTop g) := by
  obtain ⟨fs, hr, hrun, hended, hE⟩ := X.leaveW hS hn hv hl
  exact ⟨_, _, st fs hr, hrun, hended, _, _, rfl, hq, hC, hE.1, hE.2.1, hE.2.2.1, hE.2.2.2.mono hc hs⟩
end OwnKit
theorem own_and255 (x : Int32) : ¬ (x &&& 255) < 0 ∧ ¬ (255 : Int32) < (x &&& 255) := by
  have h := c_and x 255 (by decide)
  have h255 : (255 : Int32).toInt = 255 := by decide
  have h0 : (0 : Int32).toInt = 0 := by decide
  constructor
  · rw [Int32.lt_iff_toInt_lt]; omega
  · rw [Int32.lt_iff_toInt_lt]; omega
theorem own_c255 (x : Int32) : ¬ (nar .char ((x &&& (255 : Int32)).toUInt32.toUInt16.toUInt32.toInt32)) < 0 ∧ ¬ (255 : Int32) < (nar .char ((x &&& (255 : Int32)).toUInt32.toUInt16.toUInt32.toInt32)) := by
  rw [show nar .char ((x &&& (255 : Int32)).toUInt32.toUInt16.toUInt32.toInt32) = x &&& 255 from by simp only [nar, i2c_mask]]; exact own_and255 x
theorem own_cons {P : Int32 → Prop} {a : Int32} {L : List Int32} (h : P a) (k : ∀ c ∈ L, P c) : ∀ c ∈ a :: L, P c := fun c hc => (List.mem_cons.mp hc).elim (fun q => q ▸ h) (k c)
theorem own_nil {P : Int32 → Prop} : ∀ c ∈ ([] : List Int32), P c := fun _ h => nomatch h
theorem own_up {cs : List Int32} (h : ∀ c ∈ cs, ¬ c < 0 ∧ ¬ (255 : Int32) < c) : ∀ c ∈ cs, ¬ c < 0 ∧ ¬ (65535 : Int32) < c := fun c hc => ⟨(h c hc).1, fun q => (h c hc).2 (Int32.lt_trans (by decide) q)⟩
theorem own_shr0 (x : Int32) : x >>> ((0 : Int32) &&& 31) = x := by
  rw [show ((0 : Int32) &&& 31) = 0 from by decide]; simp
def own_vs (cs : List Int32) : List Value := (cs.map (fun c => c.toInt8.toInt32)).map Value.int
theorem own_vl (cs : List Int32) : (own_vs cs).length = cs.length := by simp [own_vs]
theorem own_va (a b : List Int32) : own_vs (a ++ b) = own_vs a ++ own_vs b := by simp [own_vs]
theorem own_push {Z : State} {h h' : Heap} {a : Addr} {k : ClassId} {ty : FieldType} {z j : Int32} {vs : List Value} {dv v : Value} {c : Cell} (A : Arr Z h a c ty) (q1 : c.cls = k) (S : c.slots.size = z.toNatClampNeg) (q3 : ¬ z < 0) (H : Has c vs dv) (G : ∀ i, i < c.slots.size → fits ty (vs.getD i dv) = true) (hv : fits ty v = true) (W : Wr h h' a j.toNatClampNeg v) (hj : j.toNatClampNeg = vs.length) : Arv Z h' a k ty z (vs ++ [v]) dv := by
  have pr : ∀ i, (vs ++ [dv]).getD i dv = vs.getD i dv := pad_rep vs dv 1
  have q := Arv.set A q1 S q3 (vs := vs ++ [dv]) (dv := dv) (fun i hi => by rw [pr i]; exact H i hi) (fun i hi => by rw [pr i]; exact G i hi) hv W vs.length hj (by simp)
  have e : (vs ++ [dv]).set vs.length v = vs ++ [v] := by simp
  rw [e] at q; exact q
theorem own_lc (x : Int64) : lcmpW x x = 0 := by simp [lcmpW, Int64.lt_irrefl]
theorem own_s0 (x : Int64) : x - 0 = x := by simp
theorem own_exne {Z : State} {h : Heap} {a b : Addr} {C D : String} (E : Exa Z h a C) (F : Exa Z h b D) (n : C ≠ D) : a ≠ b := by
  intro q; subst q
  obtain ⟨c1, k1, e1, e2, -⟩ := E
  obtain ⟨c2, k2, f1, f2, -⟩ := F
  cases e1.symm.trans f1
  obtain ⟨x1, y1, y2⟩ := Vm.findClass_spec e2
  obtain ⟨x2, w1, w2⟩ := Vm.findClass_spec f2
  cases y1.symm.trans w1
  exact n (y2.symm.trans w2)
theorem own_arne {Z : State} {h : Heap} {a b : Addr} {k : ClassId} {ty : FieldType} {z : Int32} {vs : List Value} {dv : Value} {C : String} {n : Nat} {a0 : Array Value} (A : Arv Z h a k ty z vs dv) (E : Exa Z h b C) (w : (Cond.instantiable C n).before a0 Z = true) : a ≠ b := by
  intro q; subst q
  obtain ⟨cl, ⟨h1, ⟨h2, kk, hk, comp, hkind⟩, h3⟩, -⟩ := A
  obtain ⟨c1, k1, e1, e2, e3, -⟩ := E
  cases e1.symm.trans h1
  obtain ⟨q, kQ, hQ, hkQ, hki, -⟩ := Cond.instantiable_spec w
  cases e2.symm.trans hQ
  cases hk.symm.trans hkQ
  rw [hkind] at hki
  cases hki
theorem own_selpriv {s : State} {args : Array Value} {C : String} {x z y : MethodName} (hz : (Cond.selects C x z).before args s = true) (hc : z.cls = y.cls) (hpriv : s.PrivateAt y) (hinst : (Cond.instanceMethod y).before args s = true) (hy : y.cls ≠ "java/lang/invoke/MethodHandle" ∧ y.cls ≠ "java/lang/invoke/VarHandle") : (Cond.selects y.cls y y).before args s = true := by
  obtain ⟨c, r, m, h1, h2, h3, h4, k, hk, hki⟩ := Cond.selects_spec hz
  exact Stand.selects_self_of_private (hc ▸ findClass_of_methodNamed h3) hk hki hpriv hinst hy
theorem own_face {s : State} {args : Array Value} {C : String} {x z y : MethodName} (hz : (Cond.selects C x z).before args s = true) (hc : z.cls = y.cls) : NotFace s y := fun r0 h0 => by
  obtain ⟨c, r, m, h1, h2, h3, h4, k, hk, hki⟩ := Cond.selects_spec hz
  have e1 := findClass_of_methodNamed h0
  have e2 := findClass_of_methodNamed h3
  rw [hc] at e2
  have q : r0.cls = m.cls := Option.some.inj (e1.symm.trans e2)
  exact ⟨k, by rw [q]; exact hk, hki⟩
theorem own_same {s : State} {args : Array Value} {C : String} {x z y : MethodName} (hz : (Cond.selects C x z).before args s = true) (hc : z.cls = y.cls) (hinst : (Cond.instanceMethod y).before args s = true) (hy : y.cls ≠ "java/lang/invoke/MethodHandle" ∧ y.cls ≠ "java/lang/invoke/VarHandle") : (Cond.sameMethod y.cls y.cls y.name y.desc).before args s = true := by
  obtain ⟨c, r, m, h1, h2, h3, h4, k, hk, hki⟩ := Cond.selects_spec hz
  obtain ⟨mk, methM, hnamed, hmethM, -, -⟩ := Cond.instanceMethod_spec hinst
  have hfound : s.methodFound? y.cls y.name y.desc = some mk := State.methodFound?_of_named hnamed hy
  have e2 := findClass_of_methodNamed h3
  rw [hc] at e2
  have hn' : s.methodNamed? ⟨y.cls, y.name, y.desc⟩ = some mk := hnamed
  simp only [Cond.before, Cond.holds, Cond.value, e2, hfound, hn', hk]
  simp [hki]
theorem own_rng (ws : List Value) (d : Value) (n : Nat) (h : ws.length ≤ n) : ((List.range n).map fun i => ws.getD (0 + i) d) = ws ++ List.replicate (n - ws.length) d := by
  apply List.ext_getElem
  · simp; omega
  · intro i h1 h2
    simp only [List.getElem_map, List.getElem_range, Nat.zero_add, List.getD_eq_getElem?_getD]
    by_cases q : i < ws.length
    · rw [List.getElem_append_left q, List.getElem?_eq_getElem q]; rfl
    · rw [List.getElem_append_right (by omega), List.getElem?_eq_none (by omega)]; simp
section OwnCp
variable {p : Program} {l : Launch} {e : Env} {R : Room} {s : State} {m : MethodId} {args : Array Value} {below : List Frame} {meth : Method} {c : Code} {T : State} {locs : List Loc} {cells slots : Nat} {Z : State} {h : Heap} {a b : Addr}
theorem own_cp (X : Stand p l e R s m args below meth c T locs cells slots) (hx : p.tables.exec = Jvm.exec) (hZ : Z.Warmed39 s.vm) {a0 : Array Value} {own : String} {index : Nat} (hown : s.vm.findClass own = some m.cls)
    (w1 : (Cond.methodLink own index Jvm.Stand.acN).before a0 Z = true) (w2 : (Cond.native Jvm.Stand.acN).before a0 Z = true) (w3 : (Cond.static Jvm.Stand.acN).before a0 Z = true) (w4 : (Cond.initialized "java/lang/System").before a0 Z = true) (eT : T.heap = h)
    {k k' : ClassId} {z z' dp nn : Int32} {ws vd : List Value} (A : Arv Z h a k .byte z ws (.int 0)) (B : Arv Z h b k' .byte z' vd (.int 0)) (h2 : ¬ dp < 0) (h3 : ¬ nn < 0) (h4 : nn.toNatClampNeg ≤ z.toNatClampNeg) (h5 : dp.toNatClampNeg + nn.toNatClampNeg ≤ z'.toNatClampNeg)
    (hd : dp.toNatClampNeg = vd.length) (hw : ws.length ≤ nn.toNatClampNeg) {n0 : Nat} (N : Fr n0 locs) (ge : n0 ≤ b)
    {g : JFrame} (hg : g.method = m) (hsize : g.locals.size = c.maxLocals) {rest : List Value} (hs : g.stack = .int nn :: .int dp :: .ref b :: .int 0 :: .ref a :: rest) (hdd : decode c.code g.pc = .ok (.invokestatic index, 3))
    (hf : 1 ≤ R.frames) {W : Nat} (hW : 2 * g.monitorRoom + (rest.map fun v => v.category).sum ≤ W) (hlo : W + (nativeFrameWords "java/lang/System" "arraycopy" 5 + 11) ≤ R.locals) :
    ∃ T' h' L, Stand p l e R s m args below meth c T' L cells slots ∧ T'.heap = h' ∧ Fr n0 L ∧ Keep h h' [b] ∧ Arv Z h' b k' .byte z' (vd ++ ws) (.int 0) ∧
      ∀ target, Steps p.tables e below (T'.setTop { g with pc := g.pc + 3, stack := rest }) target → Steps p.tables e below (T.setTop g) target := by
  have B' := B.pad (vs' := vd ++ List.replicate nn.toNatClampNeg (.int 0)) (pad_rep vd _ _)
  have z0 : (0 : Int32).toNatClampNeg = 0 := rfl
  obtain ⟨T', h', L, X', e', N', K, V, st⟩ := cpA (sp := 0) X hx hZ hown w1 w2 w3 w4 eT A B' (Or.inl ⟨rfl, rfl⟩) (by decide) h2 h3 (by rw [z0]; omega) h5 rfl (by rw [List.length_append, List.length_replicate]; omega) N ge hg hsize hs hdd hf hW hlo
  refine ⟨T', h', L, X', e', N', K, V.pad (fun i => ?_), st⟩
  have e1 : (vd ++ List.replicate nn.toNatClampNeg (Value.int 0)).take dp.toNatClampNeg = vd := by rw [hd]; simp
  have e2 : (vd ++ List.replicate nn.toNatClampNeg (Value.int 0)).drop (dp.toNatClampNeg + nn.toNatClampNeg) = [] := by rw [List.drop_eq_nil_iff, List.length_append, List.length_replicate]; omega
  rw [e1, e2, List.append_nil, z0, own_rng ws _ _ hw, ← List.append_assoc]
  exact (pad_rep (vd ++ ws) _ _ i).symm
end OwnCp
set_option maxRecDepth 65536 in
theorem own_EW0 {Z : State} {a0 : Array Value} (hw : ∀ d ∈ tables_1, d.before a0 Z = true) : EW Z a0 consts_1 := (EW.cons (w_ hw 132 rfl) (by decide +kernel) EW.nil)
theorem own_strAtoms : ∀ d ∈ Bundle.stringAtoms, d ∈ tables_1 := by decide +kernel
abbrev y_0 : MethodName := (⟨"java/lang/AbstractStringBuilder", "<init>", "(I)V"⟩ : MethodName)
theorem d0_0 : decode jdk_68_method_2_code 0 = .ok (.aload_n 0, 1) := by decide +kernel
theorem d0_1 : decode jdk_68_method_2_code 1 = .ok (.invokespecial 3, 3) := by decide +kernel
theorem d0_4 : decode jdk_68_method_2_code 4 = .ok (.getstatic 18, 3) := by decide +kernel
theorem d0_7 : decode jdk_68_method_2_code 7 = .ok (.ifCond .eq 18, 3) := by decide +kernel
theorem d0_10 : decode jdk_68_method_2_code 10 = .ok (.aload_n 0, 1) := by decide +kernel
theorem d0_11 : decode jdk_68_method_2_code 11 = .ok (.iload_n 1, 1) := by decide +kernel
theorem d0_12 : decode jdk_68_method_2_code 12 = .ok (.newarray .byte, 2) := by decide +kernel
theorem d0_14 : decode jdk_68_method_2_code 14 = .ok (.putfield 15, 3) := by decide +kernel
theorem d0_17 : decode jdk_68_method_2_code 17 = .ok (.aload_n 0, 1) := by decide +kernel
theorem d0_18 : decode jdk_68_method_2_code 18 = .ok (.iconst 0, 1) := by decide +kernel
theorem d0_19 : decode jdk_68_method_2_code 19 = .ok (.putfield 22, 3) := by decide +kernel
theorem d0_22 : decode jdk_68_method_2_code 22 = .ok (.goto 16, 3) := by decide +kernel
theorem d0_38 : decode jdk_68_method_2_code 38 = .ok (.return_, 1) := by decide +kernel
theorem pn_java_lang_AbstractStringBuilder : plainName "java/lang/AbstractStringBuilder" = true := by first | (simp [plainName, overriddenIn]; done) | decide +kernel
def Q_abi (Z : State) (a : Addr) (G1 : Int32) (h0 : Heap) (n0 : Nat) (vv_ : Option Value) (hh_ : Heap) (LL_ : List Loc) : Prop := ∃ (v : Addr), ∃ (kv : ClassId), vv_ = none ∧ Fr n0 LL_ ∧ Keep h0 hh_ [a] ∧ h0.size ≤ v ∧ Exa Z hh_ a "java/lang/StringBuilder" ∧ Fld Z hh_ a "java/lang/AbstractStringBuilder" "value" "[B" (.ref v) ∧ Fld Z hh_ a "java/lang/AbstractStringBuilder" "coder" "B" (.int (0 : Int32)) ∧ Fld Z hh_ a "java/lang/AbstractStringBuilder" "count" "I" (.int (0 : Int32)) ∧ Arv Z hh_ v kv .byte (16 : Int32) [] (.int 0) ∧ Fld Z hh_ a "java/lang/AbstractStringBuilder" "maybeLatin1" "Z" (.int (0 : Int32))
set_option maxRecDepth 65536 in
set_option maxHeartbeats 40000000 in
theorem rm_abi (l : Launch) (Z : State) (a0 : Array Value) (hw : ∀ d ∈ tables_1, d.before a0 Z = true) (ws : List Jvm.Cond) (a : Addr) (G1 : Int32) (h0 : Heap) (n0 : Nat) (Z0 : n0 ≤ h0.size) (E0 : Exa Z h0 a "java/lang/StringBuilder") (F0 : Fld Z h0 a "java/lang/AbstractStringBuilder" "value" "[B" .null) (F1 : Fld Z h0 a "java/lang/AbstractStringBuilder" "coder" "B" (.int (0 : Int32))) (F2 : Fld Z h0 a "java/lang/AbstractStringBuilder" "count" "I" (.int (0 : Int32))) (ga : n0 ≤ a) (F9 : Fld Z h0 a "java/lang/AbstractStringBuilder" "maybeLatin1" "Z" (.int (0 : Int32))) (S1 : Sta Z Z.heap "java/lang/String" "COMPACT_STRINGS" "Z" (.int G1)) (P1 : ¬ G1 = 0) (OL : Old Z n0 h0) :
    MetFree l y_0 (head1 (Jvm.Cond.code y_0 jdk_68_method_2_code 2 none :: ws) ({ frames := 1, cells := 1, slots := 16, locals := 12 } : Room)) (fun aa_ U => aa_ = #[(.ref a), (.int (16 : Int32))] ∧ Z.Warmed39 U.vm ∧ U.heap = h0) (fun _ _ _ _ _ => True) (fun _ U o U' => ∃ vv_ LL_, o = .returned vv_ ∧ Q_abi Z a G1 h0 n0 vv_ U'.heap LL_ ∧ FrameEnd U o U' LL_ 1 16) := by
  refine MetFree.of_bodySF (plainFor_of_name pn_java_lang_AbstractStringBuilder) hisR ?_
  intro p e s m args below meth c s₁ Bd hml0 hP hK
  obtain ⟨rfl, hZ, hh⟩ := hP
  have hx := Bd.exec
  have hby := Bd.bytes
  have hml : c.maxLocals = 2 := hml0
  have hown : s.vm.findClass "java/lang/AbstractStringBuilder" = some m.cls := findClass_of_methodNamed Bd.named
  have hnm := (name_of_methodNamed Bd.named Bd.method).1
  have X0 : Stand p l e ({ frames := 1, cells := 1, slots := 16, locals := 12 } : Room) s m #[(.ref a), (.int (16 : Int32))] below meth c s₁ [] 0 0 := Stand.of_body Bd
  have e0 : s₁.heap = h0 := by rw [← hh, Bd.state]; rfl
  have N0 := Fr.nil n0
  have ef : entryFrame m #[(.ref a), (.int (16 : Int32))] 2 = mkF m 0 #[.val (.ref a), .val (.int (16 : Int32))] [] := by first | (simp [entryFrame, mkF, argsToLocals, Value.category]; done) | rfl
  refine Fin.start (Q := Q_abi Z a G1 h0 n0) ef ?_
  refine Fin.by (fun tt_ kk_ => XS.aloadN X0.here hx rfl (hb hby d0_0) rfl rfl kk_) ?_
  obtain ⟨T101, X101, e101, st101⟩ := initO X0 hx hZ hown (w_ hw 28 rfl) (w_ hw 7 rfl) (w_ hw 8 rfl) e0 (g := (mkF m 1 #[.val (.ref a), .val (.int 16)] [(.ref a)])) rfl (by rw [hml]; rfl) rfl (hb hby d0_1) (by decide) (W := 0) (by show 2 * 0 + _ ≤ _; exact Nat.le_of_eq rfl) (by decide)
  refine Fin.by (fun tt_ kk_ => st101 tt_ kk_) ?_
  obtain ⟨T102, X102, e102, st102⟩ := getS X101 hx hZ (host := "") hown (w_ hw 29 rfl) Via.refl e101 (S1.ext OL.2) (g := (mkF m 4 #[.val (.ref a), .val (.int 16)] [])) rfl (hb hby d0_4)
  refine Fin.by (fun tt_ kk_ => st102 tt_ kk_) ?_
  show Fin _ _ _ _ _ _ _ (T102.setTop (mkF m 7 #[.val (.ref a), .val (.int 16)] [(.int G1)]))
  refine Fin.by (fun tt_ kk_ => XS.ifNo X102.here hx rfl (hb hby d0_7) rfl ((if0 _ _).trans (feq (P1 : ¬ G1 = (0 : Int32))).1) kk_) ?_
  refine Fin.by (fun tt_ kk_ => XS.aloadN X102.here hx rfl (hb hby d0_10) rfl rfl (XS.iloadN X102.here hx rfl (hb hby d0_11) rfl kk_)) ?_
  obtain ⟨T103, h103, k103, X103, e103, E103, A103, st103⟩ := newP X102 hx hZ (w_ hw 31 rfl) e102 (g := (mkF m 12 #[.val (.ref a), .val (.int 16)] [(.int 16), (.ref a)])) rfl (hb hby d0_12) rfl (by decide) (cap := 16) (by decide) (by decide) (by decide) (by decide)
  obtain ⟨a103, g103⟩ : ∃ z, z = h0.size := ⟨_, rfl⟩
  rw [← g103] at A103 st103
  refine Fin.by (fun tt_ kk_ => st103 tt_ kk_) ?_
  have V103 : Arv Z h103 a103 k103 .byte (16 : Int32) [] (.int (0 : Int32)) := Arv.new A103 (by decide)
  have F104 : Fld Z h103 a "java/lang/AbstractStringBuilder" "value" "[B" .null := (F0.ext E103)
  have E105 : Exa Z h103 a "java/lang/StringBuilder" := (E0.ext E103)
  obtain ⟨T106, h106, X106, e106, W106, st106⟩ := putF X103 hx hZ hown (host := "") (Or.inl (w_ hw 32 rfl)) Via.refl e103 F104 E105 (Or.inl (w_ hw 33 rfl)) (w_ hw 17 rfl) (ty := (.array .byte)) (by decide) rfl rfl (g := (mkF m 14 #[.val (.ref a), .val (.int 16)] [(.ref a103), (.ref a)])) rfl rfl (hb hby d0_14)
  refine Fin.by (fun tt_ kk_ => st106 tt_ kk_) ?_
  have N106_ := Fr.snoc X106 N0 ga
  refine Fin.by (fun tt_ kk_ => XS.aloadN X106.here hx rfl (hb hby d0_17) rfl rfl (XS.iconst X106.here hx rfl (hb hby d0_18) kk_)) ?_
  have F107 : Fld Z h106 a "java/lang/AbstractStringBuilder" "coder" "B" (.int (0 : Int32)) := ((F1.ext E103).other W106 (Or.inr (slot_ne (Or.inl (w_ hw 35 rfl)) (Or.inl (w_ hw 33 rfl)) (by decide) (t := .byte) (t' := (.array .byte)) (by decide) (by decide))))
  have E108 : Exa Z h106 a "java/lang/StringBuilder" := (E105.wr W106)
  obtain ⟨T109, h109, X109, e109, W109, st109⟩ := putFN X106 hx hZ hown (w_ hw 34 rfl) Via.refl e106 F107 E108 (Or.inl (w_ hw 35 rfl)) (w_ hw 17 rfl) (ty := .byte) (v' := .int (0 : Int32)) (by decide) rfl rfl (g := (mkF m 19 #[.val (.ref a), .val (.int 16)] [(.int 0), (.ref a)])) rfl rfl (hb hby d0_19)
  refine Fin.by (fun tt_ kk_ => st109 tt_ kk_) ?_
  have N109_ := Fr.snoc X109 N106_ ga
  refine Fin.by (fun tt_ kk_ => XS.goto X109.here hx rfl (pc0 := 22) (pc' := 38) rfl (hb hby d0_22) (by decide) (by decide) kk_) ?_
  have kp110 : Keep h0 h103 [a] := (Keep.refl h0 [a]).ext E103
  have kp111 : Keep h0 h106 [a] := kp110.wr W106 (Or.inl (List.mem_of_getElem? (i := 0) rfl))
  have kp112 : Keep h0 h109 [a] := kp111.wr W109 (Or.inl (List.mem_of_getElem? (i := 0) rfl))
  have E113 : Exa Z h109 a "java/lang/StringBuilder" := (E108.wr W109)
  have F114 : Fld Z h109 a "java/lang/AbstractStringBuilder" "value" "[B" (.ref a103) := ((F104.same W106).other W109 (Or.inr (slot_ne (Or.inl (w_ hw 33 rfl)) (Or.inl (w_ hw 35 rfl)) (by decide) (t := (.array .byte)) (t' := .byte) (by decide) (by decide))))
  have F115 : Fld Z h109 a "java/lang/AbstractStringBuilder" "count" "I" (.int (0 : Int32)) := (((F2.ext E103).other W106 (Or.inr (slot_ne (Or.inl (w_ hw 89 rfl)) (Or.inl (w_ hw 33 rfl)) (by decide) (t := .int) (t' := (.array .byte)) (by decide) (by decide)))).other W109 (Or.inr (slot_ne (Or.inl (w_ hw 89 rfl)) (Or.inl (w_ hw 35 rfl)) (by decide) (t := .int) (t' := .byte) (by decide) (by decide))))
  have ne116 : a ≠ a103 := Nat.ne_of_lt (Nat.lt_of_lt_of_le E0.lt (Nat.le_of_eq g103.symm))
  have A117 : Arv Z h109 a103 k103 .byte (16 : Int32) [] (.int (0 : Int32)) := ((V103.other W106 (Ne.symm ne116)).other W109 (Ne.symm ne116))
  have F118 : Fld Z h109 a "java/lang/AbstractStringBuilder" "maybeLatin1" "Z" (.int (0 : Int32)) := (((F9.ext E103).other W106 (Or.inr (slot_ne (Or.inl (w_ hw 273 rfl)) (Or.inl (w_ hw 33 rfl)) (by decide) (t := .boolean) (t' := (.array .byte)) (by decide) (by decide)))).other W109 (Or.inr (slot_ne (Or.inl (w_ hw 273 rfl)) (Or.inl (w_ hw 35 rfl)) (by decide) (t := .boolean) (t' := .byte) (by decide) (by decide))))
  show Fin _ _ _ _ _ _ _ (T109.setTop (mkF m 38 #[.val (.ref a), .val (.int 16)] []))
  exact Fin.ret (v := none) X109 (fun _ => rfl) Bd.notSynchronized (by rw [e109]; exact ⟨a103, k103, rfl, N109_, kp112, (Nat.le_trans (Nat.le_refl _) (Nat.le_of_eq g103.symm)), E113, F114, (F107.same W109), F115, A117, F118⟩) (by decide) (by decide) (fun fs hr => X109.returnOut hx Bd.returns (hb hby d0_38) hr)
abbrev y_1 : MethodName := (⟨"java/lang/StringBuilder", "<init>", "()V"⟩ : MethodName)
theorem d1_0 : decode jdk_67_method_1_code 0 = .ok (.aload_n 0, 1) := by decide +kernel
theorem d1_1 : decode jdk_67_method_1_code 1 = .ok (.bipush 16, 2) := by decide +kernel
theorem pd_16 : parseMethodDescriptor "(I)V" = some ⟨[.int], none⟩ := by decide +kernel
theorem d1_3 : decode jdk_67_method_1_code 3 = .ok (.invokespecial 1, 3) := by decide +kernel
theorem d1_6 : decode jdk_67_method_1_code 6 = .ok (.return_, 1) := by decide +kernel
theorem pn_java_lang_StringBuilder : plainName "java/lang/StringBuilder" = true := by first | (simp [plainName, overriddenIn]; done) | decide +kernel
def Q_sbi (Z : State) (a : Addr) (G1 : Int32) (h0 : Heap) (n0 : Nat) (vv_ : Option Value) (hh_ : Heap) (LL_ : List Loc) : Prop := ∃ (v : Addr), ∃ (kv : ClassId), vv_ = none ∧ Fr n0 LL_ ∧ Keep h0 hh_ [a] ∧ h0.size ≤ v ∧ Exa Z hh_ a "java/lang/StringBuilder" ∧ Fld Z hh_ a "java/lang/AbstractStringBuilder" "value" "[B" (.ref v) ∧ Fld Z hh_ a "java/lang/AbstractStringBuilder" "coder" "B" (.int (0 : Int32)) ∧ Fld Z hh_ a "java/lang/AbstractStringBuilder" "count" "I" (.int (0 : Int32)) ∧ Arv Z hh_ v kv .byte (16 : Int32) [] (.int 0) ∧ Fld Z hh_ a "java/lang/AbstractStringBuilder" "maybeLatin1" "Z" (.int (0 : Int32))
set_option maxRecDepth 65536 in
set_option maxHeartbeats 40000000 in
theorem rm_sbi (l : Launch) (Z : State) (a0 : Array Value) (hw : ∀ d ∈ tables_1, d.before a0 Z = true) (ws : List Jvm.Cond) (a : Addr) (G1 : Int32) (h0 : Heap) (n0 : Nat) (Z0 : n0 ≤ h0.size) (E0 : Exa Z h0 a "java/lang/StringBuilder") (F0 : Fld Z h0 a "java/lang/AbstractStringBuilder" "value" "[B" .null) (F1 : Fld Z h0 a "java/lang/AbstractStringBuilder" "coder" "B" (.int (0 : Int32))) (F2 : Fld Z h0 a "java/lang/AbstractStringBuilder" "count" "I" (.int (0 : Int32))) (ga : n0 ≤ a) (F9 : Fld Z h0 a "java/lang/AbstractStringBuilder" "maybeLatin1" "Z" (.int (0 : Int32))) (S1 : Sta Z Z.heap "java/lang/String" "COMPACT_STRINGS" "Z" (.int G1)) (P1 : ¬ G1 = 0) (OL : Old Z n0 h0) :
    MetFree l y_1 (head1 (Jvm.Cond.code y_1 jdk_67_method_1_code 1 none :: ws) ({ frames := 2, cells := 1, slots := 16, locals := 25 } : Room)) (fun aa_ U => aa_ = #[(.ref a)] ∧ Z.Warmed39 U.vm ∧ U.heap = h0) (fun _ _ _ _ _ => True) (fun _ U o U' => ∃ vv_ LL_, o = .returned vv_ ∧ Q_sbi Z a G1 h0 n0 vv_ U'.heap LL_ ∧ FrameEnd U o U' LL_ 1 16) := by
  refine MetFree.of_bodySF (plainFor_of_name pn_java_lang_StringBuilder) hisR ?_
  intro p e s m args below meth c s₁ Bd hml0 hP hK
  obtain ⟨rfl, hZ, hh⟩ := hP
  have hx := Bd.exec
  have hby := Bd.bytes
  have hml : c.maxLocals = 1 := hml0
  have hown : s.vm.findClass "java/lang/StringBuilder" = some m.cls := findClass_of_methodNamed Bd.named
  have hnm := (name_of_methodNamed Bd.named Bd.method).1
  have X0 : Stand p l e ({ frames := 2, cells := 1, slots := 16, locals := 25 } : Room) s m #[(.ref a)] below meth c s₁ [] 0 0 := Stand.of_body Bd
  have e0 : s₁.heap = h0 := by rw [← hh, Bd.state]; rfl
  have N0 := Fr.nil n0
  have ef : entryFrame m #[(.ref a)] 1 = mkF m 0 #[.val (.ref a)] [] := by first | (simp [entryFrame, mkF, argsToLocals, Value.category]; done) | rfl
  refine Fin.start (Q := Q_sbi Z a G1 h0 n0) ef ?_
  refine Fin.by (fun tt_ kk_ => XS.aloadN X0.here hx rfl (hb hby d1_0) rfl rfl (XS.bipush X0.here hx rfl (hb hby d1_1) kk_)) ?_
  obtain ⟨v101, _, ⟨T101, L101, k101, n101⟩, -, X101, ⟨Lc101, hQ101, l101, y101, z101⟩, st101⟩ := X0.specialBack hx (y := y_0) rfl hown (mvT hZ (w_ hw 22 rfl)) (mvT hZ (w_ hw 23 rfl)) (mvT hZ (w_ hw 27 rfl)) (by decide) (backOf (W := 0) (rm_abi l Z a0 hw [] a G1 h0 n0 Z0 E0 F0 F1 F2 ga F9 S1 P1 OL) hZ (w_ hw 27 rfl) (w_ hw 26 rfl) (by decide) (by decide)) (g := (mkF m 3 #[.val (.ref a)] [(.int 16), (.ref a)])) rfl (by rw [hml]; rfl) (Steps.refl _) (a := a) (argsL := [(.int 16)]) (rest := []) (lenOf pd_16 rfl) rfl (by show 2 * 0 + _ ≤ _; exact Nat.le_of_eq rfl) (hb hby d1_3) (fun _ _ => ⟨rfl, e0, (by decide : 0 + 1 ≤ _), (by decide : 0 + 16 ≤ _)⟩)
  dsimp only [Pt.U, Pt.locs, Pt.cells, Pt.slots] at X101 l101 y101 z101 st101 hQ101
  subst l101 y101 z101
  obtain ⟨v102, kv103, rfl, Nq101, p101_0, p101_1, p101_2, p101_3, p101_4, p101_5, p101_6, p101_7⟩ := hQ101
  have N101_ := Fr.app N0 Nq101
  refine Fin.byS st101 ?_
  have kp104 : Keep h0 T101.heap [a] := (Keep.refl h0 [a]).trans p101_0 (allS (Or.inl (List.mem_of_getElem? (i := 0) rfl)) all0)
  show Fin _ _ _ _ _ _ _ (T101.setTop (mkF m 6 #[.val (.ref a)] []))
  exact Fin.ret (v := none) X101 (fun _ => rfl) Bd.notSynchronized (⟨v102, kv103, rfl, N101_, kp104, (Nat.le_trans (Nat.le_refl _) p101_1), p101_2, p101_3, p101_4, p101_5, p101_6, p101_7⟩) (by decide) (by decide) (fun fs hr => X101.returnOut hx Bd.returns (hb hby d1_6) hr)
abbrev y_2 : MethodName := (⟨"com/example/colonnade/colonnade/TextSpool", "<init>", "(I)V"⟩ : MethodName)
theorem d2_0 : decode prog_103_method_1_code 0 = .ok (.aload_n 0, 1) := by decide +kernel
theorem d2_1 : decode prog_103_method_1_code 1 = .ok (.invokespecial 1, 3) := by decide +kernel
theorem d2_4 : decode prog_103_method_1_code 4 = .ok (.aload_n 0, 1) := by decide +kernel
theorem d2_5 : decode prog_103_method_1_code 5 = .ok (.new 7, 3) := by decide +kernel
theorem d2_8 : decode prog_103_method_1_code 8 = .ok (.dup, 1) := by decide +kernel
theorem pd_25 : parseMethodDescriptor "()V" = some ⟨[], none⟩ := by decide +kernel
theorem d2_9 : decode prog_103_method_1_code 9 = .ok (.invokespecial 9, 3) := by decide +kernel
theorem d2_12 : decode prog_103_method_1_code 12 = .ok (.putfield 10, 3) := by decide +kernel
theorem d2_15 : decode prog_103_method_1_code 15 = .ok (.aload_n 0, 1) := by decide +kernel
theorem d2_16 : decode prog_103_method_1_code 16 = .ok (.iload_n 1, 1) := by decide +kernel
theorem d2_17 : decode prog_103_method_1_code 17 = .ok (.putfield 16, 3) := by decide +kernel
theorem d2_20 : decode prog_103_method_1_code 20 = .ok (.return_, 1) := by decide +kernel
theorem pn_com_example_colonnade_colonnade_TextSpool : plainName "com/example/colonnade/colonnade/TextSpool" = true := by first | (simp [plainName, overriddenIn]; done) | decide +kernel
def Q_tsi (Z : State) (b : Addr) (G1 : Int32) (h0 : Heap) (n0 : Nat) (vv_ : Option Value) (hh_ : Heap) (LL_ : List Loc) : Prop := ∃ (sb : Addr), ∃ (v : Addr), ∃ (kv : ClassId), vv_ = none ∧ Fr n0 LL_ ∧ Keep h0 hh_ [b] ∧ h0.size ≤ sb ∧ h0.size ≤ v ∧ sb ≠ v ∧ Exa Z hh_ b "com/example/colonnade/colonnade/TextSpool" ∧ Fld Z hh_ b "com/example/colonnade/colonnade/TextSpool" "chars" "Ljava/lang/StringBuilder;" (.ref sb) ∧ Fld Z hh_ b "com/example/colonnade/colonnade/TextSpool" "charsInMemory" "I" (.int (1000 : Int32)) ∧ Fld Z hh_ b "com/example/colonnade/colonnade/TextSpool" "file" "Lcom/example/colonnade/colonnade/SpoolFile;" .null ∧ Exa Z hh_ sb "java/lang/StringBuilder" ∧ Fld Z hh_ sb "java/lang/AbstractStringBuilder" "value" "[B" (.ref v) ∧ Fld Z hh_ sb "java/lang/AbstractStringBuilder" "coder" "B" (.int (0 : Int32)) ∧ Fld Z hh_ sb "java/lang/AbstractStringBuilder" "count" "I" (.int (0 : Int32)) ∧ Fld Z hh_ sb "java/lang/AbstractStringBuilder" "maybeLatin1" "Z" (.int (0 : Int32)) ∧ Arv Z hh_ v kv .byte (16 : Int32) [] (.int 0)
set_option maxRecDepth 65536 in
set_option maxHeartbeats 40000000 in
theorem rm_tsi (l : Launch) (Z : State) (a0 : Array Value) (hw : ∀ d ∈ tables_1, d.before a0 Z = true) (ws : List Jvm.Cond) (b : Addr) (G1 : Int32) (h0 : Heap) (n0 : Nat) (Z0 : n0 ≤ h0.size) (B0 : Exa Z h0 b "com/example/colonnade/colonnade/TextSpool") (B1 : Fld Z h0 b "com/example/colonnade/colonnade/TextSpool" "chars" "Ljava/lang/StringBuilder;" .null) (B2 : Fld Z h0 b "com/example/colonnade/colonnade/TextSpool" "charsInMemory" "I" (.int (0 : Int32))) (B3 : Fld Z h0 b "com/example/colonnade/colonnade/TextSpool" "file" "Lcom/example/colonnade/colonnade/SpoolFile;" .null) (gb : n0 ≤ b) (S1 : Sta Z Z.heap "java/lang/String" "COMPACT_STRINGS" "Z" (.int G1)) (P1 : ¬ G1 = 0) (OL : Old Z n0 h0) :
    MetFree l y_2 (head1 (Jvm.Cond.code y_2 prog_103_method_1_code 2 none :: ws) ({ frames := 3, cells := 2, slots := 20, locals := 39 } : Room)) (fun aa_ U => aa_ = #[(.ref b), (.int (1000 : Int32))] ∧ Z.Warmed39 U.vm ∧ U.heap = h0) (fun _ _ _ _ _ => True) (fun _ U o U' => ∃ vv_ LL_, o = .returned vv_ ∧ Q_tsi Z b G1 h0 n0 vv_ U'.heap LL_ ∧ FrameEnd U o U' LL_ 2 20) := by
  refine MetFree.of_bodySF (plainFor_of_name pn_com_example_colonnade_colonnade_TextSpool) hisR ?_
  intro p e s m args below meth c s₁ Bd hml0 hP hK
  obtain ⟨rfl, hZ, hh⟩ := hP
  have hx := Bd.exec
  have hby := Bd.bytes
  have hml : c.maxLocals = 2 := hml0
  have hown : s.vm.findClass "com/example/colonnade/colonnade/TextSpool" = some m.cls := findClass_of_methodNamed Bd.named
  have hnm := (name_of_methodNamed Bd.named Bd.method).1
  have X0 : Stand p l e ({ frames := 3, cells := 2, slots := 20, locals := 39 } : Room) s m #[(.ref b), (.int (1000 : Int32))] below meth c s₁ [] 0 0 := Stand.of_body Bd
  have e0 : s₁.heap = h0 := by rw [← hh, Bd.state]; rfl
  have N0 := Fr.nil n0
  have ef : entryFrame m #[(.ref b), (.int (1000 : Int32))] 2 = mkF m 0 #[.val (.ref b), .val (.int (1000 : Int32))] [] := by first | (simp [entryFrame, mkF, argsToLocals, Value.category]; done) | rfl
  refine Fin.start (Q := Q_tsi Z b G1 h0 n0) ef ?_
  refine Fin.by (fun tt_ kk_ => XS.aloadN X0.here hx rfl (hb hby d2_0) rfl rfl kk_) ?_
  obtain ⟨T101, X101, e101, st101⟩ := initO X0 hx hZ hown (w_ hw 15 rfl) (w_ hw 7 rfl) (w_ hw 8 rfl) e0 (g := (mkF m 1 #[.val (.ref b), .val (.int 1000)] [(.ref b)])) rfl (by rw [hml]; rfl) rfl (hb hby d2_1) (by decide) (W := 0) (by show 2 * 0 + _ ≤ _; exact Nat.le_of_eq rfl) (by decide)
  refine Fin.by (fun tt_ kk_ => st101 tt_ kk_) ?_
  refine Fin.by (fun tt_ kk_ => XS.aloadN X101.here hx rfl (hb hby d2_4) rfl rfl kk_) ?_
  obtain ⟨T102, h102, X102, e102, E102, A102, D102, -, st102⟩ := newO X101 hx hZ hown (w_ hw 16 rfl) (w_ hw 17 rfl) (w_ hw 18 rfl) e101 (g := (mkF m 5 #[.val (.ref b), .val (.int 1000)] [(.ref b)])) rfl (hb hby d2_5) (by decide) (by decide)
  obtain ⟨a102, g102⟩ : ∃ z, z = h0.size := ⟨_, rfl⟩
  rw [← g102] at A102 D102 st102
  refine Fin.by (fun tt_ kk_ => st102 tt_ kk_) ?_
  refine Fin.by (fun tt_ kk_ => XS.dup X102.here hx rfl (hb hby d2_8) rfl rfl kk_) ?_
  have g103 : n0 ≤ a102 := Nat.le_trans Z0 (Nat.le_of_eq g102.symm)
  have O104 : Old Z n0 h102 := (OL.ext E102)
  have z105 : n0 ≤ h102.size := Nat.le_trans Z0 E102.1
  obtain ⟨v106, _, ⟨T106, L106, k106, n106⟩, -, X106, ⟨Lc106, hQ106, l106, y106, z106⟩, st106⟩ := X102.specialBack hx (y := y_1) rfl hown (mvT hZ (w_ hw 19 rfl)) (mvT hZ (w_ hw 20 rfl)) (mvT hZ (w_ hw 21 rfl)) (by decide) (backOf (W := 2) (rm_sbi l Z a0 hw [] a102 G1 h102 n0 z105 A102 (D102 (Or.inl (w_ hw 33 rfl)) (ty := (.array .byte)) (by decide) : Fld Z h102 a102 "java/lang/AbstractStringBuilder" "value" "[B" .null) (D102 (Or.inl (w_ hw 35 rfl)) (ty := .byte) (by decide) : Fld Z h102 a102 "java/lang/AbstractStringBuilder" "coder" "B" (.int (0 : Int32))) (D102 (Or.inl (w_ hw 89 rfl)) (ty := .int) (by decide) : Fld Z h102 a102 "java/lang/AbstractStringBuilder" "count" "I" (.int (0 : Int32))) g103 (D102 (Or.inl (w_ hw 273 rfl)) (ty := .boolean) (by decide) : Fld Z h102 a102 "java/lang/AbstractStringBuilder" "maybeLatin1" "Z" (.int (0 : Int32))) S1 P1 O104) hZ (w_ hw 21 rfl) (w_ hw 18 rfl) (by decide) (by decide)) (g := (mkF m 9 #[.val (.ref b), .val (.int 1000)] [(.ref a102), (.ref a102), (.ref b)])) rfl (by rw [hml]; rfl) (Steps.refl _) (a := a102) (argsL := []) (rest := [(.ref a102), (.ref b)]) (lenOf pd_25 rfl) rfl (by show 2 * 0 + _ ≤ _; exact Nat.le_of_eq rfl) (hb hby d2_9) (fun _ _ => ⟨rfl, e102, (by decide : 1 + 1 ≤ _), (by decide : 4 + 16 ≤ _)⟩)
  dsimp only [Pt.U, Pt.locs, Pt.cells, Pt.slots] at X106 l106 y106 z106 st106 hQ106
  subst l106 y106 z106
  obtain ⟨v107, kv108, rfl, Nq106, p106_0, p106_1, p106_2, p106_3, p106_4, p106_5, p106_6, p106_7⟩ := hQ106
  have N106_ := Fr.app N0 Nq106
  refine Fin.byS st106 ?_
  have ne109 : b ≠ a102 := Nat.ne_of_lt (Nat.lt_of_lt_of_le B0.lt (Nat.le_of_eq g102.symm))
  have F110 : Fld Z T106.heap b "com/example/colonnade/colonnade/TextSpool" "chars" "Ljava/lang/StringBuilder;" .null := ((B1.ext E102).keep p106_0 (ninS ne109 nin0))
  have E111 : Exa Z T106.heap b "com/example/colonnade/colonnade/TextSpool" := ((B0.ext E102).keep p106_0)
  obtain ⟨T112, h112, X112, e112, W112, st112⟩ := putF X106 hx hZ hown (host := "") (Or.inl (w_ hw 36 rfl)) Via.refl rfl F110 E111 (Or.inr ⟨(w_ hw 37 rfl), rfl, hnm⟩) (w_ hw 10 rfl) (ty := (.object "java/lang/StringBuilder")) (by decide) rfl rfl (g := (mkF m 12 #[.val (.ref b), .val (.int 1000)] [(.ref a102), (.ref b)])) rfl rfl (hb hby d2_12)
  refine Fin.by (fun tt_ kk_ => st112 tt_ kk_) ?_
  have N112_ := Fr.snoc X112 N106_ gb
  refine Fin.by (fun tt_ kk_ => XS.aloadN X112.here hx rfl (hb hby d2_15) rfl rfl (XS.iloadN X112.here hx rfl (hb hby d2_16) rfl kk_)) ?_
  have F113 : Fld Z h112 b "com/example/colonnade/colonnade/TextSpool" "charsInMemory" "I" (.int (0 : Int32)) := (((B2.ext E102).keep p106_0 (ninS ne109 nin0)).other W112 (Or.inr (slot_ne (Or.inr (w_ hw 39 rfl)) (Or.inr (w_ hw 37 rfl)) (by decide) (t := .int) (t' := (.object "java/lang/StringBuilder")) (by decide) (by decide))))
  have E114 : Exa Z h112 b "com/example/colonnade/colonnade/TextSpool" := (E111.wr W112)
  obtain ⟨T115, h115, X115, e115, W115, st115⟩ := putF X112 hx hZ hown (host := "") (Or.inl (w_ hw 38 rfl)) Via.refl e112 F113 E114 (Or.inr ⟨(w_ hw 39 rfl), rfl, hnm⟩) (w_ hw 10 rfl) (ty := .int) (by decide) rfl rfl (g := (mkF m 17 #[.val (.ref b), .val (.int 1000)] [(.int 1000), (.ref b)])) rfl rfl (hb hby d2_17)
  refine Fin.by (fun tt_ kk_ => st115 tt_ kk_) ?_
  have N115_ := Fr.snoc X115 N112_ gb
  have kp116 : Keep h0 h102 [b] := (Keep.refl h0 [b]).ext E102
  have kp117 : Keep h0 T106.heap [b] := kp116.trans p106_0 (allS (Or.inr (Nat.le_trans (Nat.le_refl _) (Nat.le_of_eq g102.symm))) all0)
  have kp118 : Keep h0 h112 [b] := kp117.wr W112 (Or.inl (List.mem_of_getElem? (i := 0) rfl))
  have kp119 : Keep h0 h115 [b] := kp118.wr W115 (Or.inl (List.mem_of_getElem? (i := 0) rfl))
  have ne120 : a102 ≠ v107 := Nat.ne_of_lt (Nat.lt_of_lt_of_le A102.lt p106_1)
  have E121 : Exa Z h115 b "com/example/colonnade/colonnade/TextSpool" := (E114.wr W115)
  have F122 : Fld Z h115 b "com/example/colonnade/colonnade/TextSpool" "chars" "Ljava/lang/StringBuilder;" (.ref a102) := ((F110.same W112).other W115 (Or.inr (slot_ne (Or.inr (w_ hw 37 rfl)) (Or.inr (w_ hw 39 rfl)) (by decide) (t := (.object "java/lang/StringBuilder")) (t' := .int) (by decide) (by decide))))
  have F123 : Fld Z h115 b "com/example/colonnade/colonnade/TextSpool" "file" "Lcom/example/colonnade/colonnade/SpoolFile;" .null := ((((B3.ext E102).keep p106_0 (ninS ne109 nin0)).other W112 (Or.inr (slot_ne (Or.inl (w_ hw 77 rfl)) (Or.inr (w_ hw 37 rfl)) (by decide) (t := (.object "com/example/colonnade/colonnade/SpoolFile")) (t' := (.object "java/lang/StringBuilder")) (by decide) (by decide)))).other W115 (Or.inr (slot_ne (Or.inl (w_ hw 77 rfl)) (Or.inr (w_ hw 39 rfl)) (by decide) (t := (.object "com/example/colonnade/colonnade/SpoolFile")) (t' := .int) (by decide) (by decide))))
  have E124 : Exa Z h115 a102 "java/lang/StringBuilder" := ((p106_2.wr W112).wr W115)
  have F125 : Fld Z h115 a102 "java/lang/AbstractStringBuilder" "value" "[B" (.ref v107) := ((p106_3.other W112 (Or.inl (Ne.symm ne109))).other W115 (Or.inl (Ne.symm ne109)))
  have F126 : Fld Z h115 a102 "java/lang/AbstractStringBuilder" "coder" "B" (.int (0 : Int32)) := ((p106_4.other W112 (Or.inl (Ne.symm ne109))).other W115 (Or.inl (Ne.symm ne109)))
  have F127 : Fld Z h115 a102 "java/lang/AbstractStringBuilder" "count" "I" (.int (0 : Int32)) := ((p106_5.other W112 (Or.inl (Ne.symm ne109))).other W115 (Or.inl (Ne.symm ne109)))
  have F128 : Fld Z h115 a102 "java/lang/AbstractStringBuilder" "maybeLatin1" "Z" (.int (0 : Int32)) := ((p106_7.other W112 (Or.inl (Ne.symm ne109))).other W115 (Or.inl (Ne.symm ne109)))
  have lt130 : b < h102.size := Nat.lt_of_lt_of_le B0.lt E102.1
  have ne129 : b ≠ v107 := Nat.ne_of_lt (Nat.lt_of_lt_of_le lt130 p106_1)
  have A131 : Arv Z h115 v107 kv108 .byte (16 : Int32) [] (.int 0) := ((p106_6.other W112 (Ne.symm ne129)).other W115 (Ne.symm ne129))
  show Fin _ _ _ _ _ _ _ (T115.setTop (mkF m 20 #[.val (.ref b), .val (.int 1000)] []))
  exact Fin.ret (v := none) X115 (fun _ => rfl) Bd.notSynchronized (by rw [e115]; exact ⟨a102, v107, kv108, rfl, N115_, kp119, (Nat.le_trans (Nat.le_refl _) (Nat.le_of_eq g102.symm)), (Nat.le_trans E102.1 p106_1), ne120, E121, F122, (F113.same W115), F123, E124, F125, F126, F127, F128, A131⟩) (by decide) (by decide) (fun fs hr => X115.returnOut hx Bd.returns (hb hby d2_20) hr)
abbrev y_3 : MethodName := (⟨"com/example/colonnade/colonnade/ItemBuilder", "<init>", "(I)V"⟩ : MethodName)
theorem d3_0 : decode prog_46_method_1_code 0 = .ok (.aload_n 0, 1) := by decide +kernel
theorem d3_1 : decode prog_46_method_1_code 1 = .ok (.invokespecial 1, 3) := by decide +kernel
theorem d3_4 : decode prog_46_method_1_code 4 = .ok (.aload_n 0, 1) := by decide +kernel
theorem d3_5 : decode prog_46_method_1_code 5 = .ok (.new 7, 3) := by decide +kernel
theorem d3_8 : decode prog_46_method_1_code 8 = .ok (.dup, 1) := by decide +kernel
theorem d3_9 : decode prog_46_method_1_code 9 = .ok (.iload_n 1, 1) := by decide +kernel
theorem d3_10 : decode prog_46_method_1_code 10 = .ok (.invokespecial 9, 3) := by decide +kernel
theorem d3_13 : decode prog_46_method_1_code 13 = .ok (.putfield 12, 3) := by decide +kernel
theorem d3_16 : decode prog_46_method_1_code 16 = .ok (.return_, 1) := by decide +kernel
theorem pn_com_example_colonnade_colonnade_ItemBuilder : plainName "com/example/colonnade/colonnade/ItemBuilder" = true := by first | (simp [plainName, overriddenIn]; done) | decide +kernel
def Q_ibi (Z : State) (a : Addr) (G1 : Int32) (h0 : Heap) (n0 : Nat) (vv_ : Option Value) (hh_ : Heap) (LL_ : List Loc) : Prop := ∃ (b : Addr), ∃ (sb : Addr), ∃ (v : Addr), ∃ (kv : ClassId), vv_ = none ∧ Fr n0 LL_ ∧ Keep h0 hh_ [a] ∧ h0.size ≤ b ∧ h0.size ≤ sb ∧ h0.size ≤ v ∧ b ≠ sb ∧ b ≠ v ∧ sb ≠ v ∧ Exa Z hh_ a "com/example/colonnade/colonnade/ItemBuilder" ∧ Fld Z hh_ a "com/example/colonnade/colonnade/ItemBuilder" "text" "Lcom/example/colonnade/colonnade/TextSpool;" (.ref b) ∧ Fld Z hh_ a "com/example/colonnade/colonnade/ItemBuilder" "started" "Z" (.int (0 : Int32)) ∧ Fld Z hh_ a "com/example/colonnade/colonnade/ItemBuilder" "line" "J" (.long (0 : Int64)) ∧ Fld Z hh_ a "com/example/colonnade/colonnade/ItemBuilder" "column" "J" (.long (0 : Int64)) ∧ Fld Z hh_ a "com/example/colonnade/colonnade/ItemBuilder" "start" "J" (.long (0 : Int64)) ∧ Fld Z hh_ a "com/example/colonnade/colonnade/ItemBuilder" "end" "J" (.long (0 : Int64)) ∧ Fld Z hh_ a "com/example/colonnade/colonnade/ItemBuilder" "kept" "J" (.long (0 : Int64)) ∧ Fld Z hh_ a "com/example/colonnade/colonnade/ItemBuilder" "trailingBlanks" "J" (.long (0 : Int64)) ∧ Exa Z hh_ b "com/example/colonnade/colonnade/TextSpool" ∧ Fld Z hh_ b "com/example/colonnade/colonnade/TextSpool" "chars" "Ljava/lang/StringBuilder;" (.ref sb) ∧ Fld Z hh_ b "com/example/colonnade/colonnade/TextSpool" "charsInMemory" "I" (.int (1000 : Int32)) ∧ Fld Z hh_ b "com/example/colonnade/colonnade/TextSpool" "file" "Lcom/example/colonnade/colonnade/SpoolFile;" .null ∧ Exa Z hh_ sb "java/lang/StringBuilder" ∧ Fld Z hh_ sb "java/lang/AbstractStringBuilder" "value" "[B" (.ref v) ∧ Fld Z hh_ sb "java/lang/AbstractStringBuilder" "coder" "B" (.int (0 : Int32)) ∧ Fld Z hh_ sb "java/lang/AbstractStringBuilder" "count" "I" (.int (0 : Int32)) ∧ Fld Z hh_ sb "java/lang/AbstractStringBuilder" "maybeLatin1" "Z" (.int (0 : Int32)) ∧ Arv Z hh_ v kv .byte (16 : Int32) [] (.int 0)
set_option maxRecDepth 65536 in
set_option maxHeartbeats 40000000 in
theorem rm_ibi (l : Launch) (Z : State) (a0 : Array Value) (hw : ∀ d ∈ tables_1, d.before a0 Z = true) (ws : List Jvm.Cond) (a : Addr) (G1 : Int32) (h0 : Heap) (n0 : Nat) (Z0 : n0 ≤ h0.size) (I0 : Exa Z h0 a "com/example/colonnade/colonnade/ItemBuilder") (I1 : Fld Z h0 a "com/example/colonnade/colonnade/ItemBuilder" "text" "Lcom/example/colonnade/colonnade/TextSpool;" .null) (I2 : Fld Z h0 a "com/example/colonnade/colonnade/ItemBuilder" "started" "Z" (.int (0 : Int32))) (J0 : Fld Z h0 a "com/example/colonnade/colonnade/ItemBuilder" "line" "J" (.long (0 : Int64))) (J1 : Fld Z h0 a "com/example/colonnade/colonnade/ItemBuilder" "column" "J" (.long (0 : Int64))) (J2 : Fld Z h0 a "com/example/colonnade/colonnade/ItemBuilder" "start" "J" (.long (0 : Int64))) (J3 : Fld Z h0 a "com/example/colonnade/colonnade/ItemBuilder" "end" "J" (.long (0 : Int64))) (J4 : Fld Z h0 a "com/example/colonnade/colonnade/ItemBuilder" "kept" "J" (.long (0 : Int64))) (J5 : Fld Z h0 a "com/example/colonnade/colonnade/ItemBuilder" "trailingBlanks" "J" (.long (0 : Int64))) (ga : n0 ≤ a) (S1 : Sta Z Z.heap "java/lang/String" "COMPACT_STRINGS" "Z" (.int G1)) (P1 : ¬ G1 = 0) (OL : Old Z n0 h0) :
    MetFree l y_3 (head1 (Jvm.Cond.code y_3 prog_46_method_1_code 2 none :: ws) ({ frames := 4, cells := 3, slots := 23, locals := 54 } : Room)) (fun aa_ U => aa_ = #[(.ref a), (.int (1000 : Int32))] ∧ Z.Warmed39 U.vm ∧ U.heap = h0) (fun _ _ _ _ _ => True) (fun _ U o U' => ∃ vv_ LL_, o = .returned vv_ ∧ Q_ibi Z a G1 h0 n0 vv_ U'.heap LL_ ∧ FrameEnd U o U' LL_ 3 23) := by
  refine MetFree.of_bodySF (plainFor_of_name pn_com_example_colonnade_colonnade_ItemBuilder) hisR ?_
  intro p e s m args below meth c s₁ Bd hml0 hP hK
  obtain ⟨rfl, hZ, hh⟩ := hP
  have hx := Bd.exec
  have hby := Bd.bytes
  have hml : c.maxLocals = 2 := hml0
  have hown : s.vm.findClass "com/example/colonnade/colonnade/ItemBuilder" = some m.cls := findClass_of_methodNamed Bd.named
  have hnm := (name_of_methodNamed Bd.named Bd.method).1
  have X0 : Stand p l e ({ frames := 4, cells := 3, slots := 23, locals := 54 } : Room) s m #[(.ref a), (.int (1000 : Int32))] below meth c s₁ [] 0 0 := Stand.of_body Bd
  have e0 : s₁.heap = h0 := by rw [← hh, Bd.state]; rfl
  have N0 := Fr.nil n0
  have ef : entryFrame m #[(.ref a), (.int (1000 : Int32))] 2 = mkF m 0 #[.val (.ref a), .val (.int (1000 : Int32))] [] := by first | (simp [entryFrame, mkF, argsToLocals, Value.category]; done) | rfl
  refine Fin.start (Q := Q_ibi Z a G1 h0 n0) ef ?_
  refine Fin.by (fun tt_ kk_ => XS.aloadN X0.here hx rfl (hb hby d3_0) rfl rfl kk_) ?_
  obtain ⟨T101, X101, e101, st101⟩ := initO X0 hx hZ hown (w_ hw 6 rfl) (w_ hw 7 rfl) (w_ hw 8 rfl) e0 (g := (mkF m 1 #[.val (.ref a), .val (.int 1000)] [(.ref a)])) rfl (by rw [hml]; rfl) rfl (hb hby d3_1) (by decide) (W := 0) (by show 2 * 0 + _ ≤ _; exact Nat.le_of_eq rfl) (by decide)
  refine Fin.by (fun tt_ kk_ => st101 tt_ kk_) ?_
  refine Fin.by (fun tt_ kk_ => XS.aloadN X101.here hx rfl (hb hby d3_4) rfl rfl kk_) ?_
  obtain ⟨T102, h102, X102, e102, E102, A102, D102, -, st102⟩ := newO X101 hx hZ hown (w_ hw 9 rfl) (w_ hw 10 rfl) (w_ hw 11 rfl) e101 (g := (mkF m 5 #[.val (.ref a), .val (.int 1000)] [(.ref a)])) rfl (hb hby d3_5) (by decide) (by decide)
  obtain ⟨a102, g102⟩ : ∃ z, z = h0.size := ⟨_, rfl⟩
  rw [← g102] at A102 D102 st102
  refine Fin.by (fun tt_ kk_ => st102 tt_ kk_) ?_
  refine Fin.by (fun tt_ kk_ => XS.dup X102.here hx rfl (hb hby d3_8) rfl rfl (XS.iloadN X102.here hx rfl (hb hby d3_9) rfl kk_)) ?_
  have g103 : n0 ≤ a102 := Nat.le_trans Z0 (Nat.le_of_eq g102.symm)
  have O104 : Old Z n0 h102 := (OL.ext E102)
  have z105 : n0 ≤ h102.size := Nat.le_trans Z0 E102.1
  obtain ⟨v106, _, ⟨T106, L106, k106, n106⟩, -, X106, ⟨Lc106, hQ106, l106, y106, z106⟩, st106⟩ := X102.specialBack hx (y := y_2) rfl hown (mvT hZ (w_ hw 12 rfl)) (mvT hZ (w_ hw 13 rfl)) (mvT hZ (w_ hw 14 rfl)) (by decide) (backOf (W := 2) (rm_tsi l Z a0 hw [] a102 G1 h102 n0 z105 A102 (D102 (Or.inr (w_ hw 37 rfl)) (ty := (.object "java/lang/StringBuilder")) (by decide) : Fld Z h102 a102 "com/example/colonnade/colonnade/TextSpool" "chars" "Ljava/lang/StringBuilder;" .null) (D102 (Or.inr (w_ hw 39 rfl)) (ty := .int) (by decide) : Fld Z h102 a102 "com/example/colonnade/colonnade/TextSpool" "charsInMemory" "I" (.int (0 : Int32))) (D102 (Or.inl (w_ hw 77 rfl)) (ty := (.object "com/example/colonnade/colonnade/SpoolFile")) (by decide) : Fld Z h102 a102 "com/example/colonnade/colonnade/TextSpool" "file" "Lcom/example/colonnade/colonnade/SpoolFile;" .null) g103 S1 P1 O104) hZ (w_ hw 14 rfl) (w_ hw 11 rfl) (by decide) (by decide)) (g := (mkF m 10 #[.val (.ref a), .val (.int 1000)] [(.int 1000), (.ref a102), (.ref a102), (.ref a)])) rfl (by rw [hml]; rfl) (Steps.refl _) (a := a102) (argsL := [(.int 1000)]) (rest := [(.ref a102), (.ref a)]) (lenOf pd_16 rfl) rfl (by show 2 * 0 + _ ≤ _; exact Nat.le_of_eq rfl) (hb hby d3_10) (fun _ _ => ⟨rfl, e102, (by decide : 1 + 2 ≤ _), (by decide : 3 + 20 ≤ _)⟩)
  dsimp only [Pt.U, Pt.locs, Pt.cells, Pt.slots] at X106 l106 y106 z106 st106 hQ106
  subst l106 y106 z106
  obtain ⟨sb107, v108, kv109, rfl, Nq106, p106_0, p106_1, p106_2, p106_3, p106_4, p106_5, p106_6, p106_7, p106_8, p106_9, p106_10, p106_11, p106_12, p106_13⟩ := hQ106
  have N106_ := Fr.app N0 Nq106
  refine Fin.byS st106 ?_
  have ne110 : a ≠ a102 := Nat.ne_of_lt (Nat.lt_of_lt_of_le I0.lt (Nat.le_of_eq g102.symm))
  have F111 : Fld Z T106.heap a "com/example/colonnade/colonnade/ItemBuilder" "text" "Lcom/example/colonnade/colonnade/TextSpool;" .null := ((I1.ext E102).keep p106_0 (ninS ne110 nin0))
  have E112 : Exa Z T106.heap a "com/example/colonnade/colonnade/ItemBuilder" := ((I0.ext E102).keep p106_0)
  obtain ⟨T113, h113, X113, e113, W113, st113⟩ := putF X106 hx hZ hown (host := "") (Or.inl (w_ hw 40 rfl)) Via.refl rfl F111 E112 (Or.inr ⟨(w_ hw 41 rfl), rfl, hnm⟩) (w_ hw 1 rfl) (ty := (.object "com/example/colonnade/colonnade/TextSpool")) (by decide) rfl rfl (g := (mkF m 13 #[.val (.ref a), .val (.int 1000)] [(.ref a102), (.ref a)])) rfl rfl (hb hby d3_13)
  refine Fin.by (fun tt_ kk_ => st113 tt_ kk_) ?_
  have N113_ := Fr.snoc X113 N106_ ga
  have kp114 : Keep h0 h102 [a] := (Keep.refl h0 [a]).ext E102
  have kp115 : Keep h0 T106.heap [a] := kp114.trans p106_0 (allS (Or.inr (Nat.le_trans (Nat.le_refl _) (Nat.le_of_eq g102.symm))) all0)
  have kp116 : Keep h0 h113 [a] := kp115.wr W113 (Or.inl (List.mem_of_getElem? (i := 0) rfl))
  have ne117 : a102 ≠ sb107 := Nat.ne_of_lt (Nat.lt_of_lt_of_le A102.lt p106_1)
  have ne118 : a102 ≠ v108 := Nat.ne_of_lt (Nat.lt_of_lt_of_le A102.lt p106_2)
  have E119 : Exa Z h113 a "com/example/colonnade/colonnade/ItemBuilder" := (E112.wr W113)
  have F120 : Fld Z h113 a "com/example/colonnade/colonnade/ItemBuilder" "started" "Z" (.int (0 : Int32)) := (((I2.ext E102).keep p106_0 (ninS ne110 nin0)).other W113 (Or.inr (slot_ne (Or.inl (w_ hw 48 rfl)) (Or.inr (w_ hw 41 rfl)) (by decide) (t := .boolean) (t' := (.object "com/example/colonnade/colonnade/TextSpool")) (by decide) (by decide))))
  have F121 : Fld Z h113 a "com/example/colonnade/colonnade/ItemBuilder" "line" "J" (.long (0 : Int64)) := (((J0.ext E102).keep p106_0 (ninS ne110 nin0)).other W113 (Or.inr (slot_ne (Or.inl (w_ hw 50 rfl)) (Or.inr (w_ hw 41 rfl)) (by decide) (t := .long) (t' := (.object "com/example/colonnade/colonnade/TextSpool")) (by decide) (by decide))))
  have F122 : Fld Z h113 a "com/example/colonnade/colonnade/ItemBuilder" "column" "J" (.long (0 : Int64)) := (((J1.ext E102).keep p106_0 (ninS ne110 nin0)).other W113 (Or.inr (slot_ne (Or.inl (w_ hw 52 rfl)) (Or.inr (w_ hw 41 rfl)) (by decide) (t := .long) (t' := (.object "com/example/colonnade/colonnade/TextSpool")) (by decide) (by decide))))
  have F123 : Fld Z h113 a "com/example/colonnade/colonnade/ItemBuilder" "start" "J" (.long (0 : Int64)) := (((J2.ext E102).keep p106_0 (ninS ne110 nin0)).other W113 (Or.inr (slot_ne (Or.inl (w_ hw 54 rfl)) (Or.inr (w_ hw 41 rfl)) (by decide) (t := .long) (t' := (.object "com/example/colonnade/colonnade/TextSpool")) (by decide) (by decide))))
  have F124 : Fld Z h113 a "com/example/colonnade/colonnade/ItemBuilder" "end" "J" (.long (0 : Int64)) := (((J3.ext E102).keep p106_0 (ninS ne110 nin0)).other W113 (Or.inr (slot_ne (Or.inl (w_ hw 56 rfl)) (Or.inr (w_ hw 41 rfl)) (by decide) (t := .long) (t' := (.object "com/example/colonnade/colonnade/TextSpool")) (by decide) (by decide))))
  have F125 : Fld Z h113 a "com/example/colonnade/colonnade/ItemBuilder" "kept" "J" (.long (0 : Int64)) := (((J4.ext E102).keep p106_0 (ninS ne110 nin0)).other W113 (Or.inr (slot_ne (Or.inl (w_ hw 58 rfl)) (Or.inr (w_ hw 41 rfl)) (by decide) (t := .long) (t' := (.object "com/example/colonnade/colonnade/TextSpool")) (by decide) (by decide))))
  have F126 : Fld Z h113 a "com/example/colonnade/colonnade/ItemBuilder" "trailingBlanks" "J" (.long (0 : Int64)) := (((J5.ext E102).keep p106_0 (ninS ne110 nin0)).other W113 (Or.inr (slot_ne (Or.inl (w_ hw 60 rfl)) (Or.inr (w_ hw 41 rfl)) (by decide) (t := .long) (t' := (.object "com/example/colonnade/colonnade/TextSpool")) (by decide) (by decide))))
  have E127 : Exa Z h113 a102 "com/example/colonnade/colonnade/TextSpool" := (p106_4.wr W113)
  have F128 : Fld Z h113 a102 "com/example/colonnade/colonnade/TextSpool" "chars" "Ljava/lang/StringBuilder;" (.ref sb107) := (p106_5.other W113 (Or.inl (Ne.symm ne110)))
  have F129 : Fld Z h113 a102 "com/example/colonnade/colonnade/TextSpool" "charsInMemory" "I" (.int (1000 : Int32)) := (p106_6.other W113 (Or.inl (Ne.symm ne110)))
  have F130 : Fld Z h113 a102 "com/example/colonnade/colonnade/TextSpool" "file" "Lcom/example/colonnade/colonnade/SpoolFile;" .null := (p106_7.other W113 (Or.inl (Ne.symm ne110)))
  have E131 : Exa Z h113 sb107 "java/lang/StringBuilder" := (p106_8.wr W113)
  have lt133 : a < h102.size := Nat.lt_of_lt_of_le I0.lt E102.1
  have ne132 : a ≠ sb107 := Nat.ne_of_lt (Nat.lt_of_lt_of_le lt133 p106_1)
  have F134 : Fld Z h113 sb107 "java/lang/AbstractStringBuilder" "value" "[B" (.ref v108) := (p106_9.other W113 (Or.inl (Ne.symm ne132)))
  have F135 : Fld Z h113 sb107 "java/lang/AbstractStringBuilder" "coder" "B" (.int (0 : Int32)) := (p106_10.other W113 (Or.inl (Ne.symm ne132)))
  have F136 : Fld Z h113 sb107 "java/lang/AbstractStringBuilder" "count" "I" (.int (0 : Int32)) := (p106_11.other W113 (Or.inl (Ne.symm ne132)))
  have F137 : Fld Z h113 sb107 "java/lang/AbstractStringBuilder" "maybeLatin1" "Z" (.int (0 : Int32)) := (p106_12.other W113 (Or.inl (Ne.symm ne132)))
  have ne138 : a ≠ v108 := Nat.ne_of_lt (Nat.lt_of_lt_of_le lt133 p106_2)
  have A139 : Arv Z h113 v108 kv109 .byte (16 : Int32) [] (.int 0) := (p106_13.other W113 (Ne.symm ne138))
  show Fin _ _ _ _ _ _ _ (T113.setTop (mkF m 16 #[.val (.ref a), .val (.int 1000)] []))
  exact Fin.ret (v := none) X113 (fun _ => rfl) Bd.notSynchronized (by rw [e113]; exact ⟨a102, sb107, v108, kv109, rfl, N113_, kp116, (Nat.le_trans (Nat.le_refl _) (Nat.le_of_eq g102.symm)), (Nat.le_trans E102.1 p106_1), (Nat.le_trans E102.1 p106_2), ne117, ne118, p106_3, E119, (F111.same W113), F120, F121, F122, F123, F124, F125, F126, E127, F128, F129, F130, E131, F134, F135, F136, F137, A139⟩) (by decide) (by decide) (fun fs hr => X113.returnOut hx Bd.returns (hb hby d3_16) hr)
abbrev y_4 : MethodName := (⟨"com/example/colonnade/colonnade/ItemBuilder", "start", "(JJJ)V"⟩ : MethodName)
theorem d4_0 : decode prog_46_method_4_code 0 = .ok (.aload_n 0, 1) := by decide +kernel
theorem d4_1 : decode prog_46_method_4_code 1 = .ok (.iconst 1, 1) := by decide +kernel
theorem d4_2 : decode prog_46_method_4_code 2 = .ok (.putfield 18, 3) := by decide +kernel
theorem d4_5 : decode prog_46_method_4_code 5 = .ok (.aload_n 0, 1) := by decide +kernel
theorem d4_6 : decode prog_46_method_4_code 6 = .ok (.lload_n 1, 1) := by decide +kernel
theorem d4_7 : decode prog_46_method_4_code 7 = .ok (.putfield 22, 3) := by decide +kernel
theorem d4_10 : decode prog_46_method_4_code 10 = .ok (.aload_n 0, 1) := by decide +kernel
theorem d4_11 : decode prog_46_method_4_code 11 = .ok (.lload_n 3, 1) := by decide +kernel
theorem d4_12 : decode prog_46_method_4_code 12 = .ok (.putfield 26, 3) := by decide +kernel
theorem d4_15 : decode prog_46_method_4_code 15 = .ok (.aload_n 0, 1) := by decide +kernel
theorem d4_16 : decode prog_46_method_4_code 16 = .ok (.lload 5, 2) := by decide +kernel
theorem d4_18 : decode prog_46_method_4_code 18 = .ok (.putfield 29, 3) := by decide +kernel
theorem d4_21 : decode prog_46_method_4_code 21 = .ok (.aload_n 0, 1) := by decide +kernel
theorem d4_22 : decode prog_46_method_4_code 22 = .ok (.lload 5, 2) := by decide +kernel
theorem d4_24 : decode prog_46_method_4_code 24 = .ok (.putfield 32, 3) := by decide +kernel
theorem d4_27 : decode prog_46_method_4_code 27 = .ok (.aload_n 0, 1) := by decide +kernel
theorem d4_28 : decode prog_46_method_4_code 28 = .ok (.lconst 0, 1) := by decide +kernel
theorem d4_29 : decode prog_46_method_4_code 29 = .ok (.putfield 35, 3) := by decide +kernel
theorem d4_32 : decode prog_46_method_4_code 32 = .ok (.aload_n 0, 1) := by decide +kernel
theorem d4_33 : decode prog_46_method_4_code 33 = .ok (.lconst 0, 1) := by decide +kernel
theorem d4_34 : decode prog_46_method_4_code 34 = .ok (.putfield 38, 3) := by decide +kernel
theorem d4_37 : decode prog_46_method_4_code 37 = .ok (.return_, 1) := by decide +kernel
def Q_sta (Z : State) (a : Addr) (b : Addr) (r1 : Int64) (r2 : Int64) (r3 : Int64) (q0 : Int32) (q1 : Int64) (q2 : Int64) (q3 : Int64) (q4 : Int64) (q5 : Int64) (q6 : Int64) (h0 : Heap) (n0 : Nat) (vv_ : Option Value) (hh_ : Heap) (LL_ : List Loc) : Prop := vv_ = none ∧ Fr n0 LL_ ∧ Keep h0 hh_ [a] ∧ Exa Z hh_ a "com/example/colonnade/colonnade/ItemBuilder" ∧ Fld Z hh_ a "com/example/colonnade/colonnade/ItemBuilder" "text" "Lcom/example/colonnade/colonnade/TextSpool;" (.ref b) ∧ Fld Z hh_ a "com/example/colonnade/colonnade/ItemBuilder" "started" "Z" (.int (1 : Int32)) ∧ Fld Z hh_ a "com/example/colonnade/colonnade/ItemBuilder" "line" "J" (.long r1) ∧ Fld Z hh_ a "com/example/colonnade/colonnade/ItemBuilder" "column" "J" (.long r2) ∧ Fld Z hh_ a "com/example/colonnade/colonnade/ItemBuilder" "start" "J" (.long r3) ∧ Fld Z hh_ a "com/example/colonnade/colonnade/ItemBuilder" "end" "J" (.long r3) ∧ Fld Z hh_ a "com/example/colonnade/colonnade/ItemBuilder" "kept" "J" (.long (0 : Int64)) ∧ Fld Z hh_ a "com/example/colonnade/colonnade/ItemBuilder" "trailingBlanks" "J" (.long (0 : Int64))
set_option maxRecDepth 65536 in
set_option maxHeartbeats 40000000 in
theorem rm_sta (l : Launch) (Z : State) (a0 : Array Value) (hw : ∀ d ∈ tables_1, d.before a0 Z = true) (ws : List Jvm.Cond) (a : Addr) (b : Addr) (r1 : Int64) (r2 : Int64) (r3 : Int64) (q0 : Int32) (q1 : Int64) (q2 : Int64) (q3 : Int64) (q4 : Int64) (q5 : Int64) (q6 : Int64) (h0 : Heap) (n0 : Nat) (Z0 : n0 ≤ h0.size) (I0 : Exa Z h0 a "com/example/colonnade/colonnade/ItemBuilder") (I1 : Fld Z h0 a "com/example/colonnade/colonnade/ItemBuilder" "text" "Lcom/example/colonnade/colonnade/TextSpool;" (.ref b)) (I2 : Fld Z h0 a "com/example/colonnade/colonnade/ItemBuilder" "started" "Z" (.int q0)) (I3 : Fld Z h0 a "com/example/colonnade/colonnade/ItemBuilder" "line" "J" (.long q1)) (I4 : Fld Z h0 a "com/example/colonnade/colonnade/ItemBuilder" "column" "J" (.long q2)) (I5 : Fld Z h0 a "com/example/colonnade/colonnade/ItemBuilder" "start" "J" (.long q3)) (I6 : Fld Z h0 a "com/example/colonnade/colonnade/ItemBuilder" "end" "J" (.long q4)) (I7 : Fld Z h0 a "com/example/colonnade/colonnade/ItemBuilder" "kept" "J" (.long q5)) (I8 : Fld Z h0 a "com/example/colonnade/colonnade/ItemBuilder" "trailingBlanks" "J" (.long q6)) (ga : n0 ≤ a) :
    MetFree l y_4 (head1 (Jvm.Cond.code y_4 prog_46_method_4_code 7 none :: ws) ({ frames := 0, cells := 0, slots := 0, locals := 0 } : Room)) (fun aa_ U => aa_ = #[(.ref a), (.long r1), (.long r2), (.long r3)] ∧ Z.Warmed39 U.vm ∧ U.heap = h0) (fun _ _ _ _ _ => True) (fun _ U o U' => ∃ vv_ LL_, o = .returned vv_ ∧ Q_sta Z a b r1 r2 r3 q0 q1 q2 q3 q4 q5 q6 h0 n0 vv_ U'.heap LL_ ∧ FrameEnd U o U' LL_ 0 0) := by
  refine MetFree.of_bodySF (plainFor_of_name pn_com_example_colonnade_colonnade_ItemBuilder) hisR ?_
  intro p e s m args below meth c s₁ Bd hml0 hP hK
  obtain ⟨rfl, hZ, hh⟩ := hP
  have hx := Bd.exec
  have hby := Bd.bytes
  have hml : c.maxLocals = 7 := hml0
  have hown : s.vm.findClass "com/example/colonnade/colonnade/ItemBuilder" = some m.cls := findClass_of_methodNamed Bd.named
  have hnm := (name_of_methodNamed Bd.named Bd.method).1
  have X0 : Stand p l e ({ frames := 0, cells := 0, slots := 0, locals := 0 } : Room) s m #[(.ref a), (.long r1), (.long r2), (.long r3)] below meth c s₁ [] 0 0 := Stand.of_body Bd
  have e0 : s₁.heap = h0 := by rw [← hh, Bd.state]; rfl
  have N0 := Fr.nil n0
  have ef : entryFrame m #[(.ref a), (.long r1), (.long r2), (.long r3)] 7 = mkF m 0 #[.val (.ref a), .val (.long r1), .second, .val (.long r2), .second, .val (.long r3), .second] [] := by first | (simp [entryFrame, mkF, argsToLocals, Value.category]; done) | rfl
  refine Fin.start (Q := Q_sta Z a b r1 r2 r3 q0 q1 q2 q3 q4 q5 q6 h0 n0) ef ?_
  refine Fin.by (fun tt_ kk_ => XS.aloadN X0.here hx rfl (hb hby d4_0) rfl rfl (XS.iconst X0.here hx rfl (hb hby d4_1) kk_)) ?_
  obtain ⟨T101, h101, X101, e101, W101, st101⟩ := putFN X0 hx hZ hown (w_ hw 47 rfl) Via.refl e0 I2 I0 (Or.inl (w_ hw 48 rfl)) (w_ hw 1 rfl) (ty := .boolean) (v' := .int (1 : Int32)) (by decide) rfl rfl (g := (mkF m 2 #[.val (.ref a), .val (.long r1), .second, .val (.long r2), .second, .val (.long r3), .second] [(.int 1), (.ref a)])) rfl rfl (hb hby d4_2)
  refine Fin.by (fun tt_ kk_ => st101 tt_ kk_) ?_
  have N101_ := Fr.snoc X101 N0 ga
  refine Fin.by (fun tt_ kk_ => XS.aloadN X101.here hx rfl (hb hby d4_5) rfl rfl (XS.lloadN X101.here hx rfl (hb hby d4_6) rfl kk_)) ?_
  have F102 : Fld Z h101 a "com/example/colonnade/colonnade/ItemBuilder" "line" "J" (.long q1) := (I3.other W101 (Or.inr (slot_ne (Or.inl (w_ hw 50 rfl)) (Or.inl (w_ hw 48 rfl)) (by decide) (t := .long) (t' := .boolean) (by decide) (by decide))))
  have E103 : Exa Z h101 a "com/example/colonnade/colonnade/ItemBuilder" := (I0.wr W101)
  obtain ⟨T104, h104, X104, e104, W104, st104⟩ := putF X101 hx hZ hown (host := "") (Or.inl (w_ hw 49 rfl)) Via.refl e101 F102 E103 (Or.inl (w_ hw 50 rfl)) (w_ hw 1 rfl) (ty := .long) (by decide) rfl rfl (g := (mkF m 7 #[.val (.ref a), .val (.long r1), .second, .val (.long r2), .second, .val (.long r3), .second] [(.long r1), (.ref a)])) rfl rfl (hb hby d4_7)
  refine Fin.by (fun tt_ kk_ => st104 tt_ kk_) ?_
  have N104_ := Fr.snoc X104 N101_ ga
  refine Fin.by (fun tt_ kk_ => XS.aloadN X104.here hx rfl (hb hby d4_10) rfl rfl (XS.lloadN X104.here hx rfl (hb hby d4_11) rfl kk_)) ?_
  have F105 : Fld Z h104 a "com/example/colonnade/colonnade/ItemBuilder" "column" "J" (.long q2) := ((I4.other W101 (Or.inr (slot_ne (Or.inl (w_ hw 52 rfl)) (Or.inl (w_ hw 48 rfl)) (by decide) (t := .long) (t' := .boolean) (by decide) (by decide)))).other W104 (Or.inr (slot_ne (Or.inl (w_ hw 52 rfl)) (Or.inl (w_ hw 50 rfl)) (by decide) (t := .long) (t' := .long) (by decide) (by decide))))
  have E106 : Exa Z h104 a "com/example/colonnade/colonnade/ItemBuilder" := (E103.wr W104)
  obtain ⟨T107, h107, X107, e107, W107, st107⟩ := putF X104 hx hZ hown (host := "") (Or.inl (w_ hw 51 rfl)) Via.refl e104 F105 E106 (Or.inl (w_ hw 52 rfl)) (w_ hw 1 rfl) (ty := .long) (by decide) rfl rfl (g := (mkF m 12 #[.val (.ref a), .val (.long r1), .second, .val (.long r2), .second, .val (.long r3), .second] [(.long r2), (.ref a)])) rfl rfl (hb hby d4_12)
  refine Fin.by (fun tt_ kk_ => st107 tt_ kk_) ?_
  have N107_ := Fr.snoc X107 N104_ ga
  refine Fin.by (fun tt_ kk_ => XS.aloadN X107.here hx rfl (hb hby d4_15) rfl rfl (XS.lload X107.here hx rfl (hb hby d4_16) rfl kk_)) ?_
  have F108 : Fld Z h107 a "com/example/colonnade/colonnade/ItemBuilder" "start" "J" (.long q3) := (((I5.other W101 (Or.inr (slot_ne (Or.inl (w_ hw 54 rfl)) (Or.inl (w_ hw 48 rfl)) (by decide) (t := .long) (t' := .boolean) (by decide) (by decide)))).other W104 (Or.inr (slot_ne (Or.inl (w_ hw 54 rfl)) (Or.inl (w_ hw 50 rfl)) (by decide) (t := .long) (t' := .long) (by decide) (by decide)))).other W107 (Or.inr (slot_ne (Or.inl (w_ hw 54 rfl)) (Or.inl (w_ hw 52 rfl)) (by decide) (t := .long) (t' := .long) (by decide) (by decide))))
  have E109 : Exa Z h107 a "com/example/colonnade/colonnade/ItemBuilder" := (E106.wr W107)
  obtain ⟨T110, h110, X110, e110, W110, st110⟩ := putF X107 hx hZ hown (host := "") (Or.inl (w_ hw 53 rfl)) Via.refl e107 F108 E109 (Or.inl (w_ hw 54 rfl)) (w_ hw 1 rfl) (ty := .long) (by decide) rfl rfl (g := (mkF m 18 #[.val (.ref a), .val (.long r1), .second, .val (.long r2), .second, .val (.long r3), .second] [(.long r3), (.ref a)])) rfl rfl (hb hby d4_18)
  refine Fin.by (fun tt_ kk_ => st110 tt_ kk_) ?_
  have N110_ := Fr.snoc X110 N107_ ga
  refine Fin.by (fun tt_ kk_ => XS.aloadN X110.here hx rfl (hb hby d4_21) rfl rfl (XS.lload X110.here hx rfl (hb hby d4_22) rfl kk_)) ?_
  have F111 : Fld Z h110 a "com/example/colonnade/colonnade/ItemBuilder" "end" "J" (.long q4) := ((((I6.other W101 (Or.inr (slot_ne (Or.inl (w_ hw 56 rfl)) (Or.inl (w_ hw 48 rfl)) (by decide) (t := .long) (t' := .boolean) (by decide) (by decide)))).other W104 (Or.inr (slot_ne (Or.inl (w_ hw 56 rfl)) (Or.inl (w_ hw 50 rfl)) (by decide) (t := .long) (t' := .long) (by decide) (by decide)))).other W107 (Or.inr (slot_ne (Or.inl (w_ hw 56 rfl)) (Or.inl (w_ hw 52 rfl)) (by decide) (t := .long) (t' := .long) (by decide) (by decide)))).other W110 (Or.inr (slot_ne (Or.inl (w_ hw 56 rfl)) (Or.inl (w_ hw 54 rfl)) (by decide) (t := .long) (t' := .long) (by decide) (by decide))))
  have E112 : Exa Z h110 a "com/example/colonnade/colonnade/ItemBuilder" := (E109.wr W110)
  obtain ⟨T113, h113, X113, e113, W113, st113⟩ := putF X110 hx hZ hown (host := "") (Or.inl (w_ hw 55 rfl)) Via.refl e110 F111 E112 (Or.inl (w_ hw 56 rfl)) (w_ hw 1 rfl) (ty := .long) (by decide) rfl rfl (g := (mkF m 24 #[.val (.ref a), .val (.long r1), .second, .val (.long r2), .second, .val (.long r3), .second] [(.long r3), (.ref a)])) rfl rfl (hb hby d4_24)
  refine Fin.by (fun tt_ kk_ => st113 tt_ kk_) ?_
  have N113_ := Fr.snoc X113 N110_ ga
  refine Fin.by (fun tt_ kk_ => XS.aloadN X113.here hx rfl (hb hby d4_27) rfl rfl (XS.lconst X113.here hx rfl (hb hby d4_28) kk_)) ?_
  have F114 : Fld Z h113 a "com/example/colonnade/colonnade/ItemBuilder" "kept" "J" (.long q5) := (((((I7.other W101 (Or.inr (slot_ne (Or.inl (w_ hw 58 rfl)) (Or.inl (w_ hw 48 rfl)) (by decide) (t := .long) (t' := .boolean) (by decide) (by decide)))).other W104 (Or.inr (slot_ne (Or.inl (w_ hw 58 rfl)) (Or.inl (w_ hw 50 rfl)) (by decide) (t := .long) (t' := .long) (by decide) (by decide)))).other W107 (Or.inr (slot_ne (Or.inl (w_ hw 58 rfl)) (Or.inl (w_ hw 52 rfl)) (by decide) (t := .long) (t' := .long) (by decide) (by decide)))).other W110 (Or.inr (slot_ne (Or.inl (w_ hw 58 rfl)) (Or.inl (w_ hw 54 rfl)) (by decide) (t := .long) (t' := .long) (by decide) (by decide)))).other W113 (Or.inr (slot_ne (Or.inl (w_ hw 58 rfl)) (Or.inl (w_ hw 56 rfl)) (by decide) (t := .long) (t' := .long) (by decide) (by decide))))
  have E115 : Exa Z h113 a "com/example/colonnade/colonnade/ItemBuilder" := (E112.wr W113)
  obtain ⟨T116, h116, X116, e116, W116, st116⟩ := putF X113 hx hZ hown (host := "") (Or.inl (w_ hw 57 rfl)) Via.refl e113 F114 E115 (Or.inl (w_ hw 58 rfl)) (w_ hw 1 rfl) (ty := .long) (by decide) rfl rfl (g := (mkF m 29 #[.val (.ref a), .val (.long r1), .second, .val (.long r2), .second, .val (.long r3), .second] [(.long (0 : Int64)), (.ref a)])) rfl rfl (hb hby d4_29)
  refine Fin.by (fun tt_ kk_ => st116 tt_ kk_) ?_
  have N116_ := Fr.snoc X116 N113_ ga
  refine Fin.by (fun tt_ kk_ => XS.aloadN X116.here hx rfl (hb hby d4_32) rfl rfl (XS.lconst X116.here hx rfl (hb hby d4_33) kk_)) ?_
  have F117 : Fld Z h116 a "com/example/colonnade/colonnade/ItemBuilder" "trailingBlanks" "J" (.long q6) := ((((((I8.other W101 (Or.inr (slot_ne (Or.inl (w_ hw 60 rfl)) (Or.inl (w_ hw 48 rfl)) (by decide) (t := .long) (t' := .boolean) (by decide) (by decide)))).other W104 (Or.inr (slot_ne (Or.inl (w_ hw 60 rfl)) (Or.inl (w_ hw 50 rfl)) (by decide) (t := .long) (t' := .long) (by decide) (by decide)))).other W107 (Or.inr (slot_ne (Or.inl (w_ hw 60 rfl)) (Or.inl (w_ hw 52 rfl)) (by decide) (t := .long) (t' := .long) (by decide) (by decide)))).other W110 (Or.inr (slot_ne (Or.inl (w_ hw 60 rfl)) (Or.inl (w_ hw 54 rfl)) (by decide) (t := .long) (t' := .long) (by decide) (by decide)))).other W113 (Or.inr (slot_ne (Or.inl (w_ hw 60 rfl)) (Or.inl (w_ hw 56 rfl)) (by decide) (t := .long) (t' := .long) (by decide) (by decide)))).other W116 (Or.inr (slot_ne (Or.inl (w_ hw 60 rfl)) (Or.inl (w_ hw 58 rfl)) (by decide) (t := .long) (t' := .long) (by decide) (by decide))))
  have E118 : Exa Z h116 a "com/example/colonnade/colonnade/ItemBuilder" := (E115.wr W116)
  obtain ⟨T119, h119, X119, e119, W119, st119⟩ := putF X116 hx hZ hown (host := "") (Or.inl (w_ hw 59 rfl)) Via.refl e116 F117 E118 (Or.inl (w_ hw 60 rfl)) (w_ hw 1 rfl) (ty := .long) (by decide) rfl rfl (g := (mkF m 34 #[.val (.ref a), .val (.long r1), .second, .val (.long r2), .second, .val (.long r3), .second] [(.long (0 : Int64)), (.ref a)])) rfl rfl (hb hby d4_34)
  refine Fin.by (fun tt_ kk_ => st119 tt_ kk_) ?_
  have N119_ := Fr.snoc X119 N116_ ga
  have kp120 : Keep h0 h101 [a] := (Keep.refl h0 [a]).wr W101 (Or.inl (List.mem_of_getElem? (i := 0) rfl))
  have kp121 : Keep h0 h104 [a] := kp120.wr W104 (Or.inl (List.mem_of_getElem? (i := 0) rfl))
  have kp122 : Keep h0 h107 [a] := kp121.wr W107 (Or.inl (List.mem_of_getElem? (i := 0) rfl))
  have kp123 : Keep h0 h110 [a] := kp122.wr W110 (Or.inl (List.mem_of_getElem? (i := 0) rfl))
  have kp124 : Keep h0 h113 [a] := kp123.wr W113 (Or.inl (List.mem_of_getElem? (i := 0) rfl))
  have kp125 : Keep h0 h116 [a] := kp124.wr W116 (Or.inl (List.mem_of_getElem? (i := 0) rfl))
  have kp126 : Keep h0 h119 [a] := kp125.wr W119 (Or.inl (List.mem_of_getElem? (i := 0) rfl))
  have E127 : Exa Z h119 a "com/example/colonnade/colonnade/ItemBuilder" := (E118.wr W119)
  have F128 : Fld Z h119 a "com/example/colonnade/colonnade/ItemBuilder" "text" "Lcom/example/colonnade/colonnade/TextSpool;" (.ref b) := (((((((I1.other W101 (Or.inr (slot_ne (Or.inr (w_ hw 41 rfl)) (Or.inl (w_ hw 48 rfl)) (by decide) (t := (.object "com/example/colonnade/colonnade/TextSpool")) (t' := .boolean) (by decide) (by decide)))).other W104 (Or.inr (slot_ne (Or.inr (w_ hw 41 rfl)) (Or.inl (w_ hw 50 rfl)) (by decide) (t := (.object "com/example/colonnade/colonnade/TextSpool")) (t' := .long) (by decide) (by decide)))).other W107 (Or.inr (slot_ne (Or.inr (w_ hw 41 rfl)) (Or.inl (w_ hw 52 rfl)) (by decide) (t := (.object "com/example/colonnade/colonnade/TextSpool")) (t' := .long) (by decide) (by decide)))).other W110 (Or.inr (slot_ne (Or.inr (w_ hw 41 rfl)) (Or.inl (w_ hw 54 rfl)) (by decide) (t := (.object "com/example/colonnade/colonnade/TextSpool")) (t' := .long) (by decide) (by decide)))).other W113 (Or.inr (slot_ne (Or.inr (w_ hw 41 rfl)) (Or.inl (w_ hw 56 rfl)) (by decide) (t := (.object "com/example/colonnade/colonnade/TextSpool")) (t' := .long) (by decide) (by decide)))).other W116 (Or.inr (slot_ne (Or.inr (w_ hw 41 rfl)) (Or.inl (w_ hw 58 rfl)) (by decide) (t := (.object "com/example/colonnade/colonnade/TextSpool")) (t' := .long) (by decide) (by decide)))).other W119 (Or.inr (slot_ne (Or.inr (w_ hw 41 rfl)) (Or.inl (w_ hw 60 rfl)) (by decide) (t := (.object "com/example/colonnade/colonnade/TextSpool")) (t' := .long) (by decide) (by decide))))
  have F129 : Fld Z h119 a "com/example/colonnade/colonnade/ItemBuilder" "started" "Z" (.int (1 : Int32)) := (((((((I2.same W101).other W104 (Or.inr (slot_ne (Or.inl (w_ hw 48 rfl)) (Or.inl (w_ hw 50 rfl)) (by decide) (t := .boolean) (t' := .long) (by decide) (by decide)))).other W107 (Or.inr (slot_ne (Or.inl (w_ hw 48 rfl)) (Or.inl (w_ hw 52 rfl)) (by decide) (t := .boolean) (t' := .long) (by decide) (by decide)))).other W110 (Or.inr (slot_ne (Or.inl (w_ hw 48 rfl)) (Or.inl (w_ hw 54 rfl)) (by decide) (t := .boolean) (t' := .long) (by decide) (by decide)))).other W113 (Or.inr (slot_ne (Or.inl (w_ hw 48 rfl)) (Or.inl (w_ hw 56 rfl)) (by decide) (t := .boolean) (t' := .long) (by decide) (by decide)))).other W116 (Or.inr (slot_ne (Or.inl (w_ hw 48 rfl)) (Or.inl (w_ hw 58 rfl)) (by decide) (t := .boolean) (t' := .long) (by decide) (by decide)))).other W119 (Or.inr (slot_ne (Or.inl (w_ hw 48 rfl)) (Or.inl (w_ hw 60 rfl)) (by decide) (t := .boolean) (t' := .long) (by decide) (by decide))))
  have F130 : Fld Z h119 a "com/example/colonnade/colonnade/ItemBuilder" "line" "J" (.long r1) := ((((((F102.same W104).other W107 (Or.inr (slot_ne (Or.inl (w_ hw 50 rfl)) (Or.inl (w_ hw 52 rfl)) (by decide) (t := .long) (t' := .long) (by decide) (by decide)))).other W110 (Or.inr (slot_ne (Or.inl (w_ hw 50 rfl)) (Or.inl (w_ hw 54 rfl)) (by decide) (t := .long) (t' := .long) (by decide) (by decide)))).other W113 (Or.inr (slot_ne (Or.inl (w_ hw 50 rfl)) (Or.inl (w_ hw 56 rfl)) (by decide) (t := .long) (t' := .long) (by decide) (by decide)))).other W116 (Or.inr (slot_ne (Or.inl (w_ hw 50 rfl)) (Or.inl (w_ hw 58 rfl)) (by decide) (t := .long) (t' := .long) (by decide) (by decide)))).other W119 (Or.inr (slot_ne (Or.inl (w_ hw 50 rfl)) (Or.inl (w_ hw 60 rfl)) (by decide) (t := .long) (t' := .long) (by decide) (by decide))))
  have F131 : Fld Z h119 a "com/example/colonnade/colonnade/ItemBuilder" "column" "J" (.long r2) := (((((F105.same W107).other W110 (Or.inr (slot_ne (Or.inl (w_ hw 52 rfl)) (Or.inl (w_ hw 54 rfl)) (by decide) (t := .long) (t' := .long) (by decide) (by decide)))).other W113 (Or.inr (slot_ne (Or.inl (w_ hw 52 rfl)) (Or.inl (w_ hw 56 rfl)) (by decide) (t := .long) (t' := .long) (by decide) (by decide)))).other W116 (Or.inr (slot_ne (Or.inl (w_ hw 52 rfl)) (Or.inl (w_ hw 58 rfl)) (by decide) (t := .long) (t' := .long) (by decide) (by decide)))).other W119 (Or.inr (slot_ne (Or.inl (w_ hw 52 rfl)) (Or.inl (w_ hw 60 rfl)) (by decide) (t := .long) (t' := .long) (by decide) (by decide))))
  have F132 : Fld Z h119 a "com/example/colonnade/colonnade/ItemBuilder" "start" "J" (.long r3) := ((((F108.same W110).other W113 (Or.inr (slot_ne (Or.inl (w_ hw 54 rfl)) (Or.inl (w_ hw 56 rfl)) (by decide) (t := .long) (t' := .long) (by decide) (by decide)))).other W116 (Or.inr (slot_ne (Or.inl (w_ hw 54 rfl)) (Or.inl (w_ hw 58 rfl)) (by decide) (t := .long) (t' := .long) (by decide) (by decide)))).other W119 (Or.inr (slot_ne (Or.inl (w_ hw 54 rfl)) (Or.inl (w_ hw 60 rfl)) (by decide) (t := .long) (t' := .long) (by decide) (by decide))))
  have F133 : Fld Z h119 a "com/example/colonnade/colonnade/ItemBuilder" "end" "J" (.long r3) := (((F111.same W113).other W116 (Or.inr (slot_ne (Or.inl (w_ hw 56 rfl)) (Or.inl (w_ hw 58 rfl)) (by decide) (t := .long) (t' := .long) (by decide) (by decide)))).other W119 (Or.inr (slot_ne (Or.inl (w_ hw 56 rfl)) (Or.inl (w_ hw 60 rfl)) (by decide) (t := .long) (t' := .long) (by decide) (by decide))))
  have F134 : Fld Z h119 a "com/example/colonnade/colonnade/ItemBuilder" "kept" "J" (.long (0 : Int64)) := ((F114.same W116).other W119 (Or.inr (slot_ne (Or.inl (w_ hw 58 rfl)) (Or.inl (w_ hw 60 rfl)) (by decide) (t := .long) (t' := .long) (by decide) (by decide))))
  show Fin _ _ _ _ _ _ _ (T119.setTop (mkF m 37 #[.val (.ref a), .val (.long r1), .second, .val (.long r2), .second, .val (.long r3), .second] []))
  exact Fin.ret (v := none) X119 (fun _ => rfl) Bd.notSynchronized (by rw [e119]; exact ⟨rfl, N119_, kp126, E127, F128, F129, F130, F131, F132, F133, F134, (F117.same W119)⟩) (by decide) (by decide) (fun fs hr => X119.returnOut hx Bd.returns (hb hby d4_37) hr)
abbrev y_5 : MethodName := (⟨"com/example/colonnade/colonnade/ItemBuilder", "started", "()Z"⟩ : MethodName)
theorem d5_0 : decode prog_46_method_2_code 0 = .ok (.aload_n 0, 1) := by decide +kernel
theorem d5_1 : decode prog_46_method_2_code 1 = .ok (.getfield 18, 3) := by decide +kernel
theorem d5_4 : decode prog_46_method_2_code 4 = .ok (.ireturn, 1) := by decide +kernel
def Q_std (Z : State) (a : Addr) (h0 : Heap) (n0 : Nat) (vv_ : Option Value) (hh_ : Heap) (LL_ : List Loc) : Prop := vv_ = some (.int (1 : Int32)) ∧ Fr n0 LL_ ∧ hh_ = h0
set_option maxRecDepth 65536 in
set_option maxHeartbeats 40000000 in
theorem rm_std (l : Launch) (Z : State) (a0 : Array Value) (hw : ∀ d ∈ tables_1, d.before a0 Z = true) (ws : List Jvm.Cond) (a : Addr) (h0 : Heap) (n0 : Nat) (Z0 : n0 ≤ h0.size) (I0 : Exa Z h0 a "com/example/colonnade/colonnade/ItemBuilder") (I1 : Fld Z h0 a "com/example/colonnade/colonnade/ItemBuilder" "started" "Z" (.int (1 : Int32))) :
    MetFree l y_5 (head1 (Jvm.Cond.code y_5 prog_46_method_2_code 1 (some .boolean) :: ws) ({ frames := 0, cells := 0, slots := 0, locals := 0 } : Room)) (fun aa_ U => aa_ = #[(.ref a)] ∧ Z.Warmed39 U.vm ∧ U.heap = h0) (fun _ _ _ _ _ => True) (fun _ U o U' => ∃ vv_ LL_, o = .returned vv_ ∧ Q_std Z a h0 n0 vv_ U'.heap LL_ ∧ FrameEnd U o U' LL_ 0 0) := by
  refine MetFree.of_bodySF (plainFor_of_name pn_com_example_colonnade_colonnade_ItemBuilder) hisR ?_
  intro p e s m args below meth c s₁ Bd hml0 hP hK
  obtain ⟨rfl, hZ, hh⟩ := hP
  have hx := Bd.exec
  have hby := Bd.bytes
  have hml : c.maxLocals = 1 := hml0
  have hown : s.vm.findClass "com/example/colonnade/colonnade/ItemBuilder" = some m.cls := findClass_of_methodNamed Bd.named
  have hnm := (name_of_methodNamed Bd.named Bd.method).1
  have X0 : Stand p l e ({ frames := 0, cells := 0, slots := 0, locals := 0 } : Room) s m #[(.ref a)] below meth c s₁ [] 0 0 := Stand.of_body Bd
  have e0 : s₁.heap = h0 := by rw [← hh, Bd.state]; rfl
  have N0 := Fr.nil n0
  have ef : entryFrame m #[(.ref a)] 1 = mkF m 0 #[.val (.ref a)] [] := by first | (simp [entryFrame, mkF, argsToLocals, Value.category]; done) | rfl
  refine Fin.start (Q := Q_std Z a h0 n0) ef ?_
  refine Fin.by (fun tt_ kk_ => XS.aloadN X0.here hx rfl (hb hby d5_0) rfl rfl kk_) ?_
  obtain ⟨T101, X101, e101, st101⟩ := getF X0 hx hZ hown (host := "") (Or.inl (w_ hw 47 rfl)) Via.refl e0 I1 (g := (mkF m 1 #[.val (.ref a)] [(.ref a)])) rfl rfl (hb hby d5_1)
  refine Fin.by (fun tt_ kk_ => st101 tt_ kk_) ?_
  show Fin _ _ _ _ _ _ _ (T101.setTop (mkF m 4 #[.val (.ref a)] [(.int 1)]))
  exact Fin.ret (v := some (.int (nar .boolean (1 : Int32)))) X101 (fun h => by rw [Bd.returns] at h; cases h) Bd.notSynchronized (by rw [e101]; exact ⟨rfl, N0, rfl⟩) (by decide) (by decide) (fun fs hr => retN X101 hx (t := .boolean) Bd.returns (by simp) (hb hby d5_4) hr)
abbrev y_6 : MethodName := (⟨"java/lang/AbstractStringBuilder", "length", "()I"⟩ : MethodName)
theorem d6_0 : decode jdk_68_method_6_code 0 = .ok (.aload_n 0, 1) := by decide +kernel
theorem d6_1 : decode jdk_68_method_6_code 1 = .ok (.getfield 79, 3) := by decide +kernel
theorem d6_4 : decode jdk_68_method_6_code 4 = .ok (.ireturn, 1) := by decide +kernel
def Q_asl (Z : State) (a : Addr) (ct : Int32) (h0 : Heap) (n0 : Nat) (vv_ : Option Value) (hh_ : Heap) (LL_ : List Loc) : Prop := vv_ = some (.int ct) ∧ Fr n0 LL_ ∧ hh_ = h0
set_option maxRecDepth 65536 in
set_option maxHeartbeats 40000000 in
theorem rm_asl (l : Launch) (Z : State) (a0 : Array Value) (hw : ∀ d ∈ tables_1, d.before a0 Z = true) (ws : List Jvm.Cond) (a : Addr) (ct : Int32) (h0 : Heap) (n0 : Nat) (Z0 : n0 ≤ h0.size) (E0 : Exa Z h0 a "java/lang/StringBuilder") (F2 : Fld Z h0 a "java/lang/AbstractStringBuilder" "count" "I" (.int ct)) :
    MetFree l y_6 (head1 (Jvm.Cond.code y_6 jdk_68_method_6_code 1 (some .int) :: ws) ({ frames := 0, cells := 0, slots := 0, locals := 0 } : Room)) (fun aa_ U => aa_ = #[(.ref a)] ∧ Z.Warmed39 U.vm ∧ U.heap = h0) (fun _ _ _ _ _ => True) (fun _ U o U' => ∃ vv_ LL_, o = .returned vv_ ∧ Q_asl Z a ct h0 n0 vv_ U'.heap LL_ ∧ FrameEnd U o U' LL_ 0 0) := by
  refine MetFree.of_bodySF (plainFor_of_name pn_java_lang_AbstractStringBuilder) hisR ?_
  intro p e s m args below meth c s₁ Bd hml0 hP hK
  obtain ⟨rfl, hZ, hh⟩ := hP
  have hx := Bd.exec
  have hby := Bd.bytes
  have hml : c.maxLocals = 1 := hml0
  have hown : s.vm.findClass "java/lang/AbstractStringBuilder" = some m.cls := findClass_of_methodNamed Bd.named
  have hnm := (name_of_methodNamed Bd.named Bd.method).1
  have X0 : Stand p l e ({ frames := 0, cells := 0, slots := 0, locals := 0 } : Room) s m #[(.ref a)] below meth c s₁ [] 0 0 := Stand.of_body Bd
  have e0 : s₁.heap = h0 := by rw [← hh, Bd.state]; rfl
  have N0 := Fr.nil n0
  have ef : entryFrame m #[(.ref a)] 1 = mkF m 0 #[.val (.ref a)] [] := by first | (simp [entryFrame, mkF, argsToLocals, Value.category]; done) | rfl
  refine Fin.start (Q := Q_asl Z a ct h0 n0) ef ?_
  refine Fin.by (fun tt_ kk_ => XS.aloadN X0.here hx rfl (hb hby d6_0) rfl rfl kk_) ?_
  obtain ⟨T101, X101, e101, st101⟩ := getF X0 hx hZ hown (host := "") (Or.inl (w_ hw 88 rfl)) Via.refl e0 F2 (g := (mkF m 1 #[.val (.ref a)] [(.ref a)])) rfl rfl (hb hby d6_1)
  refine Fin.by (fun tt_ kk_ => st101 tt_ kk_) ?_
  show Fin _ _ _ _ _ _ _ (T101.setTop (mkF m 4 #[.val (.ref a)] [(.int ct)]))
  exact Fin.ret (v := some (.int ct)) X101 (fun h => by rw [Bd.returns] at h; cases h) Bd.notSynchronized (by rw [e101]; exact ⟨rfl, N0, rfl⟩) (by decide) (by decide) (fun fs hr => retI X101 hx Bd.returns (hb hby d6_4) hr)
abbrev y_7 : MethodName := (⟨"java/lang/AbstractStringBuilder", "isLatin1", "()Z"⟩ : MethodName)
abbrev y_8 : MethodName := (⟨"java/lang/StringBuilder", "length", "()I"⟩ : MethodName)
theorem d7_0 : decode jdk_67_method_93_code 0 = .ok (.aload_n 0, 1) := by decide +kernel
theorem pd_72 : parseMethodDescriptor "()I" = some ⟨[], some .int⟩ := by decide +kernel
theorem d7_1 : decode jdk_67_method_93_code 1 = .ok (.invokespecial 343, 3) := by decide +kernel
theorem d7_4 : decode jdk_67_method_93_code 4 = .ok (.ireturn, 1) := by decide +kernel
def Q_sbl (Z : State) (a : Addr) (ct : Int32) (h0 : Heap) (n0 : Nat) (vv_ : Option Value) (hh_ : Heap) (LL_ : List Loc) : Prop := vv_ = some (.int ct) ∧ Fr n0 LL_ ∧ hh_ = h0
set_option maxRecDepth 65536 in
set_option maxHeartbeats 40000000 in
theorem rm_sbl (l : Launch) (Z : State) (a0 : Array Value) (hw : ∀ d ∈ tables_1, d.before a0 Z = true) (ws : List Jvm.Cond) (a : Addr) (ct : Int32) (h0 : Heap) (n0 : Nat) (Z0 : n0 ≤ h0.size) (E0 : Exa Z h0 a "java/lang/StringBuilder") (F2 : Fld Z h0 a "java/lang/AbstractStringBuilder" "count" "I" (.int ct)) :
    MetFree l y_8 (head1 (Jvm.Cond.code y_8 jdk_67_method_93_code 1 (some .int) :: ws) ({ frames := 1, cells := 0, slots := 0, locals := 12 } : Room)) (fun aa_ U => aa_ = #[(.ref a)] ∧ Z.Warmed39 U.vm ∧ U.heap = h0) (fun _ _ _ _ _ => True) (fun _ U o U' => ∃ vv_ LL_, o = .returned vv_ ∧ Q_sbl Z a ct h0 n0 vv_ U'.heap LL_ ∧ FrameEnd U o U' LL_ 0 0) := by
  refine MetFree.of_bodySF (plainFor_of_name pn_java_lang_StringBuilder) hisR ?_
  intro p e s m args below meth c s₁ Bd hml0 hP hK
  obtain ⟨rfl, hZ, hh⟩ := hP
  have hx := Bd.exec
  have hby := Bd.bytes
  have hml : c.maxLocals = 1 := hml0
  have hown : s.vm.findClass "java/lang/StringBuilder" = some m.cls := findClass_of_methodNamed Bd.named
  have hnm := (name_of_methodNamed Bd.named Bd.method).1
  have X0 : Stand p l e ({ frames := 1, cells := 0, slots := 0, locals := 12 } : Room) s m #[(.ref a)] below meth c s₁ [] 0 0 := Stand.of_body Bd
  have e0 : s₁.heap = h0 := by rw [← hh, Bd.state]; rfl
  have N0 := Fr.nil n0
  have ef : entryFrame m #[(.ref a)] 1 = mkF m 0 #[.val (.ref a)] [] := by first | (simp [entryFrame, mkF, argsToLocals, Value.category]; done) | rfl
  refine Fin.start (Q := Q_sbl Z a ct h0 n0) ef ?_
  refine Fin.by (fun tt_ kk_ => XS.aloadN X0.here hx rfl (hb hby d7_0) rfl rfl kk_) ?_
  obtain ⟨v101, _, ⟨T101, L101, k101, n101⟩, -, X101, ⟨Lc101, hQ101, l101, y101, z101⟩, st101⟩ := superBack X0 hx hZ (y := y_6) hown (w_ hw 83 rfl) (own_same (z := y_7) (y := y_6) (w_ hw 126 rfl) rfl (w_ hw 84 rfl) (by decide)) (w_ hw 84 rfl) (w_ hw 85 rfl) (by decide) (backOf (W := 0) (rm_asl l Z a0 hw [] a ct h0 n0 Z0 E0 F2) hZ (w_ hw 87 rfl) (w_ hw 26 rfl) (by decide) (by decide)) e0 (Ins.self E0) (g := (mkF m 1 #[.val (.ref a)] [(.ref a)])) rfl (by rw [hml]; rfl) (w_ hw 87 rfl) (argsL := []) (rest := []) (lenOf pd_72 rfl) rfl (by show 2 * 0 + _ ≤ _; exact Nat.le_of_eq rfl) (hb hby d7_1) (fun _ _ => ⟨rfl, e0, (by decide : 0 + 0 ≤ _), (by decide : 0 + 0 ≤ _)⟩)
  dsimp only [Pt.U, Pt.locs, Pt.cells, Pt.slots] at X101 l101 y101 z101 st101 hQ101
  subst l101 y101 z101
  obtain ⟨rfl, Nq101, e101_⟩ := hQ101
  have N101_ := Fr.app N0 Nq101
  refine Fin.byS st101 ?_
  have e101 := e101_
  show Fin _ _ _ _ _ _ _ (T101.setTop (mkF m 4 #[.val (.ref a)] [(.int ct)]))
  exact Fin.ret (v := some (.int ct)) X101 (fun h => by rw [Bd.returns] at h; cases h) Bd.notSynchronized (by rw [e101]; exact ⟨rfl, N101_, rfl⟩) (by decide) (by decide) (fun fs hr => retI X101 hx Bd.returns (hb hby d7_4) hr)
abbrev y_9 : MethodName := (⟨"com/example/colonnade/colonnade/TextSpool", "length", "()J"⟩ : MethodName)
theorem d8_0 : decode prog_103_method_5_code 0 = .ok (.aload_n 0, 1) := by decide +kernel
theorem d8_1 : decode prog_103_method_5_code 1 = .ok (.getfield 37, 3) := by decide +kernel
theorem d8_4 : decode prog_103_method_5_code 4 = .ok (.ifnonnull 7, 3) := by decide +kernel
theorem d8_7 : decode prog_103_method_5_code 7 = .ok (.lconst 0, 1) := by decide +kernel
theorem d8_8 : decode prog_103_method_5_code 8 = .ok (.goto 10, 3) := by decide +kernel
theorem d8_18 : decode prog_103_method_5_code 18 = .ok (.aload_n 0, 1) := by decide +kernel
theorem d8_19 : decode prog_103_method_5_code 19 = .ok (.getfield 10, 3) := by decide +kernel
theorem d8_22 : decode prog_103_method_5_code 22 = .ok (.invokevirtual 24, 3) := by decide +kernel
theorem d8_25 : decode prog_103_method_5_code 25 = .ok (.i2l, 1) := by decide +kernel
theorem d8_26 : decode prog_103_method_5_code 26 = .ok (.ladd, 1) := by decide +kernel
theorem d8_27 : decode prog_103_method_5_code 27 = .ok (.lreturn, 1) := by decide +kernel
def Q_tln0 (Z : State) (b : Addr) (sb : Addr) (h0 : Heap) (n0 : Nat) (vv_ : Option Value) (hh_ : Heap) (LL_ : List Loc) : Prop := vv_ = some (.long (0 : Int64)) ∧ Fr n0 LL_ ∧ hh_ = h0
set_option maxRecDepth 65536 in
set_option maxHeartbeats 40000000 in
theorem rm_tln0 (l : Launch) (Z : State) (a0 : Array Value) (hw : ∀ d ∈ tables_1, d.before a0 Z = true) (ws : List Jvm.Cond) (b : Addr) (sb : Addr) (h0 : Heap) (n0 : Nat) (Z0 : n0 ≤ h0.size) (T0 : Exa Z h0 b "com/example/colonnade/colonnade/TextSpool") (T1 : Fld Z h0 b "com/example/colonnade/colonnade/TextSpool" "chars" "Ljava/lang/StringBuilder;" (.ref sb)) (T2 : Fld Z h0 b "com/example/colonnade/colonnade/TextSpool" "file" "Lcom/example/colonnade/colonnade/SpoolFile;" .null) (S_0 : Exa Z h0 sb "java/lang/StringBuilder") (S_3 : Fld Z h0 sb "java/lang/AbstractStringBuilder" "count" "I" (.int (0 : Int32))) :
    MetFree l y_9 (head1 (Jvm.Cond.code y_9 prog_103_method_5_code 1 (some .long) :: ws) ({ frames := 2, cells := 0, slots := 0, locals := 26 } : Room)) (fun aa_ U => aa_ = #[(.ref b)] ∧ Z.Warmed39 U.vm ∧ U.heap = h0) (fun _ _ _ _ _ => True) (fun _ U o U' => ∃ vv_ LL_, o = .returned vv_ ∧ Q_tln0 Z b sb h0 n0 vv_ U'.heap LL_ ∧ FrameEnd U o U' LL_ 0 0) := by
  refine MetFree.of_bodySF (plainFor_of_name pn_com_example_colonnade_colonnade_TextSpool) hisR ?_
  intro p e s m args below meth c s₁ Bd hml0 hP hK
  obtain ⟨rfl, hZ, hh⟩ := hP
  have hx := Bd.exec
  have hby := Bd.bytes
  have hml : c.maxLocals = 1 := hml0
  have hown : s.vm.findClass "com/example/colonnade/colonnade/TextSpool" = some m.cls := findClass_of_methodNamed Bd.named
  have hnm := (name_of_methodNamed Bd.named Bd.method).1
  have X0 : Stand p l e ({ frames := 2, cells := 0, slots := 0, locals := 26 } : Room) s m #[(.ref b)] below meth c s₁ [] 0 0 := Stand.of_body Bd
  have e0 : s₁.heap = h0 := by rw [← hh, Bd.state]; rfl
  have N0 := Fr.nil n0
  have ef : entryFrame m #[(.ref b)] 1 = mkF m 0 #[.val (.ref b)] [] := by first | (simp [entryFrame, mkF, argsToLocals, Value.category]; done) | rfl
  refine Fin.start (Q := Q_tln0 Z b sb h0 n0) ef ?_
  refine Fin.by (fun tt_ kk_ => XS.aloadN X0.here hx rfl (hb hby d8_0) rfl rfl kk_) ?_
  obtain ⟨T101, X101, e101, st101⟩ := getF X0 hx hZ hown (host := "") (Or.inl (w_ hw 76 rfl)) Via.refl e0 T2 (g := (mkF m 1 #[.val (.ref b)] [(.ref b)])) rfl rfl (hb hby d8_1)
  refine Fin.by (fun tt_ kk_ => st101 tt_ kk_) ?_
  refine Fin.by (fun tt_ kk_ => XS.ifnonnullNo X101.here hx rfl (hb hby d8_4) rfl kk_) ?_
  refine Fin.by (fun tt_ kk_ => XS.lconst X101.here hx rfl (hb hby d8_7) (XS.goto X101.here hx rfl (pc0 := 8) (pc' := 18) rfl (hb hby d8_8) (by decide) (by decide) (XS.aloadN X101.here hx rfl (hb hby d8_18) rfl rfl kk_))) ?_
  obtain ⟨T102, X102, e102, st102⟩ := getF X101 hx hZ hown (host := "") (Or.inl (w_ hw 36 rfl)) Via.refl e101 T1 (g := (mkF m 19 #[.val (.ref b)] [(.ref b), (.long (0 : Int64))])) rfl rfl (hb hby d8_19)
  refine Fin.by (fun tt_ kk_ => st102 tt_ kk_) ?_
  obtain ⟨cq103, kq103, qa103, qb103, qc103⟩ := isOf hZ e102 S_0
  obtain ⟨v103, _, ⟨T103, L103, k103, n103⟩, -, X103, ⟨Lc103, hQ103, l103, y103, z103⟩, st103⟩ := X102.virtualBack hx (y := y_8) (z := y_8) hown (mvT hZ (w_ hw 78 rfl)) (mvT hZ (w_ hw 79 rfl)) (notFace_of_selects (args := #[]) (mvT hZ (w_ hw 81 rfl))) (mvT hZ (w_ hw 81 rfl)) (mvT hZ (w_ hw 80 rfl)) (by decide) (backOf (W := 2) (rm_sbl l Z a0 hw [] sb (0 : Int32) h0 n0 Z0 S_0 S_3) hZ (w_ hw 82 rfl) (w_ hw 18 rfl) (by decide) (by decide)) qa103 qc103 (g := (mkF m 22 #[.val (.ref b)] [(.ref sb), (.long (0 : Int64))])) rfl (by rw [hml]; rfl) (Steps.refl _) (argsL := []) (rest := [(.long (0 : Int64))]) (lenOf pd_72 rfl) rfl (by show 2 * 0 + _ ≤ _; exact Nat.le_of_eq rfl) (hb hby d8_22) (fun _ _ => ⟨rfl, e102, (by decide : 0 + 0 ≤ _), (by decide : 0 + 0 ≤ _)⟩)
  dsimp only [Pt.U, Pt.locs, Pt.cells, Pt.slots] at X103 l103 y103 z103 st103 hQ103
  subst l103 y103 z103
  obtain ⟨rfl, Nq103, e103_⟩ := hQ103
  have N103_ := Fr.app N0 Nq103
  refine Fin.byS st103 ?_
  have e103 := e103_
  refine Fin.by (fun tt_ kk_ => XS.i2l X103.here hx rfl (hb hby d8_25) rfl (XS.ladd X103.here hx rfl (hb hby d8_26) rfl kk_)) ?_
  show Fin _ _ _ _ _ _ _ (T103.setTop (mkF m 27 #[.val (.ref b)] [(.long (0 : Int64))]))
  exact Fin.ret (v := some (.long (0 : Int64))) X103 (fun h => by rw [Bd.returns] at h; cases h) Bd.notSynchronized (by rw [e103]; exact ⟨rfl, N103_, rfl⟩) (by decide) (by decide) (fun fs hr => retJ X103 hx Bd.returns (hb hby d8_27) hr)
def Q_tln1 (Z : State) (b : Addr) (sb : Addr) (h0 : Heap) (n0 : Nat) (vv_ : Option Value) (hh_ : Heap) (LL_ : List Loc) : Prop := vv_ = some (.long (1 : Int64)) ∧ Fr n0 LL_ ∧ hh_ = h0
set_option maxRecDepth 65536 in
set_option maxHeartbeats 40000000 in
theorem rm_tln1 (l : Launch) (Z : State) (a0 : Array Value) (hw : ∀ d ∈ tables_1, d.before a0 Z = true) (ws : List Jvm.Cond) (b : Addr) (sb : Addr) (h0 : Heap) (n0 : Nat) (Z0 : n0 ≤ h0.size) (T0 : Exa Z h0 b "com/example/colonnade/colonnade/TextSpool") (T1 : Fld Z h0 b "com/example/colonnade/colonnade/TextSpool" "chars" "Ljava/lang/StringBuilder;" (.ref sb)) (T2 : Fld Z h0 b "com/example/colonnade/colonnade/TextSpool" "file" "Lcom/example/colonnade/colonnade/SpoolFile;" .null) (S_0 : Exa Z h0 sb "java/lang/StringBuilder") (S_3 : Fld Z h0 sb "java/lang/AbstractStringBuilder" "count" "I" (.int (1 : Int32))) :
    MetFree l y_9 (head1 (Jvm.Cond.code y_9 prog_103_method_5_code 1 (some .long) :: ws) ({ frames := 2, cells := 0, slots := 0, locals := 26 } : Room)) (fun aa_ U => aa_ = #[(.ref b)] ∧ Z.Warmed39 U.vm ∧ U.heap = h0) (fun _ _ _ _ _ => True) (fun _ U o U' => ∃ vv_ LL_, o = .returned vv_ ∧ Q_tln1 Z b sb h0 n0 vv_ U'.heap LL_ ∧ FrameEnd U o U' LL_ 0 0) := by
  refine MetFree.of_bodySF (plainFor_of_name pn_com_example_colonnade_colonnade_TextSpool) hisR ?_
  intro p e s m args below meth c s₁ Bd hml0 hP hK
  obtain ⟨rfl, hZ, hh⟩ := hP
  have hx := Bd.exec
  have hby := Bd.bytes
  have hml : c.maxLocals = 1 := hml0
  have hown : s.vm.findClass "com/example/colonnade/colonnade/TextSpool" = some m.cls := findClass_of_methodNamed Bd.named
  have hnm := (name_of_methodNamed Bd.named Bd.method).1
  have X0 : Stand p l e ({ frames := 2, cells := 0, slots := 0, locals := 26 } : Room) s m #[(.ref b)] below meth c s₁ [] 0 0 := Stand.of_body Bd
  have e0 : s₁.heap = h0 := by rw [← hh, Bd.state]; rfl
  have N0 := Fr.nil n0
  have ef : entryFrame m #[(.ref b)] 1 = mkF m 0 #[.val (.ref b)] [] := by first | (simp [entryFrame, mkF, argsToLocals, Value.category]; done) | rfl
  refine Fin.start (Q := Q_tln1 Z b sb h0 n0) ef ?_
  refine Fin.by (fun tt_ kk_ => XS.aloadN X0.here hx rfl (hb hby d8_0) rfl rfl kk_) ?_
  obtain ⟨T101, X101, e101, st101⟩ := getF X0 hx hZ hown (host := "") (Or.inl (w_ hw 76 rfl)) Via.refl e0 T2 (g := (mkF m 1 #[.val (.ref b)] [(.ref b)])) rfl rfl (hb hby d8_1)
  refine Fin.by (fun tt_ kk_ => st101 tt_ kk_) ?_
  refine Fin.by (fun tt_ kk_ => XS.ifnonnullNo X101.here hx rfl (hb hby d8_4) rfl kk_) ?_
  refine Fin.by (fun tt_ kk_ => XS.lconst X101.here hx rfl (hb hby d8_7) (XS.goto X101.here hx rfl (pc0 := 8) (pc' := 18) rfl (hb hby d8_8) (by decide) (by decide) (XS.aloadN X101.here hx rfl (hb hby d8_18) rfl rfl kk_))) ?_
  obtain ⟨T102, X102, e102, st102⟩ := getF X101 hx hZ hown (host := "") (Or.inl (w_ hw 36 rfl)) Via.refl e101 T1 (g := (mkF m 19 #[.val (.ref b)] [(.ref b), (.long (0 : Int64))])) rfl rfl (hb hby d8_19)
  refine Fin.by (fun tt_ kk_ => st102 tt_ kk_) ?_
  obtain ⟨cq103, kq103, qa103, qb103, qc103⟩ := isOf hZ e102 S_0
  obtain ⟨v103, _, ⟨T103, L103, k103, n103⟩, -, X103, ⟨Lc103, hQ103, l103, y103, z103⟩, st103⟩ := X102.virtualBack hx (y := y_8) (z := y_8) hown (mvT hZ (w_ hw 78 rfl)) (mvT hZ (w_ hw 79 rfl)) (notFace_of_selects (args := #[]) (mvT hZ (w_ hw 81 rfl))) (mvT hZ (w_ hw 81 rfl)) (mvT hZ (w_ hw 80 rfl)) (by decide) (backOf (W := 2) (rm_sbl l Z a0 hw [] sb (1 : Int32) h0 n0 Z0 S_0 S_3) hZ (w_ hw 82 rfl) (w_ hw 18 rfl) (by decide) (by decide)) qa103 qc103 (g := (mkF m 22 #[.val (.ref b)] [(.ref sb), (.long (0 : Int64))])) rfl (by rw [hml]; rfl) (Steps.refl _) (argsL := []) (rest := [(.long (0 : Int64))]) (lenOf pd_72 rfl) rfl (by show 2 * 0 + _ ≤ _; exact Nat.le_of_eq rfl) (hb hby d8_22) (fun _ _ => ⟨rfl, e102, (by decide : 0 + 0 ≤ _), (by decide : 0 + 0 ≤ _)⟩)
  dsimp only [Pt.U, Pt.locs, Pt.cells, Pt.slots] at X103 l103 y103 z103 st103 hQ103
  subst l103 y103 z103
  obtain ⟨rfl, Nq103, e103_⟩ := hQ103
  have N103_ := Fr.app N0 Nq103
  refine Fin.byS st103 ?_
  have e103 := e103_
  refine Fin.by (fun tt_ kk_ => XS.i2l X103.here hx rfl (hb hby d8_25) rfl (XS.ladd X103.here hx rfl (hb hby d8_26) rfl kk_)) ?_
  show Fin _ _ _ _ _ _ _ (T103.setTop (mkF m 27 #[.val (.ref b)] [(.long (1 : Int64))]))
  exact Fin.ret (v := some (.long (1 : Int64))) X103 (fun h => by rw [Bd.returns] at h; cases h) Bd.notSynchronized (by rw [e103]; exact ⟨rfl, N103_, rfl⟩) (by decide) (by decide) (fun fs hr => retJ X103 hx Bd.returns (hb hby d8_27) hr)
abbrev y_10 : MethodName := (⟨"java/lang/AbstractStringBuilder", "ensureCapacityInternal", "(I)V"⟩ : MethodName)
theorem d9_0 : decode jdk_68_method_9_code 0 = .ok (.aload_n 0, 1) := by decide +kernel
theorem d9_1 : decode jdk_68_method_9_code 1 = .ok (.getfield 15, 3) := by decide +kernel
theorem d9_4 : decode jdk_68_method_9_code 4 = .ok (.arraylength, 1) := by decide +kernel
theorem d9_5 : decode jdk_68_method_9_code 5 = .ok (.aload_n 0, 1) := by decide +kernel
theorem d9_6 : decode jdk_68_method_9_code 6 = .ok (.getfield 22, 3) := by decide +kernel
theorem d9_9 : decode jdk_68_method_9_code 9 = .ok (.ishr, 1) := by decide +kernel
theorem d9_10 : decode jdk_68_method_9_code 10 = .ok (.istore_n 2, 1) := by decide +kernel
theorem d9_11 : decode jdk_68_method_9_code 11 = .ok (.iload_n 1, 1) := by decide +kernel
theorem d9_12 : decode jdk_68_method_9_code 12 = .ok (.iload_n 2, 1) := by decide +kernel
theorem d9_13 : decode jdk_68_method_9_code 13 = .ok (.isub, 1) := by decide +kernel
theorem d9_14 : decode jdk_68_method_9_code 14 = .ok (.ifCond .le 24, 3) := by decide +kernel
theorem d9_38 : decode jdk_68_method_9_code 38 = .ok (.return_, 1) := by decide +kernel
def Q_eci16_1 (Z : State) (a : Addr) (v : Addr) (kv : ClassId) (vs : List Value) (h0 : Heap) (n0 : Nat) (vv_ : Option Value) (hh_ : Heap) (LL_ : List Loc) : Prop := vv_ = none ∧ Fr n0 LL_ ∧ hh_ = h0
set_option maxRecDepth 65536 in
set_option maxHeartbeats 40000000 in
theorem rm_eci16_1 (l : Launch) (Z : State) (a0 : Array Value) (hw : ∀ d ∈ tables_1, d.before a0 Z = true) (ws : List Jvm.Cond) (a : Addr) (v : Addr) (kv : ClassId) (vs : List Value) (h0 : Heap) (n0 : Nat) (Z0 : n0 ≤ h0.size) (E0 : Exa Z h0 a "java/lang/StringBuilder") (F0 : Fld Z h0 a "java/lang/AbstractStringBuilder" "value" "[B" (.ref v)) (F1 : Fld Z h0 a "java/lang/AbstractStringBuilder" "coder" "B" (.int (0 : Int32))) (A0 : Arv Z h0 v kv .byte (16 : Int32) vs (.int 0)) :
    MetFree l y_10 (head1 (Jvm.Cond.code y_10 jdk_68_method_9_code 3 none :: ws) ({ frames := 0, cells := 0, slots := 0, locals := 0 } : Room)) (fun aa_ U => aa_ = #[(.ref a), (.int (1 : Int32))] ∧ Z.Warmed39 U.vm ∧ U.heap = h0) (fun _ _ _ _ _ => True) (fun _ U o U' => ∃ vv_ LL_, o = .returned vv_ ∧ Q_eci16_1 Z a v kv vs h0 n0 vv_ U'.heap LL_ ∧ FrameEnd U o U' LL_ 0 0) := by
  refine MetFree.of_bodySF (plainFor_of_name pn_java_lang_AbstractStringBuilder) hisR ?_
  intro p e s m args below meth c s₁ Bd hml0 hP hK
  obtain ⟨rfl, hZ, hh⟩ := hP
  have hx := Bd.exec
  have hby := Bd.bytes
  have hml : c.maxLocals = 3 := hml0
  have hown : s.vm.findClass "java/lang/AbstractStringBuilder" = some m.cls := findClass_of_methodNamed Bd.named
  have hnm := (name_of_methodNamed Bd.named Bd.method).1
  have X0 : Stand p l e ({ frames := 0, cells := 0, slots := 0, locals := 0 } : Room) s m #[(.ref a), (.int (1 : Int32))] below meth c s₁ [] 0 0 := Stand.of_body Bd
  have e0 : s₁.heap = h0 := by rw [← hh, Bd.state]; rfl
  have N0 := Fr.nil n0
  have ef : entryFrame m #[(.ref a), (.int (1 : Int32))] 3 = mkF m 0 #[.val (.ref a), .val (.int (1 : Int32)), .unset] [] := by first | (simp [entryFrame, mkF, argsToLocals, Value.category]; done) | rfl
  refine Fin.start (Q := Q_eci16_1 Z a v kv vs h0 n0) ef ?_
  refine Fin.by (fun tt_ kk_ => XS.aloadN X0.here hx rfl (hb hby d9_0) rfl rfl kk_) ?_
  obtain ⟨T101, X101, e101, st101⟩ := getF X0 hx hZ hown (host := "") (Or.inl (w_ hw 32 rfl)) Via.refl e0 F0 (g := (mkF m 1 #[.val (.ref a), .val (.int 1), .unset] [(.ref a)])) rfl rfl (hb hby d9_1)
  refine Fin.by (fun tt_ kk_ => st101 tt_ kk_) ?_
  obtain ⟨cl102, Ar102, q102, S102, N102, H102, G102⟩ := id A0
  refine Fin.by (fun tt_ kk_ => X101.arraylength hx (by rw [e101]; exact Ar102.1) (State.isArrayOf_alike hZ.alike Ar102.2.1) (g := (mkF m 4 #[.val (.ref a), .val (.int 1), .unset] [(.ref v)])) rfl rfl (hb hby d9_4) _ kk_) ?_
  rw [len_of S102 N102]
  refine Fin.by (fun tt_ kk_ => XS.aloadN X101.here hx rfl (hb hby d9_5) rfl rfl kk_) ?_
  obtain ⟨T103, X103, e103, st103⟩ := getF X101 hx hZ hown (host := "") (Or.inl (w_ hw 34 rfl)) Via.refl e101 F1 (g := (mkF m 6 #[.val (.ref a), .val (.int 1), .unset] [(.ref a), (.int 16)])) rfl rfl (hb hby d9_6)
  refine Fin.by (fun tt_ kk_ => st103 tt_ kk_) ?_
  refine Fin.by (fun tt_ kk_ => XS.ishr X103.here hx rfl (hb hby d9_9) rfl (XS.istoreN X103.here hx rfl (hb hby d9_10) rfl (l' := #[.val (.ref a), .val (.int 1), .val (.int 16)]) rfl (XS.iloadN X103.here hx rfl (hb hby d9_11) rfl (XS.iloadN X103.here hx rfl (hb hby d9_12) rfl (XS.isub X103.here hx rfl (hb hby d9_13) rfl kk_))))) ?_
  show Fin _ _ _ _ _ _ _ (T103.setTop (mkF m 14 #[.val (.ref a), .val (.int 1), .val (.int 16)] [(.int (-15 : Int32))]))
  refine Fin.by (fun tt_ kk_ => XS.ifYes X103.here hx rfl (pc0 := 14) (pc' := 38) rfl (hb hby d9_14) rfl ((if0 _ _).trans (flt (by decide : ¬ (0 : Int32) < (-15 : Int32))).2.2.2) (by decide) (by decide) kk_) ?_
  show Fin _ _ _ _ _ _ _ (T103.setTop (mkF m 38 #[.val (.ref a), .val (.int 1), .val (.int 16)] []))
  exact Fin.ret (v := none) X103 (fun _ => rfl) Bd.notSynchronized (by rw [e103]; exact ⟨rfl, N0, rfl⟩) (by decide) (by decide) (fun fs hr => X103.returnOut hx Bd.returns (hb hby d9_38) hr)
theorem d10_0 : decode jdk_68_method_68_code 0 = .ok (.getstatic 18, 3) := by decide +kernel
theorem d10_3 : decode jdk_68_method_68_code 3 = .ok (.ifCond .eq 14, 3) := by decide +kernel
theorem d10_6 : decode jdk_68_method_68_code 6 = .ok (.aload_n 0, 1) := by decide +kernel
theorem d10_7 : decode jdk_68_method_68_code 7 = .ok (.getfield 22, 3) := by decide +kernel
theorem d10_10 : decode jdk_68_method_68_code 10 = .ok (.ifCond .ne 7, 3) := by decide +kernel
theorem d10_13 : decode jdk_68_method_68_code 13 = .ok (.iconst 1, 1) := by decide +kernel
theorem d10_14 : decode jdk_68_method_68_code 14 = .ok (.goto 4, 3) := by decide +kernel
theorem d10_18 : decode jdk_68_method_68_code 18 = .ok (.ireturn, 1) := by decide +kernel
def Q_isl (Z : State) (a : Addr) (G1 : Int32) (h0 : Heap) (n0 : Nat) (vv_ : Option Value) (hh_ : Heap) (LL_ : List Loc) : Prop := vv_ = some (.int (1 : Int32)) ∧ Fr n0 LL_ ∧ hh_ = h0
set_option maxRecDepth 65536 in
set_option maxHeartbeats 40000000 in
theorem rm_isl (l : Launch) (Z : State) (a0 : Array Value) (hw : ∀ d ∈ tables_1, d.before a0 Z = true) (ws : List Jvm.Cond) (a : Addr) (G1 : Int32) (h0 : Heap) (n0 : Nat) (Z0 : n0 ≤ h0.size) (E0 : Exa Z h0 a "java/lang/StringBuilder") (F1 : Fld Z h0 a "java/lang/AbstractStringBuilder" "coder" "B" (.int (0 : Int32))) (S1 : Sta Z Z.heap "java/lang/String" "COMPACT_STRINGS" "Z" (.int G1)) (P1 : ¬ G1 = 0) (OL : Old Z n0 h0) :
    MetFree l y_7 (head1 (Jvm.Cond.code y_7 jdk_68_method_68_code 1 (some .boolean) :: ws) ({ frames := 0, cells := 0, slots := 0, locals := 0 } : Room)) (fun aa_ U => aa_ = #[(.ref a)] ∧ Z.Warmed39 U.vm ∧ U.heap = h0) (fun _ _ _ _ _ => True) (fun _ U o U' => ∃ vv_ LL_, o = .returned vv_ ∧ Q_isl Z a G1 h0 n0 vv_ U'.heap LL_ ∧ FrameEnd U o U' LL_ 0 0) := by
  refine MetFree.of_bodySF (plainFor_of_name pn_java_lang_AbstractStringBuilder) hisR ?_
  intro p e s m args below meth c s₁ Bd hml0 hP hK
  obtain ⟨rfl, hZ, hh⟩ := hP
  have hx := Bd.exec
  have hby := Bd.bytes
  have hml : c.maxLocals = 1 := hml0
  have hown : s.vm.findClass "java/lang/AbstractStringBuilder" = some m.cls := findClass_of_methodNamed Bd.named
  have hnm := (name_of_methodNamed Bd.named Bd.method).1
  have X0 : Stand p l e ({ frames := 0, cells := 0, slots := 0, locals := 0 } : Room) s m #[(.ref a)] below meth c s₁ [] 0 0 := Stand.of_body Bd
  have e0 : s₁.heap = h0 := by rw [← hh, Bd.state]; rfl
  have N0 := Fr.nil n0
  have ef : entryFrame m #[(.ref a)] 1 = mkF m 0 #[.val (.ref a)] [] := by first | (simp [entryFrame, mkF, argsToLocals, Value.category]; done) | rfl
  refine Fin.start (Q := Q_isl Z a G1 h0 n0) ef ?_
  obtain ⟨T101, X101, e101, st101⟩ := getS X0 hx hZ (host := "") hown (w_ hw 29 rfl) Via.refl e0 (S1.ext OL.2) (g := (mkF m 0 #[.val (.ref a)] [])) rfl (hb hby d10_0)
  refine Fin.by (fun tt_ kk_ => st101 tt_ kk_) ?_
  show Fin _ _ _ _ _ _ _ (T101.setTop (mkF m 3 #[.val (.ref a)] [(.int G1)]))
  refine Fin.by (fun tt_ kk_ => XS.ifNo X101.here hx rfl (hb hby d10_3) rfl ((if0 _ _).trans (feq (P1 : ¬ G1 = (0 : Int32))).1) kk_) ?_
  refine Fin.by (fun tt_ kk_ => XS.aloadN X101.here hx rfl (hb hby d10_6) rfl rfl kk_) ?_
  obtain ⟨T102, X102, e102, st102⟩ := getF X101 hx hZ hown (host := "") (Or.inl (w_ hw 34 rfl)) Via.refl e101 F1 (g := (mkF m 7 #[.val (.ref a)] [(.ref a)])) rfl rfl (hb hby d10_7)
  refine Fin.by (fun tt_ kk_ => st102 tt_ kk_) ?_
  show Fin _ _ _ _ _ _ _ (T102.setTop (mkF m 10 #[.val (.ref a)] [(.int 0)]))
  refine Fin.by (fun tt_ kk_ => XS.ifNo X102.here hx rfl (hb hby d10_10) rfl ((if0 _ _).trans (teq (rfl : (0 : Int32) = (0 : Int32))).2) kk_) ?_
  refine Fin.by (fun tt_ kk_ => XS.iconst X102.here hx rfl (hb hby d10_13) (XS.goto X102.here hx rfl (pc0 := 14) (pc' := 18) rfl (hb hby d10_14) (by decide) (by decide) kk_)) ?_
  show Fin _ _ _ _ _ _ _ (T102.setTop (mkF m 18 #[.val (.ref a)] [(.int 1)]))
  exact Fin.ret (v := some (.int (nar .boolean (1 : Int32)))) X102 (fun h => by rw [Bd.returns] at h; cases h) Bd.notSynchronized (by rw [e102]; exact ⟨rfl, N0, rfl⟩) (by decide) (by decide) (fun fs hr => retN X102 hx (t := .boolean) Bd.returns (by simp) (hb hby d10_18) hr)
abbrev y_11 : MethodName := (⟨"java/lang/StringLatin1", "canEncode", "(C)Z"⟩ : MethodName)
theorem d11_0 : decode jdk_43_method_3_code 0 = .ok (.iload_n 0, 1) := by decide +kernel
theorem d11_1 : decode jdk_43_method_3_code 1 = .ok (.sipush 255, 3) := by decide +kernel
theorem d11_4 : decode jdk_43_method_3_code 4 = .ok (.if_icmp .gt 7, 3) := by decide +kernel
theorem d11_7 : decode jdk_43_method_3_code 7 = .ok (.iconst 1, 1) := by decide +kernel
theorem d11_8 : decode jdk_43_method_3_code 8 = .ok (.goto 4, 3) := by decide +kernel
theorem d11_12 : decode jdk_43_method_3_code 12 = .ok (.ireturn, 1) := by decide +kernel
theorem pn_java_lang_StringLatin1 : plainName "java/lang/StringLatin1" = true := by first | (simp [plainName, overriddenIn]; done) | decide +kernel
def Q_can (Z : State) (x : Int32) (h0 : Heap) (n0 : Nat) (vv_ : Option Value) (hh_ : Heap) (LL_ : List Loc) : Prop := vv_ = some (.int (1 : Int32)) ∧ Fr n0 LL_ ∧ hh_ = h0
set_option maxRecDepth 65536 in
set_option maxHeartbeats 40000000 in
theorem rm_can (l : Launch) (Z : State) (a0 : Array Value) (hw : ∀ d ∈ tables_1, d.before a0 Z = true) (ws : List Jvm.Cond) (x : Int32) (h0 : Heap) (n0 : Nat) (Z0 : n0 ≤ h0.size) (hc : ¬ (255 : Int32) < x) :
    MetFree l y_11 (head1 (Jvm.Cond.code y_11 jdk_43_method_3_code 1 (some .boolean) :: ws) ({ frames := 0, cells := 0, slots := 0, locals := 0 } : Room)) (fun aa_ U => aa_ = #[(.int x)] ∧ Z.Warmed39 U.vm ∧ U.heap = h0) (fun _ _ _ _ _ => True) (fun _ U o U' => ∃ vv_ LL_, o = .returned vv_ ∧ Q_can Z x h0 n0 vv_ U'.heap LL_ ∧ FrameEnd U o U' LL_ 0 0) := by
  refine MetFree.of_bodySF (plainFor_of_name pn_java_lang_StringLatin1) hisR ?_
  intro p e s m args below meth c s₁ Bd hml0 hP hK
  obtain ⟨rfl, hZ, hh⟩ := hP
  have hx := Bd.exec
  have hby := Bd.bytes
  have hml : c.maxLocals = 1 := hml0
  have hown : s.vm.findClass "java/lang/StringLatin1" = some m.cls := findClass_of_methodNamed Bd.named
  have hnm := (name_of_methodNamed Bd.named Bd.method).1
  have X0 : Stand p l e ({ frames := 0, cells := 0, slots := 0, locals := 0 } : Room) s m #[(.int x)] below meth c s₁ [] 0 0 := Stand.of_body Bd
  have e0 : s₁.heap = h0 := by rw [← hh, Bd.state]; rfl
  have N0 := Fr.nil n0
  have ef : entryFrame m #[(.int x)] 1 = mkF m 0 #[.val (.int x)] [] := by first | (simp [entryFrame, mkF, argsToLocals, Value.category]; done) | rfl
  refine Fin.start (Q := Q_can Z x h0 n0) ef ?_
  refine Fin.by (fun tt_ kk_ => XS.iloadN X0.here hx rfl (hb hby d11_0) rfl (XS.sipush X0.here hx rfl (hb hby d11_1) kk_)) ?_
  show Fin _ _ _ _ _ _ _ (s₁.setTop (mkF m 4 #[.val (.int x)] [(.int 255), (.int x)]))
  refine Fin.by (fun tt_ kk_ => XS.icmpNo X0.here hx rfl (hb hby d11_4) rfl (flt (hc : ¬ (255 : Int32) < x)).2.2.1 kk_) ?_
  refine Fin.by (fun tt_ kk_ => XS.iconst X0.here hx rfl (hb hby d11_7) (XS.goto X0.here hx rfl (pc0 := 8) (pc' := 12) rfl (hb hby d11_8) (by decide) (by decide) kk_)) ?_
  show Fin _ _ _ _ _ _ _ (s₁.setTop (mkF m 12 #[.val (.int x)] [(.int 1)]))
  exact Fin.ret (v := some (.int (nar .boolean (1 : Int32)))) X0 (fun h => by rw [Bd.returns] at h; cases h) Bd.notSynchronized (by rw [e0]; exact ⟨rfl, N0, rfl⟩) (by decide) (by decide) (fun fs hr => retN X0 hx (t := .boolean) Bd.returns (by simp) (hb hby d11_12) hr)
abbrev y_12 : MethodName := (⟨"java/lang/AbstractStringBuilder", "append", "(C)Ljava/lang/AbstractStringBuilder;"⟩ : MethodName)
theorem d12_0 : decode jdk_68_method_31_code 0 = .ok (.aload_n 0, 1) := by decide +kernel
theorem d12_1 : decode jdk_68_method_31_code 1 = .ok (.aload_n 0, 1) := by decide +kernel
theorem d12_2 : decode jdk_68_method_31_code 2 = .ok (.getfield 79, 3) := by decide +kernel
theorem d12_5 : decode jdk_68_method_31_code 5 = .ok (.iconst 1, 1) := by decide +kernel
theorem d12_6 : decode jdk_68_method_31_code 6 = .ok (.iadd, 1) := by decide +kernel
theorem d12_7 : decode jdk_68_method_31_code 7 = .ok (.invokevirtual 100, 3) := by decide +kernel
theorem d12_10 : decode jdk_68_method_31_code 10 = .ok (.aload_n 0, 1) := by decide +kernel
theorem pd_120 : parseMethodDescriptor "()Z" = some ⟨[], some .boolean⟩ := by decide +kernel
theorem d12_11 : decode jdk_68_method_31_code 11 = .ok (.invokevirtual 83, 3) := by decide +kernel
theorem d12_14 : decode jdk_68_method_31_code 14 = .ok (.ifCond .eq 31, 3) := by decide +kernel
theorem d12_17 : decode jdk_68_method_31_code 17 = .ok (.iload_n 1, 1) := by decide +kernel
theorem pd_124 : parseMethodDescriptor "(C)Z" = some ⟨[.char], some .boolean⟩ := by decide +kernel
theorem d12_18 : decode jdk_68_method_31_code 18 = .ok (.invokestatic 191, 3) := by decide +kernel
theorem d12_21 : decode jdk_68_method_31_code 21 = .ok (.ifCond .eq 24, 3) := by decide +kernel
theorem d12_24 : decode jdk_68_method_31_code 24 = .ok (.aload_n 0, 1) := by decide +kernel
theorem d12_25 : decode jdk_68_method_31_code 25 = .ok (.getfield 15, 3) := by decide +kernel
theorem d12_28 : decode jdk_68_method_31_code 28 = .ok (.aload_n 0, 1) := by decide +kernel
theorem d12_29 : decode jdk_68_method_31_code 29 = .ok (.dup, 1) := by decide +kernel
theorem d12_30 : decode jdk_68_method_31_code 30 = .ok (.getfield 79, 3) := by decide +kernel
theorem d12_33 : decode jdk_68_method_31_code 33 = .ok (.dup_x1, 1) := by decide +kernel
theorem d12_34 : decode jdk_68_method_31_code 34 = .ok (.iconst 1, 1) := by decide +kernel
theorem d12_35 : decode jdk_68_method_31_code 35 = .ok (.iadd, 1) := by decide +kernel
theorem d12_36 : decode jdk_68_method_31_code 36 = .ok (.putfield 79, 3) := by decide +kernel
theorem d12_39 : decode jdk_68_method_31_code 39 = .ok (.iload_n 1, 1) := by decide +kernel
theorem d12_40 : decode jdk_68_method_31_code 40 = .ok (.i2b, 1) := by decide +kernel
theorem d12_41 : decode jdk_68_method_31_code 41 = .ok (.bastore, 1) := by decide +kernel
theorem d12_42 : decode jdk_68_method_31_code 42 = .ok (.goto 33, 3) := by decide +kernel
theorem d12_75 : decode jdk_68_method_31_code 75 = .ok (.aload_n 0, 1) := by decide +kernel
theorem d12_76 : decode jdk_68_method_31_code 76 = .ok (.areturn, 1) := by decide +kernel
def Q_apc32 (Z : State) (a : Addr) (v : Addr) (kv : ClassId) (vs : List Value) (G1 : Int32) (h0 : Heap) (n0 : Nat) (vv_ : Option Value) (hh_ : Heap) (LL_ : List Loc) : Prop := vv_ = some (.ref a) ∧ Fr n0 LL_ ∧ Keep h0 hh_ [a, v] ∧ Exa Z hh_ a "java/lang/StringBuilder" ∧ Fld Z hh_ a "java/lang/AbstractStringBuilder" "value" "[B" (.ref v) ∧ Fld Z hh_ a "java/lang/AbstractStringBuilder" "coder" "B" (.int (0 : Int32)) ∧ Fld Z hh_ a "java/lang/AbstractStringBuilder" "count" "I" (.int (1 : Int32)) ∧ Fld Z hh_ a "java/lang/AbstractStringBuilder" "maybeLatin1" "Z" (.int (0 : Int32)) ∧ Arv Z hh_ v kv .byte (16 : Int32) (vs ++ [(.int ((32 : Int32).toInt8.toInt32))]) (.int 0)
set_option maxRecDepth 65536 in
set_option maxHeartbeats 40000000 in
theorem rm_apc32 (l : Launch) (Z : State) (a0 : Array Value) (hw : ∀ d ∈ tables_1, d.before a0 Z = true) (ws : List Jvm.Cond) (a : Addr) (v : Addr) (kv : ClassId) (vs : List Value) (G1 : Int32) (h0 : Heap) (n0 : Nat) (Z0 : n0 ≤ h0.size) (hvd : vs.length = 0) (E0 : Exa Z h0 a "java/lang/StringBuilder") (F0 : Fld Z h0 a "java/lang/AbstractStringBuilder" "value" "[B" (.ref v)) (F1 : Fld Z h0 a "java/lang/AbstractStringBuilder" "coder" "B" (.int (0 : Int32))) (F2 : Fld Z h0 a "java/lang/AbstractStringBuilder" "count" "I" (.int (0 : Int32))) (F9 : Fld Z h0 a "java/lang/AbstractStringBuilder" "maybeLatin1" "Z" (.int (0 : Int32))) (A0 : Arv Z h0 v kv .byte (16 : Int32) vs (.int 0)) (ga : n0 ≤ a) (gv : n0 ≤ v) (na : a ≠ v) (S1 : Sta Z Z.heap "java/lang/String" "COMPACT_STRINGS" "Z" (.int G1)) (P1 : ¬ G1 = 0) (OL : Old Z n0 h0) :
    MetFree l y_12 (head1 (Jvm.Cond.code y_12 jdk_68_method_31_code 2 (some (.object "java/lang/AbstractStringBuilder")) :: ws) ({ frames := 1, cells := 0, slots := 0, locals := 14 } : Room)) (fun aa_ U => aa_ = #[(.ref a), (.int (32 : Int32))] ∧ Z.Warmed39 U.vm ∧ U.heap = h0) (fun _ _ _ _ _ => True) (fun _ U o U' => ∃ vv_ LL_, o = .returned vv_ ∧ Q_apc32 Z a v kv vs G1 h0 n0 vv_ U'.heap LL_ ∧ FrameEnd U o U' LL_ 0 0) := by
  refine MetFree.of_bodySF (plainFor_of_name pn_java_lang_AbstractStringBuilder) hisR ?_
  intro p e s m args below meth c s₁ Bd hml0 hP hK
  obtain ⟨rfl, hZ, hh⟩ := hP
  have hx := Bd.exec
  have hby := Bd.bytes
  have hml : c.maxLocals = 2 := hml0
  have hown : s.vm.findClass "java/lang/AbstractStringBuilder" = some m.cls := findClass_of_methodNamed Bd.named
  have hnm := (name_of_methodNamed Bd.named Bd.method).1
  have X0 : Stand p l e ({ frames := 1, cells := 0, slots := 0, locals := 14 } : Room) s m #[(.ref a), (.int (32 : Int32))] below meth c s₁ [] 0 0 := Stand.of_body Bd
  have e0 : s₁.heap = h0 := by rw [← hh, Bd.state]; rfl
  have N0 := Fr.nil n0
  have ef : entryFrame m #[(.ref a), (.int (32 : Int32))] 2 = mkF m 0 #[.val (.ref a), .val (.int (32 : Int32))] [] := by first | (simp [entryFrame, mkF, argsToLocals, Value.category]; done) | rfl
  refine Fin.start (Q := Q_apc32 Z a v kv vs G1 h0 n0) ef ?_
  refine Fin.by (fun tt_ kk_ => XS.aloadN X0.here hx rfl (hb hby d12_0) rfl rfl (XS.aloadN X0.here hx rfl (hb hby d12_1) rfl rfl kk_)) ?_
  obtain ⟨T101, X101, e101, st101⟩ := getF X0 hx hZ hown (host := "") (Or.inl (w_ hw 88 rfl)) Via.refl e0 F2 (g := (mkF m 2 #[.val (.ref a), .val (.int 32)] [(.ref a), (.ref a)])) rfl rfl (hb hby d12_2)
  refine Fin.by (fun tt_ kk_ => st101 tt_ kk_) ?_
  refine Fin.by (fun tt_ kk_ => XS.iconst X101.here hx rfl (hb hby d12_5) (XS.iadd X101.here hx rfl (hb hby d12_6) rfl kk_)) ?_
  obtain ⟨cq102, qa102, qb102⟩ := E0.cell
  obtain ⟨v102, _, ⟨T102, L102, k102, n102⟩, -, X102, ⟨Lc102, hQ102, l102, y102, z102⟩, st102⟩ := X101.privateBack hx (y := y_10) hown (mvT hZ (w_ hw 170 rfl)) (mvT hZ (w_ hw 171 rfl)) (own_selpriv (z := y_7) (y := y_10) (mvT hZ (w_ hw 126 rfl)) rfl (Cond.privateMethod_at (mvP hZ (w_ hw 172 rfl) (args := #[]))) (mvT hZ (w_ hw 171 rfl)) (by decide)) (Cond.privateMethod_at (mvP hZ (w_ hw 172 rfl) (args := #[]))) (mvT hZ (w_ hw 174 rfl)) (by decide) (backOf (W := 0) (rm_eci16_1 l Z a0 hw [] a v kv (vs : List Value) h0 n0 Z0 E0 F0 F1 A0) hZ (w_ hw 174 rfl) (w_ hw 26 rfl) (by decide) (by decide)) (g := (mkF m 7 #[.val (.ref a), .val (.int 32)] [(.int 1), (.ref a)])) rfl (by rw [hml]; rfl) (Steps.refl _) (a := a) (by rw [e101]; exact qa102) qb102 (argsL := [(.int 1)]) (rest := []) (lenOf pd_16 rfl) rfl (by show 2 * 0 + _ ≤ _; exact Nat.le_of_eq rfl) (hb hby d12_7) (fun _ _ => ⟨rfl, e101, (by decide : 0 + 0 ≤ _), (by decide : 0 + 0 ≤ _)⟩)
  dsimp only [Pt.U, Pt.locs, Pt.cells, Pt.slots] at X102 l102 y102 z102 st102 hQ102
  subst l102 y102 z102
  obtain ⟨rfl, Nq102, e102_⟩ := hQ102
  have N102_ := Fr.app N0 Nq102
  refine Fin.byS st102 ?_
  have e102 := e102_
  refine Fin.by (fun tt_ kk_ => XS.aloadN X102.here hx rfl (hb hby d12_10) rfl rfl kk_) ?_
  obtain ⟨cq103, kq103, qa103, qb103, qc103⟩ := isOf hZ e102 E0
  obtain ⟨v103, _, ⟨T103, L103, k103, n103⟩, -, X103, ⟨Lc103, hQ103, l103, y103, z103⟩, st103⟩ := X102.virtualBack hx (y := y_7) (z := y_7) hown (mvT hZ (w_ hw 123 rfl)) (mvT hZ (w_ hw 124 rfl)) (notFace_of_selects (args := #[]) (mvT hZ (w_ hw 126 rfl))) (mvT hZ (w_ hw 126 rfl)) (mvT hZ (w_ hw 125 rfl)) (by decide) (backOf (W := 0) (rm_isl l Z a0 hw [] a G1 h0 n0 Z0 E0 F1 S1 P1 OL) hZ (w_ hw 127 rfl) (w_ hw 26 rfl) (by decide) (by decide)) qa103 qc103 (g := (mkF m 11 #[.val (.ref a), .val (.int 32)] [(.ref a)])) rfl (by rw [hml]; rfl) (Steps.refl _) (argsL := []) (rest := []) (lenOf pd_120 rfl) rfl (by show 2 * 0 + _ ≤ _; exact Nat.le_of_eq rfl) (hb hby d12_11) (fun _ _ => ⟨rfl, e102, (by decide : 0 + 0 ≤ _), (by decide : 0 + 0 ≤ _)⟩)
  dsimp only [Pt.U, Pt.locs, Pt.cells, Pt.slots] at X103 l103 y103 z103 st103 hQ103
  subst l103 y103 z103
  obtain ⟨rfl, Nq103, e103_⟩ := hQ103
  have N103_ := Fr.app N102_ Nq103
  refine Fin.byS st103 ?_
  have e103 := e103_
  show Fin _ _ _ _ _ _ _ (T103.setTop (mkF m 14 #[.val (.ref a), .val (.int 32)] [(.int 1)]))
  refine Fin.by (fun tt_ kk_ => XS.ifNo X103.here hx rfl (hb hby d12_14) rfl ((if0 _ _).trans (feq (by decide : ¬ (1 : Int32) = (0 : Int32))).1) kk_) ?_
  refine Fin.by (fun tt_ kk_ => XS.iloadN X103.here hx rfl (hb hby d12_17) rfl kk_) ?_
  obtain ⟨v104, _, ⟨T104, L104, k104, n104⟩, -, X104, ⟨Lc104, hQ104, l104, y104, z104⟩, st104⟩ := Jvm.LawKit.callS X103 hx (y := y_11) hown (mvT hZ (w_ hw 235 rfl)) (mvT hZ (w_ hw 236 rfl)) (mvT hZ (w_ hw 130 rfl)) (mvT hZ (w_ hw 237 rfl)) (by decide) (backOf (W := 0) (rm_can l Z a0 hw [] (32 : Int32) h0 n0 Z0 (by decide)) hZ (w_ hw 237 rfl) (w_ hw 130 rfl) (by decide) (by decide)) (g := (mkF m 18 #[.val (.ref a), .val (.int 32)] [(.int 32)])) rfl (by rw [hml]; rfl) (argsL := [(.int 32)]) (rest := []) (lenOf pd_124 rfl) rfl (by show 2 * 0 + _ ≤ _; exact Nat.le_of_eq rfl) (hb hby d12_18) (fun _ _ => ⟨rfl, e103, (by decide : 0 + 0 ≤ _), (by decide : 0 + 0 ≤ _)⟩)
  dsimp only [Pt.U, Pt.locs, Pt.cells, Pt.slots] at X104 l104 y104 z104 st104 hQ104
  subst l104 y104 z104
  obtain ⟨rfl, Nq104, e104_⟩ := hQ104
  have N104_ := Fr.app N103_ Nq104
  refine Fin.by (fun tt_ kk_ => st104 tt_ kk_) ?_
  have e104 := e104_
  show Fin _ _ _ _ _ _ _ (T104.setTop (mkF m 21 #[.val (.ref a), .val (.int 32)] [(.int 1)]))
  refine Fin.by (fun tt_ kk_ => XS.ifNo X104.here hx rfl (hb hby d12_21) rfl ((if0 _ _).trans (feq (by decide : ¬ (1 : Int32) = (0 : Int32))).1) kk_) ?_
  refine Fin.by (fun tt_ kk_ => XS.aloadN X104.here hx rfl (hb hby d12_24) rfl rfl kk_) ?_
  obtain ⟨T105, X105, e105, st105⟩ := getF X104 hx hZ hown (host := "") (Or.inl (w_ hw 32 rfl)) Via.refl e104 F0 (g := (mkF m 25 #[.val (.ref a), .val (.int 32)] [(.ref a)])) rfl rfl (hb hby d12_25)
  refine Fin.by (fun tt_ kk_ => st105 tt_ kk_) ?_
  refine Fin.by (fun tt_ kk_ => XS.aloadN X105.here hx rfl (hb hby d12_28) rfl rfl (XS.dup X105.here hx rfl (hb hby d12_29) rfl rfl kk_)) ?_
  obtain ⟨T106, X106, e106, st106⟩ := getF X105 hx hZ hown (host := "") (Or.inl (w_ hw 88 rfl)) Via.refl e105 F2 (g := (mkF m 30 #[.val (.ref a), .val (.int 32)] [(.ref a), (.ref a), (.ref v)])) rfl rfl (hb hby d12_30)
  refine Fin.by (fun tt_ kk_ => st106 tt_ kk_) ?_
  refine Fin.by (fun tt_ kk_ => XS.dupX1 X106.here hx rfl (hb hby d12_33) rfl rfl rfl (XS.iconst X106.here hx rfl (hb hby d12_34) (XS.iadd X106.here hx rfl (hb hby d12_35) rfl kk_))) ?_
  obtain ⟨T107, h107, X107, e107, W107, st107⟩ := putF X106 hx hZ hown (host := "") (Or.inl (w_ hw 88 rfl)) Via.refl e106 F2 E0 (Or.inl (w_ hw 89 rfl)) (w_ hw 17 rfl) (ty := .int) (by decide) rfl rfl (g := (mkF m 36 #[.val (.ref a), .val (.int 32)] [(.int 1), (.ref a), (.int 0), (.ref v)])) rfl rfl (hb hby d12_36)
  refine Fin.by (fun tt_ kk_ => st107 tt_ kk_) ?_
  have N107_ := Fr.snoc X107 N104_ ga
  refine Fin.by (fun tt_ kk_ => XS.iloadN X107.here hx rfl (hb hby d12_39) rfl (XS.i2b X107.here hx rfl (hb hby d12_40) rfl kk_)) ?_
  have A108 : Arv Z h107 v kv .byte (16 : Int32) vs (.int 0) := (A0.other W107 (Ne.symm na))
  obtain ⟨cl109, Ar109, q109, S109, N109, H109, G109⟩ := id A108
  have hin109 : ¬ ((0 : Int32) < 0 ∨ cl109.slots.size ≤ (0 : Int32).toNatClampNeg) := inb_of S109 ⟨by decide, by decide⟩
  obtain ⟨T109, h109, X109, e109, W109, st109⟩ := stB X107 hx hZ e107 Ar109 (j := (0 : Int32)) hin109 (g := (mkF m 41 #[.val (.ref a), .val (.int 32)] [(.int 32), (.int 0), (.ref v)])) rfl rfl (hb hby d12_41)
  have V109 : Arv Z h109 v kv .byte (16 : Int32) (vs ++ [(.int ((32 : Int32).toInt8.toInt32))]) (.int 0) := own_push Ar109 q109 S109 N109 H109 G109 (fits_nar_byte _) W109 (by rw [hvd]; rfl)
  refine Fin.by (fun tt_ kk_ => st109 tt_ kk_) ?_
  have N109_ := Fr.snoc X109 N107_ gv
  refine Fin.by (fun tt_ kk_ => XS.goto X109.here hx rfl (pc0 := 42) (pc' := 75) rfl (hb hby d12_42) (by decide) (by decide) (XS.aloadN X109.here hx rfl (hb hby d12_75) rfl rfl kk_)) ?_
  have kp110 : Keep h0 h107 [a, v] := (Keep.refl h0 [a, v]).wr W107 (Or.inl (List.mem_of_getElem? (i := 0) rfl))
  have kp111 : Keep h0 h109 [a, v] := kp110.wr W109 (Or.inl (List.mem_of_getElem? (i := 1) rfl))
  have E112 : Exa Z h109 a "java/lang/StringBuilder" := ((E0.wr W107).wr W109)
  have F113 : Fld Z h109 a "java/lang/AbstractStringBuilder" "value" "[B" (.ref v) := ((F0.other W107 (Or.inr (slot_ne (Or.inl (w_ hw 33 rfl)) (Or.inl (w_ hw 89 rfl)) (by decide) (t := (.array .byte)) (t' := .int) (by decide) (by decide)))).other W109 (Or.inl na))
  have F114 : Fld Z h109 a "java/lang/AbstractStringBuilder" "coder" "B" (.int (0 : Int32)) := ((F1.other W107 (Or.inr (slot_ne (Or.inl (w_ hw 35 rfl)) (Or.inl (w_ hw 89 rfl)) (by decide) (t := .byte) (t' := .int) (by decide) (by decide)))).other W109 (Or.inl na))
  have F115 : Fld Z h109 a "java/lang/AbstractStringBuilder" "count" "I" (.int (1 : Int32)) := ((F2.same W107).other W109 (Or.inl na))
  have F116 : Fld Z h109 a "java/lang/AbstractStringBuilder" "maybeLatin1" "Z" (.int (0 : Int32)) := ((F9.other W107 (Or.inr (slot_ne (Or.inl (w_ hw 273 rfl)) (Or.inl (w_ hw 89 rfl)) (by decide) (t := .boolean) (t' := .int) (by decide) (by decide)))).other W109 (Or.inl na))
  show Fin _ _ _ _ _ _ _ (T109.setTop (mkF m 76 #[.val (.ref a), .val (.int 32)] [(.ref a)]))
  exact Fin.ret (v := some (.ref a)) X109 (fun h => by rw [Bd.returns] at h; cases h) Bd.notSynchronized (by rw [e109]; exact ⟨rfl, N109_, kp111, E112, F113, F114, F115, F116, V109⟩) (by decide) (by decide) (fun fs hr => retA X109 hx Bd.returns rfl rfl (hb hby d12_76) hr)
abbrev y_13 : MethodName := (⟨"java/lang/StringBuilder", "append", "(C)Ljava/lang/StringBuilder;"⟩ : MethodName)
theorem d13_0 : decode jdk_67_method_14_code 0 = .ok (.aload_n 0, 1) := by decide +kernel
theorem d13_1 : decode jdk_67_method_14_code 1 = .ok (.iload_n 1, 1) := by decide +kernel
theorem pd_144 : parseMethodDescriptor "(C)Ljava/lang/AbstractStringBuilder;" = some ⟨[.char], some (.object "java/lang/AbstractStringBuilder")⟩ := by decide +kernel
theorem d13_2 : decode jdk_67_method_14_code 2 = .ok (.invokespecial 50, 3) := by decide +kernel
theorem d13_5 : decode jdk_67_method_14_code 5 = .ok (.pop, 1) := by decide +kernel
theorem d13_6 : decode jdk_67_method_14_code 6 = .ok (.aload_n 0, 1) := by decide +kernel
theorem d13_7 : decode jdk_67_method_14_code 7 = .ok (.areturn, 1) := by decide +kernel
def Q_sac32 (Z : State) (a : Addr) (v : Addr) (kv : ClassId) (vs : List Value) (G1 : Int32) (h0 : Heap) (n0 : Nat) (vv_ : Option Value) (hh_ : Heap) (LL_ : List Loc) : Prop := vv_ = some (.ref a) ∧ Fr n0 LL_ ∧ Keep h0 hh_ [a, v] ∧ Exa Z hh_ a "java/lang/StringBuilder" ∧ Fld Z hh_ a "java/lang/AbstractStringBuilder" "value" "[B" (.ref v) ∧ Fld Z hh_ a "java/lang/AbstractStringBuilder" "coder" "B" (.int (0 : Int32)) ∧ Fld Z hh_ a "java/lang/AbstractStringBuilder" "count" "I" (.int (1 : Int32)) ∧ Fld Z hh_ a "java/lang/AbstractStringBuilder" "maybeLatin1" "Z" (.int (0 : Int32)) ∧ Arv Z hh_ v kv .byte (16 : Int32) (vs ++ [(.int ((32 : Int32).toInt8.toInt32))]) (.int 0)
set_option maxRecDepth 65536 in
set_option maxHeartbeats 40000000 in
theorem rm_sac32 (l : Launch) (Z : State) (a0 : Array Value) (hw : ∀ d ∈ tables_1, d.before a0 Z = true) (ws : List Jvm.Cond) (a : Addr) (v : Addr) (kv : ClassId) (vs : List Value) (G1 : Int32) (h0 : Heap) (n0 : Nat) (Z0 : n0 ≤ h0.size) (hvd : vs.length = 0) (E0 : Exa Z h0 a "java/lang/StringBuilder") (F0 : Fld Z h0 a "java/lang/AbstractStringBuilder" "value" "[B" (.ref v)) (F1 : Fld Z h0 a "java/lang/AbstractStringBuilder" "coder" "B" (.int (0 : Int32))) (F2 : Fld Z h0 a "java/lang/AbstractStringBuilder" "count" "I" (.int (0 : Int32))) (F9 : Fld Z h0 a "java/lang/AbstractStringBuilder" "maybeLatin1" "Z" (.int (0 : Int32))) (A0 : Arv Z h0 v kv .byte (16 : Int32) vs (.int 0)) (ga : n0 ≤ a) (gv : n0 ≤ v) (na : a ≠ v) (S1 : Sta Z Z.heap "java/lang/String" "COMPACT_STRINGS" "Z" (.int G1)) (P1 : ¬ G1 = 0) (OL : Old Z n0 h0) :
    MetFree l y_13 (head1 (Jvm.Cond.code y_13 jdk_67_method_14_code 2 (some (.object "java/lang/StringBuilder")) :: ws) ({ frames := 2, cells := 0, slots := 0, locals := 27 } : Room)) (fun aa_ U => aa_ = #[(.ref a), (.int (32 : Int32))] ∧ Z.Warmed39 U.vm ∧ U.heap = h0) (fun _ _ _ _ _ => True) (fun _ U o U' => ∃ vv_ LL_, o = .returned vv_ ∧ Q_sac32 Z a v kv vs G1 h0 n0 vv_ U'.heap LL_ ∧ FrameEnd U o U' LL_ 0 0) := by
  refine MetFree.of_bodySF (plainFor_of_name pn_java_lang_StringBuilder) hisR ?_
  intro p e s m args below meth c s₁ Bd hml0 hP hK
  obtain ⟨rfl, hZ, hh⟩ := hP
  have hx := Bd.exec
  have hby := Bd.bytes
  have hml : c.maxLocals = 2 := hml0
  have hown : s.vm.findClass "java/lang/StringBuilder" = some m.cls := findClass_of_methodNamed Bd.named
  have hnm := (name_of_methodNamed Bd.named Bd.method).1
  have X0 : Stand p l e ({ frames := 2, cells := 0, slots := 0, locals := 27 } : Room) s m #[(.ref a), (.int (32 : Int32))] below meth c s₁ [] 0 0 := Stand.of_body Bd
  have e0 : s₁.heap = h0 := by rw [← hh, Bd.state]; rfl
  have N0 := Fr.nil n0
  have ef : entryFrame m #[(.ref a), (.int (32 : Int32))] 2 = mkF m 0 #[.val (.ref a), .val (.int (32 : Int32))] [] := by first | (simp [entryFrame, mkF, argsToLocals, Value.category]; done) | rfl
  refine Fin.start (Q := Q_sac32 Z a v kv vs G1 h0 n0) ef ?_
  refine Fin.by (fun tt_ kk_ => XS.aloadN X0.here hx rfl (hb hby d13_0) rfl rfl (XS.iloadN X0.here hx rfl (hb hby d13_1) rfl kk_)) ?_
  obtain ⟨v101, _, ⟨T101, L101, k101, n101⟩, -, X101, ⟨Lc101, hQ101, l101, y101, z101⟩, st101⟩ := superBack X0 hx hZ (y := y_12) hown (w_ hw 231 rfl) (own_same (z := y_7) (y := y_12) (w_ hw 126 rfl) rfl (w_ hw 232 rfl) (by decide)) (w_ hw 232 rfl) (w_ hw 85 rfl) (by decide) (backOf (W := 0) (rm_apc32 l Z a0 hw [] a v kv (vs : List Value) G1 h0 n0 Z0 hvd E0 F0 F1 F2 F9 A0 ga gv na S1 P1 OL) hZ (w_ hw 234 rfl) (w_ hw 26 rfl) (by decide) (by decide)) e0 (Ins.self E0) (g := (mkF m 2 #[.val (.ref a), .val (.int 32)] [(.int 32), (.ref a)])) rfl (by rw [hml]; rfl) (w_ hw 234 rfl) (argsL := [(.int 32)]) (rest := []) (lenOf pd_144 rfl) rfl (by show 2 * 0 + _ ≤ _; exact Nat.le_of_eq rfl) (hb hby d13_2) (fun _ _ => ⟨rfl, e0, (by decide : 0 + 0 ≤ _), (by decide : 0 + 0 ≤ _)⟩)
  dsimp only [Pt.U, Pt.locs, Pt.cells, Pt.slots] at X101 l101 y101 z101 st101 hQ101
  subst l101 y101 z101
  obtain ⟨rfl, Nq101, p101_0, p101_1, p101_2, p101_3, p101_4, p101_5, p101_6⟩ := hQ101
  have N101_ := Fr.app N0 Nq101
  refine Fin.byS st101 ?_
  refine Fin.by (fun tt_ kk_ => XS.pop X101.here hx rfl (hb hby d13_5) rfl rfl (XS.aloadN X101.here hx rfl (hb hby d13_6) rfl rfl kk_)) ?_
  have kp102 : Keep h0 T101.heap [a, v] := (Keep.refl h0 [a, v]).trans p101_0 (allS (Or.inl (List.mem_of_getElem? (i := 0) rfl)) (allS (Or.inl (List.mem_of_getElem? (i := 1) rfl)) all0))
  show Fin _ _ _ _ _ _ _ (T101.setTop (mkF m 7 #[.val (.ref a), .val (.int 32)] [(.ref a)]))
  exact Fin.ret (v := some (.ref a)) X101 (fun h => by rw [Bd.returns] at h; cases h) Bd.notSynchronized (⟨rfl, N101_, kp102, p101_1, p101_2, p101_3, p101_4, p101_5, p101_6⟩) (by decide) (by decide) (fun fs hr => retA X101 hx Bd.returns rfl rfl (hb hby d13_7) hr)
abbrev y_14 : MethodName := (⟨"com/example/colonnade/colonnade/TextSpool", "append", "(C)V"⟩ : MethodName)
theorem d14_0 : decode prog_103_method_2_code 0 = .ok (.aload_n 0, 1) := by decide +kernel
theorem d14_1 : decode prog_103_method_2_code 1 = .ok (.getfield 10, 3) := by decide +kernel
theorem d14_4 : decode prog_103_method_2_code 4 = .ok (.iload_n 1, 1) := by decide +kernel
theorem pd_152 : parseMethodDescriptor "(C)Ljava/lang/StringBuilder;" = some ⟨[.char], some (.object "java/lang/StringBuilder")⟩ := by decide +kernel
theorem d14_5 : decode prog_103_method_2_code 5 = .ok (.invokevirtual 20, 3) := by decide +kernel
theorem d14_8 : decode prog_103_method_2_code 8 = .ok (.pop, 1) := by decide +kernel
theorem d14_9 : decode prog_103_method_2_code 9 = .ok (.aload_n 0, 1) := by decide +kernel
theorem d14_10 : decode prog_103_method_2_code 10 = .ok (.getfield 10, 3) := by decide +kernel
theorem d14_13 : decode prog_103_method_2_code 13 = .ok (.invokevirtual 24, 3) := by decide +kernel
theorem d14_16 : decode prog_103_method_2_code 16 = .ok (.aload_n 0, 1) := by decide +kernel
theorem d14_17 : decode prog_103_method_2_code 17 = .ok (.getfield 16, 3) := by decide +kernel
theorem d14_20 : decode prog_103_method_2_code 20 = .ok (.if_icmp .lt 7, 3) := by decide +kernel
theorem d14_27 : decode prog_103_method_2_code 27 = .ok (.return_, 1) := by decide +kernel
def Q_tap (Z : State) (b : Addr) (sb : Addr) (v : Addr) (kv : ClassId) (vs : List Value) (G1 : Int32) (h0 : Heap) (n0 : Nat) (vv_ : Option Value) (hh_ : Heap) (LL_ : List Loc) : Prop := vv_ = none ∧ Fr n0 LL_ ∧ Keep h0 hh_ [sb, v] ∧ Exa Z hh_ sb "java/lang/StringBuilder" ∧ Fld Z hh_ sb "java/lang/AbstractStringBuilder" "value" "[B" (.ref v) ∧ Fld Z hh_ sb "java/lang/AbstractStringBuilder" "coder" "B" (.int (0 : Int32)) ∧ Fld Z hh_ sb "java/lang/AbstractStringBuilder" "count" "I" (.int (1 : Int32)) ∧ Fld Z hh_ sb "java/lang/AbstractStringBuilder" "maybeLatin1" "Z" (.int (0 : Int32)) ∧ Arv Z hh_ v kv .byte (16 : Int32) (vs ++ [(.int ((32 : Int32).toInt8.toInt32))]) (.int 0)
set_option maxRecDepth 65536 in
set_option maxHeartbeats 40000000 in
theorem rm_tap (l : Launch) (Z : State) (a0 : Array Value) (hw : ∀ d ∈ tables_1, d.before a0 Z = true) (ws : List Jvm.Cond) (b : Addr) (sb : Addr) (v : Addr) (kv : ClassId) (vs : List Value) (G1 : Int32) (h0 : Heap) (n0 : Nat) (Z0 : n0 ≤ h0.size) (hvd : vs.length = 0) (T0 : Exa Z h0 b "com/example/colonnade/colonnade/TextSpool") (T1 : Fld Z h0 b "com/example/colonnade/colonnade/TextSpool" "chars" "Ljava/lang/StringBuilder;" (.ref sb)) (T2 : Fld Z h0 b "com/example/colonnade/colonnade/TextSpool" "charsInMemory" "I" (.int (1000 : Int32))) (T3 : Fld Z h0 b "com/example/colonnade/colonnade/TextSpool" "file" "Lcom/example/colonnade/colonnade/SpoolFile;" .null) (S_0 : Exa Z h0 sb "java/lang/StringBuilder") (S_1 : Fld Z h0 sb "java/lang/AbstractStringBuilder" "value" "[B" (.ref v)) (S_2 : Fld Z h0 sb "java/lang/AbstractStringBuilder" "coder" "B" (.int (0 : Int32))) (S_3 : Fld Z h0 sb "java/lang/AbstractStringBuilder" "count" "I" (.int (0 : Int32))) (S_4 : Fld Z h0 sb "java/lang/AbstractStringBuilder" "maybeLatin1" "Z" (.int (0 : Int32))) (A0 : Arv Z h0 v kv .byte (16 : Int32) vs (.int 0)) (gs : n0 ≤ sb) (gv : n0 ≤ v) (n1 : sb ≠ v) (n2 : b ≠ sb) (n3 : b ≠ v) (S1 : Sta Z Z.heap "java/lang/String" "COMPACT_STRINGS" "Z" (.int G1)) (P1 : ¬ G1 = 0) (OL : Old Z n0 h0) :
    MetFree l y_14 (head1 (Jvm.Cond.code y_14 prog_103_method_2_code 2 none :: ws) ({ frames := 3, cells := 0, slots := 0, locals := 40 } : Room)) (fun aa_ U => aa_ = #[(.ref b), (.int (32 : Int32))] ∧ Z.Warmed39 U.vm ∧ U.heap = h0) (fun _ _ _ _ _ => True) (fun _ U o U' => ∃ vv_ LL_, o = .returned vv_ ∧ Q_tap Z b sb v kv vs G1 h0 n0 vv_ U'.heap LL_ ∧ FrameEnd U o U' LL_ 0 0) := by
  refine MetFree.of_bodySF (plainFor_of_name pn_com_example_colonnade_colonnade_TextSpool) hisR ?_
  intro p e s m args below meth c s₁ Bd hml0 hP hK
  obtain ⟨rfl, hZ, hh⟩ := hP
  have hx := Bd.exec
  have hby := Bd.bytes
  have hml : c.maxLocals = 2 := hml0
  have hown : s.vm.findClass "com/example/colonnade/colonnade/TextSpool" = some m.cls := findClass_of_methodNamed Bd.named
  have hnm := (name_of_methodNamed Bd.named Bd.method).1
  have X0 : Stand p l e ({ frames := 3, cells := 0, slots := 0, locals := 40 } : Room) s m #[(.ref b), (.int (32 : Int32))] below meth c s₁ [] 0 0 := Stand.of_body Bd
  have e0 : s₁.heap = h0 := by rw [← hh, Bd.state]; rfl
  have N0 := Fr.nil n0
  have ef : entryFrame m #[(.ref b), (.int (32 : Int32))] 2 = mkF m 0 #[.val (.ref b), .val (.int (32 : Int32))] [] := by first | (simp [entryFrame, mkF, argsToLocals, Value.category]; done) | rfl
  refine Fin.start (Q := Q_tap Z b sb v kv vs G1 h0 n0) ef ?_
  refine Fin.by (fun tt_ kk_ => XS.aloadN X0.here hx rfl (hb hby d14_0) rfl rfl kk_) ?_
  obtain ⟨T101, X101, e101, st101⟩ := getF X0 hx hZ hown (host := "") (Or.inl (w_ hw 36 rfl)) Via.refl e0 T1 (g := (mkF m 1 #[.val (.ref b), .val (.int 32)] [(.ref b)])) rfl rfl (hb hby d14_1)
  refine Fin.by (fun tt_ kk_ => st101 tt_ kk_) ?_
  refine Fin.by (fun tt_ kk_ => XS.iloadN X101.here hx rfl (hb hby d14_4) rfl kk_) ?_
  obtain ⟨cq102, kq102, qa102, qb102, qc102⟩ := isOf hZ e101 S_0
  obtain ⟨v102, _, ⟨T102, L102, k102, n102⟩, -, X102, ⟨Lc102, hQ102, l102, y102, z102⟩, st102⟩ := X101.virtualBack hx (y := y_13) (z := y_13) hown (mvT hZ (w_ hw 226 rfl)) (mvT hZ (w_ hw 227 rfl)) (notFace_of_selects (args := #[]) (mvT hZ (w_ hw 229 rfl))) (mvT hZ (w_ hw 229 rfl)) (mvT hZ (w_ hw 228 rfl)) (by decide) (backOf (W := 0) (rm_sac32 l Z a0 hw [] sb v kv (vs : List Value) G1 h0 n0 Z0 hvd S_0 S_1 S_2 S_3 S_4 A0 gs gv n1 S1 P1 OL) hZ (w_ hw 230 rfl) (w_ hw 18 rfl) (by decide) (by decide)) qa102 qc102 (g := (mkF m 5 #[.val (.ref b), .val (.int 32)] [(.int 32), (.ref sb)])) rfl (by rw [hml]; rfl) (Steps.refl _) (argsL := [(.int 32)]) (rest := []) (lenOf pd_152 rfl) rfl (by show 2 * 0 + _ ≤ _; exact Nat.le_of_eq rfl) (hb hby d14_5) (fun _ _ => ⟨rfl, e101, (by decide : 0 + 0 ≤ _), (by decide : 0 + 0 ≤ _)⟩)
  dsimp only [Pt.U, Pt.locs, Pt.cells, Pt.slots] at X102 l102 y102 z102 st102 hQ102
  subst l102 y102 z102
  obtain ⟨rfl, Nq102, p102_0, p102_1, p102_2, p102_3, p102_4, p102_5, p102_6⟩ := hQ102
  have N102_ := Fr.app N0 Nq102
  refine Fin.byS st102 ?_
  refine Fin.by (fun tt_ kk_ => XS.pop X102.here hx rfl (hb hby d14_8) rfl rfl (XS.aloadN X102.here hx rfl (hb hby d14_9) rfl rfl kk_)) ?_
  have F103 : Fld Z T102.heap b "com/example/colonnade/colonnade/TextSpool" "chars" "Ljava/lang/StringBuilder;" (.ref sb) := (T1.keep p102_0 (ninS n2 (ninS n3 nin0)))
  obtain ⟨T104, X104, e104, st104⟩ := getF X102 hx hZ hown (host := "") (Or.inl (w_ hw 36 rfl)) Via.refl rfl F103 (g := (mkF m 10 #[.val (.ref b), .val (.int 32)] [(.ref b)])) rfl rfl (hb hby d14_10)
  refine Fin.by (fun tt_ kk_ => st104 tt_ kk_) ?_
  have z105 : n0 ≤ T102.heap.size := Nat.le_trans Z0 p102_0.1
  obtain ⟨cq106, kq106, qa106, qb106, qc106⟩ := isOf hZ e104 p102_1
  obtain ⟨v106, _, ⟨T106, L106, k106, n106⟩, -, X106, ⟨Lc106, hQ106, l106, y106, z106⟩, st106⟩ := X104.virtualBack hx (y := y_8) (z := y_8) hown (mvT hZ (w_ hw 78 rfl)) (mvT hZ (w_ hw 79 rfl)) (notFace_of_selects (args := #[]) (mvT hZ (w_ hw 81 rfl))) (mvT hZ (w_ hw 81 rfl)) (mvT hZ (w_ hw 80 rfl)) (by decide) (backOf (W := 0) (rm_sbl l Z a0 hw [] sb (1 : Int32) T102.heap n0 z105 p102_1 p102_4) hZ (w_ hw 82 rfl) (w_ hw 18 rfl) (by decide) (by decide)) qa106 qc106 (g := (mkF m 13 #[.val (.ref b), .val (.int 32)] [(.ref sb)])) rfl (by rw [hml]; rfl) (Steps.refl _) (argsL := []) (rest := []) (lenOf pd_72 rfl) rfl (by show 2 * 0 + _ ≤ _; exact Nat.le_of_eq rfl) (hb hby d14_13) (fun _ _ => ⟨rfl, e104, (by decide : 0 + 0 ≤ _), (by decide : 0 + 0 ≤ _)⟩)
  dsimp only [Pt.U, Pt.locs, Pt.cells, Pt.slots] at X106 l106 y106 z106 st106 hQ106
  subst l106 y106 z106
  obtain ⟨rfl, Nq106, e106_⟩ := hQ106
  have N106_ := Fr.app N102_ Nq106
  refine Fin.byS st106 ?_
  have e106 := e106_
  refine Fin.by (fun tt_ kk_ => XS.aloadN X106.here hx rfl (hb hby d14_16) rfl rfl kk_) ?_
  have F107 : Fld Z T102.heap b "com/example/colonnade/colonnade/TextSpool" "charsInMemory" "I" (.int (1000 : Int32)) := (T2.keep p102_0 (ninS n2 (ninS n3 nin0)))
  obtain ⟨T108, X108, e108, st108⟩ := getF X106 hx hZ hown (host := "") (Or.inl (w_ hw 38 rfl)) Via.refl e106 F107 (g := (mkF m 17 #[.val (.ref b), .val (.int 32)] [(.ref b), (.int 1)])) rfl rfl (hb hby d14_17)
  refine Fin.by (fun tt_ kk_ => st108 tt_ kk_) ?_
  show Fin _ _ _ _ _ _ _ (T108.setTop (mkF m 20 #[.val (.ref b), .val (.int 32)] [(.int 1000), (.int 1)]))
  refine Fin.by (fun tt_ kk_ => XS.icmpYes X108.here hx rfl (pc0 := 20) (pc' := 27) rfl (hb hby d14_20) rfl (tlt (by decide : (1 : Int32) < (1000 : Int32))).1 (by decide) (by decide) kk_) ?_
  have kp109 : Keep h0 T102.heap [sb, v] := (Keep.refl h0 [sb, v]).trans p102_0 (allS (Or.inl (List.mem_of_getElem? (i := 0) rfl)) (allS (Or.inl (List.mem_of_getElem? (i := 1) rfl)) all0))
  show Fin _ _ _ _ _ _ _ (T108.setTop (mkF m 27 #[.val (.ref b), .val (.int 32)] []))
  exact Fin.ret (v := none) X108 (fun _ => rfl) Bd.notSynchronized (by rw [e108]; exact ⟨rfl, N106_, kp109, p102_1, p102_2, p102_3, p102_4, p102_5, p102_6⟩) (by decide) (by decide) (fun fs hr => X108.returnOut hx Bd.returns (hb hby d14_27) hr)
abbrev y_15 : MethodName := (⟨"com/example/colonnade/colonnade/ItemBuilder", "isBlank", "(C)Z"⟩ : MethodName)
theorem d15_0 : decode prog_46_method_10_code 0 = .ok (.iload_n 0, 1) := by decide +kernel
theorem d15_1 : decode prog_46_method_10_code 1 = .ok (.bipush 32, 2) := by decide +kernel
theorem d15_3 : decode prog_46_method_10_code 3 = .ok (.if_icmp .gt 31, 3) := by decide +kernel
theorem d15_6 : decode prog_46_method_10_code 6 = .ok (.iload_n 0, 1) := by decide +kernel
theorem d15_7 : decode prog_46_method_10_code 7 = .ok (.bipush 32, 2) := by decide +kernel
theorem d15_9 : decode prog_46_method_10_code 9 = .ok (.if_icmp .eq 21, 3) := by decide +kernel
theorem d15_30 : decode prog_46_method_10_code 30 = .ok (.iconst 1, 1) := by decide +kernel
theorem d15_31 : decode prog_46_method_10_code 31 = .ok (.goto 4, 3) := by decide +kernel
theorem d15_35 : decode prog_46_method_10_code 35 = .ok (.ireturn, 1) := by decide +kernel
def Q_isb (Z : State)  (h0 : Heap) (n0 : Nat) (vv_ : Option Value) (hh_ : Heap) (LL_ : List Loc) : Prop := vv_ = some (.int (1 : Int32)) ∧ Fr n0 LL_ ∧ hh_ = h0
set_option maxRecDepth 65536 in
set_option maxHeartbeats 40000000 in
theorem rm_isb (l : Launch) (Z : State) (a0 : Array Value) (hw : ∀ d ∈ tables_1, d.before a0 Z = true) (ws : List Jvm.Cond)  (h0 : Heap) (n0 : Nat) (Z0 : n0 ≤ h0.size) :
    MetFree l y_15 (head1 (Jvm.Cond.code y_15 prog_46_method_10_code 1 (some .boolean) :: ws) ({ frames := 0, cells := 0, slots := 0, locals := 0 } : Room)) (fun aa_ U => aa_ = #[(.int (32 : Int32))] ∧ Z.Warmed39 U.vm ∧ U.heap = h0) (fun _ _ _ _ _ => True) (fun _ U o U' => ∃ vv_ LL_, o = .returned vv_ ∧ Q_isb Z  h0 n0 vv_ U'.heap LL_ ∧ FrameEnd U o U' LL_ 0 0) := by
  refine MetFree.of_bodySF (plainFor_of_name pn_com_example_colonnade_colonnade_ItemBuilder) hisR ?_
  intro p e s m args below meth c s₁ Bd hml0 hP hK
  obtain ⟨rfl, hZ, hh⟩ := hP
  have hx := Bd.exec
  have hby := Bd.bytes
  have hml : c.maxLocals = 1 := hml0
  have hown : s.vm.findClass "com/example/colonnade/colonnade/ItemBuilder" = some m.cls := findClass_of_methodNamed Bd.named
  have hnm := (name_of_methodNamed Bd.named Bd.method).1
  have X0 : Stand p l e ({ frames := 0, cells := 0, slots := 0, locals := 0 } : Room) s m #[(.int (32 : Int32))] below meth c s₁ [] 0 0 := Stand.of_body Bd
  have e0 : s₁.heap = h0 := by rw [← hh, Bd.state]; rfl
  have N0 := Fr.nil n0
  have ef : entryFrame m #[(.int (32 : Int32))] 1 = mkF m 0 #[.val (.int (32 : Int32))] [] := by first | (simp [entryFrame, mkF, argsToLocals, Value.category]; done) | rfl
  refine Fin.start (Q := Q_isb Z  h0 n0) ef ?_
  refine Fin.by (fun tt_ kk_ => XS.iloadN X0.here hx rfl (hb hby d15_0) rfl (XS.bipush X0.here hx rfl (hb hby d15_1) kk_)) ?_
  show Fin _ _ _ _ _ _ _ (s₁.setTop (mkF m 3 #[.val (.int 32)] [(.int 32), (.int 32)]))
  refine Fin.by (fun tt_ kk_ => XS.icmpNo X0.here hx rfl (hb hby d15_3) rfl (flt (by decide : ¬ (32 : Int32) < (32 : Int32))).2.2.1 kk_) ?_
  refine Fin.by (fun tt_ kk_ => XS.iloadN X0.here hx rfl (hb hby d15_6) rfl (XS.bipush X0.here hx rfl (hb hby d15_7) kk_)) ?_
  show Fin _ _ _ _ _ _ _ (s₁.setTop (mkF m 9 #[.val (.int 32)] [(.int 32), (.int 32)]))
  refine Fin.by (fun tt_ kk_ => XS.icmpYes X0.here hx rfl (pc0 := 9) (pc' := 30) rfl (hb hby d15_9) rfl (teq (rfl : (32 : Int32) = (32 : Int32))).1 (by decide) (by decide) kk_) ?_
  refine Fin.by (fun tt_ kk_ => XS.iconst X0.here hx rfl (hb hby d15_30) (XS.goto X0.here hx rfl (pc0 := 31) (pc' := 35) rfl (hb hby d15_31) (by decide) (by decide) kk_)) ?_
  show Fin _ _ _ _ _ _ _ (s₁.setTop (mkF m 35 #[.val (.int 32)] [(.int 1)]))
  exact Fin.ret (v := some (.int (nar .boolean (1 : Int32)))) X0 (fun h => by rw [Bd.returns] at h; cases h) Bd.notSynchronized (by rw [e0]; exact ⟨rfl, N0, rfl⟩) (by decide) (by decide) (fun fs hr => retN X0 hx (t := .boolean) Bd.returns (by simp) (hb hby d15_35) hr)
abbrev y_16 : MethodName := (⟨"com/example/colonnade/colonnade/ItemBuilder", "add", "(C)V"⟩ : MethodName)
theorem d16_0 : decode prog_46_method_5_code 0 = .ok (.aload_n 0, 1) := by decide +kernel
theorem d16_1 : decode prog_46_method_5_code 1 = .ok (.getfield 12, 3) := by decide +kernel
theorem d16_4 : decode prog_46_method_5_code 4 = .ok (.iload_n 1, 1) := by decide +kernel
theorem pd_174 : parseMethodDescriptor "(C)V" = some ⟨[.char], none⟩ := by decide +kernel
theorem d16_5 : decode prog_46_method_5_code 5 = .ok (.invokevirtual 41, 3) := by decide +kernel
theorem d16_8 : decode prog_46_method_5_code 8 = .ok (.aload_n 0, 1) := by decide +kernel
theorem d16_9 : decode prog_46_method_5_code 9 = .ok (.iload_n 1, 1) := by decide +kernel
theorem d16_10 : decode prog_46_method_5_code 10 = .ok (.invokestatic 45, 3) := by decide +kernel
theorem d16_13 : decode prog_46_method_5_code 13 = .ok (.ifCond .eq 12, 3) := by decide +kernel
theorem d16_16 : decode prog_46_method_5_code 16 = .ok (.aload_n 0, 1) := by decide +kernel
theorem d16_17 : decode prog_46_method_5_code 17 = .ok (.getfield 38, 3) := by decide +kernel
theorem d16_20 : decode prog_46_method_5_code 20 = .ok (.lconst 1, 1) := by decide +kernel
theorem d16_21 : decode prog_46_method_5_code 21 = .ok (.ladd, 1) := by decide +kernel
theorem d16_22 : decode prog_46_method_5_code 22 = .ok (.goto 4, 3) := by decide +kernel
theorem d16_26 : decode prog_46_method_5_code 26 = .ok (.putfield 38, 3) := by decide +kernel
theorem d16_29 : decode prog_46_method_5_code 29 = .ok (.return_, 1) := by decide +kernel
def Q_add (Z : State) (a : Addr) (b : Addr) (sb : Addr) (v : Addr) (kv : ClassId) (vs : List Value) (r1 : Int64) (r2 : Int64) (r3 : Int64) (G1 : Int32) (h0 : Heap) (n0 : Nat) (vv_ : Option Value) (hh_ : Heap) (LL_ : List Loc) : Prop := vv_ = none ∧ Fr n0 LL_ ∧ Keep h0 hh_ [a, sb, v] ∧ Exa Z hh_ a "com/example/colonnade/colonnade/ItemBuilder" ∧ Fld Z hh_ a "com/example/colonnade/colonnade/ItemBuilder" "text" "Lcom/example/colonnade/colonnade/TextSpool;" (.ref b) ∧ Fld Z hh_ a "com/example/colonnade/colonnade/ItemBuilder" "started" "Z" (.int (1 : Int32)) ∧ Fld Z hh_ a "com/example/colonnade/colonnade/ItemBuilder" "line" "J" (.long r1) ∧ Fld Z hh_ a "com/example/colonnade/colonnade/ItemBuilder" "column" "J" (.long r2) ∧ Fld Z hh_ a "com/example/colonnade/colonnade/ItemBuilder" "start" "J" (.long r3) ∧ Fld Z hh_ a "com/example/colonnade/colonnade/ItemBuilder" "end" "J" (.long r3) ∧ Fld Z hh_ a "com/example/colonnade/colonnade/ItemBuilder" "kept" "J" (.long (0 : Int64)) ∧ Fld Z hh_ a "com/example/colonnade/colonnade/ItemBuilder" "trailingBlanks" "J" (.long (1 : Int64)) ∧ Exa Z hh_ sb "java/lang/StringBuilder" ∧ Fld Z hh_ sb "java/lang/AbstractStringBuilder" "value" "[B" (.ref v) ∧ Fld Z hh_ sb "java/lang/AbstractStringBuilder" "coder" "B" (.int (0 : Int32)) ∧ Fld Z hh_ sb "java/lang/AbstractStringBuilder" "count" "I" (.int (1 : Int32)) ∧ Fld Z hh_ sb "java/lang/AbstractStringBuilder" "maybeLatin1" "Z" (.int (0 : Int32)) ∧ Arv Z hh_ v kv .byte (16 : Int32) (vs ++ [(.int ((32 : Int32).toInt8.toInt32))]) (.int 0)
set_option maxRecDepth 65536 in
set_option maxHeartbeats 40000000 in
theorem rm_add (l : Launch) (Z : State) (a0 : Array Value) (hw : ∀ d ∈ tables_1, d.before a0 Z = true) (ws : List Jvm.Cond) (a : Addr) (b : Addr) (sb : Addr) (v : Addr) (kv : ClassId) (vs : List Value) (r1 : Int64) (r2 : Int64) (r3 : Int64) (G1 : Int32) (h0 : Heap) (n0 : Nat) (Z0 : n0 ≤ h0.size) (hvd : vs.length = 0) (I0 : Exa Z h0 a "com/example/colonnade/colonnade/ItemBuilder") (I1 : Fld Z h0 a "com/example/colonnade/colonnade/ItemBuilder" "text" "Lcom/example/colonnade/colonnade/TextSpool;" (.ref b)) (I2 : Fld Z h0 a "com/example/colonnade/colonnade/ItemBuilder" "started" "Z" (.int (1 : Int32))) (I3 : Fld Z h0 a "com/example/colonnade/colonnade/ItemBuilder" "line" "J" (.long r1)) (I4 : Fld Z h0 a "com/example/colonnade/colonnade/ItemBuilder" "column" "J" (.long r2)) (I5 : Fld Z h0 a "com/example/colonnade/colonnade/ItemBuilder" "start" "J" (.long r3)) (I6 : Fld Z h0 a "com/example/colonnade/colonnade/ItemBuilder" "end" "J" (.long r3)) (I7 : Fld Z h0 a "com/example/colonnade/colonnade/ItemBuilder" "kept" "J" (.long (0 : Int64))) (I8 : Fld Z h0 a "com/example/colonnade/colonnade/ItemBuilder" "trailingBlanks" "J" (.long (0 : Int64))) (T0 : Exa Z h0 b "com/example/colonnade/colonnade/TextSpool") (T1 : Fld Z h0 b "com/example/colonnade/colonnade/TextSpool" "chars" "Ljava/lang/StringBuilder;" (.ref sb)) (T2 : Fld Z h0 b "com/example/colonnade/colonnade/TextSpool" "charsInMemory" "I" (.int (1000 : Int32))) (T3 : Fld Z h0 b "com/example/colonnade/colonnade/TextSpool" "file" "Lcom/example/colonnade/colonnade/SpoolFile;" .null) (S_0 : Exa Z h0 sb "java/lang/StringBuilder") (S_1 : Fld Z h0 sb "java/lang/AbstractStringBuilder" "value" "[B" (.ref v)) (S_2 : Fld Z h0 sb "java/lang/AbstractStringBuilder" "coder" "B" (.int (0 : Int32))) (S_3 : Fld Z h0 sb "java/lang/AbstractStringBuilder" "count" "I" (.int (0 : Int32))) (S_4 : Fld Z h0 sb "java/lang/AbstractStringBuilder" "maybeLatin1" "Z" (.int (0 : Int32))) (A0 : Arv Z h0 v kv .byte (16 : Int32) vs (.int 0)) (ga : n0 ≤ a) (gs : n0 ≤ sb) (gv : n0 ≤ v) (m1 : a ≠ b) (m2 : a ≠ sb) (m3 : a ≠ v) (n1 : sb ≠ v) (n2 : b ≠ sb) (n3 : b ≠ v) (S1 : Sta Z Z.heap "java/lang/String" "COMPACT_STRINGS" "Z" (.int G1)) (P1 : ¬ G1 = 0) (OL : Old Z n0 h0) :
    MetFree l y_16 (head1 (Jvm.Cond.code y_16 prog_46_method_5_code 2 none :: ws) ({ frames := 4, cells := 0, slots := 0, locals := 53 } : Room)) (fun aa_ U => aa_ = #[(.ref a), (.int (32 : Int32))] ∧ Z.Warmed39 U.vm ∧ U.heap = h0) (fun _ _ _ _ _ => True) (fun _ U o U' => ∃ vv_ LL_, o = .returned vv_ ∧ Q_add Z a b sb v kv vs r1 r2 r3 G1 h0 n0 vv_ U'.heap LL_ ∧ FrameEnd U o U' LL_ 0 0) := by
  refine MetFree.of_bodySF (plainFor_of_name pn_com_example_colonnade_colonnade_ItemBuilder) hisR ?_
  intro p e s m args below meth c s₁ Bd hml0 hP hK
  obtain ⟨rfl, hZ, hh⟩ := hP
  have hx := Bd.exec
  have hby := Bd.bytes
  have hml : c.maxLocals = 2 := hml0
  have hown : s.vm.findClass "com/example/colonnade/colonnade/ItemBuilder" = some m.cls := findClass_of_methodNamed Bd.named
  have hnm := (name_of_methodNamed Bd.named Bd.method).1
  have X0 : Stand p l e ({ frames := 4, cells := 0, slots := 0, locals := 53 } : Room) s m #[(.ref a), (.int (32 : Int32))] below meth c s₁ [] 0 0 := Stand.of_body Bd
  have e0 : s₁.heap = h0 := by rw [← hh, Bd.state]; rfl
  have N0 := Fr.nil n0
  have ef : entryFrame m #[(.ref a), (.int (32 : Int32))] 2 = mkF m 0 #[.val (.ref a), .val (.int (32 : Int32))] [] := by first | (simp [entryFrame, mkF, argsToLocals, Value.category]; done) | rfl
  refine Fin.start (Q := Q_add Z a b sb v kv vs r1 r2 r3 G1 h0 n0) ef ?_
  refine Fin.by (fun tt_ kk_ => XS.aloadN X0.here hx rfl (hb hby d16_0) rfl rfl kk_) ?_
  obtain ⟨T101, X101, e101, st101⟩ := getF X0 hx hZ hown (host := "") (Or.inl (w_ hw 40 rfl)) Via.refl e0 I1 (g := (mkF m 1 #[.val (.ref a), .val (.int 32)] [(.ref a)])) rfl rfl (hb hby d16_1)
  refine Fin.by (fun tt_ kk_ => st101 tt_ kk_) ?_
  refine Fin.by (fun tt_ kk_ => XS.iloadN X101.here hx rfl (hb hby d16_4) rfl kk_) ?_
  obtain ⟨cq102, kq102, qa102, qb102, qc102⟩ := isOf hZ e101 T0
  obtain ⟨v102, _, ⟨T102, L102, k102, n102⟩, -, X102, ⟨Lc102, hQ102, l102, y102, z102⟩, st102⟩ := X101.virtualBack hx (y := y_14) (z := y_14) hown (mvT hZ (w_ hw 221 rfl)) (mvT hZ (w_ hw 222 rfl)) (notFace_of_selects (args := #[]) (mvT hZ (w_ hw 224 rfl))) (mvT hZ (w_ hw 224 rfl)) (mvT hZ (w_ hw 223 rfl)) (by decide) (backOf (W := 0) (rm_tap l Z a0 hw [] b sb v kv (vs : List Value) G1 h0 n0 Z0 hvd T0 T1 T2 T3 S_0 S_1 S_2 S_3 S_4 A0 gs gv n1 n2 n3 S1 P1 OL) hZ (w_ hw 225 rfl) (w_ hw 11 rfl) (by decide) (by decide)) qa102 qc102 (g := (mkF m 5 #[.val (.ref a), .val (.int 32)] [(.int 32), (.ref b)])) rfl (by rw [hml]; rfl) (Steps.refl _) (argsL := [(.int 32)]) (rest := []) (lenOf pd_174 rfl) rfl (by show 2 * 0 + _ ≤ _; exact Nat.le_of_eq rfl) (hb hby d16_5) (fun _ _ => ⟨rfl, e101, (by decide : 0 + 0 ≤ _), (by decide : 0 + 0 ≤ _)⟩)
  dsimp only [Pt.U, Pt.locs, Pt.cells, Pt.slots] at X102 l102 y102 z102 st102 hQ102
  subst l102 y102 z102
  obtain ⟨rfl, Nq102, p102_0, p102_1, p102_2, p102_3, p102_4, p102_5, p102_6⟩ := hQ102
  have N102_ := Fr.app N0 Nq102
  refine Fin.byS st102 ?_
  refine Fin.by (fun tt_ kk_ => XS.aloadN X102.here hx rfl (hb hby d16_8) rfl rfl (XS.iloadN X102.here hx rfl (hb hby d16_9) rfl kk_)) ?_
  have z103 : n0 ≤ T102.heap.size := Nat.le_trans Z0 p102_0.1
  obtain ⟨v104, _, ⟨T104, L104, k104, n104⟩, -, X104, ⟨Lc104, hQ104, l104, y104, z104⟩, st104⟩ := Jvm.LawKit.callS X102 hx (y := y_15) hown (mvT hZ (w_ hw 238 rfl)) (mvT hZ (w_ hw 239 rfl)) (mvT hZ (w_ hw 2 rfl)) (mvT hZ (w_ hw 240 rfl)) (by decide) (backOf (W := 1) (rm_isb l Z a0 hw []  T102.heap n0 z103 ) hZ (w_ hw 240 rfl) (w_ hw 2 rfl) (by decide) (by decide)) (g := (mkF m 10 #[.val (.ref a), .val (.int 32)] [(.int 32), (.ref a)])) rfl (by rw [hml]; rfl) (argsL := [(.int 32)]) (rest := [(.ref a)]) (lenOf pd_124 rfl) rfl (by show 2 * 0 + _ ≤ _; exact Nat.le_of_eq rfl) (hb hby d16_10) (fun _ _ => ⟨rfl, rfl, (by decide : 0 + 0 ≤ _), (by decide : 0 + 0 ≤ _)⟩)
  dsimp only [Pt.U, Pt.locs, Pt.cells, Pt.slots] at X104 l104 y104 z104 st104 hQ104
  subst l104 y104 z104
  obtain ⟨rfl, Nq104, e104_⟩ := hQ104
  have N104_ := Fr.app N102_ Nq104
  refine Fin.by (fun tt_ kk_ => st104 tt_ kk_) ?_
  have e104 := e104_
  show Fin _ _ _ _ _ _ _ (T104.setTop (mkF m 13 #[.val (.ref a), .val (.int 32)] [(.int 1), (.ref a)]))
  refine Fin.by (fun tt_ kk_ => XS.ifNo X104.here hx rfl (hb hby d16_13) rfl ((if0 _ _).trans (feq (by decide : ¬ (1 : Int32) = (0 : Int32))).1) kk_) ?_
  refine Fin.by (fun tt_ kk_ => XS.aloadN X104.here hx rfl (hb hby d16_16) rfl rfl kk_) ?_
  have F105 : Fld Z T102.heap a "com/example/colonnade/colonnade/ItemBuilder" "trailingBlanks" "J" (.long (0 : Int64)) := (I8.keep p102_0 (ninS m2 (ninS m3 nin0)))
  obtain ⟨T106, X106, e106, st106⟩ := getF X104 hx hZ hown (host := "") (Or.inl (w_ hw 59 rfl)) Via.refl e104 F105 (g := (mkF m 17 #[.val (.ref a), .val (.int 32)] [(.ref a), (.ref a)])) rfl rfl (hb hby d16_17)
  refine Fin.by (fun tt_ kk_ => st106 tt_ kk_) ?_
  refine Fin.by (fun tt_ kk_ => XS.lconst X106.here hx rfl (hb hby d16_20) (XS.ladd X106.here hx rfl (hb hby d16_21) rfl (XS.goto X106.here hx rfl (pc0 := 22) (pc' := 26) rfl (hb hby d16_22) (by decide) (by decide) kk_))) ?_
  have E107 : Exa Z T102.heap a "com/example/colonnade/colonnade/ItemBuilder" := (I0.keep p102_0)
  obtain ⟨T108, h108, X108, e108, W108, st108⟩ := putF X106 hx hZ hown (host := "") (Or.inl (w_ hw 59 rfl)) Via.refl e106 F105 E107 (Or.inl (w_ hw 60 rfl)) (w_ hw 1 rfl) (ty := .long) (by decide) rfl rfl (g := (mkF m 26 #[.val (.ref a), .val (.int 32)] [(.long (1 : Int64)), (.ref a)])) rfl rfl (hb hby d16_26)
  refine Fin.by (fun tt_ kk_ => st108 tt_ kk_) ?_
  have N108_ := Fr.snoc X108 N104_ ga
  have kp109 : Keep h0 T102.heap [a, sb, v] := (Keep.refl h0 [a, sb, v]).trans p102_0 (allS (Or.inl (List.mem_of_getElem? (i := 1) rfl)) (allS (Or.inl (List.mem_of_getElem? (i := 2) rfl)) all0))
  have kp110 : Keep h0 h108 [a, sb, v] := kp109.wr W108 (Or.inl (List.mem_of_getElem? (i := 0) rfl))
  have E111 : Exa Z h108 a "com/example/colonnade/colonnade/ItemBuilder" := (E107.wr W108)
  have F112 : Fld Z h108 a "com/example/colonnade/colonnade/ItemBuilder" "text" "Lcom/example/colonnade/colonnade/TextSpool;" (.ref b) := ((I1.keep p102_0 (ninS m2 (ninS m3 nin0))).other W108 (Or.inr (slot_ne (Or.inr (w_ hw 41 rfl)) (Or.inl (w_ hw 60 rfl)) (by decide) (t := (.object "com/example/colonnade/colonnade/TextSpool")) (t' := .long) (by decide) (by decide))))
  have F113 : Fld Z h108 a "com/example/colonnade/colonnade/ItemBuilder" "started" "Z" (.int (1 : Int32)) := ((I2.keep p102_0 (ninS m2 (ninS m3 nin0))).other W108 (Or.inr (slot_ne (Or.inl (w_ hw 48 rfl)) (Or.inl (w_ hw 60 rfl)) (by decide) (t := .boolean) (t' := .long) (by decide) (by decide))))
  have F114 : Fld Z h108 a "com/example/colonnade/colonnade/ItemBuilder" "line" "J" (.long r1) := ((I3.keep p102_0 (ninS m2 (ninS m3 nin0))).other W108 (Or.inr (slot_ne (Or.inl (w_ hw 50 rfl)) (Or.inl (w_ hw 60 rfl)) (by decide) (t := .long) (t' := .long) (by decide) (by decide))))
  have F115 : Fld Z h108 a "com/example/colonnade/colonnade/ItemBuilder" "column" "J" (.long r2) := ((I4.keep p102_0 (ninS m2 (ninS m3 nin0))).other W108 (Or.inr (slot_ne (Or.inl (w_ hw 52 rfl)) (Or.inl (w_ hw 60 rfl)) (by decide) (t := .long) (t' := .long) (by decide) (by decide))))
  have F116 : Fld Z h108 a "com/example/colonnade/colonnade/ItemBuilder" "start" "J" (.long r3) := ((I5.keep p102_0 (ninS m2 (ninS m3 nin0))).other W108 (Or.inr (slot_ne (Or.inl (w_ hw 54 rfl)) (Or.inl (w_ hw 60 rfl)) (by decide) (t := .long) (t' := .long) (by decide) (by decide))))
  have F117 : Fld Z h108 a "com/example/colonnade/colonnade/ItemBuilder" "end" "J" (.long r3) := ((I6.keep p102_0 (ninS m2 (ninS m3 nin0))).other W108 (Or.inr (slot_ne (Or.inl (w_ hw 56 rfl)) (Or.inl (w_ hw 60 rfl)) (by decide) (t := .long) (t' := .long) (by decide) (by decide))))
  have F118 : Fld Z h108 a "com/example/colonnade/colonnade/ItemBuilder" "kept" "J" (.long (0 : Int64)) := ((I7.keep p102_0 (ninS m2 (ninS m3 nin0))).other W108 (Or.inr (slot_ne (Or.inl (w_ hw 58 rfl)) (Or.inl (w_ hw 60 rfl)) (by decide) (t := .long) (t' := .long) (by decide) (by decide))))
  have E119 : Exa Z h108 sb "java/lang/StringBuilder" := (p102_1.wr W108)
  have F120 : Fld Z h108 sb "java/lang/AbstractStringBuilder" "value" "[B" (.ref v) := (p102_2.other W108 (Or.inl (Ne.symm m2)))
  have F121 : Fld Z h108 sb "java/lang/AbstractStringBuilder" "coder" "B" (.int (0 : Int32)) := (p102_3.other W108 (Or.inl (Ne.symm m2)))
  have F122 : Fld Z h108 sb "java/lang/AbstractStringBuilder" "count" "I" (.int (1 : Int32)) := (p102_4.other W108 (Or.inl (Ne.symm m2)))
  have F123 : Fld Z h108 sb "java/lang/AbstractStringBuilder" "maybeLatin1" "Z" (.int (0 : Int32)) := (p102_5.other W108 (Or.inl (Ne.symm m2)))
  have A124 : Arv Z h108 v kv .byte (16 : Int32) ((vs : List Value) ++ [(.int ((32 : Int32).toInt8.toInt32))]) (.int 0) := (p102_6.other W108 (Ne.symm m3))
  show Fin _ _ _ _ _ _ _ (T108.setTop (mkF m 29 #[.val (.ref a), .val (.int 32)] []))
  exact Fin.ret (v := none) X108 (fun _ => rfl) Bd.notSynchronized (by rw [e108]; exact ⟨rfl, N108_, kp110, E111, F112, F113, F114, F115, F116, F117, F118, (F105.same W108), E119, F120, F121, F122, F123, A124⟩) (by decide) (by decide) (fun fs hr => X108.returnOut hx Bd.returns (hb hby d16_29) hr)
abbrev y_17 : MethodName := (⟨"com/example/colonnade/colonnade/ItemBuilder", "keep", "(J)V"⟩ : MethodName)
theorem d17_0 : decode prog_46_method_7_code 0 = .ok (.aload_n 0, 1) := by decide +kernel
theorem d17_1 : decode prog_46_method_7_code 1 = .ok (.aload_n 0, 1) := by decide +kernel
theorem d17_2 : decode prog_46_method_7_code 2 = .ok (.getfield 12, 3) := by decide +kernel
theorem pd_190 : parseMethodDescriptor "()J" = some ⟨[], some .long⟩ := by decide +kernel
theorem d17_5 : decode prog_46_method_7_code 5 = .ok (.invokevirtual 52, 3) := by decide +kernel
theorem d17_8 : decode prog_46_method_7_code 8 = .ok (.putfield 35, 3) := by decide +kernel
theorem d17_11 : decode prog_46_method_7_code 11 = .ok (.aload_n 0, 1) := by decide +kernel
theorem d17_12 : decode prog_46_method_7_code 12 = .ok (.lload_n 1, 1) := by decide +kernel
theorem d17_13 : decode prog_46_method_7_code 13 = .ok (.putfield 32, 3) := by decide +kernel
theorem d17_16 : decode prog_46_method_7_code 16 = .ok (.return_, 1) := by decide +kernel
def Q_kee (Z : State) (a : Addr) (b : Addr) (sb : Addr) (r1 : Int64) (r2 : Int64) (r3 : Int64) (k : Int64) (h0 : Heap) (n0 : Nat) (vv_ : Option Value) (hh_ : Heap) (LL_ : List Loc) : Prop := vv_ = none ∧ Fr n0 LL_ ∧ Keep h0 hh_ [a] ∧ Exa Z hh_ a "com/example/colonnade/colonnade/ItemBuilder" ∧ Fld Z hh_ a "com/example/colonnade/colonnade/ItemBuilder" "text" "Lcom/example/colonnade/colonnade/TextSpool;" (.ref b) ∧ Fld Z hh_ a "com/example/colonnade/colonnade/ItemBuilder" "started" "Z" (.int (1 : Int32)) ∧ Fld Z hh_ a "com/example/colonnade/colonnade/ItemBuilder" "line" "J" (.long r1) ∧ Fld Z hh_ a "com/example/colonnade/colonnade/ItemBuilder" "column" "J" (.long r2) ∧ Fld Z hh_ a "com/example/colonnade/colonnade/ItemBuilder" "start" "J" (.long r3) ∧ Fld Z hh_ a "com/example/colonnade/colonnade/ItemBuilder" "end" "J" (.long k) ∧ Fld Z hh_ a "com/example/colonnade/colonnade/ItemBuilder" "kept" "J" (.long (1 : Int64)) ∧ Fld Z hh_ a "com/example/colonnade/colonnade/ItemBuilder" "trailingBlanks" "J" (.long (1 : Int64))
set_option maxRecDepth 65536 in
set_option maxHeartbeats 40000000 in
theorem rm_kee (l : Launch) (Z : State) (a0 : Array Value) (hw : ∀ d ∈ tables_1, d.before a0 Z = true) (ws : List Jvm.Cond) (a : Addr) (b : Addr) (sb : Addr) (r1 : Int64) (r2 : Int64) (r3 : Int64) (k : Int64) (h0 : Heap) (n0 : Nat) (Z0 : n0 ≤ h0.size) (I0 : Exa Z h0 a "com/example/colonnade/colonnade/ItemBuilder") (I1 : Fld Z h0 a "com/example/colonnade/colonnade/ItemBuilder" "text" "Lcom/example/colonnade/colonnade/TextSpool;" (.ref b)) (I2 : Fld Z h0 a "com/example/colonnade/colonnade/ItemBuilder" "started" "Z" (.int (1 : Int32))) (I3 : Fld Z h0 a "com/example/colonnade/colonnade/ItemBuilder" "line" "J" (.long r1)) (I4 : Fld Z h0 a "com/example/colonnade/colonnade/ItemBuilder" "column" "J" (.long r2)) (I5 : Fld Z h0 a "com/example/colonnade/colonnade/ItemBuilder" "start" "J" (.long r3)) (I6 : Fld Z h0 a "com/example/colonnade/colonnade/ItemBuilder" "end" "J" (.long r3)) (I7 : Fld Z h0 a "com/example/colonnade/colonnade/ItemBuilder" "kept" "J" (.long (0 : Int64))) (I8 : Fld Z h0 a "com/example/colonnade/colonnade/ItemBuilder" "trailingBlanks" "J" (.long (1 : Int64))) (T0 : Exa Z h0 b "com/example/colonnade/colonnade/TextSpool") (T1 : Fld Z h0 b "com/example/colonnade/colonnade/TextSpool" "chars" "Ljava/lang/StringBuilder;" (.ref sb)) (T2 : Fld Z h0 b "com/example/colonnade/colonnade/TextSpool" "file" "Lcom/example/colonnade/colonnade/SpoolFile;" .null) (S_0 : Exa Z h0 sb "java/lang/StringBuilder") (S_3 : Fld Z h0 sb "java/lang/AbstractStringBuilder" "count" "I" (.int (1 : Int32))) (ga : n0 ≤ a) :
    MetFree l y_17 (head1 (Jvm.Cond.code y_17 prog_46_method_7_code 3 none :: ws) ({ frames := 3, cells := 0, slots := 0, locals := 39 } : Room)) (fun aa_ U => aa_ = #[(.ref a), (.long k)] ∧ Z.Warmed39 U.vm ∧ U.heap = h0) (fun _ _ _ _ _ => True) (fun _ U o U' => ∃ vv_ LL_, o = .returned vv_ ∧ Q_kee Z a b sb r1 r2 r3 k h0 n0 vv_ U'.heap LL_ ∧ FrameEnd U o U' LL_ 0 0) := by
  refine MetFree.of_bodySF (plainFor_of_name pn_com_example_colonnade_colonnade_ItemBuilder) hisR ?_
  intro p e s m args below meth c s₁ Bd hml0 hP hK
  obtain ⟨rfl, hZ, hh⟩ := hP
  have hx := Bd.exec
  have hby := Bd.bytes
  have hml : c.maxLocals = 3 := hml0
  have hown : s.vm.findClass "com/example/colonnade/colonnade/ItemBuilder" = some m.cls := findClass_of_methodNamed Bd.named
  have hnm := (name_of_methodNamed Bd.named Bd.method).1
  have X0 : Stand p l e ({ frames := 3, cells := 0, slots := 0, locals := 39 } : Room) s m #[(.ref a), (.long k)] below meth c s₁ [] 0 0 := Stand.of_body Bd
  have e0 : s₁.heap = h0 := by rw [← hh, Bd.state]; rfl
  have N0 := Fr.nil n0
  have ef : entryFrame m #[(.ref a), (.long k)] 3 = mkF m 0 #[.val (.ref a), .val (.long k), .second] [] := by first | (simp [entryFrame, mkF, argsToLocals, Value.category]; done) | rfl
  refine Fin.start (Q := Q_kee Z a b sb r1 r2 r3 k h0 n0) ef ?_
  refine Fin.by (fun tt_ kk_ => XS.aloadN X0.here hx rfl (hb hby d17_0) rfl rfl (XS.aloadN X0.here hx rfl (hb hby d17_1) rfl rfl kk_)) ?_
  obtain ⟨T101, X101, e101, st101⟩ := getF X0 hx hZ hown (host := "") (Or.inl (w_ hw 40 rfl)) Via.refl e0 I1 (g := (mkF m 2 #[.val (.ref a), .val (.long k), .second] [(.ref a), (.ref a)])) rfl rfl (hb hby d17_2)
  refine Fin.by (fun tt_ kk_ => st101 tt_ kk_) ?_
  obtain ⟨cq102, kq102, qa102, qb102, qc102⟩ := isOf hZ e101 T0
  obtain ⟨v102, _, ⟨T102, L102, k102, n102⟩, -, X102, ⟨Lc102, hQ102, l102, y102, z102⟩, st102⟩ := X101.virtualBack hx (y := y_9) (z := y_9) hown (mvT hZ (w_ hw 71 rfl)) (mvT hZ (w_ hw 72 rfl)) (notFace_of_selects (args := #[]) (mvT hZ (w_ hw 74 rfl))) (mvT hZ (w_ hw 74 rfl)) (mvT hZ (w_ hw 73 rfl)) (by decide) (backOf (W := 1) (rm_tln1 l Z a0 hw [] b sb h0 n0 Z0 T0 T1 T2 S_0 S_3) hZ (w_ hw 75 rfl) (w_ hw 11 rfl) (by decide) (by decide)) qa102 qc102 (g := (mkF m 5 #[.val (.ref a), .val (.long k), .second] [(.ref b), (.ref a)])) rfl (by rw [hml]; rfl) (Steps.refl _) (argsL := []) (rest := [(.ref a)]) (lenOf pd_190 rfl) rfl (by show 2 * 0 + _ ≤ _; exact Nat.le_of_eq rfl) (hb hby d17_5) (fun _ _ => ⟨rfl, e101, (by decide : 0 + 0 ≤ _), (by decide : 0 + 0 ≤ _)⟩)
  dsimp only [Pt.U, Pt.locs, Pt.cells, Pt.slots] at X102 l102 y102 z102 st102 hQ102
  subst l102 y102 z102
  obtain ⟨rfl, Nq102, e102_⟩ := hQ102
  have N102_ := Fr.app N0 Nq102
  refine Fin.byS st102 ?_
  have e102 := e102_
  obtain ⟨T103, h103, X103, e103, W103, st103⟩ := putF X102 hx hZ hown (host := "") (Or.inl (w_ hw 57 rfl)) Via.refl e102 I7 I0 (Or.inl (w_ hw 58 rfl)) (w_ hw 1 rfl) (ty := .long) (by decide) rfl rfl (g := (mkF m 8 #[.val (.ref a), .val (.long k), .second] [(.long (1 : Int64)), (.ref a)])) rfl rfl (hb hby d17_8)
  refine Fin.by (fun tt_ kk_ => st103 tt_ kk_) ?_
  have N103_ := Fr.snoc X103 N102_ ga
  refine Fin.by (fun tt_ kk_ => XS.aloadN X103.here hx rfl (hb hby d17_11) rfl rfl (XS.lloadN X103.here hx rfl (hb hby d17_12) rfl kk_)) ?_
  have F104 : Fld Z h103 a "com/example/colonnade/colonnade/ItemBuilder" "end" "J" (.long r3) := (I6.other W103 (Or.inr (slot_ne (Or.inl (w_ hw 56 rfl)) (Or.inl (w_ hw 58 rfl)) (by decide) (t := .long) (t' := .long) (by decide) (by decide))))
  have E105 : Exa Z h103 a "com/example/colonnade/colonnade/ItemBuilder" := (I0.wr W103)
  obtain ⟨T106, h106, X106, e106, W106, st106⟩ := putF X103 hx hZ hown (host := "") (Or.inl (w_ hw 55 rfl)) Via.refl e103 F104 E105 (Or.inl (w_ hw 56 rfl)) (w_ hw 1 rfl) (ty := .long) (by decide) rfl rfl (g := (mkF m 13 #[.val (.ref a), .val (.long k), .second] [(.long k), (.ref a)])) rfl rfl (hb hby d17_13)
  refine Fin.by (fun tt_ kk_ => st106 tt_ kk_) ?_
  have N106_ := Fr.snoc X106 N103_ ga
  have kp107 : Keep h0 h103 [a] := (Keep.refl h0 [a]).wr W103 (Or.inl (List.mem_of_getElem? (i := 0) rfl))
  have kp108 : Keep h0 h106 [a] := kp107.wr W106 (Or.inl (List.mem_of_getElem? (i := 0) rfl))
  have E109 : Exa Z h106 a "com/example/colonnade/colonnade/ItemBuilder" := (E105.wr W106)
  have F110 : Fld Z h106 a "com/example/colonnade/colonnade/ItemBuilder" "text" "Lcom/example/colonnade/colonnade/TextSpool;" (.ref b) := ((I1.other W103 (Or.inr (slot_ne (Or.inr (w_ hw 41 rfl)) (Or.inl (w_ hw 58 rfl)) (by decide) (t := (.object "com/example/colonnade/colonnade/TextSpool")) (t' := .long) (by decide) (by decide)))).other W106 (Or.inr (slot_ne (Or.inr (w_ hw 41 rfl)) (Or.inl (w_ hw 56 rfl)) (by decide) (t := (.object "com/example/colonnade/colonnade/TextSpool")) (t' := .long) (by decide) (by decide))))
  have F111 : Fld Z h106 a "com/example/colonnade/colonnade/ItemBuilder" "started" "Z" (.int (1 : Int32)) := ((I2.other W103 (Or.inr (slot_ne (Or.inl (w_ hw 48 rfl)) (Or.inl (w_ hw 58 rfl)) (by decide) (t := .boolean) (t' := .long) (by decide) (by decide)))).other W106 (Or.inr (slot_ne (Or.inl (w_ hw 48 rfl)) (Or.inl (w_ hw 56 rfl)) (by decide) (t := .boolean) (t' := .long) (by decide) (by decide))))
  have F112 : Fld Z h106 a "com/example/colonnade/colonnade/ItemBuilder" "line" "J" (.long r1) := ((I3.other W103 (Or.inr (slot_ne (Or.inl (w_ hw 50 rfl)) (Or.inl (w_ hw 58 rfl)) (by decide) (t := .long) (t' := .long) (by decide) (by decide)))).other W106 (Or.inr (slot_ne (Or.inl (w_ hw 50 rfl)) (Or.inl (w_ hw 56 rfl)) (by decide) (t := .long) (t' := .long) (by decide) (by decide))))
  have F113 : Fld Z h106 a "com/example/colonnade/colonnade/ItemBuilder" "column" "J" (.long r2) := ((I4.other W103 (Or.inr (slot_ne (Or.inl (w_ hw 52 rfl)) (Or.inl (w_ hw 58 rfl)) (by decide) (t := .long) (t' := .long) (by decide) (by decide)))).other W106 (Or.inr (slot_ne (Or.inl (w_ hw 52 rfl)) (Or.inl (w_ hw 56 rfl)) (by decide) (t := .long) (t' := .long) (by decide) (by decide))))
  have F114 : Fld Z h106 a "com/example/colonnade/colonnade/ItemBuilder" "start" "J" (.long r3) := ((I5.other W103 (Or.inr (slot_ne (Or.inl (w_ hw 54 rfl)) (Or.inl (w_ hw 58 rfl)) (by decide) (t := .long) (t' := .long) (by decide) (by decide)))).other W106 (Or.inr (slot_ne (Or.inl (w_ hw 54 rfl)) (Or.inl (w_ hw 56 rfl)) (by decide) (t := .long) (t' := .long) (by decide) (by decide))))
  have F115 : Fld Z h106 a "com/example/colonnade/colonnade/ItemBuilder" "kept" "J" (.long (1 : Int64)) := ((I7.same W103).other W106 (Or.inr (slot_ne (Or.inl (w_ hw 58 rfl)) (Or.inl (w_ hw 56 rfl)) (by decide) (t := .long) (t' := .long) (by decide) (by decide))))
  have F116 : Fld Z h106 a "com/example/colonnade/colonnade/ItemBuilder" "trailingBlanks" "J" (.long (1 : Int64)) := ((I8.other W103 (Or.inr (slot_ne (Or.inl (w_ hw 60 rfl)) (Or.inl (w_ hw 58 rfl)) (by decide) (t := .long) (t' := .long) (by decide) (by decide)))).other W106 (Or.inr (slot_ne (Or.inl (w_ hw 60 rfl)) (Or.inl (w_ hw 56 rfl)) (by decide) (t := .long) (t' := .long) (by decide) (by decide))))
  show Fin _ _ _ _ _ _ _ (T106.setTop (mkF m 16 #[.val (.ref a), .val (.long k), .second] []))
  exact Fin.ret (v := none) X106 (fun _ => rfl) Bd.notSynchronized (by rw [e106]; exact ⟨rfl, N106_, kp108, E109, F110, F111, F112, F113, F114, (F104.same W106), F115, F116⟩) (by decide) (by decide) (fun fs hr => X106.returnOut hx Bd.returns (hb hby d17_16) hr)
abbrev y_18 : MethodName := (⟨"com/example/colonnade/colonnade/ItemBuilder", "keepAllButTrailingBlanks", "(J)V"⟩ : MethodName)
theorem d18_0 : decode prog_46_method_8_code 0 = .ok (.aload_n 0, 1) := by decide +kernel
theorem d18_1 : decode prog_46_method_8_code 1 = .ok (.aload_n 0, 1) := by decide +kernel
theorem d18_2 : decode prog_46_method_8_code 2 = .ok (.getfield 12, 3) := by decide +kernel
theorem d18_5 : decode prog_46_method_8_code 5 = .ok (.invokevirtual 52, 3) := by decide +kernel
theorem d18_8 : decode prog_46_method_8_code 8 = .ok (.aload_n 0, 1) := by decide +kernel
theorem d18_9 : decode prog_46_method_8_code 9 = .ok (.getfield 38, 3) := by decide +kernel
theorem d18_12 : decode prog_46_method_8_code 12 = .ok (.lsub, 1) := by decide +kernel
theorem d18_13 : decode prog_46_method_8_code 13 = .ok (.putfield 35, 3) := by decide +kernel
theorem d18_16 : decode prog_46_method_8_code 16 = .ok (.aload_n 0, 1) := by decide +kernel
theorem d18_17 : decode prog_46_method_8_code 17 = .ok (.lload_n 1, 1) := by decide +kernel
theorem d18_18 : decode prog_46_method_8_code 18 = .ok (.aload_n 0, 1) := by decide +kernel
theorem d18_19 : decode prog_46_method_8_code 19 = .ok (.getfield 38, 3) := by decide +kernel
theorem d18_22 : decode prog_46_method_8_code 22 = .ok (.lsub, 1) := by decide +kernel
theorem d18_23 : decode prog_46_method_8_code 23 = .ok (.putfield 32, 3) := by decide +kernel
theorem d18_26 : decode prog_46_method_8_code 26 = .ok (.return_, 1) := by decide +kernel
def Q_kab (Z : State) (a : Addr) (b : Addr) (sb : Addr) (r1 : Int64) (r2 : Int64) (r3 : Int64) (k : Int64) (h0 : Heap) (n0 : Nat) (vv_ : Option Value) (hh_ : Heap) (LL_ : List Loc) : Prop := vv_ = none ∧ Fr n0 LL_ ∧ Keep h0 hh_ [a] ∧ Exa Z hh_ a "com/example/colonnade/colonnade/ItemBuilder" ∧ Fld Z hh_ a "com/example/colonnade/colonnade/ItemBuilder" "text" "Lcom/example/colonnade/colonnade/TextSpool;" (.ref b) ∧ Fld Z hh_ a "com/example/colonnade/colonnade/ItemBuilder" "started" "Z" (.int (1 : Int32)) ∧ Fld Z hh_ a "com/example/colonnade/colonnade/ItemBuilder" "line" "J" (.long r1) ∧ Fld Z hh_ a "com/example/colonnade/colonnade/ItemBuilder" "column" "J" (.long r2) ∧ Fld Z hh_ a "com/example/colonnade/colonnade/ItemBuilder" "start" "J" (.long r3) ∧ Fld Z hh_ a "com/example/colonnade/colonnade/ItemBuilder" "end" "J" (.long k) ∧ Fld Z hh_ a "com/example/colonnade/colonnade/ItemBuilder" "kept" "J" (.long (0 : Int64)) ∧ Fld Z hh_ a "com/example/colonnade/colonnade/ItemBuilder" "trailingBlanks" "J" (.long (0 : Int64))
set_option maxRecDepth 65536 in
set_option maxHeartbeats 40000000 in
theorem rm_kab (l : Launch) (Z : State) (a0 : Array Value) (hw : ∀ d ∈ tables_1, d.before a0 Z = true) (ws : List Jvm.Cond) (a : Addr) (b : Addr) (sb : Addr) (r1 : Int64) (r2 : Int64) (r3 : Int64) (k : Int64) (h0 : Heap) (n0 : Nat) (Z0 : n0 ≤ h0.size) (I0 : Exa Z h0 a "com/example/colonnade/colonnade/ItemBuilder") (I1 : Fld Z h0 a "com/example/colonnade/colonnade/ItemBuilder" "text" "Lcom/example/colonnade/colonnade/TextSpool;" (.ref b)) (I2 : Fld Z h0 a "com/example/colonnade/colonnade/ItemBuilder" "started" "Z" (.int (1 : Int32))) (I3 : Fld Z h0 a "com/example/colonnade/colonnade/ItemBuilder" "line" "J" (.long r1)) (I4 : Fld Z h0 a "com/example/colonnade/colonnade/ItemBuilder" "column" "J" (.long r2)) (I5 : Fld Z h0 a "com/example/colonnade/colonnade/ItemBuilder" "start" "J" (.long r3)) (I6 : Fld Z h0 a "com/example/colonnade/colonnade/ItemBuilder" "end" "J" (.long r3)) (I7 : Fld Z h0 a "com/example/colonnade/colonnade/ItemBuilder" "kept" "J" (.long (0 : Int64))) (I8 : Fld Z h0 a "com/example/colonnade/colonnade/ItemBuilder" "trailingBlanks" "J" (.long (0 : Int64))) (T0 : Exa Z h0 b "com/example/colonnade/colonnade/TextSpool") (T1 : Fld Z h0 b "com/example/colonnade/colonnade/TextSpool" "chars" "Ljava/lang/StringBuilder;" (.ref sb)) (T2 : Fld Z h0 b "com/example/colonnade/colonnade/TextSpool" "file" "Lcom/example/colonnade/colonnade/SpoolFile;" .null) (S_0 : Exa Z h0 sb "java/lang/StringBuilder") (S_3 : Fld Z h0 sb "java/lang/AbstractStringBuilder" "count" "I" (.int (0 : Int32))) (ga : n0 ≤ a) :
    MetFree l y_18 (head1 (Jvm.Cond.code y_18 prog_46_method_8_code 3 none :: ws) ({ frames := 3, cells := 0, slots := 0, locals := 39 } : Room)) (fun aa_ U => aa_ = #[(.ref a), (.long k)] ∧ Z.Warmed39 U.vm ∧ U.heap = h0) (fun _ _ _ _ _ => True) (fun _ U o U' => ∃ vv_ LL_, o = .returned vv_ ∧ Q_kab Z a b sb r1 r2 r3 k h0 n0 vv_ U'.heap LL_ ∧ FrameEnd U o U' LL_ 0 0) := by
  refine MetFree.of_bodySF (plainFor_of_name pn_com_example_colonnade_colonnade_ItemBuilder) hisR ?_
  intro p e s m args below meth c s₁ Bd hml0 hP hK
  obtain ⟨rfl, hZ, hh⟩ := hP
  have hx := Bd.exec
  have hby := Bd.bytes
  have hml : c.maxLocals = 3 := hml0
  have hown : s.vm.findClass "com/example/colonnade/colonnade/ItemBuilder" = some m.cls := findClass_of_methodNamed Bd.named
  have hnm := (name_of_methodNamed Bd.named Bd.method).1
  have X0 : Stand p l e ({ frames := 3, cells := 0, slots := 0, locals := 39 } : Room) s m #[(.ref a), (.long k)] below meth c s₁ [] 0 0 := Stand.of_body Bd
  have e0 : s₁.heap = h0 := by rw [← hh, Bd.state]; rfl
  have N0 := Fr.nil n0
  have ef : entryFrame m #[(.ref a), (.long k)] 3 = mkF m 0 #[.val (.ref a), .val (.long k), .second] [] := by first | (simp [entryFrame, mkF, argsToLocals, Value.category]; done) | rfl
  refine Fin.start (Q := Q_kab Z a b sb r1 r2 r3 k h0 n0) ef ?_
  refine Fin.by (fun tt_ kk_ => XS.aloadN X0.here hx rfl (hb hby d18_0) rfl rfl (XS.aloadN X0.here hx rfl (hb hby d18_1) rfl rfl kk_)) ?_
  obtain ⟨T101, X101, e101, st101⟩ := getF X0 hx hZ hown (host := "") (Or.inl (w_ hw 40 rfl)) Via.refl e0 I1 (g := (mkF m 2 #[.val (.ref a), .val (.long k), .second] [(.ref a), (.ref a)])) rfl rfl (hb hby d18_2)
  refine Fin.by (fun tt_ kk_ => st101 tt_ kk_) ?_
  obtain ⟨cq102, kq102, qa102, qb102, qc102⟩ := isOf hZ e101 T0
  obtain ⟨v102, _, ⟨T102, L102, k102, n102⟩, -, X102, ⟨Lc102, hQ102, l102, y102, z102⟩, st102⟩ := X101.virtualBack hx (y := y_9) (z := y_9) hown (mvT hZ (w_ hw 71 rfl)) (mvT hZ (w_ hw 72 rfl)) (notFace_of_selects (args := #[]) (mvT hZ (w_ hw 74 rfl))) (mvT hZ (w_ hw 74 rfl)) (mvT hZ (w_ hw 73 rfl)) (by decide) (backOf (W := 1) (rm_tln0 l Z a0 hw [] b sb h0 n0 Z0 T0 T1 T2 S_0 S_3) hZ (w_ hw 75 rfl) (w_ hw 11 rfl) (by decide) (by decide)) qa102 qc102 (g := (mkF m 5 #[.val (.ref a), .val (.long k), .second] [(.ref b), (.ref a)])) rfl (by rw [hml]; rfl) (Steps.refl _) (argsL := []) (rest := [(.ref a)]) (lenOf pd_190 rfl) rfl (by show 2 * 0 + _ ≤ _; exact Nat.le_of_eq rfl) (hb hby d18_5) (fun _ _ => ⟨rfl, e101, (by decide : 0 + 0 ≤ _), (by decide : 0 + 0 ≤ _)⟩)
  dsimp only [Pt.U, Pt.locs, Pt.cells, Pt.slots] at X102 l102 y102 z102 st102 hQ102
  subst l102 y102 z102
  obtain ⟨rfl, Nq102, e102_⟩ := hQ102
  have N102_ := Fr.app N0 Nq102
  refine Fin.byS st102 ?_
  have e102 := e102_
  refine Fin.by (fun tt_ kk_ => XS.aloadN X102.here hx rfl (hb hby d18_8) rfl rfl kk_) ?_
  obtain ⟨T103, X103, e103, st103⟩ := getF X102 hx hZ hown (host := "") (Or.inl (w_ hw 59 rfl)) Via.refl e102 I8 (g := (mkF m 9 #[.val (.ref a), .val (.long k), .second] [(.ref a), (.long (0 : Int64)), (.ref a)])) rfl rfl (hb hby d18_9)
  refine Fin.by (fun tt_ kk_ => st103 tt_ kk_) ?_
  refine Fin.by (fun tt_ kk_ => XS.lsub X103.here hx rfl (hb hby d18_12) rfl kk_) ?_
  obtain ⟨T104, h104, X104, e104, W104, st104⟩ := putF X103 hx hZ hown (host := "") (Or.inl (w_ hw 57 rfl)) Via.refl e103 I7 I0 (Or.inl (w_ hw 58 rfl)) (w_ hw 1 rfl) (ty := .long) (by decide) rfl rfl (g := (mkF m 13 #[.val (.ref a), .val (.long k), .second] [(.long (0 : Int64)), (.ref a)])) rfl rfl (hb hby d18_13)
  refine Fin.by (fun tt_ kk_ => st104 tt_ kk_) ?_
  have N104_ := Fr.snoc X104 N102_ ga
  refine Fin.by (fun tt_ kk_ => XS.aloadN X104.here hx rfl (hb hby d18_16) rfl rfl (XS.lloadN X104.here hx rfl (hb hby d18_17) rfl (XS.aloadN X104.here hx rfl (hb hby d18_18) rfl rfl kk_))) ?_
  have F105 : Fld Z h104 a "com/example/colonnade/colonnade/ItemBuilder" "trailingBlanks" "J" (.long (0 : Int64)) := (I8.other W104 (Or.inr (slot_ne (Or.inl (w_ hw 60 rfl)) (Or.inl (w_ hw 58 rfl)) (by decide) (t := .long) (t' := .long) (by decide) (by decide))))
  obtain ⟨T106, X106, e106, st106⟩ := getF X104 hx hZ hown (host := "") (Or.inl (w_ hw 59 rfl)) Via.refl e104 F105 (g := (mkF m 19 #[.val (.ref a), .val (.long k), .second] [(.ref a), (.long k), (.ref a)])) rfl rfl (hb hby d18_19)
  refine Fin.by (fun tt_ kk_ => st106 tt_ kk_) ?_
  refine Fin.by (fun tt_ kk_ => XS.lsub X106.here hx rfl (hb hby d18_22) rfl kk_) ?_
  have F107 : Fld Z h104 a "com/example/colonnade/colonnade/ItemBuilder" "end" "J" (.long r3) := (I6.other W104 (Or.inr (slot_ne (Or.inl (w_ hw 56 rfl)) (Or.inl (w_ hw 58 rfl)) (by decide) (t := .long) (t' := .long) (by decide) (by decide))))
  have E108 : Exa Z h104 a "com/example/colonnade/colonnade/ItemBuilder" := (I0.wr W104)
  obtain ⟨T109, h109, X109, e109, W109, st109⟩ := putF X106 hx hZ hown (host := "") (Or.inl (w_ hw 55 rfl)) Via.refl e106 F107 E108 (Or.inl (w_ hw 56 rfl)) (w_ hw 1 rfl) (ty := .long) (by decide) rfl rfl (g := (mkF m 23 #[.val (.ref a), .val (.long k), .second] [(.long (k - (0 : Int64))), (.ref a)])) rfl rfl (hb hby d18_23)
  refine Fin.by (fun tt_ kk_ => st109 tt_ kk_) ?_
  have N109_ := Fr.snoc X109 N104_ ga
  have F110 : Fld Z h109 a "com/example/colonnade/colonnade/ItemBuilder" "end" "J" (.long k) := by have q := (F107.same W109); rw [own_s0] at q; exact q
  have kp111 : Keep h0 h104 [a] := (Keep.refl h0 [a]).wr W104 (Or.inl (List.mem_of_getElem? (i := 0) rfl))
  have kp112 : Keep h0 h109 [a] := kp111.wr W109 (Or.inl (List.mem_of_getElem? (i := 0) rfl))
  have E113 : Exa Z h109 a "com/example/colonnade/colonnade/ItemBuilder" := (E108.wr W109)
  have F114 : Fld Z h109 a "com/example/colonnade/colonnade/ItemBuilder" "text" "Lcom/example/colonnade/colonnade/TextSpool;" (.ref b) := ((I1.other W104 (Or.inr (slot_ne (Or.inr (w_ hw 41 rfl)) (Or.inl (w_ hw 58 rfl)) (by decide) (t := (.object "com/example/colonnade/colonnade/TextSpool")) (t' := .long) (by decide) (by decide)))).other W109 (Or.inr (slot_ne (Or.inr (w_ hw 41 rfl)) (Or.inl (w_ hw 56 rfl)) (by decide) (t := (.object "com/example/colonnade/colonnade/TextSpool")) (t' := .long) (by decide) (by decide))))
  have F115 : Fld Z h109 a "com/example/colonnade/colonnade/ItemBuilder" "started" "Z" (.int (1 : Int32)) := ((I2.other W104 (Or.inr (slot_ne (Or.inl (w_ hw 48 rfl)) (Or.inl (w_ hw 58 rfl)) (by decide) (t := .boolean) (t' := .long) (by decide) (by decide)))).other W109 (Or.inr (slot_ne (Or.inl (w_ hw 48 rfl)) (Or.inl (w_ hw 56 rfl)) (by decide) (t := .boolean) (t' := .long) (by decide) (by decide))))
  have F116 : Fld Z h109 a "com/example/colonnade/colonnade/ItemBuilder" "line" "J" (.long r1) := ((I3.other W104 (Or.inr (slot_ne (Or.inl (w_ hw 50 rfl)) (Or.inl (w_ hw 58 rfl)) (by decide) (t := .long) (t' := .long) (by decide) (by decide)))).other W109 (Or.inr (slot_ne (Or.inl (w_ hw 50 rfl)) (Or.inl (w_ hw 56 rfl)) (by decide) (t := .long) (t' := .long) (by decide) (by decide))))
  have F117 : Fld Z h109 a "com/example/colonnade/colonnade/ItemBuilder" "column" "J" (.long r2) := ((I4.other W104 (Or.inr (slot_ne (Or.inl (w_ hw 52 rfl)) (Or.inl (w_ hw 58 rfl)) (by decide) (t := .long) (t' := .long) (by decide) (by decide)))).other W109 (Or.inr (slot_ne (Or.inl (w_ hw 52 rfl)) (Or.inl (w_ hw 56 rfl)) (by decide) (t := .long) (t' := .long) (by decide) (by decide))))
  have F118 : Fld Z h109 a "com/example/colonnade/colonnade/ItemBuilder" "start" "J" (.long r3) := ((I5.other W104 (Or.inr (slot_ne (Or.inl (w_ hw 54 rfl)) (Or.inl (w_ hw 58 rfl)) (by decide) (t := .long) (t' := .long) (by decide) (by decide)))).other W109 (Or.inr (slot_ne (Or.inl (w_ hw 54 rfl)) (Or.inl (w_ hw 56 rfl)) (by decide) (t := .long) (t' := .long) (by decide) (by decide))))
  have F119 : Fld Z h109 a "com/example/colonnade/colonnade/ItemBuilder" "kept" "J" (.long (0 : Int64)) := ((I7.same W104).other W109 (Or.inr (slot_ne (Or.inl (w_ hw 58 rfl)) (Or.inl (w_ hw 56 rfl)) (by decide) (t := .long) (t' := .long) (by decide) (by decide))))
  have F120 : Fld Z h109 a "com/example/colonnade/colonnade/ItemBuilder" "trailingBlanks" "J" (.long (0 : Int64)) := (F105.other W109 (Or.inr (slot_ne (Or.inl (w_ hw 60 rfl)) (Or.inl (w_ hw 56 rfl)) (by decide) (t := .long) (t' := .long) (by decide) (by decide))))
  show Fin _ _ _ _ _ _ _ (T109.setTop (mkF m 26 #[.val (.ref a), .val (.long k), .second] []))
  exact Fin.ret (v := none) X109 (fun _ => rfl) Bd.notSynchronized (by rw [e109]; exact ⟨rfl, N109_, kp112, E113, F114, F115, F116, F117, F118, F110, F119, F120⟩) (by decide) (by decide) (fun fs hr => X109.returnOut hx Bd.returns (hb hby d18_26) hr)
abbrev y_19 : MethodName := (⟨"java/lang/String", "coder", "()B"⟩ : MethodName)
theorem d19_0 : decode jdk_42_method_152_code 0 = .ok (.getstatic 38, 3) := by decide +kernel
theorem d19_3 : decode jdk_42_method_152_code 3 = .ok (.ifCond .eq 10, 3) := by decide +kernel
theorem d19_6 : decode jdk_42_method_152_code 6 = .ok (.aload_n 0, 1) := by decide +kernel
theorem d19_7 : decode jdk_42_method_152_code 7 = .ok (.getfield 15, 3) := by decide +kernel
theorem d19_10 : decode jdk_42_method_152_code 10 = .ok (.goto 4, 3) := by decide +kernel
theorem d19_14 : decode jdk_42_method_152_code 14 = .ok (.ireturn, 1) := by decide +kernel
theorem pn_java_lang_String : plainName "java/lang/String" = true := by first | (simp [plainName, overriddenIn]; done) | decide +kernel
def Q_cod (Z : State) (x : Addr) (G1 : Int32) (h0 : Heap) (n0 : Nat) (vv_ : Option Value) (hh_ : Heap) (LL_ : List Loc) : Prop := vv_ = some (.int (0 : Int32)) ∧ Fr n0 LL_ ∧ hh_ = h0
set_option maxRecDepth 65536 in
set_option maxHeartbeats 40000000 in
theorem rm_cod (l : Launch) (Z : State) (a0 : Array Value) (hw : ∀ d ∈ tables_1, d.before a0 Z = true) (ws : List Jvm.Cond) (x : Addr) (G1 : Int32) (h0 : Heap) (n0 : Nat) (Z0 : n0 ≤ h0.size) (F4 : Fld Z h0 x "java/lang/String" "coder" "B" (.int (0 : Int32))) (S1 : Sta Z Z.heap "java/lang/String" "COMPACT_STRINGS" "Z" (.int G1)) (P1 : ¬ G1 = 0) (OL : Old Z n0 h0) :
    MetFree l y_19 (head1 (Jvm.Cond.code y_19 jdk_42_method_152_code 1 (some .byte) :: ws) ({ frames := 0, cells := 0, slots := 0, locals := 0 } : Room)) (fun aa_ U => aa_ = #[(.ref x)] ∧ Z.Warmed39 U.vm ∧ U.heap = h0) (fun _ _ _ _ _ => True) (fun _ U o U' => ∃ vv_ LL_, o = .returned vv_ ∧ Q_cod Z x G1 h0 n0 vv_ U'.heap LL_ ∧ FrameEnd U o U' LL_ 0 0) := by
  refine MetFree.of_bodySF (plainFor_of_name pn_java_lang_String) hisR ?_
  intro p e s m args below meth c s₁ Bd hml0 hP hK
  obtain ⟨rfl, hZ, hh⟩ := hP
  have hx := Bd.exec
  have hby := Bd.bytes
  have hml : c.maxLocals = 1 := hml0
  have hown : s.vm.findClass "java/lang/String" = some m.cls := findClass_of_methodNamed Bd.named
  have hnm := (name_of_methodNamed Bd.named Bd.method).1
  have X0 : Stand p l e ({ frames := 0, cells := 0, slots := 0, locals := 0 } : Room) s m #[(.ref x)] below meth c s₁ [] 0 0 := Stand.of_body Bd
  have e0 : s₁.heap = h0 := by rw [← hh, Bd.state]; rfl
  have N0 := Fr.nil n0
  have ef : entryFrame m #[(.ref x)] 1 = mkF m 0 #[.val (.ref x)] [] := by first | (simp [entryFrame, mkF, argsToLocals, Value.category]; done) | rfl
  refine Fin.start (Q := Q_cod Z x G1 h0 n0) ef ?_
  obtain ⟨T101, X101, e101, st101⟩ := getS X0 hx hZ (host := "") hown (w_ hw 157 rfl) Via.refl e0 (S1.ext OL.2) (g := (mkF m 0 #[.val (.ref x)] [])) rfl (hb hby d19_0)
  refine Fin.by (fun tt_ kk_ => st101 tt_ kk_) ?_
  show Fin _ _ _ _ _ _ _ (T101.setTop (mkF m 3 #[.val (.ref x)] [(.int G1)]))
  refine Fin.by (fun tt_ kk_ => XS.ifNo X101.here hx rfl (hb hby d19_3) rfl ((if0 _ _).trans (feq (P1 : ¬ G1 = (0 : Int32))).1) kk_) ?_
  refine Fin.by (fun tt_ kk_ => XS.aloadN X101.here hx rfl (hb hby d19_6) rfl rfl kk_) ?_
  obtain ⟨T102, X102, e102, st102⟩ := getF X101 hx hZ hown (host := "") (Or.inl (w_ hw 158 rfl)) Via.refl e101 F4 (g := (mkF m 7 #[.val (.ref x)] [(.ref x)])) rfl rfl (hb hby d19_7)
  refine Fin.by (fun tt_ kk_ => st102 tt_ kk_) ?_
  refine Fin.by (fun tt_ kk_ => XS.goto X102.here hx rfl (pc0 := 10) (pc' := 14) rfl (hb hby d19_10) (by decide) (by decide) kk_) ?_
  show Fin _ _ _ _ _ _ _ (T102.setTop (mkF m 14 #[.val (.ref x)] [(.int 0)]))
  exact Fin.ret (v := some (.int (nar .byte (0 : Int32)))) X102 (fun h => by rw [Bd.returns] at h; cases h) Bd.notSynchronized (by rw [e102]; exact ⟨rfl, N0, rfl⟩) (by decide) (by decide) (fun fs hr => retN X102 hx (t := .byte) Bd.returns (by simp) (hb hby d19_14) hr)
abbrev y_20 : MethodName := (⟨"java/lang/String", "length", "()I"⟩ : MethodName)
theorem d20_0 : decode jdk_42_method_54_code 0 = .ok (.aload_n 0, 1) := by decide +kernel
theorem d20_1 : decode jdk_42_method_54_code 1 = .ok (.getfield 9, 3) := by decide +kernel
theorem d20_4 : decode jdk_42_method_54_code 4 = .ok (.arraylength, 1) := by decide +kernel
theorem d20_5 : decode jdk_42_method_54_code 5 = .ok (.aload_n 0, 1) := by decide +kernel
theorem pd_223 : parseMethodDescriptor "()B" = some ⟨[], some .byte⟩ := by decide +kernel
theorem d20_6 : decode jdk_42_method_54_code 6 = .ok (.invokevirtual 335, 3) := by decide +kernel
theorem d20_9 : decode jdk_42_method_54_code 9 = .ok (.ishr, 1) := by decide +kernel
theorem d20_10 : decode jdk_42_method_54_code 10 = .ok (.ireturn, 1) := by decide +kernel
def Q_sle (Z : State) (x : Addr) (t : Addr) (kb : ClassId) (us : List Value) (N2 : Int32) (G1 : Int32) (h0 : Heap) (n0 : Nat) (vv_ : Option Value) (hh_ : Heap) (LL_ : List Loc) : Prop := vv_ = some (.int N2) ∧ Fr n0 LL_ ∧ hh_ = h0
set_option maxRecDepth 65536 in
set_option maxHeartbeats 40000000 in
theorem rm_sle (l : Launch) (Z : State) (a0 : Array Value) (hw : ∀ d ∈ tables_1, d.before a0 Z = true) (ws : List Jvm.Cond) (x : Addr) (t : Addr) (kb : ClassId) (us : List Value) (N2 : Int32) (G1 : Int32) (h0 : Heap) (n0 : Nat) (Z0 : n0 ≤ h0.size) (E1 : Exa Z h0 x "java/lang/String") (F3 : Fld Z h0 x "java/lang/String" "value" "[B" (.ref t)) (F4 : Fld Z h0 x "java/lang/String" "coder" "B" (.int (0 : Int32))) (A1 : Arv Z h0 t kb .byte N2 us (.int 0)) (S1 : Sta Z Z.heap "java/lang/String" "COMPACT_STRINGS" "Z" (.int G1)) (P1 : ¬ G1 = 0) (OL : Old Z n0 h0) :
    MetFree l y_20 (head1 (Jvm.Cond.code y_20 jdk_42_method_54_code 1 (some .int) :: ws) ({ frames := 1, cells := 0, slots := 0, locals := 13 } : Room)) (fun aa_ U => aa_ = #[(.ref x)] ∧ Z.Warmed39 U.vm ∧ U.heap = h0) (fun _ _ _ _ _ => True) (fun _ U o U' => ∃ vv_ LL_, o = .returned vv_ ∧ Q_sle Z x t kb us N2 G1 h0 n0 vv_ U'.heap LL_ ∧ FrameEnd U o U' LL_ 0 0) := by
  refine MetFree.of_bodySF (plainFor_of_name pn_java_lang_String) hisR ?_
  intro p e s m args below meth c s₁ Bd hml0 hP hK
  obtain ⟨rfl, hZ, hh⟩ := hP
  have hx := Bd.exec
  have hby := Bd.bytes
  have hml : c.maxLocals = 1 := hml0
  have hown : s.vm.findClass "java/lang/String" = some m.cls := findClass_of_methodNamed Bd.named
  have hnm := (name_of_methodNamed Bd.named Bd.method).1
  have X0 : Stand p l e ({ frames := 1, cells := 0, slots := 0, locals := 13 } : Room) s m #[(.ref x)] below meth c s₁ [] 0 0 := Stand.of_body Bd
  have e0 : s₁.heap = h0 := by rw [← hh, Bd.state]; rfl
  have N0 := Fr.nil n0
  have ef : entryFrame m #[(.ref x)] 1 = mkF m 0 #[.val (.ref x)] [] := by first | (simp [entryFrame, mkF, argsToLocals, Value.category]; done) | rfl
  refine Fin.start (Q := Q_sle Z x t kb us N2 G1 h0 n0) ef ?_
  refine Fin.by (fun tt_ kk_ => XS.aloadN X0.here hx rfl (hb hby d20_0) rfl rfl kk_) ?_
  obtain ⟨T101, X101, e101, st101⟩ := getF X0 hx hZ hown (host := "") (Or.inl (w_ hw 151 rfl)) Via.refl e0 F3 (g := (mkF m 1 #[.val (.ref x)] [(.ref x)])) rfl rfl (hb hby d20_1)
  refine Fin.by (fun tt_ kk_ => st101 tt_ kk_) ?_
  obtain ⟨cl102, Ar102, q102, S102, N102, H102, G102⟩ := id A1
  refine Fin.by (fun tt_ kk_ => X101.arraylength hx (by rw [e101]; exact Ar102.1) (State.isArrayOf_alike hZ.alike Ar102.2.1) (g := (mkF m 4 #[.val (.ref x)] [(.ref t)])) rfl rfl (hb hby d20_4) _ kk_) ?_
  rw [len_of S102 N102]
  refine Fin.by (fun tt_ kk_ => XS.aloadN X101.here hx rfl (hb hby d20_5) rfl rfl kk_) ?_
  obtain ⟨cq103, kq103, qa103, qb103, qc103⟩ := isOf hZ e101 E1
  obtain ⟨v103, _, ⟨T103, L103, k103, n103⟩, -, X103, ⟨Lc103, hQ103, l103, y103, z103⟩, st103⟩ := X101.virtualBack hx (y := y_19) (z := y_19) hown (mvT hZ (w_ hw 152 rfl)) (mvT hZ (w_ hw 153 rfl)) (notFace_of_selects (args := #[]) (mvT hZ (w_ hw 155 rfl))) (mvT hZ (w_ hw 155 rfl)) (mvT hZ (w_ hw 154 rfl)) (by decide) (backOf (W := 1) (rm_cod l Z a0 hw [] x G1 h0 n0 Z0 F4 S1 P1 OL) hZ (w_ hw 156 rfl) (w_ hw 30 rfl) (by decide) (by decide)) qa103 qc103 (g := (mkF m 6 #[.val (.ref x)] [(.ref x), (.int N2)])) rfl (by rw [hml]; rfl) (Steps.refl _) (argsL := []) (rest := [(.int N2)]) (lenOf pd_223 rfl) rfl (by show 2 * 0 + _ ≤ _; exact Nat.le_of_eq rfl) (hb hby d20_6) (fun _ _ => ⟨rfl, e101, (by decide : 0 + 0 ≤ _), (by decide : 0 + 0 ≤ _)⟩)
  dsimp only [Pt.U, Pt.locs, Pt.cells, Pt.slots] at X103 l103 y103 z103 st103 hQ103
  subst l103 y103 z103
  obtain ⟨rfl, Nq103, e103_⟩ := hQ103
  have N103_ := Fr.app N0 Nq103
  refine Fin.byS st103 ?_
  have e103 := e103_
  refine Fin.by (fun tt_ kk_ => XS.ishr X103.here hx rfl (hb hby d20_9) rfl kk_) ?_
  show Fin _ _ _ _ _ _ _ (T103.setTop (mkF m 10 #[.val (.ref x)] [(.int (N2 >>> (0 &&& 31)))]))
  exact Fin.ret (v := some (.int (N2 >>> ((0 : Int32) &&& 31)))) X103 (fun h => by rw [Bd.returns] at h; cases h) Bd.notSynchronized (by rw [e103]; exact ⟨(by rw [own_shr0]), N103_, rfl⟩) (by decide) (by decide) (fun fs hr => retI X103 hx Bd.returns (hb hby d20_10) hr)
abbrev y_21 : MethodName := (⟨"java/lang/Record", "<init>", "()V"⟩ : MethodName)
theorem d21_0 : decode jdk_30_method_1_code 0 = .ok (.aload_n 0, 1) := by decide +kernel
theorem d21_1 : decode jdk_30_method_1_code 1 = .ok (.invokespecial 1, 3) := by decide +kernel
theorem d21_4 : decode jdk_30_method_1_code 4 = .ok (.return_, 1) := by decide +kernel
theorem pn_java_lang_Record : plainName "java/lang/Record" = true := by first | (simp [plainName, overriddenIn]; done) | decide +kernel
def Q_rec (Z : State) (a : Addr) (h0 : Heap) (n0 : Nat) (vv_ : Option Value) (hh_ : Heap) (LL_ : List Loc) : Prop := vv_ = none ∧ Fr n0 LL_ ∧ hh_ = h0
set_option maxRecDepth 65536 in
set_option maxHeartbeats 40000000 in
theorem rm_rec (l : Launch) (Z : State) (a0 : Array Value) (hw : ∀ d ∈ tables_1, d.before a0 Z = true) (ws : List Jvm.Cond) (a : Addr) (h0 : Heap) (n0 : Nat) (Z0 : n0 ≤ h0.size) :
    MetFree l y_21 (head1 (Jvm.Cond.code y_21 jdk_30_method_1_code 1 none :: ws) ({ frames := 1, cells := 0, slots := 0, locals := 12 } : Room)) (fun aa_ U => aa_ = #[(.ref a)] ∧ Z.Warmed39 U.vm ∧ U.heap = h0) (fun _ _ _ _ _ => True) (fun _ U o U' => ∃ vv_ LL_, o = .returned vv_ ∧ Q_rec Z a h0 n0 vv_ U'.heap LL_ ∧ FrameEnd U o U' LL_ 0 0) := by
  refine MetFree.of_bodySF (plainFor_of_name pn_java_lang_Record) hisR ?_
  intro p e s m args below meth c s₁ Bd hml0 hP hK
  obtain ⟨rfl, hZ, hh⟩ := hP
  have hx := Bd.exec
  have hby := Bd.bytes
  have hml : c.maxLocals = 1 := hml0
  have hown : s.vm.findClass "java/lang/Record" = some m.cls := findClass_of_methodNamed Bd.named
  have hnm := (name_of_methodNamed Bd.named Bd.method).1
  have X0 : Stand p l e ({ frames := 1, cells := 0, slots := 0, locals := 12 } : Room) s m #[(.ref a)] below meth c s₁ [] 0 0 := Stand.of_body Bd
  have e0 : s₁.heap = h0 := by rw [← hh, Bd.state]; rfl
  have N0 := Fr.nil n0
  have ef : entryFrame m #[(.ref a)] 1 = mkF m 0 #[.val (.ref a)] [] := by first | (simp [entryFrame, mkF, argsToLocals, Value.category]; done) | rfl
  refine Fin.start (Q := Q_rec Z a h0 n0) ef ?_
  refine Fin.by (fun tt_ kk_ => XS.aloadN X0.here hx rfl (hb hby d21_0) rfl rfl kk_) ?_
  obtain ⟨T101, X101, e101, st101⟩ := initO X0 hx hZ hown (w_ hw 183 rfl) (w_ hw 7 rfl) (w_ hw 8 rfl) e0 (g := (mkF m 1 #[.val (.ref a)] [(.ref a)])) rfl (by rw [hml]; rfl) rfl (hb hby d21_1) (by decide) (W := 0) (by show 2 * 0 + _ ≤ _; exact Nat.le_of_eq rfl) (by decide)
  refine Fin.by (fun tt_ kk_ => st101 tt_ kk_) ?_
  show Fin _ _ _ _ _ _ _ (T101.setTop (mkF m 4 #[.val (.ref a)] []))
  exact Fin.ret (v := none) X101 (fun _ => rfl) Bd.notSynchronized (by rw [e101]; exact ⟨rfl, N0, rfl⟩) (by decide) (by decide) (fun fs hr => X101.returnOut hx Bd.returns (hb hby d21_4) hr)
abbrev y_22 : MethodName := (⟨"com/example/colonnade/colonnade/SpooledText", "<init>", "(Ljava/lang/String;)V"⟩ : MethodName)
theorem d22_0 : decode prog_90_method_1_code 0 = .ok (.aload_n 0, 1) := by decide +kernel
theorem d22_1 : decode prog_90_method_1_code 1 = .ok (.invokespecial 1, 3) := by decide +kernel
theorem d22_4 : decode prog_90_method_1_code 4 = .ok (.aload_n 0, 1) := by decide +kernel
theorem d22_5 : decode prog_90_method_1_code 5 = .ok (.aload_n 1, 1) := by decide +kernel
theorem d22_6 : decode prog_90_method_1_code 6 = .ok (.putfield 7, 3) := by decide +kernel
theorem d22_9 : decode prog_90_method_1_code 9 = .ok (.aload_n 0, 1) := by decide +kernel
theorem d22_10 : decode prog_90_method_1_code 10 = .ok (.aconst_null, 1) := by decide +kernel
theorem d22_11 : decode prog_90_method_1_code 11 = .ok (.putfield 13, 3) := by decide +kernel
theorem d22_14 : decode prog_90_method_1_code 14 = .ok (.aload_n 0, 1) := by decide +kernel
theorem d22_15 : decode prog_90_method_1_code 15 = .ok (.aload_n 1, 1) := by decide +kernel
theorem d22_16 : decode prog_90_method_1_code 16 = .ok (.invokevirtual 17, 3) := by decide +kernel
theorem d22_19 : decode prog_90_method_1_code 19 = .ok (.i2l, 1) := by decide +kernel
theorem d22_20 : decode prog_90_method_1_code 20 = .ok (.putfield 23, 3) := by decide +kernel
theorem d22_23 : decode prog_90_method_1_code 23 = .ok (.return_, 1) := by decide +kernel
theorem pn_com_example_colonnade_colonnade_SpooledText : plainName "com/example/colonnade/colonnade/SpooledText" = true := by first | (simp [plainName, overriddenIn]; done) | decide +kernel
def Q_stx (Z : State) (y : Addr) (x : Addr) (t : Addr) (kb : ClassId) (us : List Value) (N2 : Int32) (G1 : Int32) (h0 : Heap) (n0 : Nat) (vv_ : Option Value) (hh_ : Heap) (LL_ : List Loc) : Prop := vv_ = none ∧ Fr n0 LL_ ∧ Keep h0 hh_ [y] ∧ Exa Z hh_ y "com/example/colonnade/colonnade/SpooledText"
set_option maxRecDepth 65536 in
set_option maxHeartbeats 40000000 in
theorem rm_stx (l : Launch) (Z : State) (a0 : Array Value) (hw : ∀ d ∈ tables_1, d.before a0 Z = true) (ws : List Jvm.Cond) (y : Addr) (x : Addr) (t : Addr) (kb : ClassId) (us : List Value) (N2 : Int32) (G1 : Int32) (h0 : Heap) (n0 : Nat) (Z0 : n0 ≤ h0.size) (Y0 : Exa Z h0 y "com/example/colonnade/colonnade/SpooledText") (Y1 : Fld Z h0 y "com/example/colonnade/colonnade/SpooledText" "text" "Ljava/lang/String;" .null) (Y2 : Fld Z h0 y "com/example/colonnade/colonnade/SpooledText" "file" "Lcom/example/colonnade/colonnade/SpoolFile;" .null) (Y3 : Fld Z h0 y "com/example/colonnade/colonnade/SpooledText" "length" "J" (.long (0 : Int64))) (gy : n0 ≤ y) (E1 : Exa Z h0 x "java/lang/String") (F3 : Fld Z h0 x "java/lang/String" "value" "[B" (.ref t)) (F4 : Fld Z h0 x "java/lang/String" "coder" "B" (.int (0 : Int32))) (A1 : Arv Z h0 t kb .byte N2 us (.int 0)) (nx : x ≠ y) (nt : t ≠ y) (S1 : Sta Z Z.heap "java/lang/String" "COMPACT_STRINGS" "Z" (.int G1)) (P1 : ¬ G1 = 0) (OL : Old Z n0 h0) :
    MetFree l y_22 (head1 (Jvm.Cond.code y_22 prog_90_method_1_code 2 none :: ws) ({ frames := 2, cells := 0, slots := 0, locals := 26 } : Room)) (fun aa_ U => aa_ = #[(.ref y), (.ref x)] ∧ Z.Warmed39 U.vm ∧ U.heap = h0) (fun _ _ _ _ _ => True) (fun _ U o U' => ∃ vv_ LL_, o = .returned vv_ ∧ Q_stx Z y x t kb us N2 G1 h0 n0 vv_ U'.heap LL_ ∧ FrameEnd U o U' LL_ 0 0) := by
  refine MetFree.of_bodySF (plainFor_of_name pn_com_example_colonnade_colonnade_SpooledText) hisR ?_
  intro p e s m args below meth c s₁ Bd hml0 hP hK
  obtain ⟨rfl, hZ, hh⟩ := hP
  have hx := Bd.exec
  have hby := Bd.bytes
  have hml : c.maxLocals = 2 := hml0
  have hown : s.vm.findClass "com/example/colonnade/colonnade/SpooledText" = some m.cls := findClass_of_methodNamed Bd.named
  have hnm := (name_of_methodNamed Bd.named Bd.method).1
  have X0 : Stand p l e ({ frames := 2, cells := 0, slots := 0, locals := 26 } : Room) s m #[(.ref y), (.ref x)] below meth c s₁ [] 0 0 := Stand.of_body Bd
  have e0 : s₁.heap = h0 := by rw [← hh, Bd.state]; rfl
  have N0 := Fr.nil n0
  have ef : entryFrame m #[(.ref y), (.ref x)] 2 = mkF m 0 #[.val (.ref y), .val (.ref x)] [] := by first | (simp [entryFrame, mkF, argsToLocals, Value.category]; done) | rfl
  refine Fin.start (Q := Q_stx Z y x t kb us N2 G1 h0 n0) ef ?_
  refine Fin.by (fun tt_ kk_ => XS.aloadN X0.here hx rfl (hb hby d22_0) rfl rfl kk_) ?_
  obtain ⟨T101, X101, e101, st101⟩ := initO X0 hx hZ hown (w_ hw 141 rfl) (w_ hw 7 rfl) (w_ hw 8 rfl) e0 (g := (mkF m 1 #[.val (.ref y), .val (.ref x)] [(.ref y)])) rfl (by rw [hml]; rfl) rfl (hb hby d22_1) (by decide) (W := 0) (by show 2 * 0 + _ ≤ _; exact Nat.le_of_eq rfl) (by decide)
  refine Fin.by (fun tt_ kk_ => st101 tt_ kk_) ?_
  refine Fin.by (fun tt_ kk_ => XS.aloadN X101.here hx rfl (hb hby d22_4) rfl rfl (XS.aloadN X101.here hx rfl (hb hby d22_5) rfl rfl kk_)) ?_
  obtain ⟨T102, h102, X102, e102, W102, st102⟩ := putF X101 hx hZ hown (host := "") (Or.inl (w_ hw 142 rfl)) Via.refl e101 Y1 Y0 (Or.inr ⟨(w_ hw 143 rfl), rfl, hnm⟩) (w_ hw 107 rfl) (ty := (.object "java/lang/String")) (by decide) rfl rfl (g := (mkF m 6 #[.val (.ref y), .val (.ref x)] [(.ref x), (.ref y)])) rfl rfl (hb hby d22_6)
  refine Fin.by (fun tt_ kk_ => st102 tt_ kk_) ?_
  have N102_ := Fr.snoc X102 N0 gy
  refine Fin.by (fun tt_ kk_ => XS.aloadN X102.here hx rfl (hb hby d22_9) rfl rfl (XS.aconstNull X102.here hx rfl (hb hby d22_10) kk_)) ?_
  have F103 : Fld Z h102 y "com/example/colonnade/colonnade/SpooledText" "file" "Lcom/example/colonnade/colonnade/SpoolFile;" .null := (Y2.other W102 (Or.inr (slot_ne (Or.inr (w_ hw 145 rfl)) (Or.inr (w_ hw 143 rfl)) (by decide) (t := (.object "com/example/colonnade/colonnade/SpoolFile")) (t' := (.object "java/lang/String")) (by decide) (by decide))))
  have E104 : Exa Z h102 y "com/example/colonnade/colonnade/SpooledText" := (Y0.wr W102)
  obtain ⟨T105, h105, X105, e105, W105, st105⟩ := putF X102 hx hZ hown (host := "") (Or.inl (w_ hw 144 rfl)) Via.refl e102 F103 E104 (Or.inr ⟨(w_ hw 145 rfl), rfl, hnm⟩) (w_ hw 107 rfl) (ty := (.object "com/example/colonnade/colonnade/SpoolFile")) (by decide) rfl rfl (g := (mkF m 11 #[.val (.ref y), .val (.ref x)] [.null, (.ref y)])) rfl rfl (hb hby d22_11)
  refine Fin.by (fun tt_ kk_ => st105 tt_ kk_) ?_
  have N105_ := Fr.snoc X105 N102_ gy
  refine Fin.by (fun tt_ kk_ => XS.aloadN X105.here hx rfl (hb hby d22_14) rfl rfl (XS.aloadN X105.here hx rfl (hb hby d22_15) rfl rfl kk_)) ?_
  have E106 : Exa Z h105 x "java/lang/String" := ((E1.wr W102).wr W105)
  have F107 : Fld Z h105 x "java/lang/String" "value" "[B" (.ref t) := ((F3.other W102 (Or.inl nx)).other W105 (Or.inl nx))
  have F108 : Fld Z h105 x "java/lang/String" "coder" "B" (.int (0 : Int32)) := ((F4.other W102 (Or.inl nx)).other W105 (Or.inl nx))
  have A109 : Arv Z h105 t kb .byte N2 us (.int 0) := ((A1.other W102 nt).other W105 nt)
  have O110 : Old Z n0 h105 := ((OL.wr W102 gy).wr W105 gy)
  have z111 : n0 ≤ h105.size := Nat.le_trans Z0 (Nat.le_trans (Keep.of_wr W102).1 (Keep.of_wr W105).1)
  obtain ⟨cq112, kq112, qa112, qb112, qc112⟩ := isOf hZ e105 E106
  obtain ⟨v112, _, ⟨T112, L112, k112, n112⟩, -, X112, ⟨Lc112, hQ112, l112, y112, z112⟩, st112⟩ := X105.virtualBack hx (y := y_20) (z := y_20) hown (mvT hZ (w_ hw 146 rfl)) (mvT hZ (w_ hw 147 rfl)) (notFace_of_selects (args := #[]) (mvT hZ (w_ hw 149 rfl))) (mvT hZ (w_ hw 149 rfl)) (mvT hZ (w_ hw 148 rfl)) (by decide) (backOf (W := 1) (rm_sle l Z a0 hw [] x t kb (us : List Value) N2 G1 h105 n0 z111 E106 F107 F108 A109 S1 P1 O110) hZ (w_ hw 150 rfl) (w_ hw 30 rfl) (by decide) (by decide)) qa112 qc112 (g := (mkF m 16 #[.val (.ref y), .val (.ref x)] [(.ref x), (.ref y)])) rfl (by rw [hml]; rfl) (Steps.refl _) (argsL := []) (rest := [(.ref y)]) (lenOf pd_72 rfl) rfl (by show 2 * 0 + _ ≤ _; exact Nat.le_of_eq rfl) (hb hby d22_16) (fun _ _ => ⟨rfl, e105, (by decide : 0 + 0 ≤ _), (by decide : 0 + 0 ≤ _)⟩)
  dsimp only [Pt.U, Pt.locs, Pt.cells, Pt.slots] at X112 l112 y112 z112 st112 hQ112
  subst l112 y112 z112
  obtain ⟨rfl, Nq112, e112_⟩ := hQ112
  have N112_ := Fr.app N105_ Nq112
  refine Fin.byS st112 ?_
  have e112 := e112_
  refine Fin.by (fun tt_ kk_ => XS.i2l X112.here hx rfl (hb hby d22_19) rfl kk_) ?_
  have F113 : Fld Z h105 y "com/example/colonnade/colonnade/SpooledText" "length" "J" (.long (0 : Int64)) := ((Y3.other W102 (Or.inr (slot_ne (Or.inr (w_ hw 160 rfl)) (Or.inr (w_ hw 143 rfl)) (by decide) (t := .long) (t' := (.object "java/lang/String")) (by decide) (by decide)))).other W105 (Or.inr (slot_ne (Or.inr (w_ hw 160 rfl)) (Or.inr (w_ hw 145 rfl)) (by decide) (t := .long) (t' := (.object "com/example/colonnade/colonnade/SpoolFile")) (by decide) (by decide))))
  have E114 : Exa Z h105 y "com/example/colonnade/colonnade/SpooledText" := (E104.wr W105)
  obtain ⟨T115, h115, X115, e115, W115, st115⟩ := putF X112 hx hZ hown (host := "") (Or.inl (w_ hw 159 rfl)) Via.refl e112 F113 E114 (Or.inr ⟨(w_ hw 160 rfl), rfl, hnm⟩) (w_ hw 107 rfl) (ty := .long) (by decide) rfl rfl (g := (mkF m 20 #[.val (.ref y), .val (.ref x)] [(.long (N2.toInt64)), (.ref y)])) rfl rfl (hb hby d22_20)
  refine Fin.by (fun tt_ kk_ => st115 tt_ kk_) ?_
  have N115_ := Fr.snoc X115 N112_ gy
  have kp116 : Keep h0 h102 [y] := (Keep.refl h0 [y]).wr W102 (Or.inl (List.mem_of_getElem? (i := 0) rfl))
  have kp117 : Keep h0 h105 [y] := kp116.wr W105 (Or.inl (List.mem_of_getElem? (i := 0) rfl))
  have kp118 : Keep h0 h115 [y] := kp117.wr W115 (Or.inl (List.mem_of_getElem? (i := 0) rfl))
  have E119 : Exa Z h115 y "com/example/colonnade/colonnade/SpooledText" := (E114.wr W115)
  show Fin _ _ _ _ _ _ _ (T115.setTop (mkF m 23 #[.val (.ref y), .val (.ref x)] []))
  exact Fin.ret (v := none) X115 (fun _ => rfl) Bd.notSynchronized (by rw [e115]; exact ⟨rfl, N115_, kp118, E119⟩) (by decide) (by decide) (fun fs hr => X115.returnOut hx Bd.returns (hb hby d22_23) hr)
abbrev y_23 : MethodName := (⟨"com/example/colonnade/colonnade/SpooledItem", "<init>", "(Lcom/example/colonnade/colonnade/Item$Kind;JJJJLcom/example/colonnade/colonnade/SpooledText;)V"⟩ : MethodName)
theorem d23_0 : decode prog_89_method_1_code 0 = .ok (.aload_n 0, 1) := by decide +kernel
theorem d23_1 : decode prog_89_method_1_code 1 = .ok (.invokespecial 1, 3) := by decide +kernel
theorem d23_4 : decode prog_89_method_1_code 4 = .ok (.aload_n 0, 1) := by decide +kernel
theorem d23_5 : decode prog_89_method_1_code 5 = .ok (.aload_n 1, 1) := by decide +kernel
theorem d23_6 : decode prog_89_method_1_code 6 = .ok (.putfield 7, 3) := by decide +kernel
theorem d23_9 : decode prog_89_method_1_code 9 = .ok (.aload_n 0, 1) := by decide +kernel
theorem d23_10 : decode prog_89_method_1_code 10 = .ok (.lload_n 2, 1) := by decide +kernel
theorem d23_11 : decode prog_89_method_1_code 11 = .ok (.putfield 13, 3) := by decide +kernel
theorem d23_14 : decode prog_89_method_1_code 14 = .ok (.aload_n 0, 1) := by decide +kernel
theorem d23_15 : decode prog_89_method_1_code 15 = .ok (.lload 4, 2) := by decide +kernel
theorem d23_17 : decode prog_89_method_1_code 17 = .ok (.putfield 17, 3) := by decide +kernel
theorem d23_20 : decode prog_89_method_1_code 20 = .ok (.aload_n 0, 1) := by decide +kernel
theorem d23_21 : decode prog_89_method_1_code 21 = .ok (.lload 6, 2) := by decide +kernel
theorem d23_23 : decode prog_89_method_1_code 23 = .ok (.putfield 20, 3) := by decide +kernel
theorem d23_26 : decode prog_89_method_1_code 26 = .ok (.aload_n 0, 1) := by decide +kernel
theorem d23_27 : decode prog_89_method_1_code 27 = .ok (.lload 8, 2) := by decide +kernel
theorem d23_29 : decode prog_89_method_1_code 29 = .ok (.putfield 23, 3) := by decide +kernel
theorem d23_32 : decode prog_89_method_1_code 32 = .ok (.aload_n 0, 1) := by decide +kernel
theorem d23_33 : decode prog_89_method_1_code 33 = .ok (.aload 10, 2) := by decide +kernel
theorem d23_35 : decode prog_89_method_1_code 35 = .ok (.putfield 26, 3) := by decide +kernel
theorem d23_38 : decode prog_89_method_1_code 38 = .ok (.return_, 1) := by decide +kernel
theorem pn_com_example_colonnade_colonnade_SpooledItem : plainName "com/example/colonnade/colonnade/SpooledItem" = true := by first | (simp [plainName, overriddenIn]; done) | decide +kernel
def Q_sii (Z : State) (y : Addr) (kd : Addr) (r1 : Int64) (r2 : Int64) (r3 : Int64) (r4 : Int64) (x : Addr) (h0 : Heap) (n0 : Nat) (vv_ : Option Value) (hh_ : Heap) (LL_ : List Loc) : Prop := vv_ = none ∧ Fr n0 LL_ ∧ Keep h0 hh_ [y] ∧ Exa Z hh_ y "com/example/colonnade/colonnade/SpooledItem" ∧ Fld Z hh_ y "com/example/colonnade/colonnade/SpooledItem" "line" "J" (.long r1) ∧ Fld Z hh_ y "com/example/colonnade/colonnade/SpooledItem" "column" "J" (.long r2) ∧ Fld Z hh_ y "com/example/colonnade/colonnade/SpooledItem" "start" "J" (.long r3) ∧ Fld Z hh_ y "com/example/colonnade/colonnade/SpooledItem" "end" "J" (.long r4)
set_option maxRecDepth 65536 in
set_option maxHeartbeats 40000000 in
theorem rm_sii (l : Launch) (Z : State) (a0 : Array Value) (hw : ∀ d ∈ tables_1, d.before a0 Z = true) (ws : List Jvm.Cond) (y : Addr) (kd : Addr) (r1 : Int64) (r2 : Int64) (r3 : Int64) (r4 : Int64) (x : Addr) (h0 : Heap) (n0 : Nat) (Z0 : n0 ≤ h0.size) (Y0 : Exa Z h0 y "com/example/colonnade/colonnade/SpooledItem") (Y1 : Fld Z h0 y "com/example/colonnade/colonnade/SpooledItem" "kind" "Lcom/example/colonnade/colonnade/Item$Kind;" .null) (Y2 : Fld Z h0 y "com/example/colonnade/colonnade/SpooledItem" "text" "Lcom/example/colonnade/colonnade/SpooledText;" .null) (Y3 : Fld Z h0 y "com/example/colonnade/colonnade/SpooledItem" "line" "J" (.long (0 : Int64))) (Y4 : Fld Z h0 y "com/example/colonnade/colonnade/SpooledItem" "column" "J" (.long (0 : Int64))) (Y5 : Fld Z h0 y "com/example/colonnade/colonnade/SpooledItem" "start" "J" (.long (0 : Int64))) (Y6 : Fld Z h0 y "com/example/colonnade/colonnade/SpooledItem" "end" "J" (.long (0 : Int64))) (gy : n0 ≤ y) :
    MetFree l y_23 (head1 (Jvm.Cond.code y_23 prog_89_method_1_code 11 none :: ws) ({ frames := 2, cells := 0, slots := 0, locals := 24 } : Room)) (fun aa_ U => aa_ = #[(.ref y), (.ref kd), (.long r1), (.long r2), (.long r3), (.long r4), (.ref x)] ∧ Z.Warmed39 U.vm ∧ U.heap = h0) (fun _ _ _ _ _ => True) (fun _ U o U' => ∃ vv_ LL_, o = .returned vv_ ∧ Q_sii Z y kd r1 r2 r3 r4 x h0 n0 vv_ U'.heap LL_ ∧ FrameEnd U o U' LL_ 0 0) := by
  refine MetFree.of_bodySF (plainFor_of_name pn_com_example_colonnade_colonnade_SpooledItem) hisR ?_
  intro p e s m args below meth c s₁ Bd hml0 hP hK
  obtain ⟨rfl, hZ, hh⟩ := hP
  have hx := Bd.exec
  have hby := Bd.bytes
  have hml : c.maxLocals = 11 := hml0
  have hown : s.vm.findClass "com/example/colonnade/colonnade/SpooledItem" = some m.cls := findClass_of_methodNamed Bd.named
  have hnm := (name_of_methodNamed Bd.named Bd.method).1
  have X0 : Stand p l e ({ frames := 2, cells := 0, slots := 0, locals := 24 } : Room) s m #[(.ref y), (.ref kd), (.long r1), (.long r2), (.long r3), (.long r4), (.ref x)] below meth c s₁ [] 0 0 := Stand.of_body Bd
  have e0 : s₁.heap = h0 := by rw [← hh, Bd.state]; rfl
  have N0 := Fr.nil n0
  have ef : entryFrame m #[(.ref y), (.ref kd), (.long r1), (.long r2), (.long r3), (.long r4), (.ref x)] 11 = mkF m 0 #[.val (.ref y), .val (.ref kd), .val (.long r1), .second, .val (.long r2), .second, .val (.long r3), .second, .val (.long r4), .second, .val (.ref x)] [] := by first | (simp [entryFrame, mkF, argsToLocals, Value.category]; done) | rfl
  refine Fin.start (Q := Q_sii Z y kd r1 r2 r3 r4 x h0 n0) ef ?_
  refine Fin.by (fun tt_ kk_ => XS.aloadN X0.here hx rfl (hb hby d23_0) rfl rfl kk_) ?_
  obtain ⟨v101, _, ⟨T101, L101, k101, n101⟩, -, X101, ⟨Lc101, hQ101, l101, y101, z101⟩, st101⟩ := X0.specialBack hx (y := y_21) rfl hown (mvT hZ (w_ hw 178 rfl)) (mvT hZ (w_ hw 179 rfl)) (mvT hZ (w_ hw 182 rfl)) (by decide) (backOf (W := 0) (rm_rec l Z a0 hw [] y h0 n0 Z0 ) hZ (w_ hw 182 rfl) (w_ hw 181 rfl) (by decide) (by decide)) (g := (mkF m 1 #[.val (.ref y), .val (.ref kd), .val (.long r1), .second, .val (.long r2), .second, .val (.long r3), .second, .val (.long r4), .second, .val (.ref x)] [(.ref y)])) rfl (by rw [hml]; rfl) (Steps.refl _) (a := y) (argsL := []) (rest := []) (lenOf pd_25 rfl) rfl (by show 2 * 0 + _ ≤ _; exact Nat.le_of_eq rfl) (hb hby d23_1) (fun _ _ => ⟨rfl, e0, (by decide : 0 + 0 ≤ _), (by decide : 0 + 0 ≤ _)⟩)
  dsimp only [Pt.U, Pt.locs, Pt.cells, Pt.slots] at X101 l101 y101 z101 st101 hQ101
  subst l101 y101 z101
  obtain ⟨rfl, Nq101, e101_⟩ := hQ101
  have N101_ := Fr.app N0 Nq101
  refine Fin.byS st101 ?_
  have e101 := e101_
  refine Fin.by (fun tt_ kk_ => XS.aloadN X101.here hx rfl (hb hby d23_4) rfl rfl (XS.aloadN X101.here hx rfl (hb hby d23_5) rfl rfl kk_)) ?_
  obtain ⟨T102, h102, X102, e102, W102, st102⟩ := putF X101 hx hZ hown (host := "") (Or.inl (w_ hw 184 rfl)) Via.refl e101 Y1 Y0 (Or.inr ⟨(w_ hw 185 rfl), rfl, hnm⟩) (w_ hw 99 rfl) (ty := (.object "com/example/colonnade/colonnade/Item$Kind")) (by decide) rfl rfl (g := (mkF m 6 #[.val (.ref y), .val (.ref kd), .val (.long r1), .second, .val (.long r2), .second, .val (.long r3), .second, .val (.long r4), .second, .val (.ref x)] [(.ref kd), (.ref y)])) rfl rfl (hb hby d23_6)
  refine Fin.by (fun tt_ kk_ => st102 tt_ kk_) ?_
  have N102_ := Fr.snoc X102 N101_ gy
  refine Fin.by (fun tt_ kk_ => XS.aloadN X102.here hx rfl (hb hby d23_9) rfl rfl (XS.lloadN X102.here hx rfl (hb hby d23_10) rfl kk_)) ?_
  have F103 : Fld Z h102 y "com/example/colonnade/colonnade/SpooledItem" "line" "J" (.long (0 : Int64)) := (Y3.other W102 (Or.inr (slot_ne (Or.inr (w_ hw 187 rfl)) (Or.inr (w_ hw 185 rfl)) (by decide) (t := .long) (t' := (.object "com/example/colonnade/colonnade/Item$Kind")) (by decide) (by decide))))
  have E104 : Exa Z h102 y "com/example/colonnade/colonnade/SpooledItem" := (Y0.wr W102)
  obtain ⟨T105, h105, X105, e105, W105, st105⟩ := putF X102 hx hZ hown (host := "") (Or.inl (w_ hw 186 rfl)) Via.refl e102 F103 E104 (Or.inr ⟨(w_ hw 187 rfl), rfl, hnm⟩) (w_ hw 99 rfl) (ty := .long) (by decide) rfl rfl (g := (mkF m 11 #[.val (.ref y), .val (.ref kd), .val (.long r1), .second, .val (.long r2), .second, .val (.long r3), .second, .val (.long r4), .second, .val (.ref x)] [(.long r1), (.ref y)])) rfl rfl (hb hby d23_11)
  refine Fin.by (fun tt_ kk_ => st105 tt_ kk_) ?_
  have N105_ := Fr.snoc X105 N102_ gy
  refine Fin.by (fun tt_ kk_ => XS.aloadN X105.here hx rfl (hb hby d23_14) rfl rfl (XS.lload X105.here hx rfl (hb hby d23_15) rfl kk_)) ?_
  have F106 : Fld Z h105 y "com/example/colonnade/colonnade/SpooledItem" "column" "J" (.long (0 : Int64)) := ((Y4.other W102 (Or.inr (slot_ne (Or.inr (w_ hw 189 rfl)) (Or.inr (w_ hw 185 rfl)) (by decide) (t := .long) (t' := (.object "com/example/colonnade/colonnade/Item$Kind")) (by decide) (by decide)))).other W105 (Or.inr (slot_ne (Or.inr (w_ hw 189 rfl)) (Or.inr (w_ hw 187 rfl)) (by decide) (t := .long) (t' := .long) (by decide) (by decide))))
  have E107 : Exa Z h105 y "com/example/colonnade/colonnade/SpooledItem" := (E104.wr W105)
  obtain ⟨T108, h108, X108, e108, W108, st108⟩ := putF X105 hx hZ hown (host := "") (Or.inl (w_ hw 188 rfl)) Via.refl e105 F106 E107 (Or.inr ⟨(w_ hw 189 rfl), rfl, hnm⟩) (w_ hw 99 rfl) (ty := .long) (by decide) rfl rfl (g := (mkF m 17 #[.val (.ref y), .val (.ref kd), .val (.long r1), .second, .val (.long r2), .second, .val (.long r3), .second, .val (.long r4), .second, .val (.ref x)] [(.long r2), (.ref y)])) rfl rfl (hb hby d23_17)
  refine Fin.by (fun tt_ kk_ => st108 tt_ kk_) ?_
  have N108_ := Fr.snoc X108 N105_ gy
  refine Fin.by (fun tt_ kk_ => XS.aloadN X108.here hx rfl (hb hby d23_20) rfl rfl (XS.lload X108.here hx rfl (hb hby d23_21) rfl kk_)) ?_
  have F109 : Fld Z h108 y "com/example/colonnade/colonnade/SpooledItem" "start" "J" (.long (0 : Int64)) := (((Y5.other W102 (Or.inr (slot_ne (Or.inr (w_ hw 191 rfl)) (Or.inr (w_ hw 185 rfl)) (by decide) (t := .long) (t' := (.object "com/example/colonnade/colonnade/Item$Kind")) (by decide) (by decide)))).other W105 (Or.inr (slot_ne (Or.inr (w_ hw 191 rfl)) (Or.inr (w_ hw 187 rfl)) (by decide) (t := .long) (t' := .long) (by decide) (by decide)))).other W108 (Or.inr (slot_ne (Or.inr (w_ hw 191 rfl)) (Or.inr (w_ hw 189 rfl)) (by decide) (t := .long) (t' := .long) (by decide) (by decide))))
  have E110 : Exa Z h108 y "com/example/colonnade/colonnade/SpooledItem" := (E107.wr W108)
  obtain ⟨T111, h111, X111, e111, W111, st111⟩ := putF X108 hx hZ hown (host := "") (Or.inl (w_ hw 190 rfl)) Via.refl e108 F109 E110 (Or.inr ⟨(w_ hw 191 rfl), rfl, hnm⟩) (w_ hw 99 rfl) (ty := .long) (by decide) rfl rfl (g := (mkF m 23 #[.val (.ref y), .val (.ref kd), .val (.long r1), .second, .val (.long r2), .second, .val (.long r3), .second, .val (.long r4), .second, .val (.ref x)] [(.long r3), (.ref y)])) rfl rfl (hb hby d23_23)
  refine Fin.by (fun tt_ kk_ => st111 tt_ kk_) ?_
  have N111_ := Fr.snoc X111 N108_ gy
  refine Fin.by (fun tt_ kk_ => XS.aloadN X111.here hx rfl (hb hby d23_26) rfl rfl (XS.lload X111.here hx rfl (hb hby d23_27) rfl kk_)) ?_
  have F112 : Fld Z h111 y "com/example/colonnade/colonnade/SpooledItem" "end" "J" (.long (0 : Int64)) := ((((Y6.other W102 (Or.inr (slot_ne (Or.inr (w_ hw 193 rfl)) (Or.inr (w_ hw 185 rfl)) (by decide) (t := .long) (t' := (.object "com/example/colonnade/colonnade/Item$Kind")) (by decide) (by decide)))).other W105 (Or.inr (slot_ne (Or.inr (w_ hw 193 rfl)) (Or.inr (w_ hw 187 rfl)) (by decide) (t := .long) (t' := .long) (by decide) (by decide)))).other W108 (Or.inr (slot_ne (Or.inr (w_ hw 193 rfl)) (Or.inr (w_ hw 189 rfl)) (by decide) (t := .long) (t' := .long) (by decide) (by decide)))).other W111 (Or.inr (slot_ne (Or.inr (w_ hw 193 rfl)) (Or.inr (w_ hw 191 rfl)) (by decide) (t := .long) (t' := .long) (by decide) (by decide))))
  have E113 : Exa Z h111 y "com/example/colonnade/colonnade/SpooledItem" := (E110.wr W111)
  obtain ⟨T114, h114, X114, e114, W114, st114⟩ := putF X111 hx hZ hown (host := "") (Or.inl (w_ hw 192 rfl)) Via.refl e111 F112 E113 (Or.inr ⟨(w_ hw 193 rfl), rfl, hnm⟩) (w_ hw 99 rfl) (ty := .long) (by decide) rfl rfl (g := (mkF m 29 #[.val (.ref y), .val (.ref kd), .val (.long r1), .second, .val (.long r2), .second, .val (.long r3), .second, .val (.long r4), .second, .val (.ref x)] [(.long r4), (.ref y)])) rfl rfl (hb hby d23_29)
  refine Fin.by (fun tt_ kk_ => st114 tt_ kk_) ?_
  have N114_ := Fr.snoc X114 N111_ gy
  refine Fin.by (fun tt_ kk_ => XS.aloadN X114.here hx rfl (hb hby d23_32) rfl rfl (XS.aload X114.here hx rfl (hb hby d23_33) rfl rfl kk_)) ?_
  have F115 : Fld Z h114 y "com/example/colonnade/colonnade/SpooledItem" "text" "Lcom/example/colonnade/colonnade/SpooledText;" .null := (((((Y2.other W102 (Or.inr (slot_ne (Or.inr (w_ hw 195 rfl)) (Or.inr (w_ hw 185 rfl)) (by decide) (t := (.object "com/example/colonnade/colonnade/SpooledText")) (t' := (.object "com/example/colonnade/colonnade/Item$Kind")) (by decide) (by decide)))).other W105 (Or.inr (slot_ne (Or.inr (w_ hw 195 rfl)) (Or.inr (w_ hw 187 rfl)) (by decide) (t := (.object "com/example/colonnade/colonnade/SpooledText")) (t' := .long) (by decide) (by decide)))).other W108 (Or.inr (slot_ne (Or.inr (w_ hw 195 rfl)) (Or.inr (w_ hw 189 rfl)) (by decide) (t := (.object "com/example/colonnade/colonnade/SpooledText")) (t' := .long) (by decide) (by decide)))).other W111 (Or.inr (slot_ne (Or.inr (w_ hw 195 rfl)) (Or.inr (w_ hw 191 rfl)) (by decide) (t := (.object "com/example/colonnade/colonnade/SpooledText")) (t' := .long) (by decide) (by decide)))).other W114 (Or.inr (slot_ne (Or.inr (w_ hw 195 rfl)) (Or.inr (w_ hw 193 rfl)) (by decide) (t := (.object "com/example/colonnade/colonnade/SpooledText")) (t' := .long) (by decide) (by decide))))
  have E116 : Exa Z h114 y "com/example/colonnade/colonnade/SpooledItem" := (E113.wr W114)
  obtain ⟨T117, h117, X117, e117, W117, st117⟩ := putF X114 hx hZ hown (host := "") (Or.inl (w_ hw 194 rfl)) Via.refl e114 F115 E116 (Or.inr ⟨(w_ hw 195 rfl), rfl, hnm⟩) (w_ hw 99 rfl) (ty := (.object "com/example/colonnade/colonnade/SpooledText")) (by decide) rfl rfl (g := (mkF m 35 #[.val (.ref y), .val (.ref kd), .val (.long r1), .second, .val (.long r2), .second, .val (.long r3), .second, .val (.long r4), .second, .val (.ref x)] [(.ref x), (.ref y)])) rfl rfl (hb hby d23_35)
  refine Fin.by (fun tt_ kk_ => st117 tt_ kk_) ?_
  have N117_ := Fr.snoc X117 N114_ gy
  have kp118 : Keep h0 h102 [y] := (Keep.refl h0 [y]).wr W102 (Or.inl (List.mem_of_getElem? (i := 0) rfl))
  have kp119 : Keep h0 h105 [y] := kp118.wr W105 (Or.inl (List.mem_of_getElem? (i := 0) rfl))
  have kp120 : Keep h0 h108 [y] := kp119.wr W108 (Or.inl (List.mem_of_getElem? (i := 0) rfl))
  have kp121 : Keep h0 h111 [y] := kp120.wr W111 (Or.inl (List.mem_of_getElem? (i := 0) rfl))
  have kp122 : Keep h0 h114 [y] := kp121.wr W114 (Or.inl (List.mem_of_getElem? (i := 0) rfl))
  have kp123 : Keep h0 h117 [y] := kp122.wr W117 (Or.inl (List.mem_of_getElem? (i := 0) rfl))
  have E124 : Exa Z h117 y "com/example/colonnade/colonnade/SpooledItem" := (E116.wr W117)
  have F125 : Fld Z h117 y "com/example/colonnade/colonnade/SpooledItem" "line" "J" (.long r1) := (((((F103.same W105).other W108 (Or.inr (slot_ne (Or.inr (w_ hw 187 rfl)) (Or.inr (w_ hw 189 rfl)) (by decide) (t := .long) (t' := .long) (by decide) (by decide)))).other W111 (Or.inr (slot_ne (Or.inr (w_ hw 187 rfl)) (Or.inr (w_ hw 191 rfl)) (by decide) (t := .long) (t' := .long) (by decide) (by decide)))).other W114 (Or.inr (slot_ne (Or.inr (w_ hw 187 rfl)) (Or.inr (w_ hw 193 rfl)) (by decide) (t := .long) (t' := .long) (by decide) (by decide)))).other W117 (Or.inr (slot_ne (Or.inr (w_ hw 187 rfl)) (Or.inr (w_ hw 195 rfl)) (by decide) (t := .long) (t' := (.object "com/example/colonnade/colonnade/SpooledText")) (by decide) (by decide))))
  have F126 : Fld Z h117 y "com/example/colonnade/colonnade/SpooledItem" "column" "J" (.long r2) := ((((F106.same W108).other W111 (Or.inr (slot_ne (Or.inr (w_ hw 189 rfl)) (Or.inr (w_ hw 191 rfl)) (by decide) (t := .long) (t' := .long) (by decide) (by decide)))).other W114 (Or.inr (slot_ne (Or.inr (w_ hw 189 rfl)) (Or.inr (w_ hw 193 rfl)) (by decide) (t := .long) (t' := .long) (by decide) (by decide)))).other W117 (Or.inr (slot_ne (Or.inr (w_ hw 189 rfl)) (Or.inr (w_ hw 195 rfl)) (by decide) (t := .long) (t' := (.object "com/example/colonnade/colonnade/SpooledText")) (by decide) (by decide))))
  have F127 : Fld Z h117 y "com/example/colonnade/colonnade/SpooledItem" "start" "J" (.long r3) := (((F109.same W111).other W114 (Or.inr (slot_ne (Or.inr (w_ hw 191 rfl)) (Or.inr (w_ hw 193 rfl)) (by decide) (t := .long) (t' := .long) (by decide) (by decide)))).other W117 (Or.inr (slot_ne (Or.inr (w_ hw 191 rfl)) (Or.inr (w_ hw 195 rfl)) (by decide) (t := .long) (t' := (.object "com/example/colonnade/colonnade/SpooledText")) (by decide) (by decide))))
  have F128 : Fld Z h117 y "com/example/colonnade/colonnade/SpooledItem" "end" "J" (.long r4) := ((F112.same W114).other W117 (Or.inr (slot_ne (Or.inr (w_ hw 193 rfl)) (Or.inr (w_ hw 195 rfl)) (by decide) (t := .long) (t' := (.object "com/example/colonnade/colonnade/SpooledText")) (by decide) (by decide))))
  show Fin _ _ _ _ _ _ _ (T117.setTop (mkF m 38 #[.val (.ref y), .val (.ref kd), .val (.long r1), .second, .val (.long r2), .second, .val (.long r3), .second, .val (.long r4), .second, .val (.ref x)] []))
  exact Fin.ret (v := none) X117 (fun _ => rfl) Bd.notSynchronized (by rw [e117]; exact ⟨rfl, N117_, kp123, E124, F125, F126, F127, F128⟩) (by decide) (by decide) (fun fs hr => X117.returnOut hx Bd.returns (hb hby d23_38) hr)
abbrev y_24 : MethodName := (⟨"jdk/internal/util/Preconditions", "checkFromToIndex", "(IIILjava/util/function/BiFunction;)I"⟩ : MethodName)
theorem d24_0 : decode jdk_41_method_12_code 0 = .ok (.iload_n 0, 1) := by decide +kernel
theorem d24_1 : decode jdk_41_method_12_code 1 = .ok (.ifCond .lt 13, 3) := by decide +kernel
theorem d24_4 : decode jdk_41_method_12_code 4 = .ok (.iload_n 0, 1) := by decide +kernel
theorem d24_5 : decode jdk_41_method_12_code 5 = .ok (.iload_n 1, 1) := by decide +kernel
theorem d24_6 : decode jdk_41_method_12_code 6 = .ok (.if_icmp .gt 8, 3) := by decide +kernel
theorem d24_9 : decode jdk_41_method_12_code 9 = .ok (.iload_n 1, 1) := by decide +kernel
theorem d24_10 : decode jdk_41_method_12_code 10 = .ok (.iload_n 2, 1) := by decide +kernel
theorem d24_11 : decode jdk_41_method_12_code 11 = .ok (.if_icmp .le 11, 3) := by decide +kernel
theorem d24_22 : decode jdk_41_method_12_code 22 = .ok (.iload_n 0, 1) := by decide +kernel
theorem d24_23 : decode jdk_41_method_12_code 23 = .ok (.ireturn, 1) := by decide +kernel
theorem pn_jdk_internal_util_Preconditions : plainName "jdk/internal/util/Preconditions" = true := by first | (simp [plainName, overriddenIn]; done) | decide +kernel
def Q_cft1 (Z : State) (fo : Value) (h0 : Heap) (n0 : Nat) (vv_ : Option Value) (hh_ : Heap) (LL_ : List Loc) : Prop := vv_ = some (.int (0 : Int32)) ∧ Fr n0 LL_ ∧ hh_ = h0
set_option maxRecDepth 65536 in
set_option maxHeartbeats 40000000 in
theorem rm_cft1 (l : Launch) (Z : State) (a0 : Array Value) (hw : ∀ d ∈ tables_1, d.before a0 Z = true) (ws : List Jvm.Cond) (fo : Value) (h0 : Heap) (n0 : Nat) (Z0 : n0 ≤ h0.size) (rfo : fo.isRef = true) :
    MetFree l y_24 (head1 (Jvm.Cond.code y_24 jdk_41_method_12_code 4 (some .int) :: ws) ({ frames := 0, cells := 0, slots := 0, locals := 0 } : Room)) (fun aa_ U => aa_ = #[(.int (0 : Int32)), (.int (1 : Int32)), (.int (1 : Int32)), fo] ∧ Z.Warmed39 U.vm ∧ U.heap = h0) (fun _ _ _ _ _ => True) (fun _ U o U' => ∃ vv_ LL_, o = .returned vv_ ∧ Q_cft1 Z fo h0 n0 vv_ U'.heap LL_ ∧ FrameEnd U o U' LL_ 0 0) := by
  refine MetFree.of_bodySF (plainFor_of_name pn_jdk_internal_util_Preconditions) hisR ?_
  intro p e s m args below meth c s₁ Bd hml0 hP hK
  obtain ⟨rfl, hZ, hh⟩ := hP
  have hx := Bd.exec
  have hby := Bd.bytes
  have hml : c.maxLocals = 4 := hml0
  have hown : s.vm.findClass "jdk/internal/util/Preconditions" = some m.cls := findClass_of_methodNamed Bd.named
  have hnm := (name_of_methodNamed Bd.named Bd.method).1
  have X0 : Stand p l e ({ frames := 0, cells := 0, slots := 0, locals := 0 } : Room) s m #[(.int (0 : Int32)), (.int (1 : Int32)), (.int (1 : Int32)), fo] below meth c s₁ [] 0 0 := Stand.of_body Bd
  have e0 : s₁.heap = h0 := by rw [← hh, Bd.state]; rfl
  have N0 := Fr.nil n0
  have ef : entryFrame m #[(.int (0 : Int32)), (.int (1 : Int32)), (.int (1 : Int32)), fo] 4 = mkF m 0 #[.val (.int (0 : Int32)), .val (.int (1 : Int32)), .val (.int (1 : Int32)), .val fo] [] := by first | (simp [entryFrame, mkF, argsToLocals, Value.category]; done) | rfl | (rcases ref_cases rfo with rfl | ⟨_, rfl⟩ <;> simp [entryFrame, mkF, argsToLocals, Value.category])
  refine Fin.start (Q := Q_cft1 Z fo h0 n0) ef ?_
  refine Fin.by (fun tt_ kk_ => XS.iloadN X0.here hx rfl (hb hby d24_0) rfl kk_) ?_
  show Fin _ _ _ _ _ _ _ (s₁.setTop (mkF m 1 #[.val (.int 0), .val (.int 1), .val (.int 1), .val fo] [(.int 0)]))
  refine Fin.by (fun tt_ kk_ => XS.ifNo X0.here hx rfl (hb hby d24_1) rfl ((if0 _ _).trans (flt (by decide : ¬ (0 : Int32) < (0 : Int32))).1) kk_) ?_
  refine Fin.by (fun tt_ kk_ => XS.iloadN X0.here hx rfl (hb hby d24_4) rfl (XS.iloadN X0.here hx rfl (hb hby d24_5) rfl kk_)) ?_
  show Fin _ _ _ _ _ _ _ (s₁.setTop (mkF m 6 #[.val (.int 0), .val (.int 1), .val (.int 1), .val fo] [(.int 1), (.int 0)]))
  refine Fin.by (fun tt_ kk_ => XS.icmpNo X0.here hx rfl (hb hby d24_6) rfl (flt (by decide : ¬ (1 : Int32) < (0 : Int32))).2.2.1 kk_) ?_
  refine Fin.by (fun tt_ kk_ => XS.iloadN X0.here hx rfl (hb hby d24_9) rfl (XS.iloadN X0.here hx rfl (hb hby d24_10) rfl kk_)) ?_
  show Fin _ _ _ _ _ _ _ (s₁.setTop (mkF m 11 #[.val (.int 0), .val (.int 1), .val (.int 1), .val fo] [(.int 1), (.int 1)]))
  refine Fin.by (fun tt_ kk_ => XS.icmpYes X0.here hx rfl (pc0 := 11) (pc' := 22) rfl (hb hby d24_11) rfl (flt (by decide : ¬ (1 : Int32) < (1 : Int32))).2.2.2 (by decide) (by decide) kk_) ?_
  refine Fin.by (fun tt_ kk_ => XS.iloadN X0.here hx rfl (hb hby d24_22) rfl kk_) ?_
  show Fin _ _ _ _ _ _ _ (s₁.setTop (mkF m 23 #[.val (.int 0), .val (.int 1), .val (.int 1), .val fo] [(.int 0)]))
  exact Fin.ret (v := some (.int (0 : Int32))) X0 (fun h => by rw [Bd.returns] at h; cases h) Bd.notSynchronized (by rw [e0]; exact ⟨rfl, N0, rfl⟩) (by decide) (by decide) (fun fs hr => retI X0 hx Bd.returns (hb hby d24_23) hr)
abbrev y_25 : MethodName := (⟨"java/lang/Math", "min", "(II)I"⟩ : MethodName)
theorem d25_0 : decode jdk_29_method_69_code 0 = .ok (.iload_n 0, 1) := by decide +kernel
theorem d25_1 : decode jdk_29_method_69_code 1 = .ok (.iload_n 1, 1) := by decide +kernel
theorem d25_2 : decode jdk_29_method_69_code 2 = .ok (.if_icmp .gt 7, 3) := by decide +kernel
theorem d25_9 : decode jdk_29_method_69_code 9 = .ok (.iload_n 1, 1) := by decide +kernel
theorem d25_10 : decode jdk_29_method_69_code 10 = .ok (.ireturn, 1) := by decide +kernel
def Q_mny (Z : State) (x : Int32) (y : Int32) (h0 : Heap) (n0 : Nat) (vv_ : Option Value) (hh_ : Heap) (LL_ : List Loc) : Prop := vv_ = some (.int y) ∧ Fr n0 LL_ ∧ hh_ = h0
set_option maxRecDepth 65536 in
set_option maxHeartbeats 40000000 in
theorem rm_mny (l : Launch) (Z : State) (a0 : Array Value) (hw : ∀ d ∈ tables_1, d.before a0 Z = true) (ws : List Jvm.Cond) (x : Int32) (y : Int32) (h0 : Heap) (n0 : Nat) (Z0 : n0 ≤ h0.size) (hxy : y < x) :
    MetFree l y_25 (head1 (Jvm.Cond.code y_25 jdk_29_method_69_code 2 (some .int) :: ws) ({ frames := 0, cells := 0, slots := 0, locals := 0 } : Room)) (fun aa_ U => aa_ = #[(.int x), (.int y)] ∧ Z.Warmed39 U.vm ∧ U.heap = h0) (fun _ _ _ _ _ => True) (fun _ U o U' => ∃ vv_ LL_, o = .returned vv_ ∧ Q_mny Z x y h0 n0 vv_ U'.heap LL_ ∧ FrameEnd U o U' LL_ 0 0) := by
  refine MetFree.of_bodySF (Jvm.Free.JP.mathPlain rfl (by decide +kernel)) hisR ?_
  intro p e s m args below meth c s₁ Bd hml0 hP hK
  obtain ⟨rfl, hZ, hh⟩ := hP
  have hx := Bd.exec
  have hby := Bd.bytes
  have hml : c.maxLocals = 2 := hml0
  have hown : s.vm.findClass "java/lang/Math" = some m.cls := findClass_of_methodNamed Bd.named
  have hnm := (name_of_methodNamed Bd.named Bd.method).1
  have X0 : Stand p l e ({ frames := 0, cells := 0, slots := 0, locals := 0 } : Room) s m #[(.int x), (.int y)] below meth c s₁ [] 0 0 := Stand.of_body Bd
  have e0 : s₁.heap = h0 := by rw [← hh, Bd.state]; rfl
  have N0 := Fr.nil n0
  have ef : entryFrame m #[(.int x), (.int y)] 2 = mkF m 0 #[.val (.int x), .val (.int y)] [] := by first | (simp [entryFrame, mkF, argsToLocals, Value.category]; done) | rfl
  refine Fin.start (Q := Q_mny Z x y h0 n0) ef ?_
  refine Fin.by (fun tt_ kk_ => XS.iloadN X0.here hx rfl (hb hby d25_0) rfl (XS.iloadN X0.here hx rfl (hb hby d25_1) rfl kk_)) ?_
  show Fin _ _ _ _ _ _ _ (s₁.setTop (mkF m 2 #[.val (.int x), .val (.int y)] [(.int y), (.int x)]))
  refine Fin.by (fun tt_ kk_ => XS.icmpYes X0.here hx rfl (pc0 := 2) (pc' := 9) rfl (hb hby d25_2) rfl (tlt (hxy : y < x)).2.2.1 (by decide) (by decide) kk_) ?_
  refine Fin.by (fun tt_ kk_ => XS.iloadN X0.here hx rfl (hb hby d25_9) rfl kk_) ?_
  show Fin _ _ _ _ _ _ _ (s₁.setTop (mkF m 10 #[.val (.int x), .val (.int y)] [(.int y)]))
  exact Fin.ret (v := some (.int y)) X0 (fun h => by rw [Bd.returns] at h; cases h) Bd.notSynchronized (by rw [e0]; exact ⟨rfl, N0, rfl⟩) (by decide) (by decide) (fun fs hr => retI X0 hx Bd.returns (hb hby d25_10) hr)
abbrev y_26 : MethodName := (⟨"java/util/Arrays", "checkLength", "(II)V"⟩ : MethodName)
theorem d26_0 : decode jdk_65_method_131_code 0 = .ok (.iload_n 1, 1) := by decide +kernel
theorem d26_1 : decode jdk_65_method_131_code 1 = .ok (.iload_n 0, 1) := by decide +kernel
theorem d26_2 : decode jdk_65_method_131_code 2 = .ok (.if_icmp .ge 35, 3) := by decide +kernel
theorem d26_37 : decode jdk_65_method_131_code 37 = .ok (.return_, 1) := by decide +kernel
theorem pn_java_util_Arrays : plainName "java/util/Arrays" = true := by first | (simp [plainName, overriddenIn]; done) | decide +kernel
def Q_chk1 (Z : State)  (h0 : Heap) (n0 : Nat) (vv_ : Option Value) (hh_ : Heap) (LL_ : List Loc) : Prop := vv_ = none ∧ Fr n0 LL_ ∧ hh_ = h0
set_option maxRecDepth 65536 in
set_option maxHeartbeats 40000000 in
theorem rm_chk1 (l : Launch) (Z : State) (a0 : Array Value) (hw : ∀ d ∈ tables_1, d.before a0 Z = true) (ws : List Jvm.Cond)  (h0 : Heap) (n0 : Nat) (Z0 : n0 ≤ h0.size) :
    MetFree l y_26 (head1 (Jvm.Cond.code y_26 jdk_65_method_131_code 2 none :: ws) ({ frames := 0, cells := 0, slots := 0, locals := 0 } : Room)) (fun aa_ U => aa_ = #[(.int (0 : Int32)), (.int (1 : Int32))] ∧ Z.Warmed39 U.vm ∧ U.heap = h0) (fun _ _ _ _ _ => True) (fun _ U o U' => ∃ vv_ LL_, o = .returned vv_ ∧ Q_chk1 Z  h0 n0 vv_ U'.heap LL_ ∧ FrameEnd U o U' LL_ 0 0) := by
  refine MetFree.of_bodySF (plainFor_of_name pn_java_util_Arrays) hisR ?_
  intro p e s m args below meth c s₁ Bd hml0 hP hK
  obtain ⟨rfl, hZ, hh⟩ := hP
  have hx := Bd.exec
  have hby := Bd.bytes
  have hml : c.maxLocals = 2 := hml0
  have hown : s.vm.findClass "java/util/Arrays" = some m.cls := findClass_of_methodNamed Bd.named
  have hnm := (name_of_methodNamed Bd.named Bd.method).1
  have X0 : Stand p l e ({ frames := 0, cells := 0, slots := 0, locals := 0 } : Room) s m #[(.int (0 : Int32)), (.int (1 : Int32))] below meth c s₁ [] 0 0 := Stand.of_body Bd
  have e0 : s₁.heap = h0 := by rw [← hh, Bd.state]; rfl
  have N0 := Fr.nil n0
  have ef : entryFrame m #[(.int (0 : Int32)), (.int (1 : Int32))] 2 = mkF m 0 #[.val (.int (0 : Int32)), .val (.int (1 : Int32))] [] := by first | (simp [entryFrame, mkF, argsToLocals, Value.category]; done) | rfl
  refine Fin.start (Q := Q_chk1 Z  h0 n0) ef ?_
  refine Fin.by (fun tt_ kk_ => XS.iloadN X0.here hx rfl (hb hby d26_0) rfl (XS.iloadN X0.here hx rfl (hb hby d26_1) rfl kk_)) ?_
  show Fin _ _ _ _ _ _ _ (s₁.setTop (mkF m 2 #[.val (.int 0), .val (.int 1)] [(.int 0), (.int 1)]))
  refine Fin.by (fun tt_ kk_ => XS.icmpYes X0.here hx rfl (pc0 := 2) (pc' := 37) rfl (hb hby d26_2) rfl (flt (by decide : ¬ (1 : Int32) < (0 : Int32))).2.1 (by decide) (by decide) kk_) ?_
  show Fin _ _ _ _ _ _ _ (s₁.setTop (mkF m 37 #[.val (.int 0), .val (.int 1)] []))
  exact Fin.ret (v := none) X0 (fun _ => rfl) Bd.notSynchronized (by rw [e0]; exact ⟨rfl, N0, rfl⟩) (by decide) (by decide) (fun fs hr => X0.returnOut hx Bd.returns (hb hby d26_37) hr)
abbrev y_27 : MethodName := (⟨"java/util/Arrays", "copyOfRangeByte", "([BII)[B"⟩ : MethodName)
theorem d27_0 : decode jdk_65_method_133_code 0 = .ok (.iload_n 1, 1) := by decide +kernel
theorem d27_1 : decode jdk_65_method_133_code 1 = .ok (.iload_n 2, 1) := by decide +kernel
theorem pd_291 : parseMethodDescriptor "(II)V" = some ⟨[.int, .int], none⟩ := by decide +kernel
theorem d27_2 : decode jdk_65_method_133_code 2 = .ok (.invokestatic 343, 3) := by decide +kernel
theorem d27_5 : decode jdk_65_method_133_code 5 = .ok (.iload_n 2, 1) := by decide +kernel
theorem d27_6 : decode jdk_65_method_133_code 6 = .ok (.iload_n 1, 1) := by decide +kernel
theorem d27_7 : decode jdk_65_method_133_code 7 = .ok (.isub, 1) := by decide +kernel
theorem d27_8 : decode jdk_65_method_133_code 8 = .ok (.istore_n 3, 1) := by decide +kernel
theorem d27_9 : decode jdk_65_method_133_code 9 = .ok (.iload_n 3, 1) := by decide +kernel
theorem d27_10 : decode jdk_65_method_133_code 10 = .ok (.newarray .byte, 2) := by decide +kernel
theorem d27_12 : decode jdk_65_method_133_code 12 = .ok (.astore 4, 2) := by decide +kernel
theorem d27_14 : decode jdk_65_method_133_code 14 = .ok (.aload_n 0, 1) := by decide +kernel
theorem d27_15 : decode jdk_65_method_133_code 15 = .ok (.iload_n 1, 1) := by decide +kernel
theorem d27_16 : decode jdk_65_method_133_code 16 = .ok (.aload 4, 2) := by decide +kernel
theorem d27_18 : decode jdk_65_method_133_code 18 = .ok (.iconst 0, 1) := by decide +kernel
theorem d27_19 : decode jdk_65_method_133_code 19 = .ok (.aload_n 0, 1) := by decide +kernel
theorem d27_20 : decode jdk_65_method_133_code 20 = .ok (.arraylength, 1) := by decide +kernel
theorem d27_21 : decode jdk_65_method_133_code 21 = .ok (.iload_n 1, 1) := by decide +kernel
theorem d27_22 : decode jdk_65_method_133_code 22 = .ok (.isub, 1) := by decide +kernel
theorem d27_23 : decode jdk_65_method_133_code 23 = .ok (.iload_n 3, 1) := by decide +kernel
theorem pd_309 : parseMethodDescriptor "(II)I" = some ⟨[.int, .int], some .int⟩ := by decide +kernel
theorem d27_24 : decode jdk_65_method_133_code 24 = .ok (.invokestatic 304, 3) := by decide +kernel
theorem d27_27 : decode jdk_65_method_133_code 27 = .ok (.invokestatic 150, 3) := by decide +kernel
theorem d27_30 : decode jdk_65_method_133_code 30 = .ok (.aload 4, 2) := by decide +kernel
theorem d27_32 : decode jdk_65_method_133_code 32 = .ok (.areturn, 1) := by decide +kernel
def Q_crb16_1 (Z : State) (v : Addr) (kv : ClassId) (vs : List Value) (h0 : Heap) (n0 : Nat) (vv_ : Option Value) (hh_ : Heap) (LL_ : List Loc) : Prop := ∃ (t : Addr), ∃ (k : ClassId), vv_ = some (.ref t) ∧ Fr n0 LL_ ∧ Keep h0 hh_ [] ∧ h0.size ≤ t ∧ Arv Z hh_ t k .byte (1 : Int32) vs (.int 0)
set_option maxRecDepth 65536 in
set_option maxHeartbeats 40000000 in
theorem rm_crb16_1 (l : Launch) (Z : State) (a0 : Array Value) (hw : ∀ d ∈ tables_1, d.before a0 Z = true) (ws : List Jvm.Cond) (v : Addr) (kv : ClassId) (vs : List Value) (h0 : Heap) (n0 : Nat) (Z0 : n0 ≤ h0.size) (hl : vs.length = 1) (A0 : Arv Z h0 v kv .byte (16 : Int32) vs (.int 0)) :
    MetFree l y_27 (head1 (Jvm.Cond.code y_27 jdk_65_method_133_code 5 (some (.array .byte)) :: ws) ({ frames := 1, cells := 1, slots := 1, locals := 18 } : Room)) (fun aa_ U => aa_ = #[(.ref v), (.int (0 : Int32)), (.int (1 : Int32))] ∧ Z.Warmed39 U.vm ∧ U.heap = h0) (fun _ _ _ _ _ => True) (fun _ U o U' => ∃ vv_ LL_, o = .returned vv_ ∧ Q_crb16_1 Z v kv vs h0 n0 vv_ U'.heap LL_ ∧ FrameEnd U o U' LL_ 1 1) := by
  refine MetFree.of_bodySF (plainFor_of_name pn_java_util_Arrays) hisR ?_
  intro p e s m args below meth c s₁ Bd hml0 hP hK
  obtain ⟨rfl, hZ, hh⟩ := hP
  have hx := Bd.exec
  have hby := Bd.bytes
  have hml : c.maxLocals = 5 := hml0
  have hown : s.vm.findClass "java/util/Arrays" = some m.cls := findClass_of_methodNamed Bd.named
  have hnm := (name_of_methodNamed Bd.named Bd.method).1
  have X0 : Stand p l e ({ frames := 1, cells := 1, slots := 1, locals := 18 } : Room) s m #[(.ref v), (.int (0 : Int32)), (.int (1 : Int32))] below meth c s₁ [] 0 0 := Stand.of_body Bd
  have e0 : s₁.heap = h0 := by rw [← hh, Bd.state]; rfl
  have N0 := Fr.nil n0
  have ef : entryFrame m #[(.ref v), (.int (0 : Int32)), (.int (1 : Int32))] 5 = mkF m 0 #[.val (.ref v), .val (.int (0 : Int32)), .val (.int (1 : Int32)), .unset, .unset] [] := by first | (simp [entryFrame, mkF, argsToLocals, Value.category]; done) | rfl
  refine Fin.start (Q := Q_crb16_1 Z v kv vs h0 n0) ef ?_
  refine Fin.by (fun tt_ kk_ => XS.iloadN X0.here hx rfl (hb hby d27_0) rfl (XS.iloadN X0.here hx rfl (hb hby d27_1) rfl kk_)) ?_
  obtain ⟨v101, _, ⟨T101, L101, k101, n101⟩, -, X101, ⟨Lc101, hQ101, l101, y101, z101⟩, st101⟩ := Jvm.LawKit.callS X0 hx (y := y_26) hown (mvT hZ (w_ hw 256 rfl)) (mvT hZ (w_ hw 257 rfl)) (mvT hZ (w_ hw 251 rfl)) (mvT hZ (w_ hw 258 rfl)) (by decide) (backOf (W := 0) (rm_chk1 l Z a0 hw []  h0 n0 Z0 ) hZ (w_ hw 258 rfl) (w_ hw 251 rfl) (by decide) (by decide)) (g := (mkF m 2 #[.val (.ref v), .val (.int 0), .val (.int 1), .unset, .unset] [(.int 1), (.int 0)])) rfl (by rw [hml]; rfl) (argsL := [(.int 0), (.int 1)]) (rest := []) (lenOf pd_291 rfl) rfl (by show 2 * 0 + _ ≤ _; exact Nat.le_of_eq rfl) (hb hby d27_2) (fun _ _ => ⟨rfl, e0, (by decide : 0 + 0 ≤ _), (by decide : 0 + 0 ≤ _)⟩)
  dsimp only [Pt.U, Pt.locs, Pt.cells, Pt.slots] at X101 l101 y101 z101 st101 hQ101
  subst l101 y101 z101
  obtain ⟨rfl, Nq101, e101_⟩ := hQ101
  have N101_ := Fr.app N0 Nq101
  refine Fin.by (fun tt_ kk_ => st101 tt_ kk_) ?_
  have e101 := e101_
  refine Fin.by (fun tt_ kk_ => XS.iloadN X101.here hx rfl (hb hby d27_5) rfl (XS.iloadN X101.here hx rfl (hb hby d27_6) rfl (XS.isub X101.here hx rfl (hb hby d27_7) rfl (XS.istoreN X101.here hx rfl (hb hby d27_8) rfl (l' := #[.val (.ref v), .val (.int 0), .val (.int 1), .val (.int 1), .unset]) rfl (XS.iloadN X101.here hx rfl (hb hby d27_9) rfl kk_))))) ?_
  obtain ⟨T102, h102, k102, X102, e102, E102, A102, st102⟩ := newP X101 hx hZ (w_ hw 31 rfl) e101 (g := (mkF m 10 #[.val (.ref v), .val (.int 0), .val (.int 1), .val (.int 1), .unset] [(.int 1)])) rfl (hb hby d27_10) rfl (by decide) (cap := 1) (by decide) (by decide) (by decide) (by decide)
  obtain ⟨a102, g102⟩ : ∃ z, z = h0.size := ⟨_, rfl⟩
  rw [← g102] at A102 st102
  refine Fin.by (fun tt_ kk_ => st102 tt_ kk_) ?_
  have V102 : Arv Z h102 a102 k102 .byte (1 : Int32) [] (.int (0 : Int32)) := Arv.new A102 (by decide)
  refine Fin.by (fun tt_ kk_ => XS.astore X102.here hx rfl (hb hby d27_12) rfl rfl (l' := #[.val (.ref v), .val (.int 0), .val (.int 1), .val (.int 1), .val (.ref a102)]) rfl (XS.aloadN X102.here hx rfl (hb hby d27_14) rfl rfl (XS.iloadN X102.here hx rfl (hb hby d27_15) rfl (XS.aload X102.here hx rfl (hb hby d27_16) rfl rfl (XS.iconst X102.here hx rfl (hb hby d27_18) (XS.aloadN X102.here hx rfl (hb hby d27_19) rfl rfl kk_)))))) ?_
  have A103 : Arv Z h102 v kv .byte (16 : Int32) vs (.int 0) := (A0.ext E102)
  obtain ⟨cl104, Ar104, q104, S104, N104, H104, G104⟩ := id A103
  refine Fin.by (fun tt_ kk_ => X102.arraylength hx (by rw [e102]; exact Ar104.1) (State.isArrayOf_alike hZ.alike Ar104.2.1) (g := (mkF m 20 #[.val (.ref v), .val (.int 0), .val (.int 1), .val (.int 1), .val (.ref a102)] [(.ref v), (.int 0), (.ref a102), (.int 0), (.ref v)])) rfl rfl (hb hby d27_20) _ kk_) ?_
  rw [len_of S104 N104]
  refine Fin.by (fun tt_ kk_ => XS.iloadN X102.here hx rfl (hb hby d27_21) rfl (XS.isub X102.here hx rfl (hb hby d27_22) rfl (XS.iloadN X102.here hx rfl (hb hby d27_23) rfl kk_))) ?_
  have z105 : n0 ≤ h102.size := Nat.le_trans Z0 E102.1
  obtain ⟨v106, _, ⟨T106, L106, k106, n106⟩, -, X106, ⟨Lc106, hQ106, l106, y106, z106⟩, st106⟩ := Jvm.LawKit.callS X102 hx (y := y_25) hown (mvT hZ (w_ hw 259 rfl)) (mvT hZ (w_ hw 260 rfl)) (mvT hZ (w_ hw 261 rfl)) (mvT hZ (w_ hw 262 rfl)) (by decide) (backOf (W := 4) (rm_mny l Z a0 hw [] (16 : Int32) (1 : Int32) h102 n0 z105 (by decide)) hZ (w_ hw 262 rfl) (w_ hw 261 rfl) (by decide) (by decide)) (g := (mkF m 24 #[.val (.ref v), .val (.int 0), .val (.int 1), .val (.int 1), .val (.ref a102)] [(.int 1), (.int 16), (.int 0), (.ref a102), (.int 0), (.ref v)])) rfl (by rw [hml]; rfl) (argsL := [(.int 16), (.int 1)]) (rest := [(.int 0), (.ref a102), (.int 0), (.ref v)]) (lenOf pd_309 rfl) rfl (by show 2 * 0 + _ ≤ _; exact Nat.le_of_eq rfl) (hb hby d27_24) (fun _ _ => ⟨rfl, e102, (by decide : 1 + 0 ≤ _), (by decide : 1 + 0 ≤ _)⟩)
  dsimp only [Pt.U, Pt.locs, Pt.cells, Pt.slots] at X106 l106 y106 z106 st106 hQ106
  subst l106 y106 z106
  obtain ⟨rfl, Nq106, e106_⟩ := hQ106
  have N106_ := Fr.app N101_ Nq106
  refine Fin.by (fun tt_ kk_ => st106 tt_ kk_) ?_
  have e106 := e106_
  have g107 : n0 ≤ a102 := Nat.le_trans Z0 (Nat.le_of_eq g102.symm)
  obtain ⟨T108, h108, L108, X108, e108, Nc108, K108, V108, st108⟩ := own_cp X106 hx hZ hown (w_ hw 263 rfl) (w_ hw 266 rfl) (w_ hw 264 rfl) (w_ hw 265 rfl) e106 A103 V102 (by decide) (by decide) (by decide) (by decide) rfl (by rw [hl]; decide) N106_ g107 (g := (mkF m 27 #[.val (.ref v), .val (.int 0), .val (.int 1), .val (.int 1), .val (.ref a102)] [(.int 1), (.int 0), (.ref a102), (.int 0), (.ref v)])) rfl (by rw [hml]; rfl) rfl (hb hby d27_27) (by decide) (W := 0) (by show 2 * 0 + _ ≤ _; exact Nat.le_of_eq rfl) (by decide)
  refine Fin.by (fun tt_ kk_ => st108 tt_ kk_) ?_
  refine Fin.by (fun tt_ kk_ => XS.aload X108.here hx rfl (hb hby d27_30) rfl rfl kk_) ?_
  have kp109 : Keep h0 h102 [] := (Keep.refl h0 []).ext E102
  have kp110 : Keep h0 h108 [] := kp109.trans K108 (allS (Or.inr (Nat.le_trans (Nat.le_refl _) (Nat.le_of_eq g102.symm))) all0)
  show Fin _ _ _ _ _ _ _ (T108.setTop (mkF m 32 #[.val (.ref v), .val (.int 0), .val (.int 1), .val (.int 1), .val (.ref a102)] [(.ref a102)]))
  exact Fin.ret (v := some (.ref a102)) X108 (fun h => by rw [Bd.returns] at h; cases h) Bd.notSynchronized (by rw [e108]; exact ⟨a102, k102, rfl, Nc108, kp110, (Nat.le_trans (Nat.le_refl _) (Nat.le_of_eq g102.symm)), V108⟩) (by decide) (by decide) (fun fs hr => retA X108 hx Bd.returns rfl rfl (hb hby d27_32) hr)
abbrev y_28 : MethodName := (⟨"java/util/Arrays", "copyOfRange", "([BII)[B"⟩ : MethodName)
theorem d28_0 : decode jdk_65_method_132_code 0 = .ok (.iload_n 1, 1) := by decide +kernel
theorem d28_1 : decode jdk_65_method_132_code 1 = .ok (.ifCond .ne 9, 3) := by decide +kernel
theorem d28_4 : decode jdk_65_method_132_code 4 = .ok (.iload_n 2, 1) := by decide +kernel
theorem d28_5 : decode jdk_65_method_132_code 5 = .ok (.aload_n 0, 1) := by decide +kernel
theorem d28_6 : decode jdk_65_method_132_code 6 = .ok (.arraylength, 1) := by decide +kernel
theorem d28_7 : decode jdk_65_method_132_code 7 = .ok (.if_icmp .eq 10, 3) := by decide +kernel
theorem d28_10 : decode jdk_65_method_132_code 10 = .ok (.aload_n 0, 1) := by decide +kernel
theorem d28_11 : decode jdk_65_method_132_code 11 = .ok (.iload_n 1, 1) := by decide +kernel
theorem d28_12 : decode jdk_65_method_132_code 12 = .ok (.iload_n 2, 1) := by decide +kernel
theorem pd_323 : parseMethodDescriptor "([BII)[B" = some ⟨[(.array .byte), .int, .int], some (.array .byte)⟩ := by decide +kernel
theorem d28_13 : decode jdk_65_method_132_code 13 = .ok (.invokestatic 339, 3) := by decide +kernel
theorem d28_16 : decode jdk_65_method_132_code 16 = .ok (.areturn, 1) := by decide +kernel
def Q_cor16_1 (Z : State) (v : Addr) (kv : ClassId) (vs : List Value) (h0 : Heap) (n0 : Nat) (vv_ : Option Value) (hh_ : Heap) (LL_ : List Loc) : Prop := ∃ (t : Addr), ∃ (k : ClassId), vv_ = some (.ref t) ∧ Fr n0 LL_ ∧ Keep h0 hh_ [] ∧ h0.size ≤ t ∧ Arv Z hh_ t k .byte (1 : Int32) vs (.int 0)
set_option maxRecDepth 65536 in
set_option maxHeartbeats 40000000 in
theorem rm_cor16_1 (l : Launch) (Z : State) (a0 : Array Value) (hw : ∀ d ∈ tables_1, d.before a0 Z = true) (ws : List Jvm.Cond) (v : Addr) (kv : ClassId) (vs : List Value) (h0 : Heap) (n0 : Nat) (Z0 : n0 ≤ h0.size) (hl : vs.length = 1) (A0 : Arv Z h0 v kv .byte (16 : Int32) vs (.int 0)) :
    MetFree l y_28 (head1 (Jvm.Cond.code y_28 jdk_65_method_132_code 3 (some (.array .byte)) :: ws) ({ frames := 2, cells := 1, slots := 1, locals := 34 } : Room)) (fun aa_ U => aa_ = #[(.ref v), (.int (0 : Int32)), (.int (1 : Int32))] ∧ Z.Warmed39 U.vm ∧ U.heap = h0) (fun _ _ _ _ _ => True) (fun _ U o U' => ∃ vv_ LL_, o = .returned vv_ ∧ Q_cor16_1 Z v kv vs h0 n0 vv_ U'.heap LL_ ∧ FrameEnd U o U' LL_ 1 1) := by
  refine MetFree.of_bodySF (plainFor_of_name pn_java_util_Arrays) hisR ?_
  intro p e s m args below meth c s₁ Bd hml0 hP hK
  obtain ⟨rfl, hZ, hh⟩ := hP
  have hx := Bd.exec
  have hby := Bd.bytes
  have hml : c.maxLocals = 3 := hml0
  have hown : s.vm.findClass "java/util/Arrays" = some m.cls := findClass_of_methodNamed Bd.named
  have hnm := (name_of_methodNamed Bd.named Bd.method).1
  have X0 : Stand p l e ({ frames := 2, cells := 1, slots := 1, locals := 34 } : Room) s m #[(.ref v), (.int (0 : Int32)), (.int (1 : Int32))] below meth c s₁ [] 0 0 := Stand.of_body Bd
  have e0 : s₁.heap = h0 := by rw [← hh, Bd.state]; rfl
  have N0 := Fr.nil n0
  have ef : entryFrame m #[(.ref v), (.int (0 : Int32)), (.int (1 : Int32))] 3 = mkF m 0 #[.val (.ref v), .val (.int (0 : Int32)), .val (.int (1 : Int32))] [] := by first | (simp [entryFrame, mkF, argsToLocals, Value.category]; done) | rfl
  refine Fin.start (Q := Q_cor16_1 Z v kv vs h0 n0) ef ?_
  refine Fin.by (fun tt_ kk_ => XS.iloadN X0.here hx rfl (hb hby d28_0) rfl kk_) ?_
  show Fin _ _ _ _ _ _ _ (s₁.setTop (mkF m 1 #[.val (.ref v), .val (.int 0), .val (.int 1)] [(.int 0)]))
  refine Fin.by (fun tt_ kk_ => XS.ifNo X0.here hx rfl (hb hby d28_1) rfl ((if0 _ _).trans (teq (rfl : (0 : Int32) = (0 : Int32))).2) kk_) ?_
  refine Fin.by (fun tt_ kk_ => XS.iloadN X0.here hx rfl (hb hby d28_4) rfl (XS.aloadN X0.here hx rfl (hb hby d28_5) rfl rfl kk_)) ?_
  obtain ⟨cl101, Ar101, q101, S101, N101, H101, G101⟩ := id A0
  refine Fin.by (fun tt_ kk_ => X0.arraylength hx (by rw [e0]; exact Ar101.1) (State.isArrayOf_alike hZ.alike Ar101.2.1) (g := (mkF m 6 #[.val (.ref v), .val (.int 0), .val (.int 1)] [(.ref v), (.int 1)])) rfl rfl (hb hby d28_6) _ kk_) ?_
  rw [len_of S101 N101]
  show Fin _ _ _ _ _ _ _ (s₁.setTop (mkF m 7 #[.val (.ref v), .val (.int 0), .val (.int 1)] [(.int 16), (.int 1)]))
  refine Fin.by (fun tt_ kk_ => XS.icmpNo X0.here hx rfl (hb hby d28_7) rfl (feq (by decide : ¬ (1 : Int32) = (16 : Int32))).1 kk_) ?_
  refine Fin.by (fun tt_ kk_ => XS.aloadN X0.here hx rfl (hb hby d28_10) rfl rfl (XS.iloadN X0.here hx rfl (hb hby d28_11) rfl (XS.iloadN X0.here hx rfl (hb hby d28_12) rfl kk_))) ?_
  obtain ⟨v102, _, ⟨T102, L102, k102, n102⟩, -, X102, ⟨Lc102, hQ102, l102, y102, z102⟩, st102⟩ := Jvm.LawKit.callS X0 hx (y := y_27) hown (mvT hZ (w_ hw 253 rfl)) (mvT hZ (w_ hw 254 rfl)) (mvT hZ (w_ hw 251 rfl)) (mvT hZ (w_ hw 255 rfl)) (by decide) (backOf (W := 0) (rm_crb16_1 l Z a0 hw [] v kv (vs : List Value) h0 n0 Z0 hl A0) hZ (w_ hw 255 rfl) (w_ hw 251 rfl) (by decide) (by decide)) (g := (mkF m 13 #[.val (.ref v), .val (.int 0), .val (.int 1)] [(.int 1), (.int 0), (.ref v)])) rfl (by rw [hml]; rfl) (argsL := [(.ref v), (.int 0), (.int 1)]) (rest := []) (lenOf pd_323 rfl) rfl (by show 2 * 0 + _ ≤ _; exact Nat.le_of_eq rfl) (hb hby d28_13) (fun _ _ => ⟨rfl, e0, (by decide : 0 + 1 ≤ _), (by decide : 0 + 1 ≤ _)⟩)
  dsimp only [Pt.U, Pt.locs, Pt.cells, Pt.slots] at X102 l102 y102 z102 st102 hQ102
  subst l102 y102 z102
  obtain ⟨t103, k104, rfl, Nq102, p102_0, p102_1, p102_2⟩ := hQ102
  have N102_ := Fr.app N0 Nq102
  refine Fin.by (fun tt_ kk_ => st102 tt_ kk_) ?_
  have kp105 : Keep h0 T102.heap [] := (Keep.refl h0 []).trans p102_0 all0
  show Fin _ _ _ _ _ _ _ (T102.setTop (mkF m 16 #[.val (.ref v), .val (.int 0), .val (.int 1)] [(.ref t103)]))
  exact Fin.ret (v := some (.ref t103)) X102 (fun h => by rw [Bd.returns] at h; cases h) Bd.notSynchronized (⟨t103, k104, rfl, N102_, kp105, (Nat.le_trans (Nat.le_refl _) p102_1), p102_2⟩) (by decide) (by decide) (fun fs hr => retA X102 hx Bd.returns rfl rfl (hb hby d28_16) hr)
abbrev y_29 : MethodName := (⟨"java/lang/String", "<init>", "([BB)V"⟩ : MethodName)
theorem d29_0 : decode jdk_42_method_151_code 0 = .ok (.aload_n 0, 1) := by decide +kernel
theorem d29_1 : decode jdk_42_method_151_code 1 = .ok (.invokespecial 1, 3) := by decide +kernel
theorem d29_4 : decode jdk_42_method_151_code 4 = .ok (.aload_n 0, 1) := by decide +kernel
theorem d29_5 : decode jdk_42_method_151_code 5 = .ok (.aload_n 1, 1) := by decide +kernel
theorem d29_6 : decode jdk_42_method_151_code 6 = .ok (.putfield 9, 3) := by decide +kernel
theorem d29_9 : decode jdk_42_method_151_code 9 = .ok (.aload_n 0, 1) := by decide +kernel
theorem d29_10 : decode jdk_42_method_151_code 10 = .ok (.iload_n 2, 1) := by decide +kernel
theorem d29_11 : decode jdk_42_method_151_code 11 = .ok (.putfield 15, 3) := by decide +kernel
theorem d29_14 : decode jdk_42_method_151_code 14 = .ok (.return_, 1) := by decide +kernel
def Q_sin (Z : State) (a : Addr) (b : Addr) (h0 : Heap) (n0 : Nat) (vv_ : Option Value) (hh_ : Heap) (LL_ : List Loc) : Prop := vv_ = none ∧ Fr n0 LL_ ∧ Keep h0 hh_ [a] ∧ Exa Z hh_ a "java/lang/String" ∧ Fld Z hh_ a "java/lang/String" "value" "[B" (.ref b) ∧ Fld Z hh_ a "java/lang/String" "coder" "B" (.int (0 : Int32))
set_option maxRecDepth 65536 in
set_option maxHeartbeats 40000000 in
theorem rm_sin (l : Launch) (Z : State) (a0 : Array Value) (hw : ∀ d ∈ tables_1, d.before a0 Z = true) (ws : List Jvm.Cond) (a : Addr) (b : Addr) (h0 : Heap) (n0 : Nat) (Z0 : n0 ≤ h0.size) (E0 : Exa Z h0 a "java/lang/String") (F0 : Fld Z h0 a "java/lang/String" "value" "[B" .null) (F1 : Fld Z h0 a "java/lang/String" "coder" "B" (.int (0 : Int32))) (ga : n0 ≤ a) :
    MetFree l y_29 (head1 (Jvm.Cond.code y_29 jdk_42_method_151_code 3 none :: ws) ({ frames := 1, cells := 0, slots := 0, locals := 12 } : Room)) (fun aa_ U => aa_ = #[(.ref a), (.ref b), (.int (0 : Int32))] ∧ Z.Warmed39 U.vm ∧ U.heap = h0) (fun _ _ _ _ _ => True) (fun _ U o U' => ∃ vv_ LL_, o = .returned vv_ ∧ Q_sin Z a b h0 n0 vv_ U'.heap LL_ ∧ FrameEnd U o U' LL_ 0 0) := by
  refine MetFree.of_bodySF (plainFor_of_name pn_java_lang_String) hisR ?_
  intro p e s m args below meth c s₁ Bd hml0 hP hK
  obtain ⟨rfl, hZ, hh⟩ := hP
  have hx := Bd.exec
  have hby := Bd.bytes
  have hml : c.maxLocals = 3 := hml0
  have hown : s.vm.findClass "java/lang/String" = some m.cls := findClass_of_methodNamed Bd.named
  have hnm := (name_of_methodNamed Bd.named Bd.method).1
  have X0 : Stand p l e ({ frames := 1, cells := 0, slots := 0, locals := 12 } : Room) s m #[(.ref a), (.ref b), (.int (0 : Int32))] below meth c s₁ [] 0 0 := Stand.of_body Bd
  have e0 : s₁.heap = h0 := by rw [← hh, Bd.state]; rfl
  have N0 := Fr.nil n0
  have ef : entryFrame m #[(.ref a), (.ref b), (.int (0 : Int32))] 3 = mkF m 0 #[.val (.ref a), .val (.ref b), .val (.int (0 : Int32))] [] := by first | (simp [entryFrame, mkF, argsToLocals, Value.category]; done) | rfl
  refine Fin.start (Q := Q_sin Z a b h0 n0) ef ?_
  refine Fin.by (fun tt_ kk_ => XS.aloadN X0.here hx rfl (hb hby d29_0) rfl rfl kk_) ?_
  obtain ⟨T101, X101, e101, st101⟩ := initO X0 hx hZ hown (w_ hw 271 rfl) (w_ hw 7 rfl) (w_ hw 8 rfl) e0 (g := (mkF m 1 #[.val (.ref a), .val (.ref b), .val (.int 0)] [(.ref a)])) rfl (by rw [hml]; rfl) rfl (hb hby d29_1) (by decide) (W := 0) (by show 2 * 0 + _ ≤ _; exact Nat.le_of_eq rfl) (by decide)
  refine Fin.by (fun tt_ kk_ => st101 tt_ kk_) ?_
  refine Fin.by (fun tt_ kk_ => XS.aloadN X101.here hx rfl (hb hby d29_4) rfl rfl (XS.aloadN X101.here hx rfl (hb hby d29_5) rfl rfl kk_)) ?_
  obtain ⟨T102, h102, X102, e102, W102, st102⟩ := putF X101 hx hZ hown (host := "") (Or.inl (w_ hw 151 rfl)) Via.refl e101 F0 E0 (Or.inr ⟨(w_ hw 134 rfl), rfl, hnm⟩) (w_ hw 133 rfl) (ty := (.array .byte)) (by decide) rfl rfl (g := (mkF m 6 #[.val (.ref a), .val (.ref b), .val (.int 0)] [(.ref b), (.ref a)])) rfl rfl (hb hby d29_6)
  refine Fin.by (fun tt_ kk_ => st102 tt_ kk_) ?_
  have N102_ := Fr.snoc X102 N0 ga
  refine Fin.by (fun tt_ kk_ => XS.aloadN X102.here hx rfl (hb hby d29_9) rfl rfl (XS.iloadN X102.here hx rfl (hb hby d29_10) rfl kk_)) ?_
  have F103 : Fld Z h102 a "java/lang/String" "coder" "B" (.int (0 : Int32)) := (F1.other W102 (Or.inr (slot_ne (Or.inr (w_ hw 135 rfl)) (Or.inr (w_ hw 134 rfl)) (by decide) (t := .byte) (t' := (.array .byte)) (by decide) (by decide))))
  have E104 : Exa Z h102 a "java/lang/String" := (E0.wr W102)
  obtain ⟨T105, h105, X105, e105, W105, st105⟩ := putFN X102 hx hZ hown (w_ hw 158 rfl) Via.refl e102 F103 E104 (Or.inr ⟨(w_ hw 135 rfl), rfl, hnm⟩) (w_ hw 133 rfl) (ty := .byte) (v' := .int (0 : Int32)) (by decide) rfl rfl (g := (mkF m 11 #[.val (.ref a), .val (.ref b), .val (.int 0)] [(.int 0), (.ref a)])) rfl rfl (hb hby d29_11)
  refine Fin.by (fun tt_ kk_ => st105 tt_ kk_) ?_
  have N105_ := Fr.snoc X105 N102_ ga
  have kp106 : Keep h0 h102 [a] := (Keep.refl h0 [a]).wr W102 (Or.inl (List.mem_of_getElem? (i := 0) rfl))
  have kp107 : Keep h0 h105 [a] := kp106.wr W105 (Or.inl (List.mem_of_getElem? (i := 0) rfl))
  have E108 : Exa Z h105 a "java/lang/String" := (E104.wr W105)
  have F109 : Fld Z h105 a "java/lang/String" "value" "[B" (.ref b) := ((F0.same W102).other W105 (Or.inr (slot_ne (Or.inr (w_ hw 134 rfl)) (Or.inr (w_ hw 135 rfl)) (by decide) (t := (.array .byte)) (t' := .byte) (by decide) (by decide))))
  show Fin _ _ _ _ _ _ _ (T105.setTop (mkF m 14 #[.val (.ref a), .val (.ref b), .val (.int 0)] []))
  exact Fin.ret (v := none) X105 (fun _ => rfl) Bd.notSynchronized (by rw [e105]; exact ⟨rfl, N105_, kp107, E108, F109, (F103.same W105)⟩) (by decide) (by decide) (fun fs hr => X105.returnOut hx Bd.returns (hb hby d29_14) hr)
abbrev y_30 : MethodName := (⟨"java/lang/StringLatin1", "newString", "([BII)Ljava/lang/String;"⟩ : MethodName)
theorem d30_0 : decode jdk_43_method_47_code 0 = .ok (.iload_n 2, 1) := by decide +kernel
theorem d30_1 : decode jdk_43_method_47_code 1 = .ok (.ifCond .ne 6, 3) := by decide +kernel
theorem d30_7 : decode jdk_43_method_47_code 7 = .ok (.new 1, 3) := by decide +kernel
theorem d30_10 : decode jdk_43_method_47_code 10 = .ok (.dup, 1) := by decide +kernel
theorem d30_11 : decode jdk_43_method_47_code 11 = .ok (.aload_n 0, 1) := by decide +kernel
theorem d30_12 : decode jdk_43_method_47_code 12 = .ok (.iload_n 1, 1) := by decide +kernel
theorem d30_13 : decode jdk_43_method_47_code 13 = .ok (.iload_n 1, 1) := by decide +kernel
theorem d30_14 : decode jdk_43_method_47_code 14 = .ok (.iload_n 2, 1) := by decide +kernel
theorem d30_15 : decode jdk_43_method_47_code 15 = .ok (.iadd, 1) := by decide +kernel
theorem d30_16 : decode jdk_43_method_47_code 16 = .ok (.invokestatic 232, 3) := by decide +kernel
theorem d30_19 : decode jdk_43_method_47_code 19 = .ok (.iconst 0, 1) := by decide +kernel
theorem pd_346 : parseMethodDescriptor "([BB)V" = some ⟨[(.array .byte), .byte], none⟩ := by decide +kernel
theorem d30_20 : decode jdk_43_method_47_code 20 = .ok (.invokespecial 112, 3) := by decide +kernel
theorem d30_23 : decode jdk_43_method_47_code 23 = .ok (.areturn, 1) := by decide +kernel
def Q_nst1 (Z : State) (v : Addr) (kv : ClassId) (vs : List Value) (h0 : Heap) (n0 : Nat) (vv_ : Option Value) (hh_ : Heap) (LL_ : List Loc) : Prop := ∃ (x : Addr), ∃ (t : Addr), ∃ (k : ClassId), vv_ = some (.ref x) ∧ Fr n0 LL_ ∧ Keep h0 hh_ [] ∧ h0.size ≤ x ∧ h0.size ≤ t ∧ Exa Z hh_ x "java/lang/String" ∧ Fld Z hh_ x "java/lang/String" "value" "[B" (.ref t) ∧ Fld Z hh_ x "java/lang/String" "coder" "B" (.int (0 : Int32)) ∧ Arv Z hh_ t k .byte (1 : Int32) vs (.int 0)
set_option maxRecDepth 65536 in
set_option maxHeartbeats 40000000 in
theorem rm_nst1 (l : Launch) (Z : State) (a0 : Array Value) (hw : ∀ d ∈ tables_1, d.before a0 Z = true) (ws : List Jvm.Cond) (v : Addr) (kv : ClassId) (vs : List Value) (h0 : Heap) (n0 : Nat) (Z0 : n0 ≤ h0.size) (hvd : vs.length = 1) (A0 : Arv Z h0 v kv .byte (16 : Int32) vs (.int 0)) :
    MetFree l y_30 (head1 (Jvm.Cond.code y_30 jdk_43_method_47_code 3 (some (.object "java/lang/String")) :: ws) ({ frames := 3, cells := 2, slots := 5, locals := 50 } : Room)) (fun aa_ U => aa_ = #[(.ref v), (.int (0 : Int32)), (.int (1 : Int32))] ∧ Z.Warmed39 U.vm ∧ U.heap = h0) (fun _ _ _ _ _ => True) (fun _ U o U' => ∃ vv_ LL_, o = .returned vv_ ∧ Q_nst1 Z v kv vs h0 n0 vv_ U'.heap LL_ ∧ FrameEnd U o U' LL_ 2 5) := by
  refine MetFree.of_bodySF (plainFor_of_name pn_java_lang_StringLatin1) hisR ?_
  intro p e s m args below meth c s₁ Bd hml0 hP hK
  obtain ⟨rfl, hZ, hh⟩ := hP
  have hx := Bd.exec
  have hby := Bd.bytes
  have hml : c.maxLocals = 3 := hml0
  have hown : s.vm.findClass "java/lang/StringLatin1" = some m.cls := findClass_of_methodNamed Bd.named
  have hnm := (name_of_methodNamed Bd.named Bd.method).1
  have X0 : Stand p l e ({ frames := 3, cells := 2, slots := 5, locals := 50 } : Room) s m #[(.ref v), (.int (0 : Int32)), (.int (1 : Int32))] below meth c s₁ [] 0 0 := Stand.of_body Bd
  have e0 : s₁.heap = h0 := by rw [← hh, Bd.state]; rfl
  have N0 := Fr.nil n0
  have ef : entryFrame m #[(.ref v), (.int (0 : Int32)), (.int (1 : Int32))] 3 = mkF m 0 #[.val (.ref v), .val (.int (0 : Int32)), .val (.int (1 : Int32))] [] := by first | (simp [entryFrame, mkF, argsToLocals, Value.category]; done) | rfl
  refine Fin.start (Q := Q_nst1 Z v kv vs h0 n0) ef ?_
  refine Fin.by (fun tt_ kk_ => XS.iloadN X0.here hx rfl (hb hby d30_0) rfl kk_) ?_
  show Fin _ _ _ _ _ _ _ (s₁.setTop (mkF m 1 #[.val (.ref v), .val (.int 0), .val (.int 1)] [(.int 1)]))
  refine Fin.by (fun tt_ kk_ => XS.ifYes X0.here hx rfl (pc0 := 1) (pc' := 7) rfl (hb hby d30_1) rfl ((if0 _ _).trans (feq (by decide : ¬ (1 : Int32) = (0 : Int32))).2) (by decide) (by decide) kk_) ?_
  obtain ⟨T101, h101, X101, e101, E101, A101, D101, -, st101⟩ := newO X0 hx hZ hown (w_ hw 248 rfl) (w_ hw 133 rfl) (w_ hw 30 rfl) e0 (g := (mkF m 7 #[.val (.ref v), .val (.int 0), .val (.int 1)] [])) rfl (hb hby d30_7) (by decide) (by decide)
  obtain ⟨a101, g101⟩ : ∃ z, z = h0.size := ⟨_, rfl⟩
  rw [← g101] at A101 D101 st101
  refine Fin.by (fun tt_ kk_ => st101 tt_ kk_) ?_
  refine Fin.by (fun tt_ kk_ => XS.dup X101.here hx rfl (hb hby d30_10) rfl rfl (XS.aloadN X101.here hx rfl (hb hby d30_11) rfl rfl (XS.iloadN X101.here hx rfl (hb hby d30_12) rfl (XS.iloadN X101.here hx rfl (hb hby d30_13) rfl (XS.iloadN X101.here hx rfl (hb hby d30_14) rfl (XS.iadd X101.here hx rfl (hb hby d30_15) rfl kk_)))))) ?_
  have A102 : Arv Z h101 v kv .byte (16 : Int32) vs (.int 0) := (A0.ext E101)
  have z103 : n0 ≤ h101.size := Nat.le_trans Z0 E101.1
  obtain ⟨v104, _, ⟨T104, L104, k104, n104⟩, -, X104, ⟨Lc104, hQ104, l104, y104, z104⟩, st104⟩ := Jvm.LawKit.callS X101 hx (y := y_28) hown (mvT hZ (w_ hw 249 rfl)) (mvT hZ (w_ hw 250 rfl)) (mvT hZ (w_ hw 251 rfl)) (mvT hZ (w_ hw 252 rfl)) (by decide) (backOf (W := 2) (rm_cor16_1 l Z a0 hw [] v kv (vs : List Value) h101 n0 z103 hvd A102) hZ (w_ hw 252 rfl) (w_ hw 251 rfl) (by decide) (by decide)) (g := (mkF m 16 #[.val (.ref v), .val (.int 0), .val (.int 1)] [(.int 1), (.int 0), (.ref v), (.ref a101), (.ref a101)])) rfl (by rw [hml]; rfl) (argsL := [(.ref v), (.int 0), (.int 1)]) (rest := [(.ref a101), (.ref a101)]) (lenOf pd_323 rfl) rfl (by show 2 * 0 + _ ≤ _; exact Nat.le_of_eq rfl) (hb hby d30_16) (fun _ _ => ⟨rfl, e101, (by decide : 1 + 1 ≤ _), (by decide : 4 + 1 ≤ _)⟩)
  dsimp only [Pt.U, Pt.locs, Pt.cells, Pt.slots] at X104 l104 y104 z104 st104 hQ104
  subst l104 y104 z104
  obtain ⟨t105, k106, rfl, Nq104, p104_0, p104_1, p104_2⟩ := hQ104
  have N104_ := Fr.app N0 Nq104
  refine Fin.by (fun tt_ kk_ => st104 tt_ kk_) ?_
  refine Fin.by (fun tt_ kk_ => XS.iconst X104.here hx rfl (hb hby d30_19) kk_) ?_
  have E107 : Exa Z T104.heap a101 "java/lang/String" := (A101.keep p104_0)
  have F108 : Fld Z T104.heap a101 "java/lang/String" "value" "[B" .null := ((D101 (Or.inr (w_ hw 134 rfl)) (ty := (.array .byte)) (by decide) : Fld Z h101 a101 "java/lang/String" "value" "[B" .null).keep p104_0 nin0)
  have F109 : Fld Z T104.heap a101 "java/lang/String" "coder" "B" (.int (0 : Int32)) := ((D101 (Or.inr (w_ hw 135 rfl)) (ty := .byte) (by decide) : Fld Z h101 a101 "java/lang/String" "coder" "B" (.int (0 : Int32))).keep p104_0 nin0)
  have g110 : n0 ≤ a101 := Nat.le_trans Z0 (Nat.le_of_eq g101.symm)
  have z111 : n0 ≤ T104.heap.size := Nat.le_trans z103 p104_0.1
  obtain ⟨v112, _, ⟨T112, L112, k112, n112⟩, -, X112, ⟨Lc112, hQ112, l112, y112, z112⟩, st112⟩ := X104.specialBack hx (y := y_29) rfl hown (mvT hZ (w_ hw 267 rfl)) (mvT hZ (w_ hw 268 rfl)) (mvT hZ (w_ hw 270 rfl)) (by decide) (backOf (W := 1) (rm_sin l Z a0 hw [] a101 t105 T104.heap n0 z111 E107 F108 F109 g110) hZ (w_ hw 270 rfl) (w_ hw 30 rfl) (by decide) (by decide)) (g := (mkF m 20 #[.val (.ref v), .val (.int 0), .val (.int 1)] [(.int 0), (.ref t105), (.ref a101), (.ref a101)])) rfl (by rw [hml]; rfl) (Steps.refl _) (a := a101) (argsL := [(.ref t105), (.int 0)]) (rest := [(.ref a101)]) (lenOf pd_346 rfl) rfl (by show 2 * 0 + _ ≤ _; exact Nat.le_of_eq rfl) (hb hby d30_20) (fun _ _ => ⟨rfl, rfl, (by decide : 2 + 0 ≤ _), (by decide : 5 + 0 ≤ _)⟩)
  dsimp only [Pt.U, Pt.locs, Pt.cells, Pt.slots] at X112 l112 y112 z112 st112 hQ112
  subst l112 y112 z112
  obtain ⟨rfl, Nq112, p112_0, p112_1, p112_2, p112_3⟩ := hQ112
  have N112_ := Fr.app N104_ Nq112
  refine Fin.byS st112 ?_
  have kp113 : Keep h0 h101 [] := (Keep.refl h0 []).ext E101
  have kp114 : Keep h0 T104.heap [] := kp113.trans p104_0 all0
  have kp115 : Keep h0 T112.heap [] := kp114.trans p112_0 (allS (Or.inr (Nat.le_trans (Nat.le_refl _) (Nat.le_of_eq g101.symm))) all0)
  have ne116 : a101 ≠ t105 := Nat.ne_of_lt (Nat.lt_of_lt_of_le A101.lt p104_1)
  have A117 : Arv Z T112.heap t105 k106 .byte (1 : Int32) (vs : List Value) (.int 0) := (p104_2.keep p112_0 (ninS (Ne.symm ne116) nin0))
  show Fin _ _ _ _ _ _ _ (T112.setTop (mkF m 23 #[.val (.ref v), .val (.int 0), .val (.int 1)] [(.ref a101)]))
  exact Fin.ret (v := some (.ref a101)) X112 (fun h => by rw [Bd.returns] at h; cases h) Bd.notSynchronized (⟨a101, t105, k106, rfl, N112_, kp115, (Nat.le_trans (Nat.le_refl _) (Nat.le_of_eq g101.symm)), (Nat.le_trans E101.1 p104_1), p112_1, p112_2, p112_3, A117⟩) (by decide) (by decide) (fun fs hr => retA X112 hx Bd.returns rfl rfl (hb hby d30_23) hr)
abbrev y_31 : MethodName := (⟨"java/lang/AbstractStringBuilder", "substring", "(II)Ljava/lang/String;"⟩ : MethodName)
theorem d31_0 : decode jdk_68_method_42_code 0 = .ok (.iload_n 1, 1) := by decide +kernel
theorem d31_1 : decode jdk_68_method_42_code 1 = .ok (.iload_n 2, 1) := by decide +kernel
theorem d31_2 : decode jdk_68_method_42_code 2 = .ok (.aload_n 0, 1) := by decide +kernel
theorem d31_3 : decode jdk_68_method_42_code 3 = .ok (.getfield 79, 3) := by decide +kernel
theorem d31_6 : decode jdk_68_method_42_code 6 = .ok (.getstatic 179, 3) := by decide +kernel
theorem pd_354 : parseMethodDescriptor "(IIILjava/util/function/BiFunction;)I" = some ⟨[.int, .int, .int, (.object "java/util/function/BiFunction")], some .int⟩ := by decide +kernel
theorem d31_9 : decode jdk_68_method_42_code 9 = .ok (.invokestatic 161, 3) := by decide +kernel
theorem d31_12 : decode jdk_68_method_42_code 12 = .ok (.pop, 1) := by decide +kernel
theorem d31_13 : decode jdk_68_method_42_code 13 = .ok (.aload_n 0, 1) := by decide +kernel
theorem d31_14 : decode jdk_68_method_42_code 14 = .ok (.invokevirtual 83, 3) := by decide +kernel
theorem d31_17 : decode jdk_68_method_42_code 17 = .ok (.ifCond .eq 15, 3) := by decide +kernel
theorem d31_20 : decode jdk_68_method_42_code 20 = .ok (.aload_n 0, 1) := by decide +kernel
theorem d31_21 : decode jdk_68_method_42_code 21 = .ok (.getfield 15, 3) := by decide +kernel
theorem d31_24 : decode jdk_68_method_42_code 24 = .ok (.iload_n 1, 1) := by decide +kernel
theorem d31_25 : decode jdk_68_method_42_code 25 = .ok (.iload_n 2, 1) := by decide +kernel
theorem d31_26 : decode jdk_68_method_42_code 26 = .ok (.iload_n 1, 1) := by decide +kernel
theorem d31_27 : decode jdk_68_method_42_code 27 = .ok (.isub, 1) := by decide +kernel
theorem pd_366 : parseMethodDescriptor "([BII)Ljava/lang/String;" = some ⟨[(.array .byte), .int, .int], some (.object "java/lang/String")⟩ := by decide +kernel
theorem d31_28 : decode jdk_68_method_42_code 28 = .ok (.invokestatic 304, 3) := by decide +kernel
theorem d31_31 : decode jdk_68_method_42_code 31 = .ok (.areturn, 1) := by decide +kernel
def Q_asu1 (Z : State) (a : Addr) (v : Addr) (kv : ClassId) (vs : List Value) (G1 : Int32) (G9 : Value) (h0 : Heap) (n0 : Nat) (vv_ : Option Value) (hh_ : Heap) (LL_ : List Loc) : Prop := ∃ (x : Addr), ∃ (t : Addr), ∃ (k : ClassId), vv_ = some (.ref x) ∧ Fr n0 LL_ ∧ Keep h0 hh_ [] ∧ h0.size ≤ x ∧ h0.size ≤ t ∧ Exa Z hh_ x "java/lang/String" ∧ Fld Z hh_ x "java/lang/String" "value" "[B" (.ref t) ∧ Fld Z hh_ x "java/lang/String" "coder" "B" (.int (0 : Int32)) ∧ Arv Z hh_ t k .byte (1 : Int32) vs (.int 0)
set_option maxRecDepth 65536 in
set_option maxHeartbeats 40000000 in
theorem rm_asu1 (l : Launch) (Z : State) (a0 : Array Value) (hw : ∀ d ∈ tables_1, d.before a0 Z = true) (ws : List Jvm.Cond) (a : Addr) (v : Addr) (kv : ClassId) (vs : List Value) (G1 : Int32) (G9 : Value) (h0 : Heap) (n0 : Nat) (Z0 : n0 ≤ h0.size) (hvd : vs.length = 1) (E0 : Exa Z h0 a "java/lang/StringBuilder") (F0 : Fld Z h0 a "java/lang/AbstractStringBuilder" "value" "[B" (.ref v)) (F1 : Fld Z h0 a "java/lang/AbstractStringBuilder" "coder" "B" (.int (0 : Int32))) (F2 : Fld Z h0 a "java/lang/AbstractStringBuilder" "count" "I" (.int (1 : Int32))) (A0 : Arv Z h0 v kv .byte (16 : Int32) vs (.int 0)) (S1 : Sta Z Z.heap "java/lang/String" "COMPACT_STRINGS" "Z" (.int G1)) (P1 : ¬ G1 = 0) (S9 : Sta Z Z.heap "jdk/internal/util/Preconditions" "SIOOBE_FORMATTER" "Ljava/util/function/BiFunction;" G9) (r9 : G9.isRef = true) (OL : Old Z n0 h0) :
    MetFree l y_31 (head1 (Jvm.Cond.code y_31 jdk_68_method_42_code 3 (some (.object "java/lang/String")) :: ws) ({ frames := 4, cells := 2, slots := 5, locals := 64 } : Room)) (fun aa_ U => aa_ = #[(.ref a), (.int (0 : Int32)), (.int (1 : Int32))] ∧ Z.Warmed39 U.vm ∧ U.heap = h0) (fun _ _ _ _ _ => True) (fun _ U o U' => ∃ vv_ LL_, o = .returned vv_ ∧ Q_asu1 Z a v kv vs G1 G9 h0 n0 vv_ U'.heap LL_ ∧ FrameEnd U o U' LL_ 2 5) := by
  refine MetFree.of_bodySF (plainFor_of_name pn_java_lang_AbstractStringBuilder) hisR ?_
  intro p e s m args below meth c s₁ Bd hml0 hP hK
  obtain ⟨rfl, hZ, hh⟩ := hP
  have hx := Bd.exec
  have hby := Bd.bytes
  have hml : c.maxLocals = 3 := hml0
  have hown : s.vm.findClass "java/lang/AbstractStringBuilder" = some m.cls := findClass_of_methodNamed Bd.named
  have hnm := (name_of_methodNamed Bd.named Bd.method).1
  have X0 : Stand p l e ({ frames := 4, cells := 2, slots := 5, locals := 64 } : Room) s m #[(.ref a), (.int (0 : Int32)), (.int (1 : Int32))] below meth c s₁ [] 0 0 := Stand.of_body Bd
  have e0 : s₁.heap = h0 := by rw [← hh, Bd.state]; rfl
  have N0 := Fr.nil n0
  have ef : entryFrame m #[(.ref a), (.int (0 : Int32)), (.int (1 : Int32))] 3 = mkF m 0 #[.val (.ref a), .val (.int (0 : Int32)), .val (.int (1 : Int32))] [] := by first | (simp [entryFrame, mkF, argsToLocals, Value.category]; done) | rfl
  refine Fin.start (Q := Q_asu1 Z a v kv vs G1 G9 h0 n0) ef ?_
  refine Fin.by (fun tt_ kk_ => XS.iloadN X0.here hx rfl (hb hby d31_0) rfl (XS.iloadN X0.here hx rfl (hb hby d31_1) rfl (XS.aloadN X0.here hx rfl (hb hby d31_2) rfl rfl kk_))) ?_
  obtain ⟨T101, X101, e101, st101⟩ := getF X0 hx hZ hown (host := "") (Or.inl (w_ hw 88 rfl)) Via.refl e0 F2 (g := (mkF m 3 #[.val (.ref a), .val (.int 0), .val (.int 1)] [(.ref a), (.int 1), (.int 0)])) rfl rfl (hb hby d31_3)
  refine Fin.by (fun tt_ kk_ => st101 tt_ kk_) ?_
  obtain ⟨T102, X102, e102, st102⟩ := getS X101 hx hZ (host := "") hown (w_ hw 118 rfl) Via.refl e101 (S9.ext OL.2) (g := (mkF m 6 #[.val (.ref a), .val (.int 0), .val (.int 1)] [(.int 1), (.int 1), (.int 0)])) rfl (hb hby d31_6)
  refine Fin.by (fun tt_ kk_ => st102 tt_ kk_) ?_
  obtain ⟨v103, _, ⟨T103, L103, k103, n103⟩, -, X103, ⟨Lc103, hQ103, l103, y103, z103⟩, st103⟩ := Jvm.LawKit.callS X102 hx (y := y_24) hown (mvT hZ (w_ hw 120 rfl)) (mvT hZ (w_ hw 121 rfl)) (mvT hZ (w_ hw 119 rfl)) (mvT hZ (w_ hw 122 rfl)) (by decide) (backOf (W := 0) (rm_cft1 l Z a0 hw [] G9 h0 n0 Z0 r9) hZ (w_ hw 122 rfl) (w_ hw 119 rfl) (by decide) (by decide)) (g := (mkF m 9 #[.val (.ref a), .val (.int 0), .val (.int 1)] [G9, (.int 1), (.int 1), (.int 0)])) rfl (by rw [hml]; rfl) (argsL := [(.int 0), (.int 1), (.int 1), G9]) (rest := []) (lenOf pd_354 rfl) rfl (by show 2 * 0 + _ ≤ _; exact Nat.le_of_eq rfl) (hb hby d31_9) (fun _ _ => ⟨rfl, e102, (by decide : 0 + 0 ≤ _), (by decide : 0 + 0 ≤ _)⟩)
  dsimp only [Pt.U, Pt.locs, Pt.cells, Pt.slots] at X103 l103 y103 z103 st103 hQ103
  subst l103 y103 z103
  obtain ⟨rfl, Nq103, e103_⟩ := hQ103
  have N103_ := Fr.app N0 Nq103
  refine Fin.by (fun tt_ kk_ => st103 tt_ kk_) ?_
  have e103 := e103_
  refine Fin.by (fun tt_ kk_ => XS.pop X103.here hx rfl (hb hby d31_12) rfl rfl (XS.aloadN X103.here hx rfl (hb hby d31_13) rfl rfl kk_)) ?_
  obtain ⟨cq104, kq104, qa104, qb104, qc104⟩ := isOf hZ e103 E0
  obtain ⟨v104, _, ⟨T104, L104, k104, n104⟩, -, X104, ⟨Lc104, hQ104, l104, y104, z104⟩, st104⟩ := X103.virtualBack hx (y := y_7) (z := y_7) hown (mvT hZ (w_ hw 123 rfl)) (mvT hZ (w_ hw 124 rfl)) (notFace_of_selects (args := #[]) (mvT hZ (w_ hw 126 rfl))) (mvT hZ (w_ hw 126 rfl)) (mvT hZ (w_ hw 125 rfl)) (by decide) (backOf (W := 0) (rm_isl l Z a0 hw [] a G1 h0 n0 Z0 E0 F1 S1 P1 OL) hZ (w_ hw 127 rfl) (w_ hw 26 rfl) (by decide) (by decide)) qa104 qc104 (g := (mkF m 14 #[.val (.ref a), .val (.int 0), .val (.int 1)] [(.ref a)])) rfl (by rw [hml]; rfl) (Steps.refl _) (argsL := []) (rest := []) (lenOf pd_120 rfl) rfl (by show 2 * 0 + _ ≤ _; exact Nat.le_of_eq rfl) (hb hby d31_14) (fun _ _ => ⟨rfl, e103, (by decide : 0 + 0 ≤ _), (by decide : 0 + 0 ≤ _)⟩)
  dsimp only [Pt.U, Pt.locs, Pt.cells, Pt.slots] at X104 l104 y104 z104 st104 hQ104
  subst l104 y104 z104
  obtain ⟨rfl, Nq104, e104_⟩ := hQ104
  have N104_ := Fr.app N103_ Nq104
  refine Fin.byS st104 ?_
  have e104 := e104_
  show Fin _ _ _ _ _ _ _ (T104.setTop (mkF m 17 #[.val (.ref a), .val (.int 0), .val (.int 1)] [(.int 1)]))
  refine Fin.by (fun tt_ kk_ => XS.ifNo X104.here hx rfl (hb hby d31_17) rfl ((if0 _ _).trans (feq (by decide : ¬ (1 : Int32) = (0 : Int32))).1) kk_) ?_
  refine Fin.by (fun tt_ kk_ => XS.aloadN X104.here hx rfl (hb hby d31_20) rfl rfl kk_) ?_
  obtain ⟨T105, X105, e105, st105⟩ := getF X104 hx hZ hown (host := "") (Or.inl (w_ hw 32 rfl)) Via.refl e104 F0 (g := (mkF m 21 #[.val (.ref a), .val (.int 0), .val (.int 1)] [(.ref a)])) rfl rfl (hb hby d31_21)
  refine Fin.by (fun tt_ kk_ => st105 tt_ kk_) ?_
  refine Fin.by (fun tt_ kk_ => XS.iloadN X105.here hx rfl (hb hby d31_24) rfl (XS.iloadN X105.here hx rfl (hb hby d31_25) rfl (XS.iloadN X105.here hx rfl (hb hby d31_26) rfl (XS.isub X105.here hx rfl (hb hby d31_27) rfl kk_)))) ?_
  obtain ⟨v106, _, ⟨T106, L106, k106, n106⟩, -, X106, ⟨Lc106, hQ106, l106, y106, z106⟩, st106⟩ := Jvm.LawKit.callS X105 hx (y := y_30) hown (mvT hZ (w_ hw 128 rfl)) (mvT hZ (w_ hw 129 rfl)) (mvT hZ (w_ hw 130 rfl)) (mvT hZ (w_ hw 131 rfl)) (by decide) (backOf (W := 0) (rm_nst1 l Z a0 hw [] v kv (vs : List Value) h0 n0 Z0 hvd A0) hZ (w_ hw 131 rfl) (w_ hw 130 rfl) (by decide) (by decide)) (g := (mkF m 28 #[.val (.ref a), .val (.int 0), .val (.int 1)] [(.int 1), (.int 0), (.ref v)])) rfl (by rw [hml]; rfl) (argsL := [(.ref v), (.int 0), (.int 1)]) (rest := []) (lenOf pd_366 rfl) rfl (by show 2 * 0 + _ ≤ _; exact Nat.le_of_eq rfl) (hb hby d31_28) (fun _ _ => ⟨rfl, e105, (by decide : 0 + 2 ≤ _), (by decide : 0 + 5 ≤ _)⟩)
  dsimp only [Pt.U, Pt.locs, Pt.cells, Pt.slots] at X106 l106 y106 z106 st106 hQ106
  subst l106 y106 z106
  obtain ⟨x107, t108, k109, rfl, Nq106, p106_0, p106_1, p106_2, p106_3, p106_4, p106_5, p106_6⟩ := hQ106
  have N106_ := Fr.app N104_ Nq106
  refine Fin.by (fun tt_ kk_ => st106 tt_ kk_) ?_
  have kp110 : Keep h0 T106.heap [] := (Keep.refl h0 []).trans p106_0 all0
  show Fin _ _ _ _ _ _ _ (T106.setTop (mkF m 31 #[.val (.ref a), .val (.int 0), .val (.int 1)] [(.ref x107)]))
  exact Fin.ret (v := some (.ref x107)) X106 (fun h => by rw [Bd.returns] at h; cases h) Bd.notSynchronized (⟨x107, t108, k109, rfl, N106_, kp110, (Nat.le_trans (Nat.le_refl _) p106_1), (Nat.le_trans (Nat.le_refl _) p106_2), p106_3, p106_4, p106_5, p106_6⟩) (by decide) (by decide) (fun fs hr => retA X106 hx Bd.returns rfl rfl (hb hby d31_31) hr)
abbrev y_32 : MethodName := (⟨"java/lang/StringBuilder", "substring", "(II)Ljava/lang/String;"⟩ : MethodName)
theorem d32_0 : decode jdk_67_method_62_code 0 = .ok (.aload_n 0, 1) := by decide +kernel
theorem d32_1 : decode jdk_67_method_62_code 1 = .ok (.iload_n 1, 1) := by decide +kernel
theorem d32_2 : decode jdk_67_method_62_code 2 = .ok (.iload_n 2, 1) := by decide +kernel
theorem pd_372 : parseMethodDescriptor "(II)Ljava/lang/String;" = some ⟨[.int, .int], some (.object "java/lang/String")⟩ := by decide +kernel
theorem d32_3 : decode jdk_67_method_62_code 3 = .ok (.invokespecial 252, 3) := by decide +kernel
theorem d32_6 : decode jdk_67_method_62_code 6 = .ok (.areturn, 1) := by decide +kernel
def Q_ssu1 (Z : State) (a : Addr) (v : Addr) (kv : ClassId) (vs : List Value) (G1 : Int32) (G9 : Value) (h0 : Heap) (n0 : Nat) (vv_ : Option Value) (hh_ : Heap) (LL_ : List Loc) : Prop := ∃ (x : Addr), ∃ (t : Addr), ∃ (k : ClassId), vv_ = some (.ref x) ∧ Fr n0 LL_ ∧ Keep h0 hh_ [] ∧ h0.size ≤ x ∧ h0.size ≤ t ∧ Exa Z hh_ x "java/lang/String" ∧ Fld Z hh_ x "java/lang/String" "value" "[B" (.ref t) ∧ Fld Z hh_ x "java/lang/String" "coder" "B" (.int (0 : Int32)) ∧ Arv Z hh_ t k .byte (1 : Int32) vs (.int 0)
set_option maxRecDepth 65536 in
set_option maxHeartbeats 40000000 in
theorem rm_ssu1 (l : Launch) (Z : State) (a0 : Array Value) (hw : ∀ d ∈ tables_1, d.before a0 Z = true) (ws : List Jvm.Cond) (a : Addr) (v : Addr) (kv : ClassId) (vs : List Value) (G1 : Int32) (G9 : Value) (h0 : Heap) (n0 : Nat) (Z0 : n0 ≤ h0.size) (hvd : vs.length = 1) (E0 : Exa Z h0 a "java/lang/StringBuilder") (F0 : Fld Z h0 a "java/lang/AbstractStringBuilder" "value" "[B" (.ref v)) (F1 : Fld Z h0 a "java/lang/AbstractStringBuilder" "coder" "B" (.int (0 : Int32))) (F2 : Fld Z h0 a "java/lang/AbstractStringBuilder" "count" "I" (.int (1 : Int32))) (A0 : Arv Z h0 v kv .byte (16 : Int32) vs (.int 0)) (S1 : Sta Z Z.heap "java/lang/String" "COMPACT_STRINGS" "Z" (.int G1)) (P1 : ¬ G1 = 0) (S9 : Sta Z Z.heap "jdk/internal/util/Preconditions" "SIOOBE_FORMATTER" "Ljava/util/function/BiFunction;" G9) (r9 : G9.isRef = true) (OL : Old Z n0 h0) :
    MetFree l y_32 (head1 (Jvm.Cond.code y_32 jdk_67_method_62_code 3 (some (.object "java/lang/String")) :: ws) ({ frames := 5, cells := 2, slots := 5, locals := 78 } : Room)) (fun aa_ U => aa_ = #[(.ref a), (.int (0 : Int32)), (.int (1 : Int32))] ∧ Z.Warmed39 U.vm ∧ U.heap = h0) (fun _ _ _ _ _ => True) (fun _ U o U' => ∃ vv_ LL_, o = .returned vv_ ∧ Q_ssu1 Z a v kv vs G1 G9 h0 n0 vv_ U'.heap LL_ ∧ FrameEnd U o U' LL_ 2 5) := by
  refine MetFree.of_bodySF (plainFor_of_name pn_java_lang_StringBuilder) hisR ?_
  intro p e s m args below meth c s₁ Bd hml0 hP hK
  obtain ⟨rfl, hZ, hh⟩ := hP
  have hx := Bd.exec
  have hby := Bd.bytes
  have hml : c.maxLocals = 3 := hml0
  have hown : s.vm.findClass "java/lang/StringBuilder" = some m.cls := findClass_of_methodNamed Bd.named
  have hnm := (name_of_methodNamed Bd.named Bd.method).1
  have X0 : Stand p l e ({ frames := 5, cells := 2, slots := 5, locals := 78 } : Room) s m #[(.ref a), (.int (0 : Int32)), (.int (1 : Int32))] below meth c s₁ [] 0 0 := Stand.of_body Bd
  have e0 : s₁.heap = h0 := by rw [← hh, Bd.state]; rfl
  have N0 := Fr.nil n0
  have ef : entryFrame m #[(.ref a), (.int (0 : Int32)), (.int (1 : Int32))] 3 = mkF m 0 #[.val (.ref a), .val (.int (0 : Int32)), .val (.int (1 : Int32))] [] := by first | (simp [entryFrame, mkF, argsToLocals, Value.category]; done) | rfl
  refine Fin.start (Q := Q_ssu1 Z a v kv vs G1 G9 h0 n0) ef ?_
  refine Fin.by (fun tt_ kk_ => XS.aloadN X0.here hx rfl (hb hby d32_0) rfl rfl (XS.iloadN X0.here hx rfl (hb hby d32_1) rfl (XS.iloadN X0.here hx rfl (hb hby d32_2) rfl kk_))) ?_
  obtain ⟨v101, _, ⟨T101, L101, k101, n101⟩, -, X101, ⟨Lc101, hQ101, l101, y101, z101⟩, st101⟩ := superBack X0 hx hZ (y := y_31) hown (w_ hw 114 rfl) (own_same (z := y_7) (y := y_31) (w_ hw 126 rfl) rfl (w_ hw 115 rfl) (by decide)) (w_ hw 115 rfl) (w_ hw 85 rfl) (by decide) (backOf (W := 0) (rm_asu1 l Z a0 hw [] a v kv (vs : List Value) G1 G9 h0 n0 Z0 hvd E0 F0 F1 F2 A0 S1 P1 S9 r9 OL) hZ (w_ hw 117 rfl) (w_ hw 26 rfl) (by decide) (by decide)) e0 (Ins.self E0) (g := (mkF m 3 #[.val (.ref a), .val (.int 0), .val (.int 1)] [(.int 1), (.int 0), (.ref a)])) rfl (by rw [hml]; rfl) (w_ hw 117 rfl) (argsL := [(.int 0), (.int 1)]) (rest := []) (lenOf pd_372 rfl) rfl (by show 2 * 0 + _ ≤ _; exact Nat.le_of_eq rfl) (hb hby d32_3) (fun _ _ => ⟨rfl, e0, (by decide : 0 + 2 ≤ _), (by decide : 0 + 5 ≤ _)⟩)
  dsimp only [Pt.U, Pt.locs, Pt.cells, Pt.slots] at X101 l101 y101 z101 st101 hQ101
  subst l101 y101 z101
  obtain ⟨x102, t103, k104, rfl, Nq101, p101_0, p101_1, p101_2, p101_3, p101_4, p101_5, p101_6⟩ := hQ101
  have N101_ := Fr.app N0 Nq101
  refine Fin.byS st101 ?_
  have kp105 : Keep h0 T101.heap [] := (Keep.refl h0 []).trans p101_0 all0
  show Fin _ _ _ _ _ _ _ (T101.setTop (mkF m 6 #[.val (.ref a), .val (.int 0), .val (.int 1)] [(.ref x102)]))
  exact Fin.ret (v := some (.ref x102)) X101 (fun h => by rw [Bd.returns] at h; cases h) Bd.notSynchronized (⟨x102, t103, k104, rfl, N101_, kp105, (Nat.le_trans (Nat.le_refl _) p101_1), (Nat.le_trans (Nat.le_refl _) p101_2), p101_3, p101_4, p101_5, p101_6⟩) (by decide) (by decide) (fun fs hr => retA X101 hx Bd.returns rfl rfl (hb hby d32_6) hr)
def Q_eci16_0 (Z : State) (a : Addr) (v : Addr) (kv : ClassId) (vs : List Value) (h0 : Heap) (n0 : Nat) (vv_ : Option Value) (hh_ : Heap) (LL_ : List Loc) : Prop := vv_ = none ∧ Fr n0 LL_ ∧ hh_ = h0
set_option maxRecDepth 65536 in
set_option maxHeartbeats 40000000 in
theorem rm_eci16_0 (l : Launch) (Z : State) (a0 : Array Value) (hw : ∀ d ∈ tables_1, d.before a0 Z = true) (ws : List Jvm.Cond) (a : Addr) (v : Addr) (kv : ClassId) (vs : List Value) (h0 : Heap) (n0 : Nat) (Z0 : n0 ≤ h0.size) (E0 : Exa Z h0 a "java/lang/StringBuilder") (F0 : Fld Z h0 a "java/lang/AbstractStringBuilder" "value" "[B" (.ref v)) (F1 : Fld Z h0 a "java/lang/AbstractStringBuilder" "coder" "B" (.int (0 : Int32))) (A0 : Arv Z h0 v kv .byte (16 : Int32) vs (.int 0)) :
    MetFree l y_10 (head1 (Jvm.Cond.code y_10 jdk_68_method_9_code 3 none :: ws) ({ frames := 0, cells := 0, slots := 0, locals := 0 } : Room)) (fun aa_ U => aa_ = #[(.ref a), (.int (0 : Int32))] ∧ Z.Warmed39 U.vm ∧ U.heap = h0) (fun _ _ _ _ _ => True) (fun _ U o U' => ∃ vv_ LL_, o = .returned vv_ ∧ Q_eci16_0 Z a v kv vs h0 n0 vv_ U'.heap LL_ ∧ FrameEnd U o U' LL_ 0 0) := by
  refine MetFree.of_bodySF (plainFor_of_name pn_java_lang_AbstractStringBuilder) hisR ?_
  intro p e s m args below meth c s₁ Bd hml0 hP hK
  obtain ⟨rfl, hZ, hh⟩ := hP
  have hx := Bd.exec
  have hby := Bd.bytes
  have hml : c.maxLocals = 3 := hml0
  have hown : s.vm.findClass "java/lang/AbstractStringBuilder" = some m.cls := findClass_of_methodNamed Bd.named
  have hnm := (name_of_methodNamed Bd.named Bd.method).1
  have X0 : Stand p l e ({ frames := 0, cells := 0, slots := 0, locals := 0 } : Room) s m #[(.ref a), (.int (0 : Int32))] below meth c s₁ [] 0 0 := Stand.of_body Bd
  have e0 : s₁.heap = h0 := by rw [← hh, Bd.state]; rfl
  have N0 := Fr.nil n0
  have ef : entryFrame m #[(.ref a), (.int (0 : Int32))] 3 = mkF m 0 #[.val (.ref a), .val (.int (0 : Int32)), .unset] [] := by first | (simp [entryFrame, mkF, argsToLocals, Value.category]; done) | rfl
  refine Fin.start (Q := Q_eci16_0 Z a v kv vs h0 n0) ef ?_
  refine Fin.by (fun tt_ kk_ => XS.aloadN X0.here hx rfl (hb hby d9_0) rfl rfl kk_) ?_
  obtain ⟨T101, X101, e101, st101⟩ := getF X0 hx hZ hown (host := "") (Or.inl (w_ hw 32 rfl)) Via.refl e0 F0 (g := (mkF m 1 #[.val (.ref a), .val (.int 0), .unset] [(.ref a)])) rfl rfl (hb hby d9_1)
  refine Fin.by (fun tt_ kk_ => st101 tt_ kk_) ?_
  obtain ⟨cl102, Ar102, q102, S102, N102, H102, G102⟩ := id A0
  refine Fin.by (fun tt_ kk_ => X101.arraylength hx (by rw [e101]; exact Ar102.1) (State.isArrayOf_alike hZ.alike Ar102.2.1) (g := (mkF m 4 #[.val (.ref a), .val (.int 0), .unset] [(.ref v)])) rfl rfl (hb hby d9_4) _ kk_) ?_
  rw [len_of S102 N102]
  refine Fin.by (fun tt_ kk_ => XS.aloadN X101.here hx rfl (hb hby d9_5) rfl rfl kk_) ?_
  obtain ⟨T103, X103, e103, st103⟩ := getF X101 hx hZ hown (host := "") (Or.inl (w_ hw 34 rfl)) Via.refl e101 F1 (g := (mkF m 6 #[.val (.ref a), .val (.int 0), .unset] [(.ref a), (.int 16)])) rfl rfl (hb hby d9_6)
  refine Fin.by (fun tt_ kk_ => st103 tt_ kk_) ?_
  refine Fin.by (fun tt_ kk_ => XS.ishr X103.here hx rfl (hb hby d9_9) rfl (XS.istoreN X103.here hx rfl (hb hby d9_10) rfl (l' := #[.val (.ref a), .val (.int 0), .val (.int 16)]) rfl (XS.iloadN X103.here hx rfl (hb hby d9_11) rfl (XS.iloadN X103.here hx rfl (hb hby d9_12) rfl (XS.isub X103.here hx rfl (hb hby d9_13) rfl kk_))))) ?_
  show Fin _ _ _ _ _ _ _ (T103.setTop (mkF m 14 #[.val (.ref a), .val (.int 0), .val (.int 16)] [(.int (-16 : Int32))]))
  refine Fin.by (fun tt_ kk_ => XS.ifYes X103.here hx rfl (pc0 := 14) (pc' := 38) rfl (hb hby d9_14) rfl ((if0 _ _).trans (flt (by decide : ¬ (0 : Int32) < (-16 : Int32))).2.2.2) (by decide) (by decide) kk_) ?_
  show Fin _ _ _ _ _ _ _ (T103.setTop (mkF m 38 #[.val (.ref a), .val (.int 0), .val (.int 16)] []))
  exact Fin.ret (v := none) X103 (fun _ => rfl) Bd.notSynchronized (by rw [e103]; exact ⟨rfl, N0, rfl⟩) (by decide) (by decide) (fun fs hr => X103.returnOut hx Bd.returns (hb hby d9_38) hr)
abbrev y_33 : MethodName := (⟨"java/lang/AbstractStringBuilder", "setLength", "(I)V"⟩ : MethodName)
theorem d33_0 : decode jdk_68_method_13_code 0 = .ok (.iload_n 1, 1) := by decide +kernel
theorem d33_1 : decode jdk_68_method_13_code 1 = .ok (.ifCond .ge 12, 3) := by decide +kernel
theorem d33_13 : decode jdk_68_method_13_code 13 = .ok (.aload_n 0, 1) := by decide +kernel
theorem d33_14 : decode jdk_68_method_13_code 14 = .ok (.iload_n 1, 1) := by decide +kernel
theorem d33_15 : decode jdk_68_method_13_code 15 = .ok (.invokevirtual 100, 3) := by decide +kernel
theorem d33_18 : decode jdk_68_method_13_code 18 = .ok (.aload_n 0, 1) := by decide +kernel
theorem d33_19 : decode jdk_68_method_13_code 19 = .ok (.getfield 79, 3) := by decide +kernel
theorem d33_22 : decode jdk_68_method_13_code 22 = .ok (.iload_n 1, 1) := by decide +kernel
theorem d33_23 : decode jdk_68_method_13_code 23 = .ok (.if_icmp .ge 40, 3) := by decide +kernel
theorem d33_63 : decode jdk_68_method_13_code 63 = .ok (.aload_n 0, 1) := by decide +kernel
theorem d33_64 : decode jdk_68_method_13_code 64 = .ok (.getfield 79, 3) := by decide +kernel
theorem d33_67 : decode jdk_68_method_13_code 67 = .ok (.iload_n 1, 1) := by decide +kernel
theorem d33_68 : decode jdk_68_method_13_code 68 = .ok (.if_icmp .le 8, 3) := by decide +kernel
theorem d33_71 : decode jdk_68_method_13_code 71 = .ok (.aload_n 0, 1) := by decide +kernel
theorem d33_72 : decode jdk_68_method_13_code 72 = .ok (.iconst 1, 1) := by decide +kernel
theorem d33_73 : decode jdk_68_method_13_code 73 = .ok (.putfield 73, 3) := by decide +kernel
theorem d33_76 : decode jdk_68_method_13_code 76 = .ok (.aload_n 0, 1) := by decide +kernel
theorem d33_77 : decode jdk_68_method_13_code 77 = .ok (.iload_n 1, 1) := by decide +kernel
theorem d33_78 : decode jdk_68_method_13_code 78 = .ok (.putfield 79, 3) := by decide +kernel
theorem d33_81 : decode jdk_68_method_13_code 81 = .ok (.return_, 1) := by decide +kernel
def Q_ase1 (Z : State) (a : Addr) (v : Addr) (kv : ClassId) (vs : List Value) (h0 : Heap) (n0 : Nat) (vv_ : Option Value) (hh_ : Heap) (LL_ : List Loc) : Prop := vv_ = none ∧ Fr n0 LL_ ∧ Keep h0 hh_ [a] ∧ Exa Z hh_ a "java/lang/StringBuilder" ∧ Fld Z hh_ a "java/lang/AbstractStringBuilder" "value" "[B" (.ref v) ∧ Fld Z hh_ a "java/lang/AbstractStringBuilder" "coder" "B" (.int (0 : Int32)) ∧ Fld Z hh_ a "java/lang/AbstractStringBuilder" "count" "I" (.int (0 : Int32))
set_option maxRecDepth 65536 in
set_option maxHeartbeats 40000000 in
theorem rm_ase1 (l : Launch) (Z : State) (a0 : Array Value) (hw : ∀ d ∈ tables_1, d.before a0 Z = true) (ws : List Jvm.Cond) (a : Addr) (v : Addr) (kv : ClassId) (vs : List Value) (h0 : Heap) (n0 : Nat) (Z0 : n0 ≤ h0.size) (E0 : Exa Z h0 a "java/lang/StringBuilder") (F0 : Fld Z h0 a "java/lang/AbstractStringBuilder" "value" "[B" (.ref v)) (F1 : Fld Z h0 a "java/lang/AbstractStringBuilder" "coder" "B" (.int (0 : Int32))) (F2 : Fld Z h0 a "java/lang/AbstractStringBuilder" "count" "I" (.int (1 : Int32))) (F9 : Fld Z h0 a "java/lang/AbstractStringBuilder" "maybeLatin1" "Z" (.int (0 : Int32))) (A0 : Arv Z h0 v kv .byte (16 : Int32) vs (.int 0)) (ga : n0 ≤ a) (na : a ≠ v) :
    MetFree l y_33 (head1 (Jvm.Cond.code y_33 jdk_68_method_13_code 2 none :: ws) ({ frames := 1, cells := 0, slots := 0, locals := 14 } : Room)) (fun aa_ U => aa_ = #[(.ref a), (.int (0 : Int32))] ∧ Z.Warmed39 U.vm ∧ U.heap = h0) (fun _ _ _ _ _ => True) (fun _ U o U' => ∃ vv_ LL_, o = .returned vv_ ∧ Q_ase1 Z a v kv vs h0 n0 vv_ U'.heap LL_ ∧ FrameEnd U o U' LL_ 0 0) := by
  refine MetFree.of_bodySF (plainFor_of_name pn_java_lang_AbstractStringBuilder) hisR ?_
  intro p e s m args below meth c s₁ Bd hml0 hP hK
  obtain ⟨rfl, hZ, hh⟩ := hP
  have hx := Bd.exec
  have hby := Bd.bytes
  have hml : c.maxLocals = 2 := hml0
  have hown : s.vm.findClass "java/lang/AbstractStringBuilder" = some m.cls := findClass_of_methodNamed Bd.named
  have hnm := (name_of_methodNamed Bd.named Bd.method).1
  have X0 : Stand p l e ({ frames := 1, cells := 0, slots := 0, locals := 14 } : Room) s m #[(.ref a), (.int (0 : Int32))] below meth c s₁ [] 0 0 := Stand.of_body Bd
  have e0 : s₁.heap = h0 := by rw [← hh, Bd.state]; rfl
  have N0 := Fr.nil n0
  have ef : entryFrame m #[(.ref a), (.int (0 : Int32))] 2 = mkF m 0 #[.val (.ref a), .val (.int (0 : Int32))] [] := by first | (simp [entryFrame, mkF, argsToLocals, Value.category]; done) | rfl
  refine Fin.start (Q := Q_ase1 Z a v kv vs h0 n0) ef ?_
  refine Fin.by (fun tt_ kk_ => XS.iloadN X0.here hx rfl (hb hby d33_0) rfl kk_) ?_
  show Fin _ _ _ _ _ _ _ (s₁.setTop (mkF m 1 #[.val (.ref a), .val (.int 0)] [(.int 0)]))
  refine Fin.by (fun tt_ kk_ => XS.ifYes X0.here hx rfl (pc0 := 1) (pc' := 13) rfl (hb hby d33_1) rfl ((if0 _ _).trans (flt (by decide : ¬ (0 : Int32) < (0 : Int32))).2.1) (by decide) (by decide) kk_) ?_
  refine Fin.by (fun tt_ kk_ => XS.aloadN X0.here hx rfl (hb hby d33_13) rfl rfl (XS.iloadN X0.here hx rfl (hb hby d33_14) rfl kk_)) ?_
  obtain ⟨cq101, qa101, qb101⟩ := E0.cell
  obtain ⟨v101, _, ⟨T101, L101, k101, n101⟩, -, X101, ⟨Lc101, hQ101, l101, y101, z101⟩, st101⟩ := X0.privateBack hx (y := y_10) hown (mvT hZ (w_ hw 170 rfl)) (mvT hZ (w_ hw 171 rfl)) (own_selpriv (z := y_7) (y := y_10) (mvT hZ (w_ hw 126 rfl)) rfl (Cond.privateMethod_at (mvP hZ (w_ hw 172 rfl) (args := #[]))) (mvT hZ (w_ hw 171 rfl)) (by decide)) (Cond.privateMethod_at (mvP hZ (w_ hw 172 rfl) (args := #[]))) (mvT hZ (w_ hw 174 rfl)) (by decide) (backOf (W := 0) (rm_eci16_0 l Z a0 hw [] a v kv (vs : List Value) h0 n0 Z0 E0 F0 F1 A0) hZ (w_ hw 174 rfl) (w_ hw 26 rfl) (by decide) (by decide)) (g := (mkF m 15 #[.val (.ref a), .val (.int 0)] [(.int 0), (.ref a)])) rfl (by rw [hml]; rfl) (Steps.refl _) (a := a) (by rw [e0]; exact qa101) qb101 (argsL := [(.int 0)]) (rest := []) (lenOf pd_16 rfl) rfl (by show 2 * 0 + _ ≤ _; exact Nat.le_of_eq rfl) (hb hby d33_15) (fun _ _ => ⟨rfl, e0, (by decide : 0 + 0 ≤ _), (by decide : 0 + 0 ≤ _)⟩)
  dsimp only [Pt.U, Pt.locs, Pt.cells, Pt.slots] at X101 l101 y101 z101 st101 hQ101
  subst l101 y101 z101
  obtain ⟨rfl, Nq101, e101_⟩ := hQ101
  have N101_ := Fr.app N0 Nq101
  refine Fin.byS st101 ?_
  have e101 := e101_
  refine Fin.by (fun tt_ kk_ => XS.aloadN X101.here hx rfl (hb hby d33_18) rfl rfl kk_) ?_
  obtain ⟨T102, X102, e102, st102⟩ := getF X101 hx hZ hown (host := "") (Or.inl (w_ hw 88 rfl)) Via.refl e101 F2 (g := (mkF m 19 #[.val (.ref a), .val (.int 0)] [(.ref a)])) rfl rfl (hb hby d33_19)
  refine Fin.by (fun tt_ kk_ => st102 tt_ kk_) ?_
  refine Fin.by (fun tt_ kk_ => XS.iloadN X102.here hx rfl (hb hby d33_22) rfl kk_) ?_
  show Fin _ _ _ _ _ _ _ (T102.setTop (mkF m 23 #[.val (.ref a), .val (.int 0)] [(.int 0), (.int 1)]))
  refine Fin.by (fun tt_ kk_ => XS.icmpYes X102.here hx rfl (pc0 := 23) (pc' := 63) rfl (hb hby d33_23) rfl (flt (by decide : ¬ (1 : Int32) < (0 : Int32))).2.1 (by decide) (by decide) kk_) ?_
  refine Fin.by (fun tt_ kk_ => XS.aloadN X102.here hx rfl (hb hby d33_63) rfl rfl kk_) ?_
  obtain ⟨T103, X103, e103, st103⟩ := getF X102 hx hZ hown (host := "") (Or.inl (w_ hw 88 rfl)) Via.refl e102 F2 (g := (mkF m 64 #[.val (.ref a), .val (.int 0)] [(.ref a)])) rfl rfl (hb hby d33_64)
  refine Fin.by (fun tt_ kk_ => st103 tt_ kk_) ?_
  refine Fin.by (fun tt_ kk_ => XS.iloadN X103.here hx rfl (hb hby d33_67) rfl kk_) ?_
  show Fin _ _ _ _ _ _ _ (T103.setTop (mkF m 68 #[.val (.ref a), .val (.int 0)] [(.int 0), (.int 1)]))
  refine Fin.by (fun tt_ kk_ => XS.icmpNo X103.here hx rfl (hb hby d33_68) rfl (tlt (by decide : (0 : Int32) < (1 : Int32))).2.2.2 kk_) ?_
  refine Fin.by (fun tt_ kk_ => XS.aloadN X103.here hx rfl (hb hby d33_71) rfl rfl (XS.iconst X103.here hx rfl (hb hby d33_72) kk_)) ?_
  obtain ⟨T104, h104, X104, e104, W104, st104⟩ := putFN X103 hx hZ hown (w_ hw 272 rfl) Via.refl e103 F9 E0 (Or.inl (w_ hw 273 rfl)) (w_ hw 17 rfl) (ty := .boolean) (v' := .int (1 : Int32)) (by decide) rfl rfl (g := (mkF m 73 #[.val (.ref a), .val (.int 0)] [(.int 1), (.ref a)])) rfl rfl (hb hby d33_73)
  refine Fin.by (fun tt_ kk_ => st104 tt_ kk_) ?_
  have N104_ := Fr.snoc X104 N101_ ga
  refine Fin.by (fun tt_ kk_ => XS.aloadN X104.here hx rfl (hb hby d33_76) rfl rfl (XS.iloadN X104.here hx rfl (hb hby d33_77) rfl kk_)) ?_
  have F105 : Fld Z h104 a "java/lang/AbstractStringBuilder" "count" "I" (.int (1 : Int32)) := (F2.other W104 (Or.inr (slot_ne (Or.inl (w_ hw 89 rfl)) (Or.inl (w_ hw 273 rfl)) (by decide) (t := .int) (t' := .boolean) (by decide) (by decide))))
  have E106 : Exa Z h104 a "java/lang/StringBuilder" := (E0.wr W104)
  obtain ⟨T107, h107, X107, e107, W107, st107⟩ := putF X104 hx hZ hown (host := "") (Or.inl (w_ hw 88 rfl)) Via.refl e104 F105 E106 (Or.inl (w_ hw 89 rfl)) (w_ hw 17 rfl) (ty := .int) (by decide) rfl rfl (g := (mkF m 78 #[.val (.ref a), .val (.int 0)] [(.int 0), (.ref a)])) rfl rfl (hb hby d33_78)
  refine Fin.by (fun tt_ kk_ => st107 tt_ kk_) ?_
  have N107_ := Fr.snoc X107 N104_ ga
  have kp108 : Keep h0 h104 [a] := (Keep.refl h0 [a]).wr W104 (Or.inl (List.mem_of_getElem? (i := 0) rfl))
  have kp109 : Keep h0 h107 [a] := kp108.wr W107 (Or.inl (List.mem_of_getElem? (i := 0) rfl))
  have E110 : Exa Z h107 a "java/lang/StringBuilder" := (E106.wr W107)
  have F111 : Fld Z h107 a "java/lang/AbstractStringBuilder" "value" "[B" (.ref v) := ((F0.other W104 (Or.inr (slot_ne (Or.inl (w_ hw 33 rfl)) (Or.inl (w_ hw 273 rfl)) (by decide) (t := (.array .byte)) (t' := .boolean) (by decide) (by decide)))).other W107 (Or.inr (slot_ne (Or.inl (w_ hw 33 rfl)) (Or.inl (w_ hw 89 rfl)) (by decide) (t := (.array .byte)) (t' := .int) (by decide) (by decide))))
  have F112 : Fld Z h107 a "java/lang/AbstractStringBuilder" "coder" "B" (.int (0 : Int32)) := ((F1.other W104 (Or.inr (slot_ne (Or.inl (w_ hw 35 rfl)) (Or.inl (w_ hw 273 rfl)) (by decide) (t := .byte) (t' := .boolean) (by decide) (by decide)))).other W107 (Or.inr (slot_ne (Or.inl (w_ hw 35 rfl)) (Or.inl (w_ hw 89 rfl)) (by decide) (t := .byte) (t' := .int) (by decide) (by decide))))
  show Fin _ _ _ _ _ _ _ (T107.setTop (mkF m 81 #[.val (.ref a), .val (.int 0)] []))
  exact Fin.ret (v := none) X107 (fun _ => rfl) Bd.notSynchronized (by rw [e107]; exact ⟨rfl, N107_, kp109, E110, F111, F112, (F105.same W107)⟩) (by decide) (by decide) (fun fs hr => X107.returnOut hx Bd.returns (hb hby d33_81) hr)
abbrev y_34 : MethodName := (⟨"java/lang/StringBuilder", "setLength", "(I)V"⟩ : MethodName)
theorem d34_0 : decode jdk_67_method_89_code 0 = .ok (.aload_n 0, 1) := by decide +kernel
theorem d34_1 : decode jdk_67_method_89_code 1 = .ok (.iload_n 1, 1) := by decide +kernel
theorem d34_2 : decode jdk_67_method_89_code 2 = .ok (.invokespecial 333, 3) := by decide +kernel
theorem d34_5 : decode jdk_67_method_89_code 5 = .ok (.return_, 1) := by decide +kernel
def Q_sse1 (Z : State) (a : Addr) (v : Addr) (kv : ClassId) (vs : List Value) (h0 : Heap) (n0 : Nat) (vv_ : Option Value) (hh_ : Heap) (LL_ : List Loc) : Prop := vv_ = none ∧ Fr n0 LL_ ∧ Keep h0 hh_ [a] ∧ Exa Z hh_ a "java/lang/StringBuilder" ∧ Fld Z hh_ a "java/lang/AbstractStringBuilder" "value" "[B" (.ref v) ∧ Fld Z hh_ a "java/lang/AbstractStringBuilder" "coder" "B" (.int (0 : Int32)) ∧ Fld Z hh_ a "java/lang/AbstractStringBuilder" "count" "I" (.int (0 : Int32))
set_option maxRecDepth 65536 in
set_option maxHeartbeats 40000000 in
theorem rm_sse1 (l : Launch) (Z : State) (a0 : Array Value) (hw : ∀ d ∈ tables_1, d.before a0 Z = true) (ws : List Jvm.Cond) (a : Addr) (v : Addr) (kv : ClassId) (vs : List Value) (h0 : Heap) (n0 : Nat) (Z0 : n0 ≤ h0.size) (E0 : Exa Z h0 a "java/lang/StringBuilder") (F0 : Fld Z h0 a "java/lang/AbstractStringBuilder" "value" "[B" (.ref v)) (F1 : Fld Z h0 a "java/lang/AbstractStringBuilder" "coder" "B" (.int (0 : Int32))) (F2 : Fld Z h0 a "java/lang/AbstractStringBuilder" "count" "I" (.int (1 : Int32))) (F9 : Fld Z h0 a "java/lang/AbstractStringBuilder" "maybeLatin1" "Z" (.int (0 : Int32))) (A0 : Arv Z h0 v kv .byte (16 : Int32) vs (.int 0)) (ga : n0 ≤ a) (na : a ≠ v) :
    MetFree l y_34 (head1 (Jvm.Cond.code y_34 jdk_67_method_89_code 2 none :: ws) ({ frames := 2, cells := 0, slots := 0, locals := 27 } : Room)) (fun aa_ U => aa_ = #[(.ref a), (.int (0 : Int32))] ∧ Z.Warmed39 U.vm ∧ U.heap = h0) (fun _ _ _ _ _ => True) (fun _ U o U' => ∃ vv_ LL_, o = .returned vv_ ∧ Q_sse1 Z a v kv vs h0 n0 vv_ U'.heap LL_ ∧ FrameEnd U o U' LL_ 0 0) := by
  refine MetFree.of_bodySF (plainFor_of_name pn_java_lang_StringBuilder) hisR ?_
  intro p e s m args below meth c s₁ Bd hml0 hP hK
  obtain ⟨rfl, hZ, hh⟩ := hP
  have hx := Bd.exec
  have hby := Bd.bytes
  have hml : c.maxLocals = 2 := hml0
  have hown : s.vm.findClass "java/lang/StringBuilder" = some m.cls := findClass_of_methodNamed Bd.named
  have hnm := (name_of_methodNamed Bd.named Bd.method).1
  have X0 : Stand p l e ({ frames := 2, cells := 0, slots := 0, locals := 27 } : Room) s m #[(.ref a), (.int (0 : Int32))] below meth c s₁ [] 0 0 := Stand.of_body Bd
  have e0 : s₁.heap = h0 := by rw [← hh, Bd.state]; rfl
  have N0 := Fr.nil n0
  have ef : entryFrame m #[(.ref a), (.int (0 : Int32))] 2 = mkF m 0 #[.val (.ref a), .val (.int (0 : Int32))] [] := by first | (simp [entryFrame, mkF, argsToLocals, Value.category]; done) | rfl
  refine Fin.start (Q := Q_sse1 Z a v kv vs h0 n0) ef ?_
  refine Fin.by (fun tt_ kk_ => XS.aloadN X0.here hx rfl (hb hby d34_0) rfl rfl (XS.iloadN X0.here hx rfl (hb hby d34_1) rfl kk_)) ?_
  obtain ⟨v101, _, ⟨T101, L101, k101, n101⟩, -, X101, ⟨Lc101, hQ101, l101, y101, z101⟩, st101⟩ := superBack X0 hx hZ (y := y_33) hown (w_ hw 166 rfl) (own_same (z := y_7) (y := y_33) (w_ hw 126 rfl) rfl (w_ hw 167 rfl) (by decide)) (w_ hw 167 rfl) (w_ hw 85 rfl) (by decide) (backOf (W := 0) (rm_ase1 l Z a0 hw [] a v kv (vs : List Value) h0 n0 Z0 E0 F0 F1 F2 F9 A0 ga na) hZ (w_ hw 169 rfl) (w_ hw 26 rfl) (by decide) (by decide)) e0 (Ins.self E0) (g := (mkF m 2 #[.val (.ref a), .val (.int 0)] [(.int 0), (.ref a)])) rfl (by rw [hml]; rfl) (w_ hw 169 rfl) (argsL := [(.int 0)]) (rest := []) (lenOf pd_16 rfl) rfl (by show 2 * 0 + _ ≤ _; exact Nat.le_of_eq rfl) (hb hby d34_2) (fun _ _ => ⟨rfl, e0, (by decide : 0 + 0 ≤ _), (by decide : 0 + 0 ≤ _)⟩)
  dsimp only [Pt.U, Pt.locs, Pt.cells, Pt.slots] at X101 l101 y101 z101 st101 hQ101
  subst l101 y101 z101
  obtain ⟨rfl, Nq101, p101_0, p101_1, p101_2, p101_3, p101_4⟩ := hQ101
  have N101_ := Fr.app N0 Nq101
  refine Fin.byS st101 ?_
  have kp102 : Keep h0 T101.heap [a] := (Keep.refl h0 [a]).trans p101_0 (allS (Or.inl (List.mem_of_getElem? (i := 0) rfl)) all0)
  show Fin _ _ _ _ _ _ _ (T101.setTop (mkF m 5 #[.val (.ref a), .val (.int 0)] []))
  exact Fin.ret (v := none) X101 (fun _ => rfl) Bd.notSynchronized (⟨rfl, N101_, kp102, p101_1, p101_2, p101_3, p101_4⟩) (by decide) (by decide) (fun fs hr => X101.returnOut hx Bd.returns (hb hby d34_5) hr)
abbrev y_35 : MethodName := (⟨"com/example/colonnade/colonnade/TextSpool", "take", "(J)Lcom/example/colonnade/colonnade/SpooledText;"⟩ : MethodName)
theorem d35_0 : decode prog_103_method_6_code 0 = .ok (.aload_n 0, 1) := by decide +kernel
theorem d35_1 : decode prog_103_method_6_code 1 = .ok (.getfield 37, 3) := by decide +kernel
theorem d35_4 : decode prog_103_method_6_code 4 = .ok (.ifnonnull 31, 3) := by decide +kernel
theorem d35_7 : decode prog_103_method_6_code 7 = .ok (.new 46, 3) := by decide +kernel
theorem d35_10 : decode prog_103_method_6_code 10 = .ok (.dup, 1) := by decide +kernel
theorem d35_11 : decode prog_103_method_6_code 11 = .ok (.aload_n 0, 1) := by decide +kernel
theorem d35_12 : decode prog_103_method_6_code 12 = .ok (.getfield 10, 3) := by decide +kernel
theorem d35_15 : decode prog_103_method_6_code 15 = .ok (.iconst 0, 1) := by decide +kernel
theorem d35_16 : decode prog_103_method_6_code 16 = .ok (.lload_n 1, 1) := by decide +kernel
theorem d35_17 : decode prog_103_method_6_code 17 = .ok (.l2i, 1) := by decide +kernel
theorem d35_18 : decode prog_103_method_6_code 18 = .ok (.invokevirtual 48, 3) := by decide +kernel
theorem pd_410 : parseMethodDescriptor "(Ljava/lang/String;)V" = some ⟨[(.object "java/lang/String")], none⟩ := by decide +kernel
theorem d35_21 : decode prog_103_method_6_code 21 = .ok (.invokespecial 52, 3) := by decide +kernel
theorem d35_24 : decode prog_103_method_6_code 24 = .ok (.astore_n 3, 1) := by decide +kernel
theorem d35_25 : decode prog_103_method_6_code 25 = .ok (.aload_n 0, 1) := by decide +kernel
theorem d35_26 : decode prog_103_method_6_code 26 = .ok (.getfield 10, 3) := by decide +kernel
theorem d35_29 : decode prog_103_method_6_code 29 = .ok (.iconst 0, 1) := by decide +kernel
theorem d35_30 : decode prog_103_method_6_code 30 = .ok (.invokevirtual 55, 3) := by decide +kernel
theorem d35_33 : decode prog_103_method_6_code 33 = .ok (.aload_n 3, 1) := by decide +kernel
theorem d35_34 : decode prog_103_method_6_code 34 = .ok (.areturn, 1) := by decide +kernel
def Q_tak1 (Z : State) (b : Addr) (sb : Addr) (v : Addr) (kv : ClassId) (vs : List Value) (G1 : Int32) (G9 : Value) (h0 : Heap) (n0 : Nat) (vv_ : Option Value) (hh_ : Heap) (LL_ : List Loc) : Prop := ∃ (y : Addr), vv_ = some (.ref y) ∧ Fr n0 LL_ ∧ Keep h0 hh_ [sb] ∧ h0.size ≤ y ∧ Exa Z hh_ y "com/example/colonnade/colonnade/SpooledText" ∧ Exa Z hh_ sb "java/lang/StringBuilder" ∧ Fld Z hh_ sb "java/lang/AbstractStringBuilder" "value" "[B" (.ref v) ∧ Fld Z hh_ sb "java/lang/AbstractStringBuilder" "coder" "B" (.int (0 : Int32)) ∧ Fld Z hh_ sb "java/lang/AbstractStringBuilder" "count" "I" (.int (0 : Int32))
set_option maxRecDepth 65536 in
set_option maxHeartbeats 40000000 in
theorem rm_tak1 (l : Launch) (Z : State) (a0 : Array Value) (hw : ∀ d ∈ tables_1, d.before a0 Z = true) (ws : List Jvm.Cond) (b : Addr) (sb : Addr) (v : Addr) (kv : ClassId) (vs : List Value) (G1 : Int32) (G9 : Value) (h0 : Heap) (n0 : Nat) (Z0 : n0 ≤ h0.size) (hvd : vs.length = 1) (T0 : Exa Z h0 b "com/example/colonnade/colonnade/TextSpool") (T1 : Fld Z h0 b "com/example/colonnade/colonnade/TextSpool" "chars" "Ljava/lang/StringBuilder;" (.ref sb)) (T2 : Fld Z h0 b "com/example/colonnade/colonnade/TextSpool" "charsInMemory" "I" (.int (1000 : Int32))) (T3 : Fld Z h0 b "com/example/colonnade/colonnade/TextSpool" "file" "Lcom/example/colonnade/colonnade/SpoolFile;" .null) (S_0 : Exa Z h0 sb "java/lang/StringBuilder") (S_1 : Fld Z h0 sb "java/lang/AbstractStringBuilder" "value" "[B" (.ref v)) (S_2 : Fld Z h0 sb "java/lang/AbstractStringBuilder" "coder" "B" (.int (0 : Int32))) (S_3 : Fld Z h0 sb "java/lang/AbstractStringBuilder" "count" "I" (.int (1 : Int32))) (S_4 : Fld Z h0 sb "java/lang/AbstractStringBuilder" "maybeLatin1" "Z" (.int (0 : Int32))) (A0 : Arv Z h0 v kv .byte (16 : Int32) vs (.int 0)) (gs : n0 ≤ sb) (n1 : sb ≠ v) (n2 : b ≠ sb) (S1 : Sta Z Z.heap "java/lang/String" "COMPACT_STRINGS" "Z" (.int G1)) (P1 : ¬ G1 = 0) (S9 : Sta Z Z.heap "jdk/internal/util/Preconditions" "SIOOBE_FORMATTER" "Ljava/util/function/BiFunction;" G9) (r9 : G9.isRef = true) (OL : Old Z n0 h0) :
    MetFree l y_35 (head1 (Jvm.Cond.code y_35 prog_103_method_6_code 4 (some (.object "com/example/colonnade/colonnade/SpooledText")) :: ws) ({ frames := 6, cells := 3, slots := 8, locals := 94 } : Room)) (fun aa_ U => aa_ = #[(.ref b), (.long (1 : Int64))] ∧ Z.Warmed39 U.vm ∧ U.heap = h0) (fun _ _ _ _ _ => True) (fun _ U o U' => ∃ vv_ LL_, o = .returned vv_ ∧ Q_tak1 Z b sb v kv vs G1 G9 h0 n0 vv_ U'.heap LL_ ∧ FrameEnd U o U' LL_ 3 8) := by
  refine MetFree.of_bodySF (plainFor_of_name pn_com_example_colonnade_colonnade_TextSpool) hisR ?_
  intro p e s m args below meth c s₁ Bd hml0 hP hK
  obtain ⟨rfl, hZ, hh⟩ := hP
  have hx := Bd.exec
  have hby := Bd.bytes
  have hml : c.maxLocals = 4 := hml0
  have hown : s.vm.findClass "com/example/colonnade/colonnade/TextSpool" = some m.cls := findClass_of_methodNamed Bd.named
  have hnm := (name_of_methodNamed Bd.named Bd.method).1
  have X0 : Stand p l e ({ frames := 6, cells := 3, slots := 8, locals := 94 } : Room) s m #[(.ref b), (.long (1 : Int64))] below meth c s₁ [] 0 0 := Stand.of_body Bd
  have e0 : s₁.heap = h0 := by rw [← hh, Bd.state]; rfl
  have N0 := Fr.nil n0
  have ef : entryFrame m #[(.ref b), (.long (1 : Int64))] 4 = mkF m 0 #[.val (.ref b), .val (.long (1 : Int64)), .second, .unset] [] := by first | (simp [entryFrame, mkF, argsToLocals, Value.category]; done) | rfl
  refine Fin.start (Q := Q_tak1 Z b sb v kv vs G1 G9 h0 n0) ef ?_
  refine Fin.by (fun tt_ kk_ => XS.aloadN X0.here hx rfl (hb hby d35_0) rfl rfl kk_) ?_
  obtain ⟨T101, X101, e101, st101⟩ := getF X0 hx hZ hown (host := "") (Or.inl (w_ hw 76 rfl)) Via.refl e0 T3 (g := (mkF m 1 #[.val (.ref b), .val (.long (1 : Int64)), .second, .unset] [(.ref b)])) rfl rfl (hb hby d35_1)
  refine Fin.by (fun tt_ kk_ => st101 tt_ kk_) ?_
  refine Fin.by (fun tt_ kk_ => XS.ifnonnullNo X101.here hx rfl (hb hby d35_4) rfl kk_) ?_
  obtain ⟨T102, h102, X102, e102, E102, A102, D102, -, st102⟩ := newO X101 hx hZ hown (w_ hw 106 rfl) (w_ hw 107 rfl) (w_ hw 108 rfl) e101 (g := (mkF m 7 #[.val (.ref b), .val (.long (1 : Int64)), .second, .unset] [])) rfl (hb hby d35_7) (by decide) (by decide)
  obtain ⟨a102, g102⟩ : ∃ z, z = h0.size := ⟨_, rfl⟩
  rw [← g102] at A102 D102 st102
  refine Fin.by (fun tt_ kk_ => st102 tt_ kk_) ?_
  refine Fin.by (fun tt_ kk_ => XS.dup X102.here hx rfl (hb hby d35_10) rfl rfl (XS.aloadN X102.here hx rfl (hb hby d35_11) rfl rfl kk_)) ?_
  have F103 : Fld Z h102 b "com/example/colonnade/colonnade/TextSpool" "chars" "Ljava/lang/StringBuilder;" (.ref sb) := (T1.ext E102)
  obtain ⟨T104, X104, e104, st104⟩ := getF X102 hx hZ hown (host := "") (Or.inl (w_ hw 36 rfl)) Via.refl e102 F103 (g := (mkF m 12 #[.val (.ref b), .val (.long (1 : Int64)), .second, .unset] [(.ref b), (.ref a102), (.ref a102)])) rfl rfl (hb hby d35_12)
  refine Fin.by (fun tt_ kk_ => st104 tt_ kk_) ?_
  refine Fin.by (fun tt_ kk_ => XS.iconst X104.here hx rfl (hb hby d35_15) (XS.lloadN X104.here hx rfl (hb hby d35_16) rfl (XS.l2i X104.here hx rfl (hb hby d35_17) rfl kk_))) ?_
  have E105 : Exa Z h102 sb "java/lang/StringBuilder" := (S_0.ext E102)
  have F106 : Fld Z h102 sb "java/lang/AbstractStringBuilder" "value" "[B" (.ref v) := (S_1.ext E102)
  have F107 : Fld Z h102 sb "java/lang/AbstractStringBuilder" "coder" "B" (.int (0 : Int32)) := (S_2.ext E102)
  have F108 : Fld Z h102 sb "java/lang/AbstractStringBuilder" "count" "I" (.int (1 : Int32)) := (S_3.ext E102)
  have A109 : Arv Z h102 v kv .byte (16 : Int32) vs (.int 0) := (A0.ext E102)
  have O110 : Old Z n0 h102 := (OL.ext E102)
  have z111 : n0 ≤ h102.size := Nat.le_trans Z0 E102.1
  obtain ⟨cq112, kq112, qa112, qb112, qc112⟩ := isOf hZ e104 E105
  obtain ⟨v112, _, ⟨T112, L112, k112, n112⟩, -, X112, ⟨Lc112, hQ112, l112, y112, z112⟩, st112⟩ := X104.virtualBack hx (y := y_32) (z := y_32) hown (mvT hZ (w_ hw 109 rfl)) (mvT hZ (w_ hw 110 rfl)) (notFace_of_selects (args := #[]) (mvT hZ (w_ hw 112 rfl))) (mvT hZ (w_ hw 112 rfl)) (mvT hZ (w_ hw 111 rfl)) (by decide) (backOf (W := 2) (rm_ssu1 l Z a0 hw [] sb v kv (vs : List Value) G1 G9 h102 n0 z111 hvd E105 F106 F107 F108 A109 S1 P1 S9 r9 O110) hZ (w_ hw 113 rfl) (w_ hw 18 rfl) (by decide) (by decide)) qa112 qc112 (g := (mkF m 18 #[.val (.ref b), .val (.long (1 : Int64)), .second, .unset] [(.int 1), (.int 0), (.ref sb), (.ref a102), (.ref a102)])) rfl (by rw [hml]; rfl) (Steps.refl _) (argsL := [(.int 0), (.int 1)]) (rest := [(.ref a102), (.ref a102)]) (lenOf pd_372 rfl) rfl (by show 2 * 0 + _ ≤ _; exact Nat.le_of_eq rfl) (hb hby d35_18) (fun _ _ => ⟨rfl, e104, (by decide : 1 + 2 ≤ _), (by decide : 3 + 5 ≤ _)⟩)
  dsimp only [Pt.U, Pt.locs, Pt.cells, Pt.slots] at X112 l112 y112 z112 st112 hQ112
  subst l112 y112 z112
  obtain ⟨x113, t114, k115, rfl, Nq112, p112_0, p112_1, p112_2, p112_3, p112_4, p112_5, p112_6⟩ := hQ112
  have N112_ := Fr.app N0 Nq112
  refine Fin.byS st112 ?_
  have E116 : Exa Z T112.heap a102 "com/example/colonnade/colonnade/SpooledText" := (A102.keep p112_0)
  have F117 : Fld Z T112.heap a102 "com/example/colonnade/colonnade/SpooledText" "text" "Ljava/lang/String;" .null := ((D102 (Or.inr (w_ hw 143 rfl)) (ty := (.object "java/lang/String")) (by decide) : Fld Z h102 a102 "com/example/colonnade/colonnade/SpooledText" "text" "Ljava/lang/String;" .null).keep p112_0 nin0)
  have F118 : Fld Z T112.heap a102 "com/example/colonnade/colonnade/SpooledText" "file" "Lcom/example/colonnade/colonnade/SpoolFile;" .null := ((D102 (Or.inr (w_ hw 145 rfl)) (ty := (.object "com/example/colonnade/colonnade/SpoolFile")) (by decide) : Fld Z h102 a102 "com/example/colonnade/colonnade/SpooledText" "file" "Lcom/example/colonnade/colonnade/SpoolFile;" .null).keep p112_0 nin0)
  have F119 : Fld Z T112.heap a102 "com/example/colonnade/colonnade/SpooledText" "length" "J" (.long (0 : Int64)) := ((D102 (Or.inr (w_ hw 160 rfl)) (ty := .long) (by decide) : Fld Z h102 a102 "com/example/colonnade/colonnade/SpooledText" "length" "J" (.long (0 : Int64))).keep p112_0 nin0)
  have g120 : n0 ≤ a102 := Nat.le_trans Z0 (Nat.le_of_eq g102.symm)
  have ne121 : a102 ≠ x113 := Nat.ne_of_lt (Nat.lt_of_lt_of_le A102.lt p112_1)
  have ne122 : a102 ≠ t114 := Nat.ne_of_lt (Nat.lt_of_lt_of_le A102.lt p112_2)
  have O123 : Old Z n0 T112.heap := (O110.keep p112_0 all0)
  have z124 : n0 ≤ T112.heap.size := Nat.le_trans z111 p112_0.1
  obtain ⟨v125, _, ⟨T125, L125, k125, n125⟩, -, X125, ⟨Lc125, hQ125, l125, y125, z125⟩, st125⟩ := X112.specialBack hx (y := y_22) rfl hown (mvT hZ (w_ hw 138 rfl)) (mvT hZ (w_ hw 139 rfl)) (mvT hZ (w_ hw 140 rfl)) (by decide) (backOf (W := 1) (rm_stx l Z a0 hw [] a102 x113 t114 k115 ((vs : List Value) : List Value) (1 : Int32) G1 T112.heap n0 z124 E116 F117 F118 F119 g120 p112_3 p112_4 p112_5 p112_6 (Ne.symm ne121) (Ne.symm ne122) S1 P1 O123) hZ (w_ hw 140 rfl) (w_ hw 108 rfl) (by decide) (by decide)) (g := (mkF m 21 #[.val (.ref b), .val (.long (1 : Int64)), .second, .unset] [(.ref x113), (.ref a102), (.ref a102)])) rfl (by rw [hml]; rfl) (Steps.refl _) (a := a102) (argsL := [(.ref x113)]) (rest := [(.ref a102)]) (lenOf pd_410 rfl) rfl (by show 2 * 0 + _ ≤ _; exact Nat.le_of_eq rfl) (hb hby d35_21) (fun _ _ => ⟨rfl, rfl, (by decide : 3 + 0 ≤ _), (by decide : 8 + 0 ≤ _)⟩)
  dsimp only [Pt.U, Pt.locs, Pt.cells, Pt.slots] at X125 l125 y125 z125 st125 hQ125
  subst l125 y125 z125
  obtain ⟨rfl, Nq125, p125_0, p125_1⟩ := hQ125
  have N125_ := Fr.app N112_ Nq125
  refine Fin.byS st125 ?_
  refine Fin.by (fun tt_ kk_ => XS.astoreN X125.here hx rfl (hb hby d35_24) rfl rfl (l' := #[.val (.ref b), .val (.long (1 : Int64)), .second, .val (.ref a102)]) rfl (XS.aloadN X125.here hx rfl (hb hby d35_25) rfl rfl kk_)) ?_
  have ne126 : b ≠ a102 := Nat.ne_of_lt (Nat.lt_of_lt_of_le T0.lt (Nat.le_of_eq g102.symm))
  have F127 : Fld Z T125.heap b "com/example/colonnade/colonnade/TextSpool" "chars" "Ljava/lang/StringBuilder;" (.ref sb) := ((F103.keep p112_0 nin0).keep p125_0 (ninS ne126 nin0))
  obtain ⟨T128, X128, e128, st128⟩ := getF X125 hx hZ hown (host := "") (Or.inl (w_ hw 36 rfl)) Via.refl rfl F127 (g := (mkF m 26 #[.val (.ref b), .val (.long (1 : Int64)), .second, .val (.ref a102)] [(.ref b)])) rfl rfl (hb hby d35_26)
  refine Fin.by (fun tt_ kk_ => st128 tt_ kk_) ?_
  refine Fin.by (fun tt_ kk_ => XS.iconst X128.here hx rfl (hb hby d35_29) kk_) ?_
  have E129 : Exa Z T125.heap sb "java/lang/StringBuilder" := ((E105.keep p112_0).keep p125_0)
  have ne130 : sb ≠ a102 := Nat.ne_of_lt (Nat.lt_of_lt_of_le S_0.lt (Nat.le_of_eq g102.symm))
  have F131 : Fld Z T125.heap sb "java/lang/AbstractStringBuilder" "value" "[B" (.ref v) := ((F106.keep p112_0 nin0).keep p125_0 (ninS ne130 nin0))
  have F132 : Fld Z T125.heap sb "java/lang/AbstractStringBuilder" "coder" "B" (.int (0 : Int32)) := ((F107.keep p112_0 nin0).keep p125_0 (ninS ne130 nin0))
  have F133 : Fld Z T125.heap sb "java/lang/AbstractStringBuilder" "count" "I" (.int (1 : Int32)) := ((F108.keep p112_0 nin0).keep p125_0 (ninS ne130 nin0))
  have F134 : Fld Z T125.heap sb "java/lang/AbstractStringBuilder" "maybeLatin1" "Z" (.int (0 : Int32)) := (((S_4.ext E102).keep p112_0 nin0).keep p125_0 (ninS ne130 nin0))
  have ne135 : v ≠ a102 := Nat.ne_of_lt (Nat.lt_of_lt_of_le A0.lt (Nat.le_of_eq g102.symm))
  have A136 : Arv Z T125.heap v kv .byte (16 : Int32) vs (.int 0) := ((A109.keep p112_0 nin0).keep p125_0 (ninS ne135 nin0))
  have z137 : n0 ≤ T125.heap.size := Nat.le_trans z124 p125_0.1
  obtain ⟨cq138, kq138, qa138, qb138, qc138⟩ := isOf hZ e128 E129
  obtain ⟨v138, _, ⟨T138, L138, k138, n138⟩, -, X138, ⟨Lc138, hQ138, l138, y138, z138⟩, st138⟩ := X128.virtualBack hx (y := y_34) (z := y_34) hown (mvT hZ (w_ hw 161 rfl)) (mvT hZ (w_ hw 162 rfl)) (notFace_of_selects (args := #[]) (mvT hZ (w_ hw 164 rfl))) (mvT hZ (w_ hw 164 rfl)) (mvT hZ (w_ hw 163 rfl)) (by decide) (backOf (W := 0) (rm_sse1 l Z a0 hw [] sb v kv (vs : List Value) T125.heap n0 z137 E129 F131 F132 F133 F134 A136 gs n1) hZ (w_ hw 165 rfl) (w_ hw 18 rfl) (by decide) (by decide)) qa138 qc138 (g := (mkF m 30 #[.val (.ref b), .val (.long (1 : Int64)), .second, .val (.ref a102)] [(.int 0), (.ref sb)])) rfl (by rw [hml]; rfl) (Steps.refl _) (argsL := [(.int 0)]) (rest := []) (lenOf pd_16 rfl) rfl (by show 2 * 0 + _ ≤ _; exact Nat.le_of_eq rfl) (hb hby d35_30) (fun _ _ => ⟨rfl, e128, (by decide : 3 + 0 ≤ _), (by decide : 8 + 0 ≤ _)⟩)
  dsimp only [Pt.U, Pt.locs, Pt.cells, Pt.slots] at X138 l138 y138 z138 st138 hQ138
  subst l138 y138 z138
  obtain ⟨rfl, Nq138, p138_0, p138_1, p138_2, p138_3, p138_4⟩ := hQ138
  have N138_ := Fr.app N125_ Nq138
  refine Fin.byS st138 ?_
  refine Fin.by (fun tt_ kk_ => XS.aloadN X138.here hx rfl (hb hby d35_33) rfl rfl kk_) ?_
  have kp139 : Keep h0 h102 [sb] := (Keep.refl h0 [sb]).ext E102
  have kp140 : Keep h0 T112.heap [sb] := kp139.trans p112_0 all0
  have kp141 : Keep h0 T125.heap [sb] := kp140.trans p125_0 (allS (Or.inr (Nat.le_trans (Nat.le_refl _) (Nat.le_of_eq g102.symm))) all0)
  have kp142 : Keep h0 T138.heap [sb] := kp141.trans p138_0 (allS (Or.inl (List.mem_of_getElem? (i := 0) rfl)) all0)
  have E143 : Exa Z T138.heap a102 "com/example/colonnade/colonnade/SpooledText" := (p125_1.keep p138_0)
  show Fin _ _ _ _ _ _ _ (T138.setTop (mkF m 34 #[.val (.ref b), .val (.long (1 : Int64)), .second, .val (.ref a102)] [(.ref a102)]))
  exact Fin.ret (v := some (.ref a102)) X138 (fun h => by rw [Bd.returns] at h; cases h) Bd.notSynchronized (⟨a102, rfl, N138_, kp142, (Nat.le_trans (Nat.le_refl _) (Nat.le_of_eq g102.symm)), E143, p138_1, p138_2, p138_3, p138_4⟩) (by decide) (by decide) (fun fs hr => retA X138 hx Bd.returns rfl rfl (hb hby d35_34) hr)
abbrev y_36 : MethodName := (⟨"com/example/colonnade/colonnade/ItemBuilder", "finish", "(Lcom/example/colonnade/colonnade/Item$Kind;)Lcom/example/colonnade/colonnade/SpooledItem;"⟩ : MethodName)
theorem d36_0 : decode prog_46_method_9_code 0 = .ok (.new 56, 3) := by decide +kernel
theorem d36_3 : decode prog_46_method_9_code 3 = .ok (.dup, 1) := by decide +kernel
theorem d36_4 : decode prog_46_method_9_code 4 = .ok (.aload_n 1, 1) := by decide +kernel
theorem d36_5 : decode prog_46_method_9_code 5 = .ok (.aload_n 0, 1) := by decide +kernel
theorem d36_6 : decode prog_46_method_9_code 6 = .ok (.getfield 22, 3) := by decide +kernel
theorem d36_9 : decode prog_46_method_9_code 9 = .ok (.aload_n 0, 1) := by decide +kernel
theorem d36_10 : decode prog_46_method_9_code 10 = .ok (.getfield 26, 3) := by decide +kernel
theorem d36_13 : decode prog_46_method_9_code 13 = .ok (.aload_n 0, 1) := by decide +kernel
theorem d36_14 : decode prog_46_method_9_code 14 = .ok (.getfield 29, 3) := by decide +kernel
theorem d36_17 : decode prog_46_method_9_code 17 = .ok (.aload_n 0, 1) := by decide +kernel
theorem d36_18 : decode prog_46_method_9_code 18 = .ok (.getfield 32, 3) := by decide +kernel
theorem d36_21 : decode prog_46_method_9_code 21 = .ok (.aload_n 0, 1) := by decide +kernel
theorem d36_22 : decode prog_46_method_9_code 22 = .ok (.getfield 12, 3) := by decide +kernel
theorem d36_25 : decode prog_46_method_9_code 25 = .ok (.aload_n 0, 1) := by decide +kernel
theorem d36_26 : decode prog_46_method_9_code 26 = .ok (.getfield 35, 3) := by decide +kernel
theorem pd_434 : parseMethodDescriptor "(J)Lcom/example/colonnade/colonnade/SpooledText;" = some ⟨[.long], some (.object "com/example/colonnade/colonnade/SpooledText")⟩ := by decide +kernel
theorem d36_29 : decode prog_46_method_9_code 29 = .ok (.invokevirtual 58, 3) := by decide +kernel
theorem pd_436 : parseMethodDescriptor "(Lcom/example/colonnade/colonnade/Item$Kind;JJJJLcom/example/colonnade/colonnade/SpooledText;)V" = some ⟨[(.object "com/example/colonnade/colonnade/Item$Kind"), .long, .long, .long, .long, (.object "com/example/colonnade/colonnade/SpooledText")], none⟩ := by decide +kernel
theorem d36_32 : decode prog_46_method_9_code 32 = .ok (.invokespecial 62, 3) := by decide +kernel
theorem d36_35 : decode prog_46_method_9_code 35 = .ok (.astore_n 2, 1) := by decide +kernel
theorem d36_36 : decode prog_46_method_9_code 36 = .ok (.aload_n 0, 1) := by decide +kernel
theorem d36_37 : decode prog_46_method_9_code 37 = .ok (.iconst 0, 1) := by decide +kernel
theorem d36_38 : decode prog_46_method_9_code 38 = .ok (.putfield 18, 3) := by decide +kernel
theorem d36_41 : decode prog_46_method_9_code 41 = .ok (.aload_n 2, 1) := by decide +kernel
theorem d36_42 : decode prog_46_method_9_code 42 = .ok (.areturn, 1) := by decide +kernel
def Q_fin1 (Z : State) (a : Addr) (kd : Addr) (b : Addr) (sb : Addr) (v : Addr) (kv : ClassId) (vs : List Value) (r1 : Int64) (r2 : Int64) (r3 : Int64) (e4 : Int64) (tb : Int64) (G1 : Int32) (G9 : Value) (h0 : Heap) (n0 : Nat) (vv_ : Option Value) (hh_ : Heap) (LL_ : List Loc) : Prop := ∃ (y : Addr), vv_ = some (.ref y) ∧ Fr n0 LL_ ∧ Keep h0 hh_ [a, sb] ∧ h0.size ≤ y ∧ Exa Z hh_ y "com/example/colonnade/colonnade/SpooledItem" ∧ Fld Z hh_ y "com/example/colonnade/colonnade/SpooledItem" "line" "J" (.long r1) ∧ Fld Z hh_ y "com/example/colonnade/colonnade/SpooledItem" "column" "J" (.long r2) ∧ Fld Z hh_ y "com/example/colonnade/colonnade/SpooledItem" "start" "J" (.long r3) ∧ Fld Z hh_ y "com/example/colonnade/colonnade/SpooledItem" "end" "J" (.long e4) ∧ Exa Z hh_ a "com/example/colonnade/colonnade/ItemBuilder" ∧ Fld Z hh_ a "com/example/colonnade/colonnade/ItemBuilder" "text" "Lcom/example/colonnade/colonnade/TextSpool;" (.ref b) ∧ Fld Z hh_ a "com/example/colonnade/colonnade/ItemBuilder" "started" "Z" (.int (0 : Int32)) ∧ Fld Z hh_ a "com/example/colonnade/colonnade/ItemBuilder" "line" "J" (.long r1) ∧ Fld Z hh_ a "com/example/colonnade/colonnade/ItemBuilder" "column" "J" (.long r2) ∧ Fld Z hh_ a "com/example/colonnade/colonnade/ItemBuilder" "start" "J" (.long r3) ∧ Fld Z hh_ a "com/example/colonnade/colonnade/ItemBuilder" "end" "J" (.long e4) ∧ Fld Z hh_ a "com/example/colonnade/colonnade/ItemBuilder" "kept" "J" (.long (1 : Int64)) ∧ Fld Z hh_ a "com/example/colonnade/colonnade/ItemBuilder" "trailingBlanks" "J" (.long tb) ∧ Exa Z hh_ sb "java/lang/StringBuilder" ∧ Fld Z hh_ sb "java/lang/AbstractStringBuilder" "value" "[B" (.ref v) ∧ Fld Z hh_ sb "java/lang/AbstractStringBuilder" "coder" "B" (.int (0 : Int32)) ∧ Fld Z hh_ sb "java/lang/AbstractStringBuilder" "count" "I" (.int (0 : Int32))
set_option maxRecDepth 65536 in
set_option maxHeartbeats 40000000 in
theorem rm_fin1 (l : Launch) (Z : State) (a0 : Array Value) (hw : ∀ d ∈ tables_1, d.before a0 Z = true) (ws : List Jvm.Cond) (a : Addr) (kd : Addr) (b : Addr) (sb : Addr) (v : Addr) (kv : ClassId) (vs : List Value) (r1 : Int64) (r2 : Int64) (r3 : Int64) (e4 : Int64) (tb : Int64) (G1 : Int32) (G9 : Value) (h0 : Heap) (n0 : Nat) (Z0 : n0 ≤ h0.size) (hvd : vs.length = 1) (I0 : Exa Z h0 a "com/example/colonnade/colonnade/ItemBuilder") (I1 : Fld Z h0 a "com/example/colonnade/colonnade/ItemBuilder" "text" "Lcom/example/colonnade/colonnade/TextSpool;" (.ref b)) (I2 : Fld Z h0 a "com/example/colonnade/colonnade/ItemBuilder" "started" "Z" (.int (1 : Int32))) (I3 : Fld Z h0 a "com/example/colonnade/colonnade/ItemBuilder" "line" "J" (.long r1)) (I4 : Fld Z h0 a "com/example/colonnade/colonnade/ItemBuilder" "column" "J" (.long r2)) (I5 : Fld Z h0 a "com/example/colonnade/colonnade/ItemBuilder" "start" "J" (.long r3)) (I6 : Fld Z h0 a "com/example/colonnade/colonnade/ItemBuilder" "end" "J" (.long e4)) (I7 : Fld Z h0 a "com/example/colonnade/colonnade/ItemBuilder" "kept" "J" (.long (1 : Int64))) (I8 : Fld Z h0 a "com/example/colonnade/colonnade/ItemBuilder" "trailingBlanks" "J" (.long tb)) (T0 : Exa Z h0 b "com/example/colonnade/colonnade/TextSpool") (T1 : Fld Z h0 b "com/example/colonnade/colonnade/TextSpool" "chars" "Ljava/lang/StringBuilder;" (.ref sb)) (T2 : Fld Z h0 b "com/example/colonnade/colonnade/TextSpool" "charsInMemory" "I" (.int (1000 : Int32))) (T3 : Fld Z h0 b "com/example/colonnade/colonnade/TextSpool" "file" "Lcom/example/colonnade/colonnade/SpoolFile;" .null) (S_0 : Exa Z h0 sb "java/lang/StringBuilder") (S_1 : Fld Z h0 sb "java/lang/AbstractStringBuilder" "value" "[B" (.ref v)) (S_2 : Fld Z h0 sb "java/lang/AbstractStringBuilder" "coder" "B" (.int (0 : Int32))) (S_3 : Fld Z h0 sb "java/lang/AbstractStringBuilder" "count" "I" (.int (1 : Int32))) (S_4 : Fld Z h0 sb "java/lang/AbstractStringBuilder" "maybeLatin1" "Z" (.int (0 : Int32))) (A0 : Arv Z h0 v kv .byte (16 : Int32) vs (.int 0)) (ga : n0 ≤ a) (gs : n0 ≤ sb) (m1 : a ≠ b) (m2 : a ≠ sb) (m3 : a ≠ v) (n1 : sb ≠ v) (n2 : b ≠ sb) (n3 : b ≠ v) (S1 : Sta Z Z.heap "java/lang/String" "COMPACT_STRINGS" "Z" (.int G1)) (P1 : ¬ G1 = 0) (S9 : Sta Z Z.heap "jdk/internal/util/Preconditions" "SIOOBE_FORMATTER" "Ljava/util/function/BiFunction;" G9) (r9 : G9.isRef = true) (OL : Old Z n0 h0) :
    MetFree l y_36 (head1 (Jvm.Cond.code y_36 prog_46_method_9_code 3 (some (.object "com/example/colonnade/colonnade/SpooledItem")) :: ws) ({ frames := 7, cells := 4, slots := 14, locals := 120 } : Room)) (fun aa_ U => aa_ = #[(.ref a), (.ref kd)] ∧ Z.Warmed39 U.vm ∧ U.heap = h0) (fun _ _ _ _ _ => True) (fun _ U o U' => ∃ vv_ LL_, o = .returned vv_ ∧ Q_fin1 Z a kd b sb v kv vs r1 r2 r3 e4 tb G1 G9 h0 n0 vv_ U'.heap LL_ ∧ FrameEnd U o U' LL_ 4 14) := by
  refine MetFree.of_bodySF (plainFor_of_name pn_com_example_colonnade_colonnade_ItemBuilder) hisR ?_
  intro p e s m args below meth c s₁ Bd hml0 hP hK
  obtain ⟨rfl, hZ, hh⟩ := hP
  have hx := Bd.exec
  have hby := Bd.bytes
  have hml : c.maxLocals = 3 := hml0
  have hown : s.vm.findClass "com/example/colonnade/colonnade/ItemBuilder" = some m.cls := findClass_of_methodNamed Bd.named
  have hnm := (name_of_methodNamed Bd.named Bd.method).1
  have X0 : Stand p l e ({ frames := 7, cells := 4, slots := 14, locals := 120 } : Room) s m #[(.ref a), (.ref kd)] below meth c s₁ [] 0 0 := Stand.of_body Bd
  have e0 : s₁.heap = h0 := by rw [← hh, Bd.state]; rfl
  have N0 := Fr.nil n0
  have ef : entryFrame m #[(.ref a), (.ref kd)] 3 = mkF m 0 #[.val (.ref a), .val (.ref kd), .unset] [] := by first | (simp [entryFrame, mkF, argsToLocals, Value.category]; done) | rfl
  refine Fin.start (Q := Q_fin1 Z a kd b sb v kv vs r1 r2 r3 e4 tb G1 G9 h0 n0) ef ?_
  obtain ⟨T101, h101, X101, e101, E101, A101, D101, -, st101⟩ := newO X0 hx hZ hown (w_ hw 98 rfl) (w_ hw 99 rfl) (w_ hw 100 rfl) e0 (g := (mkF m 0 #[.val (.ref a), .val (.ref kd), .unset] [])) rfl (hb hby d36_0) (by decide) (by decide)
  obtain ⟨a101, g101⟩ : ∃ z, z = h0.size := ⟨_, rfl⟩
  rw [← g101] at A101 D101 st101
  refine Fin.by (fun tt_ kk_ => st101 tt_ kk_) ?_
  refine Fin.by (fun tt_ kk_ => XS.dup X101.here hx rfl (hb hby d36_3) rfl rfl (XS.aloadN X101.here hx rfl (hb hby d36_4) rfl rfl (XS.aloadN X101.here hx rfl (hb hby d36_5) rfl rfl kk_))) ?_
  have F102 : Fld Z h101 a "com/example/colonnade/colonnade/ItemBuilder" "line" "J" (.long r1) := (I3.ext E101)
  obtain ⟨T103, X103, e103, st103⟩ := getF X101 hx hZ hown (host := "") (Or.inl (w_ hw 49 rfl)) Via.refl e101 F102 (g := (mkF m 6 #[.val (.ref a), .val (.ref kd), .unset] [(.ref a), (.ref kd), (.ref a101), (.ref a101)])) rfl rfl (hb hby d36_6)
  refine Fin.by (fun tt_ kk_ => st103 tt_ kk_) ?_
  refine Fin.by (fun tt_ kk_ => XS.aloadN X103.here hx rfl (hb hby d36_9) rfl rfl kk_) ?_
  have F104 : Fld Z h101 a "com/example/colonnade/colonnade/ItemBuilder" "column" "J" (.long r2) := (I4.ext E101)
  obtain ⟨T105, X105, e105, st105⟩ := getF X103 hx hZ hown (host := "") (Or.inl (w_ hw 51 rfl)) Via.refl e103 F104 (g := (mkF m 10 #[.val (.ref a), .val (.ref kd), .unset] [(.ref a), (.long r1), (.ref kd), (.ref a101), (.ref a101)])) rfl rfl (hb hby d36_10)
  refine Fin.by (fun tt_ kk_ => st105 tt_ kk_) ?_
  refine Fin.by (fun tt_ kk_ => XS.aloadN X105.here hx rfl (hb hby d36_13) rfl rfl kk_) ?_
  have F106 : Fld Z h101 a "com/example/colonnade/colonnade/ItemBuilder" "start" "J" (.long r3) := (I5.ext E101)
  obtain ⟨T107, X107, e107, st107⟩ := getF X105 hx hZ hown (host := "") (Or.inl (w_ hw 53 rfl)) Via.refl e105 F106 (g := (mkF m 14 #[.val (.ref a), .val (.ref kd), .unset] [(.ref a), (.long r2), (.long r1), (.ref kd), (.ref a101), (.ref a101)])) rfl rfl (hb hby d36_14)
  refine Fin.by (fun tt_ kk_ => st107 tt_ kk_) ?_
  refine Fin.by (fun tt_ kk_ => XS.aloadN X107.here hx rfl (hb hby d36_17) rfl rfl kk_) ?_
  have F108 : Fld Z h101 a "com/example/colonnade/colonnade/ItemBuilder" "end" "J" (.long e4) := (I6.ext E101)
  obtain ⟨T109, X109, e109, st109⟩ := getF X107 hx hZ hown (host := "") (Or.inl (w_ hw 55 rfl)) Via.refl e107 F108 (g := (mkF m 18 #[.val (.ref a), .val (.ref kd), .unset] [(.ref a), (.long r3), (.long r2), (.long r1), (.ref kd), (.ref a101), (.ref a101)])) rfl rfl (hb hby d36_18)
  refine Fin.by (fun tt_ kk_ => st109 tt_ kk_) ?_
  refine Fin.by (fun tt_ kk_ => XS.aloadN X109.here hx rfl (hb hby d36_21) rfl rfl kk_) ?_
  have F110 : Fld Z h101 a "com/example/colonnade/colonnade/ItemBuilder" "text" "Lcom/example/colonnade/colonnade/TextSpool;" (.ref b) := (I1.ext E101)
  obtain ⟨T111, X111, e111, st111⟩ := getF X109 hx hZ hown (host := "") (Or.inl (w_ hw 40 rfl)) Via.refl e109 F110 (g := (mkF m 22 #[.val (.ref a), .val (.ref kd), .unset] [(.ref a), (.long e4), (.long r3), (.long r2), (.long r1), (.ref kd), (.ref a101), (.ref a101)])) rfl rfl (hb hby d36_22)
  refine Fin.by (fun tt_ kk_ => st111 tt_ kk_) ?_
  refine Fin.by (fun tt_ kk_ => XS.aloadN X111.here hx rfl (hb hby d36_25) rfl rfl kk_) ?_
  have F112 : Fld Z h101 a "com/example/colonnade/colonnade/ItemBuilder" "kept" "J" (.long (1 : Int64)) := (I7.ext E101)
  obtain ⟨T113, X113, e113, st113⟩ := getF X111 hx hZ hown (host := "") (Or.inl (w_ hw 57 rfl)) Via.refl e111 F112 (g := (mkF m 26 #[.val (.ref a), .val (.ref kd), .unset] [(.ref a), (.ref b), (.long e4), (.long r3), (.long r2), (.long r1), (.ref kd), (.ref a101), (.ref a101)])) rfl rfl (hb hby d36_26)
  refine Fin.by (fun tt_ kk_ => st113 tt_ kk_) ?_
  have E114 : Exa Z h101 b "com/example/colonnade/colonnade/TextSpool" := (T0.ext E101)
  have F115 : Fld Z h101 b "com/example/colonnade/colonnade/TextSpool" "chars" "Ljava/lang/StringBuilder;" (.ref sb) := (T1.ext E101)
  have F116 : Fld Z h101 b "com/example/colonnade/colonnade/TextSpool" "charsInMemory" "I" (.int (1000 : Int32)) := (T2.ext E101)
  have F117 : Fld Z h101 b "com/example/colonnade/colonnade/TextSpool" "file" "Lcom/example/colonnade/colonnade/SpoolFile;" .null := (T3.ext E101)
  have E118 : Exa Z h101 sb "java/lang/StringBuilder" := (S_0.ext E101)
  have F119 : Fld Z h101 sb "java/lang/AbstractStringBuilder" "value" "[B" (.ref v) := (S_1.ext E101)
  have F120 : Fld Z h101 sb "java/lang/AbstractStringBuilder" "coder" "B" (.int (0 : Int32)) := (S_2.ext E101)
  have F121 : Fld Z h101 sb "java/lang/AbstractStringBuilder" "count" "I" (.int (1 : Int32)) := (S_3.ext E101)
  have F122 : Fld Z h101 sb "java/lang/AbstractStringBuilder" "maybeLatin1" "Z" (.int (0 : Int32)) := (S_4.ext E101)
  have A123 : Arv Z h101 v kv .byte (16 : Int32) vs (.int 0) := (A0.ext E101)
  have O124 : Old Z n0 h101 := (OL.ext E101)
  have z125 : n0 ≤ h101.size := Nat.le_trans Z0 E101.1
  obtain ⟨cq126, kq126, qa126, qb126, qc126⟩ := isOf hZ e113 E114
  obtain ⟨v126, _, ⟨T126, L126, k126, n126⟩, -, X126, ⟨Lc126, hQ126, l126, y126, z126⟩, st126⟩ := X113.virtualBack hx (y := y_35) (z := y_35) hown (mvT hZ (w_ hw 101 rfl)) (mvT hZ (w_ hw 102 rfl)) (notFace_of_selects (args := #[]) (mvT hZ (w_ hw 104 rfl))) (mvT hZ (w_ hw 104 rfl)) (mvT hZ (w_ hw 103 rfl)) (by decide) (backOf (W := 11) (rm_tak1 l Z a0 hw [] b sb v kv (vs : List Value) G1 G9 h101 n0 z125 hvd E114 F115 F116 F117 E118 F119 F120 F121 F122 A123 gs n1 n2 S1 P1 S9 r9 O124) hZ (w_ hw 105 rfl) (w_ hw 11 rfl) (by decide) (by decide)) qa126 qc126 (g := (mkF m 29 #[.val (.ref a), .val (.ref kd), .unset] [(.long (1 : Int64)), (.ref b), (.long e4), (.long r3), (.long r2), (.long r1), (.ref kd), (.ref a101), (.ref a101)])) rfl (by rw [hml]; rfl) (Steps.refl _) (argsL := [(.long (1 : Int64))]) (rest := [(.long e4), (.long r3), (.long r2), (.long r1), (.ref kd), (.ref a101), (.ref a101)]) (lenOf pd_434 rfl) rfl (by show 2 * 0 + _ ≤ _; exact Nat.le_of_eq rfl) (hb hby d36_29) (fun _ _ => ⟨rfl, e113, (by decide : 1 + 3 ≤ _), (by decide : 6 + 8 ≤ _)⟩)
  dsimp only [Pt.U, Pt.locs, Pt.cells, Pt.slots] at X126 l126 y126 z126 st126 hQ126
  subst l126 y126 z126
  obtain ⟨y127, rfl, Nq126, p126_0, p126_1, p126_2, p126_3, p126_4, p126_5, p126_6⟩ := hQ126
  have N126_ := Fr.app N0 Nq126
  refine Fin.byS st126 ?_
  have E128 : Exa Z T126.heap a101 "com/example/colonnade/colonnade/SpooledItem" := (A101.keep p126_0)
  have ne129 : sb ≠ a101 := Nat.ne_of_lt (Nat.lt_of_lt_of_le S_0.lt (Nat.le_of_eq g101.symm))
  have F130 : Fld Z T126.heap a101 "com/example/colonnade/colonnade/SpooledItem" "kind" "Lcom/example/colonnade/colonnade/Item$Kind;" .null := ((D101 (Or.inr (w_ hw 185 rfl)) (ty := (.object "com/example/colonnade/colonnade/Item$Kind")) (by decide) : Fld Z h101 a101 "com/example/colonnade/colonnade/SpooledItem" "kind" "Lcom/example/colonnade/colonnade/Item$Kind;" .null).keep p126_0 (ninS (Ne.symm ne129) nin0))
  have F131 : Fld Z T126.heap a101 "com/example/colonnade/colonnade/SpooledItem" "text" "Lcom/example/colonnade/colonnade/SpooledText;" .null := ((D101 (Or.inr (w_ hw 195 rfl)) (ty := (.object "com/example/colonnade/colonnade/SpooledText")) (by decide) : Fld Z h101 a101 "com/example/colonnade/colonnade/SpooledItem" "text" "Lcom/example/colonnade/colonnade/SpooledText;" .null).keep p126_0 (ninS (Ne.symm ne129) nin0))
  have F132 : Fld Z T126.heap a101 "com/example/colonnade/colonnade/SpooledItem" "line" "J" (.long (0 : Int64)) := ((D101 (Or.inr (w_ hw 187 rfl)) (ty := .long) (by decide) : Fld Z h101 a101 "com/example/colonnade/colonnade/SpooledItem" "line" "J" (.long (0 : Int64))).keep p126_0 (ninS (Ne.symm ne129) nin0))
  have F133 : Fld Z T126.heap a101 "com/example/colonnade/colonnade/SpooledItem" "column" "J" (.long (0 : Int64)) := ((D101 (Or.inr (w_ hw 189 rfl)) (ty := .long) (by decide) : Fld Z h101 a101 "com/example/colonnade/colonnade/SpooledItem" "column" "J" (.long (0 : Int64))).keep p126_0 (ninS (Ne.symm ne129) nin0))
  have F134 : Fld Z T126.heap a101 "com/example/colonnade/colonnade/SpooledItem" "start" "J" (.long (0 : Int64)) := ((D101 (Or.inr (w_ hw 191 rfl)) (ty := .long) (by decide) : Fld Z h101 a101 "com/example/colonnade/colonnade/SpooledItem" "start" "J" (.long (0 : Int64))).keep p126_0 (ninS (Ne.symm ne129) nin0))
  have F135 : Fld Z T126.heap a101 "com/example/colonnade/colonnade/SpooledItem" "end" "J" (.long (0 : Int64)) := ((D101 (Or.inr (w_ hw 193 rfl)) (ty := .long) (by decide) : Fld Z h101 a101 "com/example/colonnade/colonnade/SpooledItem" "end" "J" (.long (0 : Int64))).keep p126_0 (ninS (Ne.symm ne129) nin0))
  have g136 : n0 ≤ a101 := Nat.le_trans Z0 (Nat.le_of_eq g101.symm)
  have z137 : n0 ≤ T126.heap.size := Nat.le_trans z125 p126_0.1
  obtain ⟨v138, _, ⟨T138, L138, k138, n138⟩, -, X138, ⟨Lc138, hQ138, l138, y138, z138⟩, st138⟩ := X126.specialBack hx (y := y_23) rfl hown (mvT hZ (w_ hw 175 rfl)) (mvT hZ (w_ hw 176 rfl)) (mvT hZ (w_ hw 177 rfl)) (by decide) (backOf (W := 1) (rm_sii l Z a0 hw [] a101 kd r1 r2 r3 e4 y127 T126.heap n0 z137 E128 F130 F131 F132 F133 F134 F135 g136) hZ (w_ hw 177 rfl) (w_ hw 100 rfl) (by decide) (by decide)) (g := (mkF m 32 #[.val (.ref a), .val (.ref kd), .unset] [(.ref y127), (.long e4), (.long r3), (.long r2), (.long r1), (.ref kd), (.ref a101), (.ref a101)])) rfl (by rw [hml]; rfl) (Steps.refl _) (a := a101) (argsL := [(.ref kd), (.long r1), (.long r2), (.long r3), (.long e4), (.ref y127)]) (rest := [(.ref a101)]) (lenOf pd_436 rfl) rfl (by show 2 * 0 + _ ≤ _; exact Nat.le_of_eq rfl) (hb hby d36_32) (fun _ _ => ⟨rfl, rfl, (by decide : 4 + 0 ≤ _), (by decide : 14 + 0 ≤ _)⟩)
  dsimp only [Pt.U, Pt.locs, Pt.cells, Pt.slots] at X138 l138 y138 z138 st138 hQ138
  subst l138 y138 z138
  obtain ⟨rfl, Nq138, p138_0, p138_1, p138_2, p138_3, p138_4, p138_5⟩ := hQ138
  have N138_ := Fr.app N126_ Nq138
  refine Fin.byS st138 ?_
  refine Fin.by (fun tt_ kk_ => XS.astoreN X138.here hx rfl (hb hby d36_35) rfl rfl (l' := #[.val (.ref a), .val (.ref kd), .val (.ref a101)]) rfl (XS.aloadN X138.here hx rfl (hb hby d36_36) rfl rfl (XS.iconst X138.here hx rfl (hb hby d36_37) kk_))) ?_
  have ne139 : a ≠ a101 := Nat.ne_of_lt (Nat.lt_of_lt_of_le I0.lt (Nat.le_of_eq g101.symm))
  have F140 : Fld Z T138.heap a "com/example/colonnade/colonnade/ItemBuilder" "started" "Z" (.int (1 : Int32)) := (((I2.ext E101).keep p126_0 (ninS m2 nin0)).keep p138_0 (ninS ne139 nin0))
  have E141 : Exa Z T138.heap a "com/example/colonnade/colonnade/ItemBuilder" := (((I0.ext E101).keep p126_0).keep p138_0)
  obtain ⟨T142, h142, X142, e142, W142, st142⟩ := putFN X138 hx hZ hown (w_ hw 47 rfl) Via.refl rfl F140 E141 (Or.inl (w_ hw 48 rfl)) (w_ hw 1 rfl) (ty := .boolean) (v' := .int (0 : Int32)) (by decide) rfl rfl (g := (mkF m 38 #[.val (.ref a), .val (.ref kd), .val (.ref a101)] [(.int 0), (.ref a)])) rfl rfl (hb hby d36_38)
  refine Fin.by (fun tt_ kk_ => st142 tt_ kk_) ?_
  have N142_ := Fr.snoc X142 N138_ ga
  refine Fin.by (fun tt_ kk_ => XS.aloadN X142.here hx rfl (hb hby d36_41) rfl rfl kk_) ?_
  have kp143 : Keep h0 h101 [a, sb] := (Keep.refl h0 [a, sb]).ext E101
  have kp144 : Keep h0 T126.heap [a, sb] := kp143.trans p126_0 (allS (Or.inl (List.mem_of_getElem? (i := 1) rfl)) all0)
  have kp145 : Keep h0 T138.heap [a, sb] := kp144.trans p138_0 (allS (Or.inr (Nat.le_trans (Nat.le_refl _) (Nat.le_of_eq g101.symm))) all0)
  have kp146 : Keep h0 h142 [a, sb] := kp145.wr W142 (Or.inl (List.mem_of_getElem? (i := 0) rfl))
  have E147 : Exa Z h142 a101 "com/example/colonnade/colonnade/SpooledItem" := (p138_1.wr W142)
  have F148 : Fld Z h142 a101 "com/example/colonnade/colonnade/SpooledItem" "line" "J" (.long r1) := (p138_2.other W142 (Or.inl (Ne.symm ne139)))
  have F149 : Fld Z h142 a101 "com/example/colonnade/colonnade/SpooledItem" "column" "J" (.long r2) := (p138_3.other W142 (Or.inl (Ne.symm ne139)))
  have F150 : Fld Z h142 a101 "com/example/colonnade/colonnade/SpooledItem" "start" "J" (.long r3) := (p138_4.other W142 (Or.inl (Ne.symm ne139)))
  have F151 : Fld Z h142 a101 "com/example/colonnade/colonnade/SpooledItem" "end" "J" (.long e4) := (p138_5.other W142 (Or.inl (Ne.symm ne139)))
  have E152 : Exa Z h142 a "com/example/colonnade/colonnade/ItemBuilder" := (E141.wr W142)
  have F153 : Fld Z h142 a "com/example/colonnade/colonnade/ItemBuilder" "text" "Lcom/example/colonnade/colonnade/TextSpool;" (.ref b) := (((F110.keep p126_0 (ninS m2 nin0)).keep p138_0 (ninS ne139 nin0)).other W142 (Or.inr (slot_ne (Or.inr (w_ hw 41 rfl)) (Or.inl (w_ hw 48 rfl)) (by decide) (t := (.object "com/example/colonnade/colonnade/TextSpool")) (t' := .boolean) (by decide) (by decide))))
  have F154 : Fld Z h142 a "com/example/colonnade/colonnade/ItemBuilder" "line" "J" (.long r1) := (((F102.keep p126_0 (ninS m2 nin0)).keep p138_0 (ninS ne139 nin0)).other W142 (Or.inr (slot_ne (Or.inl (w_ hw 50 rfl)) (Or.inl (w_ hw 48 rfl)) (by decide) (t := .long) (t' := .boolean) (by decide) (by decide))))
  have F155 : Fld Z h142 a "com/example/colonnade/colonnade/ItemBuilder" "column" "J" (.long r2) := (((F104.keep p126_0 (ninS m2 nin0)).keep p138_0 (ninS ne139 nin0)).other W142 (Or.inr (slot_ne (Or.inl (w_ hw 52 rfl)) (Or.inl (w_ hw 48 rfl)) (by decide) (t := .long) (t' := .boolean) (by decide) (by decide))))
  have F156 : Fld Z h142 a "com/example/colonnade/colonnade/ItemBuilder" "start" "J" (.long r3) := (((F106.keep p126_0 (ninS m2 nin0)).keep p138_0 (ninS ne139 nin0)).other W142 (Or.inr (slot_ne (Or.inl (w_ hw 54 rfl)) (Or.inl (w_ hw 48 rfl)) (by decide) (t := .long) (t' := .boolean) (by decide) (by decide))))
  have F157 : Fld Z h142 a "com/example/colonnade/colonnade/ItemBuilder" "end" "J" (.long e4) := (((F108.keep p126_0 (ninS m2 nin0)).keep p138_0 (ninS ne139 nin0)).other W142 (Or.inr (slot_ne (Or.inl (w_ hw 56 rfl)) (Or.inl (w_ hw 48 rfl)) (by decide) (t := .long) (t' := .boolean) (by decide) (by decide))))
  have F158 : Fld Z h142 a "com/example/colonnade/colonnade/ItemBuilder" "kept" "J" (.long (1 : Int64)) := (((F112.keep p126_0 (ninS m2 nin0)).keep p138_0 (ninS ne139 nin0)).other W142 (Or.inr (slot_ne (Or.inl (w_ hw 58 rfl)) (Or.inl (w_ hw 48 rfl)) (by decide) (t := .long) (t' := .boolean) (by decide) (by decide))))
  have F159 : Fld Z h142 a "com/example/colonnade/colonnade/ItemBuilder" "trailingBlanks" "J" (.long tb) := ((((I8.ext E101).keep p126_0 (ninS m2 nin0)).keep p138_0 (ninS ne139 nin0)).other W142 (Or.inr (slot_ne (Or.inl (w_ hw 60 rfl)) (Or.inl (w_ hw 48 rfl)) (by decide) (t := .long) (t' := .boolean) (by decide) (by decide))))
  have E160 : Exa Z h142 sb "java/lang/StringBuilder" := ((p126_3.keep p138_0).wr W142)
  have F161 : Fld Z h142 sb "java/lang/AbstractStringBuilder" "value" "[B" (.ref v) := ((p126_4.keep p138_0 (ninS ne129 nin0)).other W142 (Or.inl (Ne.symm m2)))
  have F162 : Fld Z h142 sb "java/lang/AbstractStringBuilder" "coder" "B" (.int (0 : Int32)) := ((p126_5.keep p138_0 (ninS ne129 nin0)).other W142 (Or.inl (Ne.symm m2)))
  have F163 : Fld Z h142 sb "java/lang/AbstractStringBuilder" "count" "I" (.int (0 : Int32)) := ((p126_6.keep p138_0 (ninS ne129 nin0)).other W142 (Or.inl (Ne.symm m2)))
  show Fin _ _ _ _ _ _ _ (T142.setTop (mkF m 42 #[.val (.ref a), .val (.ref kd), .val (.ref a101)] [(.ref a101)]))
  exact Fin.ret (v := some (.ref a101)) X142 (fun h => by rw [Bd.returns] at h; cases h) Bd.notSynchronized (by rw [e142]; exact ⟨a101, rfl, N142_, kp146, (Nat.le_trans (Nat.le_refl _) (Nat.le_of_eq g101.symm)), E147, F148, F149, F150, F151, E152, F153, (F140.same W142), F154, F155, F156, F157, F158, F159, E160, F161, F162, F163⟩) (by decide) (by decide) (fun fs hr => retA X142 hx Bd.returns rfl rfl (hb hby d36_42) hr)
def Q_cft0 (Z : State) (fo : Value) (h0 : Heap) (n0 : Nat) (vv_ : Option Value) (hh_ : Heap) (LL_ : List Loc) : Prop := vv_ = some (.int (0 : Int32)) ∧ Fr n0 LL_ ∧ hh_ = h0
set_option maxRecDepth 65536 in
set_option maxHeartbeats 40000000 in
theorem rm_cft0 (l : Launch) (Z : State) (a0 : Array Value) (hw : ∀ d ∈ tables_1, d.before a0 Z = true) (ws : List Jvm.Cond) (fo : Value) (h0 : Heap) (n0 : Nat) (Z0 : n0 ≤ h0.size) (rfo : fo.isRef = true) :
    MetFree l y_24 (head1 (Jvm.Cond.code y_24 jdk_41_method_12_code 4 (some .int) :: ws) ({ frames := 0, cells := 0, slots := 0, locals := 0 } : Room)) (fun aa_ U => aa_ = #[(.int (0 : Int32)), (.int (0 : Int32)), (.int (0 : Int32)), fo] ∧ Z.Warmed39 U.vm ∧ U.heap = h0) (fun _ _ _ _ _ => True) (fun _ U o U' => ∃ vv_ LL_, o = .returned vv_ ∧ Q_cft0 Z fo h0 n0 vv_ U'.heap LL_ ∧ FrameEnd U o U' LL_ 0 0) := by
  refine MetFree.of_bodySF (plainFor_of_name pn_jdk_internal_util_Preconditions) hisR ?_
  intro p e s m args below meth c s₁ Bd hml0 hP hK
  obtain ⟨rfl, hZ, hh⟩ := hP
  have hx := Bd.exec
  have hby := Bd.bytes
  have hml : c.maxLocals = 4 := hml0
  have hown : s.vm.findClass "jdk/internal/util/Preconditions" = some m.cls := findClass_of_methodNamed Bd.named
  have hnm := (name_of_methodNamed Bd.named Bd.method).1
  have X0 : Stand p l e ({ frames := 0, cells := 0, slots := 0, locals := 0 } : Room) s m #[(.int (0 : Int32)), (.int (0 : Int32)), (.int (0 : Int32)), fo] below meth c s₁ [] 0 0 := Stand.of_body Bd
  have e0 : s₁.heap = h0 := by rw [← hh, Bd.state]; rfl
  have N0 := Fr.nil n0
  have ef : entryFrame m #[(.int (0 : Int32)), (.int (0 : Int32)), (.int (0 : Int32)), fo] 4 = mkF m 0 #[.val (.int (0 : Int32)), .val (.int (0 : Int32)), .val (.int (0 : Int32)), .val fo] [] := by first | (simp [entryFrame, mkF, argsToLocals, Value.category]; done) | rfl | (rcases ref_cases rfo with rfl | ⟨_, rfl⟩ <;> simp [entryFrame, mkF, argsToLocals, Value.category])
  refine Fin.start (Q := Q_cft0 Z fo h0 n0) ef ?_
  refine Fin.by (fun tt_ kk_ => XS.iloadN X0.here hx rfl (hb hby d24_0) rfl kk_) ?_
  show Fin _ _ _ _ _ _ _ (s₁.setTop (mkF m 1 #[.val (.int 0), .val (.int 0), .val (.int 0), .val fo] [(.int 0)]))
  refine Fin.by (fun tt_ kk_ => XS.ifNo X0.here hx rfl (hb hby d24_1) rfl ((if0 _ _).trans (flt (by decide : ¬ (0 : Int32) < (0 : Int32))).1) kk_) ?_
  refine Fin.by (fun tt_ kk_ => XS.iloadN X0.here hx rfl (hb hby d24_4) rfl (XS.iloadN X0.here hx rfl (hb hby d24_5) rfl kk_)) ?_
  show Fin _ _ _ _ _ _ _ (s₁.setTop (mkF m 6 #[.val (.int 0), .val (.int 0), .val (.int 0), .val fo] [(.int 0), (.int 0)]))
  refine Fin.by (fun tt_ kk_ => XS.icmpNo X0.here hx rfl (hb hby d24_6) rfl (flt (by decide : ¬ (0 : Int32) < (0 : Int32))).2.2.1 kk_) ?_
  refine Fin.by (fun tt_ kk_ => XS.iloadN X0.here hx rfl (hb hby d24_9) rfl (XS.iloadN X0.here hx rfl (hb hby d24_10) rfl kk_)) ?_
  show Fin _ _ _ _ _ _ _ (s₁.setTop (mkF m 11 #[.val (.int 0), .val (.int 0), .val (.int 0), .val fo] [(.int 0), (.int 0)]))
  refine Fin.by (fun tt_ kk_ => XS.icmpYes X0.here hx rfl (pc0 := 11) (pc' := 22) rfl (hb hby d24_11) rfl (flt (by decide : ¬ (0 : Int32) < (0 : Int32))).2.2.2 (by decide) (by decide) kk_) ?_
  refine Fin.by (fun tt_ kk_ => XS.iloadN X0.here hx rfl (hb hby d24_22) rfl kk_) ?_
  show Fin _ _ _ _ _ _ _ (s₁.setTop (mkF m 23 #[.val (.int 0), .val (.int 0), .val (.int 0), .val fo] [(.int 0)]))
  exact Fin.ret (v := some (.int (0 : Int32))) X0 (fun h => by rw [Bd.returns] at h; cases h) Bd.notSynchronized (by rw [e0]; exact ⟨rfl, N0, rfl⟩) (by decide) (by decide) (fun fs hr => retI X0 hx Bd.returns (hb hby d24_23) hr)
theorem d30_4 : decode jdk_43_method_47_code 4 = .ok (.ldc 151, 2) := by decide +kernel
theorem d30_6 : decode jdk_43_method_47_code 6 = .ok (.areturn, 1) := by decide +kernel
def Q_nst0 (Z : State) (v : Addr) (kv : ClassId) (vs : List Value) (h0 : Heap) (n0 : Nat) (vv_ : Option Value) (hh_ : Heap) (LL_ : List Loc) : Prop := ∃ (x : Addr), ∃ (t : Addr), ∃ (k : ClassId), vv_ = some (.ref x) ∧ Fr n0 LL_ ∧ Keep h0 hh_ [] ∧ Exa Z hh_ x "java/lang/String" ∧ Fld Z hh_ x "java/lang/String" "value" "[B" (.ref t) ∧ Fld Z hh_ x "java/lang/String" "coder" "B" (.int (0 : Int32)) ∧ Arv Z hh_ t k .byte (0 : Int32) [] (.int 0)
set_option maxRecDepth 65536 in
set_option maxHeartbeats 40000000 in
theorem rm_nst0 (l : Launch) (Z : State) (a0 : Array Value) (hw : ∀ d ∈ tables_1, d.before a0 Z = true) (ws : List Jvm.Cond) (v : Addr) (kv : ClassId) (vs : List Value) (h0 : Heap) (n0 : Nat) (Z0 : n0 ≤ h0.size) (A0 : Arv Z h0 v kv .byte (16 : Int32) vs (.int 0)) :
    MetFree l y_30 (head1 (Jvm.Cond.code y_30 jdk_43_method_47_code 3 (some (.object "java/lang/String")) :: ws) ({ frames := 0, cells := 2, slots := 4, locals := 0 } : Room)) (fun aa_ U => aa_ = #[(.ref v), (.int (0 : Int32)), (.int (0 : Int32))] ∧ Z.Warmed39 U.vm ∧ U.heap = h0 ∧ CHv Z consts_1 U.vm h0) (fun _ _ _ _ _ => True) (fun _ U o U' => ∃ vv_ LL_, o = .returned vv_ ∧ Q_nst0 Z v kv vs h0 n0 vv_ U'.heap LL_ ∧ CHr Z consts_1 U.vm U.heap U'.vm U'.heap ∧ ReturnedEndW U o U' LL_ 2 4) := by
  refine MetFree.of_bodySF (plainFor_of_name pn_java_lang_StringLatin1) hisR ?_
  intro p e s m args below meth c s₁ Bd hml0 hP hK
  obtain ⟨rfl, hZ, hh, hC0⟩ := hP
  have hx := Bd.exec
  have hby := Bd.bytes
  have hml : c.maxLocals = 3 := hml0
  have hown : s.vm.findClass "java/lang/StringLatin1" = some m.cls := findClass_of_methodNamed Bd.named
  have hnm := (name_of_methodNamed Bd.named Bd.method).1
  have X0 : Stand p l e ({ frames := 0, cells := 2, slots := 4, locals := 0 } : Room) (s.setVm s.vm) m #[(.ref v), (.int (0 : Int32)), (.int (0 : Int32))] below meth c s₁ [] 0 0 := Stand.of_body Bd
  have e0 : s₁.heap = h0 := by rw [← hh, Bd.state]; rfl
  have N0 := Fr.nil n0
  have ef : entryFrame m #[(.ref v), (.int (0 : Int32)), (.int (0 : Int32))] 3 = mkF m 0 #[.val (.ref v), .val (.int (0 : Int32)), .val (.int (0 : Int32))] [] := by first | (simp [entryFrame, mkF, argsToLocals, Value.category]; done) | rfl
  have hS0 : s.Since s.vm h0.size := (State.WarmedH.refl s).since _
  have hk0 : h0.size ≤ h0.size := Nat.le_refl _
  have own_EW := own_EW0 hw
  have ch0 : CHr Z consts_1 s.vm h0 s.vm h0 := CHr.refl hC0
  refine FinH.start (Q := Q_nst0 Z v kv vs h0 n0) ef ?_
  refine FinH.by (fun tt_ kk_ => XS.iloadN X0.here hx rfl (hb hby d30_0) rfl kk_) ?_
  show FinH _ _ _ _ _ _ _ _ _ (s₁.setTop (mkF m 1 #[.val (.ref v), .val (.int 0), .val (.int 0)] [(.int 0)]))
  refine FinH.by (fun tt_ kk_ => XS.ifNo X0.here hx rfl (hb hby d30_1) rfl ((if0 _ _).trans (teq (by decide : (0 : Int32) = (0 : Int32))).2) kk_) ?_
  obtain ⟨a101, T101, h101, k101, b101, kk101, X101, e101, E101, hS101, hk101, hZ101, hown101, xE101, xC101, xV101, xA101, la101, lb101, hC101, hL101, hne101, st101⟩ := ldcCH X0 hx hZ hown (w_ hw 132 rfl) (fun d hd => hw d (own_strAtoms d hd)) e0 hS0 hk0 own_EW (by decide) ch0.1 (vs := []) (z := (0 : Int32)) ⟨by decide, by rfl⟩ (by decide) rfl (g := (mkF m 4 #[.val (.ref v), .val (.int 0), .val (.int 0)] [])) rfl (hb hby d30_4) (n := 0) (by decide) (by decide) (by decide) (by decide)
  refine FinH.by (fun tt_ kk_ => st101 tt_ kk_) ?_
  have ch102 : CHr Z consts_1 s.vm h0 T101.vm h101 := ch0.trans hC101
  have kp103 : Keep h0 h101 [] := (Keep.refl h0 []).ext E101
  show FinH _ _ _ _ _ _ _ _ _ (T101.setTop (mkF m 6 #[.val (.ref v), .val (.int 0), .val (.int 0)] [(.ref a101)]))
  exact FinH.ret (v := some (.ref a101)) X101 hS101 (by rw [e101]; exact hk101) (fun h => by rw [Bd.returns] at h; cases h) Bd.notSynchronized (by rw [e101]; exact ⟨a101, b101, kk101, rfl, N0, kp103, xE101, xV101, xC101, xA101⟩) (by rw [hh, e101]; exact ch102.trans (CHv.at X101 hZ101 own_EW ch102.1)) (by decide) (by decide) (fun fs hr => retA X101 hx Bd.returns rfl rfl (hb hby d30_6) hr)
def Q_asu0 (Z : State) (a : Addr) (v : Addr) (kv : ClassId) (vs : List Value) (G1 : Int32) (G9 : Value) (h0 : Heap) (n0 : Nat) (vv_ : Option Value) (hh_ : Heap) (LL_ : List Loc) : Prop := ∃ (x : Addr), ∃ (t : Addr), ∃ (k : ClassId), vv_ = some (.ref x) ∧ Fr n0 LL_ ∧ Keep h0 hh_ [] ∧ Exa Z hh_ x "java/lang/String" ∧ Fld Z hh_ x "java/lang/String" "value" "[B" (.ref t) ∧ Fld Z hh_ x "java/lang/String" "coder" "B" (.int (0 : Int32)) ∧ Arv Z hh_ t k .byte (0 : Int32) [] (.int 0)
set_option maxRecDepth 65536 in
set_option maxHeartbeats 40000000 in
theorem rm_asu0 (l : Launch) (Z : State) (a0 : Array Value) (hw : ∀ d ∈ tables_1, d.before a0 Z = true) (ws : List Jvm.Cond) (a : Addr) (v : Addr) (kv : ClassId) (vs : List Value) (G1 : Int32) (G9 : Value) (h0 : Heap) (n0 : Nat) (Z0 : n0 ≤ h0.size) (E0 : Exa Z h0 a "java/lang/StringBuilder") (F0 : Fld Z h0 a "java/lang/AbstractStringBuilder" "value" "[B" (.ref v)) (F1 : Fld Z h0 a "java/lang/AbstractStringBuilder" "coder" "B" (.int (0 : Int32))) (F2 : Fld Z h0 a "java/lang/AbstractStringBuilder" "count" "I" (.int (0 : Int32))) (A0 : Arv Z h0 v kv .byte (16 : Int32) vs (.int 0)) (S1 : Sta Z Z.heap "java/lang/String" "COMPACT_STRINGS" "Z" (.int G1)) (P1 : ¬ G1 = 0) (S9 : Sta Z Z.heap "jdk/internal/util/Preconditions" "SIOOBE_FORMATTER" "Ljava/util/function/BiFunction;" G9) (r9 : G9.isRef = true) (OL : Old Z n0 h0) :
    MetFree l y_31 (head1 (Jvm.Cond.code y_31 jdk_68_method_42_code 3 (some (.object "java/lang/String")) :: ws) ({ frames := 1, cells := 2, slots := 4, locals := 15 } : Room)) (fun aa_ U => aa_ = #[(.ref a), (.int (0 : Int32)), (.int (0 : Int32))] ∧ Z.Warmed39 U.vm ∧ U.heap = h0 ∧ CHv Z consts_1 U.vm h0) (fun _ _ _ _ _ => True) (fun _ U o U' => ∃ vv_ LL_, o = .returned vv_ ∧ Q_asu0 Z a v kv vs G1 G9 h0 n0 vv_ U'.heap LL_ ∧ CHr Z consts_1 U.vm U.heap U'.vm U'.heap ∧ ReturnedEndW U o U' LL_ 2 4) := by
  refine MetFree.of_bodySF (plainFor_of_name pn_java_lang_AbstractStringBuilder) hisR ?_
  intro p e s m args below meth c s₁ Bd hml0 hP hK
  obtain ⟨rfl, hZ, hh, hC0⟩ := hP
  have hx := Bd.exec
  have hby := Bd.bytes
  have hml : c.maxLocals = 3 := hml0
  have hown : s.vm.findClass "java/lang/AbstractStringBuilder" = some m.cls := findClass_of_methodNamed Bd.named
  have hnm := (name_of_methodNamed Bd.named Bd.method).1
  have X0 : Stand p l e ({ frames := 1, cells := 2, slots := 4, locals := 15 } : Room) (s.setVm s.vm) m #[(.ref a), (.int (0 : Int32)), (.int (0 : Int32))] below meth c s₁ [] 0 0 := Stand.of_body Bd
  have e0 : s₁.heap = h0 := by rw [← hh, Bd.state]; rfl
  have N0 := Fr.nil n0
  have ef : entryFrame m #[(.ref a), (.int (0 : Int32)), (.int (0 : Int32))] 3 = mkF m 0 #[.val (.ref a), .val (.int (0 : Int32)), .val (.int (0 : Int32))] [] := by first | (simp [entryFrame, mkF, argsToLocals, Value.category]; done) | rfl
  have hS0 : s.Since s.vm h0.size := (State.WarmedH.refl s).since _
  have hk0 : h0.size ≤ h0.size := Nat.le_refl _
  have own_EW := own_EW0 hw
  have ch0 : CHr Z consts_1 s.vm h0 s.vm h0 := CHr.refl hC0
  refine FinH.start (Q := Q_asu0 Z a v kv vs G1 G9 h0 n0) ef ?_
  refine FinH.by (fun tt_ kk_ => XS.iloadN X0.here hx rfl (hb hby d31_0) rfl (XS.iloadN X0.here hx rfl (hb hby d31_1) rfl (XS.aloadN X0.here hx rfl (hb hby d31_2) rfl rfl kk_))) ?_
  obtain ⟨T101, X101, e101, st101⟩ := getF X0 hx hZ hown (host := "") (Or.inl (w_ hw 88 rfl)) Via.refl e0 F2 (g := (mkF m 3 #[.val (.ref a), .val (.int 0), .val (.int 0)] [(.ref a), (.int 0), (.int 0)])) rfl rfl (hb hby d31_3)
  refine FinH.by (fun tt_ kk_ => st101 tt_ kk_) ?_
  obtain ⟨T102, X102, e102, st102⟩ := getS X101 hx hZ (host := "") hown (w_ hw 118 rfl) Via.refl e101 (S9.ext OL.2) (g := (mkF m 6 #[.val (.ref a), .val (.int 0), .val (.int 0)] [(.int 0), (.int 0), (.int 0)])) rfl (hb hby d31_6)
  refine FinH.by (fun tt_ kk_ => st102 tt_ kk_) ?_
  obtain ⟨v103, _, ⟨T103, L103, k103, n103⟩, -, X103, ⟨Lc103, hQ103, l103, y103, z103⟩, st103⟩ := Jvm.LawKit.callS X102 hx (y := y_24) hown (mvT hZ (w_ hw 120 rfl)) (mvT hZ (w_ hw 121 rfl)) (mvT hZ (w_ hw 119 rfl)) (mvT hZ (w_ hw 122 rfl)) (by decide) (backOf (W := 0) (rm_cft0 l Z a0 hw [] G9 h0 n0 Z0 r9) hZ (w_ hw 122 rfl) (w_ hw 119 rfl) (by decide) (by decide)) (g := (mkF m 9 #[.val (.ref a), .val (.int 0), .val (.int 0)] [G9, (.int 0), (.int 0), (.int 0)])) rfl (by rw [hml]; rfl) (argsL := [(.int 0), (.int 0), (.int 0), G9]) (rest := []) (lenOf pd_354 rfl) rfl (by show 2 * 0 + _ ≤ _; exact Nat.le_of_eq rfl) (hb hby d31_9) (fun _ _ => ⟨rfl, e102, (by decide : 0 + 0 ≤ _), (by decide : 0 + 0 ≤ _)⟩)
  dsimp only [Pt.U, Pt.locs, Pt.cells, Pt.slots] at X103 l103 y103 z103 st103 hQ103
  subst l103 y103 z103
  obtain ⟨rfl, Nq103, e103_⟩ := hQ103
  have N103_ := Fr.app N0 Nq103
  refine FinH.by (fun tt_ kk_ => st103 tt_ kk_) ?_
  have e103 := e103_
  refine FinH.by (fun tt_ kk_ => XS.pop X103.here hx rfl (hb hby d31_12) rfl rfl (XS.aloadN X103.here hx rfl (hb hby d31_13) rfl rfl kk_)) ?_
  obtain ⟨cq104, kq104, qa104, qb104, qc104⟩ := isOf hZ e103 E0
  obtain ⟨v104, _, ⟨T104, L104, k104, n104⟩, -, X104, ⟨Lc104, hQ104, l104, y104, z104⟩, st104⟩ := X103.virtualBack hx (y := y_7) (z := y_7) hown (mvT hZ (w_ hw 123 rfl)) (mvT hZ (w_ hw 124 rfl)) (notFace_of_selects (args := #[]) (mvT hZ (w_ hw 126 rfl))) (mvT hZ (w_ hw 126 rfl)) (mvT hZ (w_ hw 125 rfl)) (by decide) (backOf (W := 0) (rm_isl l Z a0 hw [] a G1 h0 n0 Z0 E0 F1 S1 P1 OL) hZ (w_ hw 127 rfl) (w_ hw 26 rfl) (by decide) (by decide)) qa104 qc104 (g := (mkF m 14 #[.val (.ref a), .val (.int 0), .val (.int 0)] [(.ref a)])) rfl (by rw [hml]; rfl) (Steps.refl _) (argsL := []) (rest := []) (lenOf pd_120 rfl) rfl (by show 2 * 0 + _ ≤ _; exact Nat.le_of_eq rfl) (hb hby d31_14) (fun _ _ => ⟨rfl, e103, (by decide : 0 + 0 ≤ _), (by decide : 0 + 0 ≤ _)⟩)
  dsimp only [Pt.U, Pt.locs, Pt.cells, Pt.slots] at X104 l104 y104 z104 st104 hQ104
  subst l104 y104 z104
  obtain ⟨rfl, Nq104, e104_⟩ := hQ104
  have N104_ := Fr.app N103_ Nq104
  refine FinH.byS st104 ?_
  have e104 := e104_
  show FinH _ _ _ _ _ _ _ _ _ (T104.setTop (mkF m 17 #[.val (.ref a), .val (.int 0), .val (.int 0)] [(.int 1)]))
  refine FinH.by (fun tt_ kk_ => XS.ifNo X104.here hx rfl (hb hby d31_17) rfl ((if0 _ _).trans (feq (by decide : ¬ (1 : Int32) = (0 : Int32))).1) kk_) ?_
  refine FinH.by (fun tt_ kk_ => XS.aloadN X104.here hx rfl (hb hby d31_20) rfl rfl kk_) ?_
  obtain ⟨T105, X105, e105, st105⟩ := getF X104 hx hZ hown (host := "") (Or.inl (w_ hw 32 rfl)) Via.refl e104 F0 (g := (mkF m 21 #[.val (.ref a), .val (.int 0), .val (.int 0)] [(.ref a)])) rfl rfl (hb hby d31_21)
  refine FinH.by (fun tt_ kk_ => st105 tt_ kk_) ?_
  refine FinH.by (fun tt_ kk_ => XS.iloadN X105.here hx rfl (hb hby d31_24) rfl (XS.iloadN X105.here hx rfl (hb hby d31_25) rfl (XS.iloadN X105.here hx rfl (hb hby d31_26) rfl (XS.isub X105.here hx rfl (hb hby d31_27) rfl kk_)))) ?_
  obtain ⟨v106, _, ⟨T106, L106, k106, n106⟩, -, X106, hS106, hg106, ⟨Lc106, hQ106, l106, y106, z106, hC106⟩, st106⟩ := callSS X105 hx (y := y_30) hown (mvT hZ (w_ hw 128 rfl)) (mvT hZ (w_ hw 129 rfl)) (mvT hZ (w_ hw 130 rfl)) (mvT hZ (w_ hw 131 rfl)) (by decide) (backOfSH (W := 0) (rm_nst0 l Z a0 hw [] v kv (vs : List Value) h0 n0 Z0 A0) hZ (w_ hw 131 rfl) (w_ hw 130 rfl) (by decide) (by decide) own_EW ch0.1) (g := (mkF m 28 #[.val (.ref a), .val (.int 0), .val (.int 0)] [(.int 0), (.int 0), (.ref v)])) rfl (by rw [hml]; rfl) (argsL := [(.ref v), (.int 0), (.int 0)]) (rest := []) (lenOf pd_366 rfl) rfl (by show 2 * 0 + _ ≤ _; exact Nat.le_of_eq rfl) (hb hby d31_28) (fun _ _ => ⟨rfl, e105, (by decide : 0 + 2 ≤ _), (by decide : 0 + 4 ≤ _)⟩)
  dsimp only [Pt.U, Pt.locs, Pt.cells, Pt.slots] at X106 l106 y106 z106 st106 hQ106 hS106 hg106 hC106
  subst l106 y106 z106
  obtain ⟨x107, t108, k109, rfl, Nq106, p106_0, p106_1, p106_2, p106_3, p106_4⟩ := hQ106
  have N106_ := Fr.app N104_ Nq106
  refine FinH.byS st106 ?_
  obtain ⟨X106w, hS106w, hZ106, hown106⟩ := rebS hS0 (by rw [e105]; exact hk0) X106 hS106 hg106 hZ hown
  have ch110 : CHr Z consts_1 s.vm h0 T106.vm T106.heap := ch0.trans hC106
  have kp111 : Keep h0 T106.heap [] := (Keep.refl h0 []).trans p106_0 all0
  show FinH _ _ _ _ _ _ _ _ _ (T106.setTop (mkF m 31 #[.val (.ref a), .val (.int 0), .val (.int 0)] [(.ref x107)]))
  exact FinH.ret (v := some (.ref x107)) X106w hS106w ((Nat.le_refl _)) (fun h => by rw [Bd.returns] at h; cases h) Bd.notSynchronized (⟨x107, t108, k109, rfl, N106_, kp111, p106_1, p106_2, p106_3, p106_4⟩) (by rw [hh]; exact ch110.trans (CHv.at X106w hZ106 own_EW ch110.1)) (by decide) (by decide) (fun fs hr => retA X106w hx Bd.returns rfl rfl (hb hby d31_31) hr)
def Q_ssu0 (Z : State) (a : Addr) (v : Addr) (kv : ClassId) (vs : List Value) (G1 : Int32) (G9 : Value) (h0 : Heap) (n0 : Nat) (vv_ : Option Value) (hh_ : Heap) (LL_ : List Loc) : Prop := ∃ (x : Addr), ∃ (t : Addr), ∃ (k : ClassId), vv_ = some (.ref x) ∧ Fr n0 LL_ ∧ Keep h0 hh_ [] ∧ Exa Z hh_ x "java/lang/String" ∧ Fld Z hh_ x "java/lang/String" "value" "[B" (.ref t) ∧ Fld Z hh_ x "java/lang/String" "coder" "B" (.int (0 : Int32)) ∧ Arv Z hh_ t k .byte (0 : Int32) [] (.int 0)
set_option maxRecDepth 65536 in
set_option maxHeartbeats 40000000 in
theorem rm_ssu0 (l : Launch) (Z : State) (a0 : Array Value) (hw : ∀ d ∈ tables_1, d.before a0 Z = true) (ws : List Jvm.Cond) (a : Addr) (v : Addr) (kv : ClassId) (vs : List Value) (G1 : Int32) (G9 : Value) (h0 : Heap) (n0 : Nat) (Z0 : n0 ≤ h0.size) (E0 : Exa Z h0 a "java/lang/StringBuilder") (F0 : Fld Z h0 a "java/lang/AbstractStringBuilder" "value" "[B" (.ref v)) (F1 : Fld Z h0 a "java/lang/AbstractStringBuilder" "coder" "B" (.int (0 : Int32))) (F2 : Fld Z h0 a "java/lang/AbstractStringBuilder" "count" "I" (.int (0 : Int32))) (A0 : Arv Z h0 v kv .byte (16 : Int32) vs (.int 0)) (S1 : Sta Z Z.heap "java/lang/String" "COMPACT_STRINGS" "Z" (.int G1)) (P1 : ¬ G1 = 0) (S9 : Sta Z Z.heap "jdk/internal/util/Preconditions" "SIOOBE_FORMATTER" "Ljava/util/function/BiFunction;" G9) (r9 : G9.isRef = true) (OL : Old Z n0 h0) :
    MetFree l y_32 (head1 (Jvm.Cond.code y_32 jdk_67_method_62_code 3 (some (.object "java/lang/String")) :: ws) ({ frames := 2, cells := 2, slots := 4, locals := 29 } : Room)) (fun aa_ U => aa_ = #[(.ref a), (.int (0 : Int32)), (.int (0 : Int32))] ∧ Z.Warmed39 U.vm ∧ U.heap = h0 ∧ CHv Z consts_1 U.vm h0) (fun _ _ _ _ _ => True) (fun _ U o U' => ∃ vv_ LL_, o = .returned vv_ ∧ Q_ssu0 Z a v kv vs G1 G9 h0 n0 vv_ U'.heap LL_ ∧ CHr Z consts_1 U.vm U.heap U'.vm U'.heap ∧ ReturnedEndW U o U' LL_ 2 4) := by
  refine MetFree.of_bodySF (plainFor_of_name pn_java_lang_StringBuilder) hisR ?_
  intro p e s m args below meth c s₁ Bd hml0 hP hK
  obtain ⟨rfl, hZ, hh, hC0⟩ := hP
  have hx := Bd.exec
  have hby := Bd.bytes
  have hml : c.maxLocals = 3 := hml0
  have hown : s.vm.findClass "java/lang/StringBuilder" = some m.cls := findClass_of_methodNamed Bd.named
  have hnm := (name_of_methodNamed Bd.named Bd.method).1
  have X0 : Stand p l e ({ frames := 2, cells := 2, slots := 4, locals := 29 } : Room) (s.setVm s.vm) m #[(.ref a), (.int (0 : Int32)), (.int (0 : Int32))] below meth c s₁ [] 0 0 := Stand.of_body Bd
  have e0 : s₁.heap = h0 := by rw [← hh, Bd.state]; rfl
  have N0 := Fr.nil n0
  have ef : entryFrame m #[(.ref a), (.int (0 : Int32)), (.int (0 : Int32))] 3 = mkF m 0 #[.val (.ref a), .val (.int (0 : Int32)), .val (.int (0 : Int32))] [] := by first | (simp [entryFrame, mkF, argsToLocals, Value.category]; done) | rfl
  have hS0 : s.Since s.vm h0.size := (State.WarmedH.refl s).since _
  have hk0 : h0.size ≤ h0.size := Nat.le_refl _
  have own_EW := own_EW0 hw
  have ch0 : CHr Z consts_1 s.vm h0 s.vm h0 := CHr.refl hC0
  refine FinH.start (Q := Q_ssu0 Z a v kv vs G1 G9 h0 n0) ef ?_
  refine FinH.by (fun tt_ kk_ => XS.aloadN X0.here hx rfl (hb hby d32_0) rfl rfl (XS.iloadN X0.here hx rfl (hb hby d32_1) rfl (XS.iloadN X0.here hx rfl (hb hby d32_2) rfl kk_))) ?_
  obtain ⟨v101, _, ⟨T101, L101, k101, n101⟩, -, X101, hS101, hg101, ⟨Lc101, hQ101, l101, y101, z101, hC101⟩, st101⟩ := superBackS X0 hx hZ (y := y_31) hown (w_ hw 114 rfl) (own_same (z := y_7) (y := y_31) (w_ hw 126 rfl) rfl (w_ hw 115 rfl) (by decide)) (w_ hw 115 rfl) (w_ hw 85 rfl) (by decide) (backOfSH (W := 0) (rm_asu0 l Z a0 hw [] a v kv (vs : List Value) G1 G9 h0 n0 Z0 E0 F0 F1 F2 A0 S1 P1 S9 r9 OL) hZ (w_ hw 117 rfl) (w_ hw 26 rfl) (by decide) (by decide) own_EW ch0.1) e0 (Ins.self E0) (g := (mkF m 3 #[.val (.ref a), .val (.int 0), .val (.int 0)] [(.int 0), (.int 0), (.ref a)])) rfl (by rw [hml]; rfl) (w_ hw 117 rfl) (argsL := [(.int 0), (.int 0)]) (rest := []) (lenOf pd_372 rfl) rfl (by show 2 * 0 + _ ≤ _; exact Nat.le_of_eq rfl) (hb hby d32_3) (fun _ _ => ⟨rfl, e0, (by decide : 0 + 2 ≤ _), (by decide : 0 + 4 ≤ _)⟩)
  dsimp only [Pt.U, Pt.locs, Pt.cells, Pt.slots] at X101 l101 y101 z101 st101 hQ101 hS101 hg101 hC101
  subst l101 y101 z101
  obtain ⟨x102, t103, k104, rfl, Nq101, p101_0, p101_1, p101_2, p101_3, p101_4⟩ := hQ101
  have N101_ := Fr.app N0 Nq101
  refine FinH.byS st101 ?_
  obtain ⟨X101w, hS101w, hZ101, hown101⟩ := rebS hS0 (by rw [e0]; exact hk0) X101 hS101 hg101 hZ hown
  have ch105 : CHr Z consts_1 s.vm h0 T101.vm T101.heap := ch0.trans hC101
  have kp106 : Keep h0 T101.heap [] := (Keep.refl h0 []).trans p101_0 all0
  show FinH _ _ _ _ _ _ _ _ _ (T101.setTop (mkF m 6 #[.val (.ref a), .val (.int 0), .val (.int 0)] [(.ref x102)]))
  exact FinH.ret (v := some (.ref x102)) X101w hS101w ((Nat.le_refl _)) (fun h => by rw [Bd.returns] at h; cases h) Bd.notSynchronized (⟨x102, t103, k104, rfl, N101_, kp106, p101_1, p101_2, p101_3, p101_4⟩) (by rw [hh]; exact ch105.trans (CHv.at X101w hZ101 own_EW ch105.1)) (by decide) (by decide) (fun fs hr => retA X101w hx Bd.returns rfl rfl (hb hby d32_6) hr)
def Q_ase0 (Z : State) (a : Addr) (v : Addr) (kv : ClassId) (vs : List Value) (h0 : Heap) (n0 : Nat) (vv_ : Option Value) (hh_ : Heap) (LL_ : List Loc) : Prop := vv_ = none ∧ Fr n0 LL_ ∧ Keep h0 hh_ [a] ∧ Exa Z hh_ a "java/lang/StringBuilder" ∧ Fld Z hh_ a "java/lang/AbstractStringBuilder" "value" "[B" (.ref v) ∧ Fld Z hh_ a "java/lang/AbstractStringBuilder" "coder" "B" (.int (0 : Int32)) ∧ Fld Z hh_ a "java/lang/AbstractStringBuilder" "count" "I" (.int (0 : Int32))
set_option maxRecDepth 65536 in
set_option maxHeartbeats 40000000 in
theorem rm_ase0 (l : Launch) (Z : State) (a0 : Array Value) (hw : ∀ d ∈ tables_1, d.before a0 Z = true) (ws : List Jvm.Cond) (a : Addr) (v : Addr) (kv : ClassId) (vs : List Value) (h0 : Heap) (n0 : Nat) (Z0 : n0 ≤ h0.size) (E0 : Exa Z h0 a "java/lang/StringBuilder") (F0 : Fld Z h0 a "java/lang/AbstractStringBuilder" "value" "[B" (.ref v)) (F1 : Fld Z h0 a "java/lang/AbstractStringBuilder" "coder" "B" (.int (0 : Int32))) (F2 : Fld Z h0 a "java/lang/AbstractStringBuilder" "count" "I" (.int (0 : Int32))) (A0 : Arv Z h0 v kv .byte (16 : Int32) vs (.int 0)) (ga : n0 ≤ a) (na : a ≠ v) :
    MetFree l y_33 (head1 (Jvm.Cond.code y_33 jdk_68_method_13_code 2 none :: ws) ({ frames := 1, cells := 0, slots := 0, locals := 14 } : Room)) (fun aa_ U => aa_ = #[(.ref a), (.int (0 : Int32))] ∧ Z.Warmed39 U.vm ∧ U.heap = h0) (fun _ _ _ _ _ => True) (fun _ U o U' => ∃ vv_ LL_, o = .returned vv_ ∧ Q_ase0 Z a v kv vs h0 n0 vv_ U'.heap LL_ ∧ FrameEnd U o U' LL_ 0 0) := by
  refine MetFree.of_bodySF (plainFor_of_name pn_java_lang_AbstractStringBuilder) hisR ?_
  intro p e s m args below meth c s₁ Bd hml0 hP hK
  obtain ⟨rfl, hZ, hh⟩ := hP
  have hx := Bd.exec
  have hby := Bd.bytes
  have hml : c.maxLocals = 2 := hml0
  have hown : s.vm.findClass "java/lang/AbstractStringBuilder" = some m.cls := findClass_of_methodNamed Bd.named
  have hnm := (name_of_methodNamed Bd.named Bd.method).1
  have X0 : Stand p l e ({ frames := 1, cells := 0, slots := 0, locals := 14 } : Room) s m #[(.ref a), (.int (0 : Int32))] below meth c s₁ [] 0 0 := Stand.of_body Bd
  have e0 : s₁.heap = h0 := by rw [← hh, Bd.state]; rfl
  have N0 := Fr.nil n0
  have ef : entryFrame m #[(.ref a), (.int (0 : Int32))] 2 = mkF m 0 #[.val (.ref a), .val (.int (0 : Int32))] [] := by first | (simp [entryFrame, mkF, argsToLocals, Value.category]; done) | rfl
  refine Fin.start (Q := Q_ase0 Z a v kv vs h0 n0) ef ?_
  refine Fin.by (fun tt_ kk_ => XS.iloadN X0.here hx rfl (hb hby d33_0) rfl kk_) ?_
  show Fin _ _ _ _ _ _ _ (s₁.setTop (mkF m 1 #[.val (.ref a), .val (.int 0)] [(.int 0)]))
  refine Fin.by (fun tt_ kk_ => XS.ifYes X0.here hx rfl (pc0 := 1) (pc' := 13) rfl (hb hby d33_1) rfl ((if0 _ _).trans (flt (by decide : ¬ (0 : Int32) < (0 : Int32))).2.1) (by decide) (by decide) kk_) ?_
  refine Fin.by (fun tt_ kk_ => XS.aloadN X0.here hx rfl (hb hby d33_13) rfl rfl (XS.iloadN X0.here hx rfl (hb hby d33_14) rfl kk_)) ?_
  obtain ⟨cq101, qa101, qb101⟩ := E0.cell
  obtain ⟨v101, _, ⟨T101, L101, k101, n101⟩, -, X101, ⟨Lc101, hQ101, l101, y101, z101⟩, st101⟩ := X0.privateBack hx (y := y_10) hown (mvT hZ (w_ hw 170 rfl)) (mvT hZ (w_ hw 171 rfl)) (own_selpriv (z := y_7) (y := y_10) (mvT hZ (w_ hw 126 rfl)) rfl (Cond.privateMethod_at (mvP hZ (w_ hw 172 rfl) (args := #[]))) (mvT hZ (w_ hw 171 rfl)) (by decide)) (Cond.privateMethod_at (mvP hZ (w_ hw 172 rfl) (args := #[]))) (mvT hZ (w_ hw 174 rfl)) (by decide) (backOf (W := 0) (rm_eci16_0 l Z a0 hw [] a v kv (vs : List Value) h0 n0 Z0 E0 F0 F1 A0) hZ (w_ hw 174 rfl) (w_ hw 26 rfl) (by decide) (by decide)) (g := (mkF m 15 #[.val (.ref a), .val (.int 0)] [(.int 0), (.ref a)])) rfl (by rw [hml]; rfl) (Steps.refl _) (a := a) (by rw [e0]; exact qa101) qb101 (argsL := [(.int 0)]) (rest := []) (lenOf pd_16 rfl) rfl (by show 2 * 0 + _ ≤ _; exact Nat.le_of_eq rfl) (hb hby d33_15) (fun _ _ => ⟨rfl, e0, (by decide : 0 + 0 ≤ _), (by decide : 0 + 0 ≤ _)⟩)
  dsimp only [Pt.U, Pt.locs, Pt.cells, Pt.slots] at X101 l101 y101 z101 st101 hQ101
  subst l101 y101 z101
  obtain ⟨rfl, Nq101, e101_⟩ := hQ101
  have N101_ := Fr.app N0 Nq101
  refine Fin.byS st101 ?_
  have e101 := e101_
  refine Fin.by (fun tt_ kk_ => XS.aloadN X101.here hx rfl (hb hby d33_18) rfl rfl kk_) ?_
  obtain ⟨T102, X102, e102, st102⟩ := getF X101 hx hZ hown (host := "") (Or.inl (w_ hw 88 rfl)) Via.refl e101 F2 (g := (mkF m 19 #[.val (.ref a), .val (.int 0)] [(.ref a)])) rfl rfl (hb hby d33_19)
  refine Fin.by (fun tt_ kk_ => st102 tt_ kk_) ?_
  refine Fin.by (fun tt_ kk_ => XS.iloadN X102.here hx rfl (hb hby d33_22) rfl kk_) ?_
  show Fin _ _ _ _ _ _ _ (T102.setTop (mkF m 23 #[.val (.ref a), .val (.int 0)] [(.int 0), (.int 0)]))
  refine Fin.by (fun tt_ kk_ => XS.icmpYes X102.here hx rfl (pc0 := 23) (pc' := 63) rfl (hb hby d33_23) rfl (flt (by decide : ¬ (0 : Int32) < (0 : Int32))).2.1 (by decide) (by decide) kk_) ?_
  refine Fin.by (fun tt_ kk_ => XS.aloadN X102.here hx rfl (hb hby d33_63) rfl rfl kk_) ?_
  obtain ⟨T103, X103, e103, st103⟩ := getF X102 hx hZ hown (host := "") (Or.inl (w_ hw 88 rfl)) Via.refl e102 F2 (g := (mkF m 64 #[.val (.ref a), .val (.int 0)] [(.ref a)])) rfl rfl (hb hby d33_64)
  refine Fin.by (fun tt_ kk_ => st103 tt_ kk_) ?_
  refine Fin.by (fun tt_ kk_ => XS.iloadN X103.here hx rfl (hb hby d33_67) rfl kk_) ?_
  show Fin _ _ _ _ _ _ _ (T103.setTop (mkF m 68 #[.val (.ref a), .val (.int 0)] [(.int 0), (.int 0)]))
  refine Fin.by (fun tt_ kk_ => XS.icmpYes X103.here hx rfl (pc0 := 68) (pc' := 76) rfl (hb hby d33_68) rfl (flt (by decide : ¬ (0 : Int32) < (0 : Int32))).2.2.2 (by decide) (by decide) kk_) ?_
  refine Fin.by (fun tt_ kk_ => XS.aloadN X103.here hx rfl (hb hby d33_76) rfl rfl (XS.iloadN X103.here hx rfl (hb hby d33_77) rfl kk_)) ?_
  obtain ⟨T104, h104, X104, e104, W104, st104⟩ := putF X103 hx hZ hown (host := "") (Or.inl (w_ hw 88 rfl)) Via.refl e103 F2 E0 (Or.inl (w_ hw 89 rfl)) (w_ hw 17 rfl) (ty := .int) (by decide) rfl rfl (g := (mkF m 78 #[.val (.ref a), .val (.int 0)] [(.int 0), (.ref a)])) rfl rfl (hb hby d33_78)
  refine Fin.by (fun tt_ kk_ => st104 tt_ kk_) ?_
  have N104_ := Fr.snoc X104 N101_ ga
  have kp105 : Keep h0 h104 [a] := (Keep.refl h0 [a]).wr W104 (Or.inl (List.mem_of_getElem? (i := 0) rfl))
  have E106 : Exa Z h104 a "java/lang/StringBuilder" := (E0.wr W104)
  have F107 : Fld Z h104 a "java/lang/AbstractStringBuilder" "value" "[B" (.ref v) := (F0.other W104 (Or.inr (slot_ne (Or.inl (w_ hw 33 rfl)) (Or.inl (w_ hw 89 rfl)) (by decide) (t := (.array .byte)) (t' := .int) (by decide) (by decide))))
  have F108 : Fld Z h104 a "java/lang/AbstractStringBuilder" "coder" "B" (.int (0 : Int32)) := (F1.other W104 (Or.inr (slot_ne (Or.inl (w_ hw 35 rfl)) (Or.inl (w_ hw 89 rfl)) (by decide) (t := .byte) (t' := .int) (by decide) (by decide))))
  show Fin _ _ _ _ _ _ _ (T104.setTop (mkF m 81 #[.val (.ref a), .val (.int 0)] []))
  exact Fin.ret (v := none) X104 (fun _ => rfl) Bd.notSynchronized (by rw [e104]; exact ⟨rfl, N104_, kp105, E106, F107, F108, (F2.same W104)⟩) (by decide) (by decide) (fun fs hr => X104.returnOut hx Bd.returns (hb hby d33_81) hr)
def Q_sse0 (Z : State) (a : Addr) (v : Addr) (kv : ClassId) (vs : List Value) (h0 : Heap) (n0 : Nat) (vv_ : Option Value) (hh_ : Heap) (LL_ : List Loc) : Prop := vv_ = none ∧ Fr n0 LL_ ∧ Keep h0 hh_ [a] ∧ Exa Z hh_ a "java/lang/StringBuilder" ∧ Fld Z hh_ a "java/lang/AbstractStringBuilder" "value" "[B" (.ref v) ∧ Fld Z hh_ a "java/lang/AbstractStringBuilder" "coder" "B" (.int (0 : Int32)) ∧ Fld Z hh_ a "java/lang/AbstractStringBuilder" "count" "I" (.int (0 : Int32))
set_option maxRecDepth 65536 in
set_option maxHeartbeats 40000000 in
theorem rm_sse0 (l : Launch) (Z : State) (a0 : Array Value) (hw : ∀ d ∈ tables_1, d.before a0 Z = true) (ws : List Jvm.Cond) (a : Addr) (v : Addr) (kv : ClassId) (vs : List Value) (h0 : Heap) (n0 : Nat) (Z0 : n0 ≤ h0.size) (E0 : Exa Z h0 a "java/lang/StringBuilder") (F0 : Fld Z h0 a "java/lang/AbstractStringBuilder" "value" "[B" (.ref v)) (F1 : Fld Z h0 a "java/lang/AbstractStringBuilder" "coder" "B" (.int (0 : Int32))) (F2 : Fld Z h0 a "java/lang/AbstractStringBuilder" "count" "I" (.int (0 : Int32))) (A0 : Arv Z h0 v kv .byte (16 : Int32) vs (.int 0)) (ga : n0 ≤ a) (na : a ≠ v) :
    MetFree l y_34 (head1 (Jvm.Cond.code y_34 jdk_67_method_89_code 2 none :: ws) ({ frames := 2, cells := 0, slots := 0, locals := 27 } : Room)) (fun aa_ U => aa_ = #[(.ref a), (.int (0 : Int32))] ∧ Z.Warmed39 U.vm ∧ U.heap = h0) (fun _ _ _ _ _ => True) (fun _ U o U' => ∃ vv_ LL_, o = .returned vv_ ∧ Q_sse0 Z a v kv vs h0 n0 vv_ U'.heap LL_ ∧ FrameEnd U o U' LL_ 0 0) := by
  refine MetFree.of_bodySF (plainFor_of_name pn_java_lang_StringBuilder) hisR ?_
  intro p e s m args below meth c s₁ Bd hml0 hP hK
  obtain ⟨rfl, hZ, hh⟩ := hP
  have hx := Bd.exec
  have hby := Bd.bytes
  have hml : c.maxLocals = 2 := hml0
  have hown : s.vm.findClass "java/lang/StringBuilder" = some m.cls := findClass_of_methodNamed Bd.named
  have hnm := (name_of_methodNamed Bd.named Bd.method).1
  have X0 : Stand p l e ({ frames := 2, cells := 0, slots := 0, locals := 27 } : Room) s m #[(.ref a), (.int (0 : Int32))] below meth c s₁ [] 0 0 := Stand.of_body Bd
  have e0 : s₁.heap = h0 := by rw [← hh, Bd.state]; rfl
  have N0 := Fr.nil n0
  have ef : entryFrame m #[(.ref a), (.int (0 : Int32))] 2 = mkF m 0 #[.val (.ref a), .val (.int (0 : Int32))] [] := by first | (simp [entryFrame, mkF, argsToLocals, Value.category]; done) | rfl
  refine Fin.start (Q := Q_sse0 Z a v kv vs h0 n0) ef ?_
  refine Fin.by (fun tt_ kk_ => XS.aloadN X0.here hx rfl (hb hby d34_0) rfl rfl (XS.iloadN X0.here hx rfl (hb hby d34_1) rfl kk_)) ?_
  obtain ⟨v101, _, ⟨T101, L101, k101, n101⟩, -, X101, ⟨Lc101, hQ101, l101, y101, z101⟩, st101⟩ := superBack X0 hx hZ (y := y_33) hown (w_ hw 166 rfl) (own_same (z := y_7) (y := y_33) (w_ hw 126 rfl) rfl (w_ hw 167 rfl) (by decide)) (w_ hw 167 rfl) (w_ hw 85 rfl) (by decide) (backOf (W := 0) (rm_ase0 l Z a0 hw [] a v kv (vs : List Value) h0 n0 Z0 E0 F0 F1 F2 A0 ga na) hZ (w_ hw 169 rfl) (w_ hw 26 rfl) (by decide) (by decide)) e0 (Ins.self E0) (g := (mkF m 2 #[.val (.ref a), .val (.int 0)] [(.int 0), (.ref a)])) rfl (by rw [hml]; rfl) (w_ hw 169 rfl) (argsL := [(.int 0)]) (rest := []) (lenOf pd_16 rfl) rfl (by show 2 * 0 + _ ≤ _; exact Nat.le_of_eq rfl) (hb hby d34_2) (fun _ _ => ⟨rfl, e0, (by decide : 0 + 0 ≤ _), (by decide : 0 + 0 ≤ _)⟩)
  dsimp only [Pt.U, Pt.locs, Pt.cells, Pt.slots] at X101 l101 y101 z101 st101 hQ101
  subst l101 y101 z101
  obtain ⟨rfl, Nq101, p101_0, p101_1, p101_2, p101_3, p101_4⟩ := hQ101
  have N101_ := Fr.app N0 Nq101
  refine Fin.byS st101 ?_
  have kp102 : Keep h0 T101.heap [a] := (Keep.refl h0 [a]).trans p101_0 (allS (Or.inl (List.mem_of_getElem? (i := 0) rfl)) all0)
  show Fin _ _ _ _ _ _ _ (T101.setTop (mkF m 5 #[.val (.ref a), .val (.int 0)] []))
  exact Fin.ret (v := none) X101 (fun _ => rfl) Bd.notSynchronized (⟨rfl, N101_, kp102, p101_1, p101_2, p101_3, p101_4⟩) (by decide) (by decide) (fun fs hr => X101.returnOut hx Bd.returns (hb hby d34_5) hr)
def Q_tak0 (Z : State) (b : Addr) (sb : Addr) (v : Addr) (kv : ClassId) (vs : List Value) (G1 : Int32) (G9 : Value) (h0 : Heap) (n0 : Nat) (vv_ : Option Value) (hh_ : Heap) (LL_ : List Loc) : Prop := ∃ (y : Addr), vv_ = some (.ref y) ∧ Fr n0 LL_ ∧ Keep h0 hh_ [sb] ∧ h0.size ≤ y ∧ Exa Z hh_ y "com/example/colonnade/colonnade/SpooledText" ∧ Exa Z hh_ sb "java/lang/StringBuilder" ∧ Fld Z hh_ sb "java/lang/AbstractStringBuilder" "value" "[B" (.ref v) ∧ Fld Z hh_ sb "java/lang/AbstractStringBuilder" "coder" "B" (.int (0 : Int32)) ∧ Fld Z hh_ sb "java/lang/AbstractStringBuilder" "count" "I" (.int (0 : Int32))
set_option maxRecDepth 65536 in
set_option maxHeartbeats 40000000 in
theorem rm_tak0 (l : Launch) (Z : State) (a0 : Array Value) (hw : ∀ d ∈ tables_1, d.before a0 Z = true) (ws : List Jvm.Cond) (b : Addr) (sb : Addr) (v : Addr) (kv : ClassId) (vs : List Value) (G1 : Int32) (G9 : Value) (h0 : Heap) (n0 : Nat) (Z0 : n0 ≤ h0.size) (T0 : Exa Z h0 b "com/example/colonnade/colonnade/TextSpool") (T1 : Fld Z h0 b "com/example/colonnade/colonnade/TextSpool" "chars" "Ljava/lang/StringBuilder;" (.ref sb)) (T2 : Fld Z h0 b "com/example/colonnade/colonnade/TextSpool" "charsInMemory" "I" (.int (1000 : Int32))) (T3 : Fld Z h0 b "com/example/colonnade/colonnade/TextSpool" "file" "Lcom/example/colonnade/colonnade/SpoolFile;" .null) (S_0 : Exa Z h0 sb "java/lang/StringBuilder") (S_1 : Fld Z h0 sb "java/lang/AbstractStringBuilder" "value" "[B" (.ref v)) (S_2 : Fld Z h0 sb "java/lang/AbstractStringBuilder" "coder" "B" (.int (0 : Int32))) (S_3 : Fld Z h0 sb "java/lang/AbstractStringBuilder" "count" "I" (.int (0 : Int32))) (A0 : Arv Z h0 v kv .byte (16 : Int32) vs (.int 0)) (gs : n0 ≤ sb) (n1 : sb ≠ v) (n2 : b ≠ sb) (S1 : Sta Z Z.heap "java/lang/String" "COMPACT_STRINGS" "Z" (.int G1)) (P1 : ¬ G1 = 0) (S9 : Sta Z Z.heap "jdk/internal/util/Preconditions" "SIOOBE_FORMATTER" "Ljava/util/function/BiFunction;" G9) (r9 : G9.isRef = true) (OL : Old Z n0 h0) :
    MetFree l y_35 (head1 (Jvm.Cond.code y_35 prog_103_method_6_code 4 (some (.object "com/example/colonnade/colonnade/SpooledText")) :: ws) ({ frames := 3, cells := 3, slots := 7, locals := 45 } : Room)) (fun aa_ U => aa_ = #[(.ref b), (.long (0 : Int64))] ∧ Z.Warmed39 U.vm ∧ U.heap = h0 ∧ CHv Z consts_1 U.vm h0) (fun _ _ _ _ _ => True) (fun _ U o U' => ∃ vv_ LL_, o = .returned vv_ ∧ Q_tak0 Z b sb v kv vs G1 G9 h0 n0 vv_ U'.heap LL_ ∧ CHr Z consts_1 U.vm U.heap U'.vm U'.heap ∧ ReturnedEndW U o U' LL_ 3 7) := by
  refine MetFree.of_bodySF (plainFor_of_name pn_com_example_colonnade_colonnade_TextSpool) hisR ?_
  intro p e s m args below meth c s₁ Bd hml0 hP hK
  obtain ⟨rfl, hZ, hh, hC0⟩ := hP
  have hx := Bd.exec
  have hby := Bd.bytes
  have hml : c.maxLocals = 4 := hml0
  have hown : s.vm.findClass "com/example/colonnade/colonnade/TextSpool" = some m.cls := findClass_of_methodNamed Bd.named
  have hnm := (name_of_methodNamed Bd.named Bd.method).1
  have X0 : Stand p l e ({ frames := 3, cells := 3, slots := 7, locals := 45 } : Room) (s.setVm s.vm) m #[(.ref b), (.long (0 : Int64))] below meth c s₁ [] 0 0 := Stand.of_body Bd
  have e0 : s₁.heap = h0 := by rw [← hh, Bd.state]; rfl
  have N0 := Fr.nil n0
  have ef : entryFrame m #[(.ref b), (.long (0 : Int64))] 4 = mkF m 0 #[.val (.ref b), .val (.long (0 : Int64)), .second, .unset] [] := by first | (simp [entryFrame, mkF, argsToLocals, Value.category]; done) | rfl
  have hS0 : s.Since s.vm h0.size := (State.WarmedH.refl s).since _
  have hk0 : h0.size ≤ h0.size := Nat.le_refl _
  have own_EW := own_EW0 hw
  have ch0 : CHr Z consts_1 s.vm h0 s.vm h0 := CHr.refl hC0
  refine FinH.start (Q := Q_tak0 Z b sb v kv vs G1 G9 h0 n0) ef ?_
  refine FinH.by (fun tt_ kk_ => XS.aloadN X0.here hx rfl (hb hby d35_0) rfl rfl kk_) ?_
  obtain ⟨T101, X101, e101, st101⟩ := getF X0 hx hZ hown (host := "") (Or.inl (w_ hw 76 rfl)) Via.refl e0 T3 (g := (mkF m 1 #[.val (.ref b), .val (.long (0 : Int64)), .second, .unset] [(.ref b)])) rfl rfl (hb hby d35_1)
  refine FinH.by (fun tt_ kk_ => st101 tt_ kk_) ?_
  refine FinH.by (fun tt_ kk_ => XS.ifnonnullNo X101.here hx rfl (hb hby d35_4) rfl kk_) ?_
  obtain ⟨T102, h102, X102, e102, E102, A102, D102, -, st102⟩ := newO X101 hx hZ hown (w_ hw 106 rfl) (w_ hw 107 rfl) (w_ hw 108 rfl) e101 (g := (mkF m 7 #[.val (.ref b), .val (.long (0 : Int64)), .second, .unset] [])) rfl (hb hby d35_7) (by decide) (by decide)
  obtain ⟨a102, g102⟩ : ∃ z, z = h0.size := ⟨_, rfl⟩
  rw [← g102] at A102 D102 st102
  refine FinH.by (fun tt_ kk_ => st102 tt_ kk_) ?_
  have ch103 : CHr Z consts_1 s.vm h0 s.vm h102 := ch0.trans (CHr.ext E102 ch0.1)
  refine FinH.by (fun tt_ kk_ => XS.dup X102.here hx rfl (hb hby d35_10) rfl rfl (XS.aloadN X102.here hx rfl (hb hby d35_11) rfl rfl kk_)) ?_
  have F104 : Fld Z h102 b "com/example/colonnade/colonnade/TextSpool" "chars" "Ljava/lang/StringBuilder;" (.ref sb) := (T1.ext E102)
  obtain ⟨T105, X105, e105, st105⟩ := getF X102 hx hZ hown (host := "") (Or.inl (w_ hw 36 rfl)) Via.refl e102 F104 (g := (mkF m 12 #[.val (.ref b), .val (.long (0 : Int64)), .second, .unset] [(.ref b), (.ref a102), (.ref a102)])) rfl rfl (hb hby d35_12)
  refine FinH.by (fun tt_ kk_ => st105 tt_ kk_) ?_
  refine FinH.by (fun tt_ kk_ => XS.iconst X105.here hx rfl (hb hby d35_15) (XS.lloadN X105.here hx rfl (hb hby d35_16) rfl (XS.l2i X105.here hx rfl (hb hby d35_17) rfl kk_))) ?_
  have E106 : Exa Z h102 sb "java/lang/StringBuilder" := (S_0.ext E102)
  have F107 : Fld Z h102 sb "java/lang/AbstractStringBuilder" "value" "[B" (.ref v) := (S_1.ext E102)
  have F108 : Fld Z h102 sb "java/lang/AbstractStringBuilder" "coder" "B" (.int (0 : Int32)) := (S_2.ext E102)
  have F109 : Fld Z h102 sb "java/lang/AbstractStringBuilder" "count" "I" (.int (0 : Int32)) := (S_3.ext E102)
  have A110 : Arv Z h102 v kv .byte (16 : Int32) vs (.int 0) := (A0.ext E102)
  have O111 : Old Z n0 h102 := (OL.ext E102)
  have z112 : n0 ≤ h102.size := Nat.le_trans Z0 E102.1
  obtain ⟨cq113, kq113, qa113, qb113, qc113⟩ := isOf hZ e105 E106
  obtain ⟨v113, _, ⟨T113, L113, k113, n113⟩, -, X113, hS113, hg113, ⟨Lc113, hQ113, l113, y113, z113, hC113⟩, st113⟩ := X105.virtualBackS hx (y := y_32) (z := y_32) hown (mvT hZ (w_ hw 109 rfl)) (mvT hZ (w_ hw 110 rfl)) (notFace_of_selects (args := #[]) (mvT hZ (w_ hw 112 rfl))) (mvT hZ (w_ hw 112 rfl)) (mvT hZ (w_ hw 111 rfl)) (by decide) (backOfSH (W := 2) (rm_ssu0 l Z a0 hw [] sb v kv (vs : List Value) G1 G9 h102 n0 z112 E106 F107 F108 F109 A110 S1 P1 S9 r9 O111) hZ (w_ hw 113 rfl) (w_ hw 18 rfl) (by decide) (by decide) own_EW ch103.1) qa113 qc113 (g := (mkF m 18 #[.val (.ref b), .val (.long (0 : Int64)), .second, .unset] [(.int 0), (.int 0), (.ref sb), (.ref a102), (.ref a102)])) rfl (by rw [hml]; rfl) (Steps.refl _) (argsL := [(.int 0), (.int 0)]) (rest := [(.ref a102), (.ref a102)]) (lenOf pd_372 rfl) rfl (by show 2 * 0 + _ ≤ _; exact Nat.le_of_eq rfl) (hb hby d35_18) (fun _ _ => ⟨rfl, e105, (by decide : 1 + 2 ≤ _), (by decide : 3 + 4 ≤ _)⟩)
  dsimp only [Pt.U, Pt.locs, Pt.cells, Pt.slots] at X113 l113 y113 z113 st113 hQ113 hS113 hg113 hC113
  subst l113 y113 z113
  obtain ⟨x114, t115, k116, rfl, Nq113, p113_0, p113_1, p113_2, p113_3, p113_4⟩ := hQ113
  have N113_ := Fr.app N0 Nq113
  refine FinH.byS st113 ?_
  obtain ⟨X113w, hS113w, hZ113, hown113⟩ := rebS hS0 (by rw [e105]; exact (Nat.le_trans hk0 E102.1)) X113 hS113 hg113 hZ hown
  have ch117 : CHr Z consts_1 s.vm h0 T113.vm T113.heap := ch103.trans hC113
  have E118 : Exa Z T113.heap a102 "com/example/colonnade/colonnade/SpooledText" := (A102.keep p113_0)
  have F119 : Fld Z T113.heap a102 "com/example/colonnade/colonnade/SpooledText" "text" "Ljava/lang/String;" .null := ((D102 (Or.inr (w_ hw 143 rfl)) (ty := (.object "java/lang/String")) (by decide) : Fld Z h102 a102 "com/example/colonnade/colonnade/SpooledText" "text" "Ljava/lang/String;" .null).keep p113_0 nin0)
  have F120 : Fld Z T113.heap a102 "com/example/colonnade/colonnade/SpooledText" "file" "Lcom/example/colonnade/colonnade/SpoolFile;" .null := ((D102 (Or.inr (w_ hw 145 rfl)) (ty := (.object "com/example/colonnade/colonnade/SpoolFile")) (by decide) : Fld Z h102 a102 "com/example/colonnade/colonnade/SpooledText" "file" "Lcom/example/colonnade/colonnade/SpoolFile;" .null).keep p113_0 nin0)
  have F121 : Fld Z T113.heap a102 "com/example/colonnade/colonnade/SpooledText" "length" "J" (.long (0 : Int64)) := ((D102 (Or.inr (w_ hw 160 rfl)) (ty := .long) (by decide) : Fld Z h102 a102 "com/example/colonnade/colonnade/SpooledText" "length" "J" (.long (0 : Int64))).keep p113_0 nin0)
  have g122 : n0 ≤ a102 := Nat.le_trans Z0 (Nat.le_of_eq g102.symm)
  have O123 : Old Z n0 T113.heap := (O111.keep p113_0 all0)
  have z124 : n0 ≤ T113.heap.size := Nat.le_trans z112 p113_0.1
  obtain ⟨v125, _, ⟨T125, L125, k125, n125⟩, -, X125, ⟨Lc125, hQ125, l125, y125, z125⟩, st125⟩ := X113w.specialBack hx (y := y_22) rfl hown113 (mvT hZ113 (w_ hw 138 rfl)) (mvT hZ113 (w_ hw 139 rfl)) (mvT hZ113 (w_ hw 140 rfl)) (by decide) (backOf (W := 1) (rm_stx l Z a0 hw [] a102 x114 t115 k116 ([] : List Value) (0 : Int32) G1 T113.heap n0 z124 E118 F119 F120 F121 g122 p113_1 p113_2 p113_3 p113_4 (own_exne p113_1 E118 (by decide)) (own_arne p113_4 E118 (w_ hw 107 rfl)) S1 P1 O123) hZ113 (w_ hw 140 rfl) (w_ hw 108 rfl) (by decide) (by decide)) (g := (mkF m 21 #[.val (.ref b), .val (.long (0 : Int64)), .second, .unset] [(.ref x114), (.ref a102), (.ref a102)])) rfl (by rw [hml]; rfl) (Steps.refl _) (a := a102) (argsL := [(.ref x114)]) (rest := [(.ref a102)]) (lenOf pd_410 rfl) rfl (by show 2 * 0 + _ ≤ _; exact Nat.le_of_eq rfl) (hb hby d35_21) (fun _ _ => ⟨rfl, rfl, (by decide : 3 + 0 ≤ _), (by decide : 7 + 0 ≤ _)⟩)
  dsimp only [Pt.U, Pt.locs, Pt.cells, Pt.slots] at X125 l125 y125 z125 st125 hQ125
  subst l125 y125 z125
  obtain ⟨rfl, Nq125, p125_0, p125_1⟩ := hQ125
  have N125_ := Fr.app N113_ Nq125
  refine FinH.byS st125 ?_
  have ch126 : CHr Z consts_1 s.vm h0 T113.vm T125.heap := ch117.trans (CHr.keep p125_0 (allS (Safe.exa hZ113.alike E118 (by decide) (by decide)) all0) ch117.1)
  refine FinH.by (fun tt_ kk_ => XS.astoreN X125.here hx rfl (hb hby d35_24) rfl rfl (l' := #[.val (.ref b), .val (.long (0 : Int64)), .second, .val (.ref a102)]) rfl (XS.aloadN X125.here hx rfl (hb hby d35_25) rfl rfl kk_)) ?_
  have ne127 : b ≠ a102 := Nat.ne_of_lt (Nat.lt_of_lt_of_le T0.lt (Nat.le_of_eq g102.symm))
  have F128 : Fld Z T125.heap b "com/example/colonnade/colonnade/TextSpool" "chars" "Ljava/lang/StringBuilder;" (.ref sb) := ((F104.keep p113_0 nin0).keep p125_0 (ninS ne127 nin0))
  obtain ⟨T129, X129, e129, st129⟩ := getF X125 hx hZ113 hown113 (host := "") (Or.inl (w_ hw 36 rfl)) Via.refl rfl F128 (g := (mkF m 26 #[.val (.ref b), .val (.long (0 : Int64)), .second, .val (.ref a102)] [(.ref b)])) rfl rfl (hb hby d35_26)
  refine FinH.by (fun tt_ kk_ => st129 tt_ kk_) ?_
  refine FinH.by (fun tt_ kk_ => XS.iconst X129.here hx rfl (hb hby d35_29) kk_) ?_
  have E130 : Exa Z T125.heap sb "java/lang/StringBuilder" := ((E106.keep p113_0).keep p125_0)
  have ne131 : sb ≠ a102 := Nat.ne_of_lt (Nat.lt_of_lt_of_le S_0.lt (Nat.le_of_eq g102.symm))
  have F132 : Fld Z T125.heap sb "java/lang/AbstractStringBuilder" "value" "[B" (.ref v) := ((F107.keep p113_0 nin0).keep p125_0 (ninS ne131 nin0))
  have F133 : Fld Z T125.heap sb "java/lang/AbstractStringBuilder" "coder" "B" (.int (0 : Int32)) := ((F108.keep p113_0 nin0).keep p125_0 (ninS ne131 nin0))
  have F134 : Fld Z T125.heap sb "java/lang/AbstractStringBuilder" "count" "I" (.int (0 : Int32)) := ((F109.keep p113_0 nin0).keep p125_0 (ninS ne131 nin0))
  have ne135 : v ≠ a102 := Nat.ne_of_lt (Nat.lt_of_lt_of_le A0.lt (Nat.le_of_eq g102.symm))
  have A136 : Arv Z T125.heap v kv .byte (16 : Int32) vs (.int 0) := ((A110.keep p113_0 nin0).keep p125_0 (ninS ne135 nin0))
  have z137 : n0 ≤ T125.heap.size := Nat.le_trans z124 p125_0.1
  obtain ⟨cq138, kq138, qa138, qb138, qc138⟩ := isOf hZ113 e129 E130
  obtain ⟨v138, _, ⟨T138, L138, k138, n138⟩, -, X138, ⟨Lc138, hQ138, l138, y138, z138⟩, st138⟩ := X129.virtualBack hx (y := y_34) (z := y_34) hown113 (mvT hZ113 (w_ hw 161 rfl)) (mvT hZ113 (w_ hw 162 rfl)) (notFace_of_selects (args := #[]) (mvT hZ113 (w_ hw 164 rfl))) (mvT hZ113 (w_ hw 164 rfl)) (mvT hZ113 (w_ hw 163 rfl)) (by decide) (backOf (W := 0) (rm_sse0 l Z a0 hw [] sb v kv (vs : List Value) T125.heap n0 z137 E130 F132 F133 F134 A136 gs n1) hZ113 (w_ hw 165 rfl) (w_ hw 18 rfl) (by decide) (by decide)) qa138 qc138 (g := (mkF m 30 #[.val (.ref b), .val (.long (0 : Int64)), .second, .val (.ref a102)] [(.int 0), (.ref sb)])) rfl (by rw [hml]; rfl) (Steps.refl _) (argsL := [(.int 0)]) (rest := []) (lenOf pd_16 rfl) rfl (by show 2 * 0 + _ ≤ _; exact Nat.le_of_eq rfl) (hb hby d35_30) (fun _ _ => ⟨rfl, e129, (by decide : 3 + 0 ≤ _), (by decide : 7 + 0 ≤ _)⟩)
  dsimp only [Pt.U, Pt.locs, Pt.cells, Pt.slots] at X138 l138 y138 z138 st138 hQ138
  subst l138 y138 z138
  obtain ⟨rfl, Nq138, p138_0, p138_1, p138_2, p138_3, p138_4⟩ := hQ138
  have N138_ := Fr.app N125_ Nq138
  refine FinH.byS st138 ?_
  have ch139 : CHr Z consts_1 s.vm h0 T113.vm T138.heap := ch126.trans (CHr.keep p138_0 (allS (Safe.exa hZ113.alike E130 (by decide) (by decide)) all0) ch126.1)
  refine FinH.by (fun tt_ kk_ => XS.aloadN X138.here hx rfl (hb hby d35_33) rfl rfl kk_) ?_
  have kp140 : Keep h0 h102 [sb] := (Keep.refl h0 [sb]).ext E102
  have kp141 : Keep h0 T113.heap [sb] := kp140.trans p113_0 all0
  have kp142 : Keep h0 T125.heap [sb] := kp141.trans p125_0 (allS (Or.inr (Nat.le_trans (Nat.le_refl _) (Nat.le_of_eq g102.symm))) all0)
  have kp143 : Keep h0 T138.heap [sb] := kp142.trans p138_0 (allS (Or.inl (List.mem_of_getElem? (i := 0) rfl)) all0)
  have E144 : Exa Z T138.heap a102 "com/example/colonnade/colonnade/SpooledText" := (p125_1.keep p138_0)
  show FinH _ _ _ _ _ _ _ _ _ (T138.setTop (mkF m 34 #[.val (.ref b), .val (.long (0 : Int64)), .second, .val (.ref a102)] [(.ref a102)]))
  exact FinH.ret (v := some (.ref a102)) X138 hS113w ((Nat.le_trans (Nat.le_refl _) (Nat.le_trans p125_0.1 p138_0.1))) (fun h => by rw [Bd.returns] at h; cases h) Bd.notSynchronized (⟨a102, rfl, N138_, kp143, (Nat.le_trans (Nat.le_refl _) (Nat.le_of_eq g102.symm)), E144, p138_1, p138_2, p138_3, p138_4⟩) (by rw [hh]; exact ch139.trans (CHv.at X138 hZ113 own_EW ch139.1)) (by decide) (by decide) (fun fs hr => retA X138 hx Bd.returns rfl rfl (hb hby d35_34) hr)
def Q_fin0 (Z : State) (a : Addr) (kd : Addr) (b : Addr) (sb : Addr) (v : Addr) (kv : ClassId) (vs : List Value) (r1 : Int64) (r2 : Int64) (r3 : Int64) (e4 : Int64) (tb : Int64) (G1 : Int32) (G9 : Value) (h0 : Heap) (n0 : Nat) (vv_ : Option Value) (hh_ : Heap) (LL_ : List Loc) : Prop := ∃ (y : Addr), vv_ = some (.ref y) ∧ Fr n0 LL_ ∧ Keep h0 hh_ [a, sb] ∧ h0.size ≤ y ∧ Exa Z hh_ y "com/example/colonnade/colonnade/SpooledItem" ∧ Fld Z hh_ y "com/example/colonnade/colonnade/SpooledItem" "line" "J" (.long r1) ∧ Fld Z hh_ y "com/example/colonnade/colonnade/SpooledItem" "column" "J" (.long r2) ∧ Fld Z hh_ y "com/example/colonnade/colonnade/SpooledItem" "start" "J" (.long r3) ∧ Fld Z hh_ y "com/example/colonnade/colonnade/SpooledItem" "end" "J" (.long e4) ∧ Exa Z hh_ a "com/example/colonnade/colonnade/ItemBuilder" ∧ Fld Z hh_ a "com/example/colonnade/colonnade/ItemBuilder" "text" "Lcom/example/colonnade/colonnade/TextSpool;" (.ref b) ∧ Fld Z hh_ a "com/example/colonnade/colonnade/ItemBuilder" "started" "Z" (.int (0 : Int32)) ∧ Fld Z hh_ a "com/example/colonnade/colonnade/ItemBuilder" "line" "J" (.long r1) ∧ Fld Z hh_ a "com/example/colonnade/colonnade/ItemBuilder" "column" "J" (.long r2) ∧ Fld Z hh_ a "com/example/colonnade/colonnade/ItemBuilder" "start" "J" (.long r3) ∧ Fld Z hh_ a "com/example/colonnade/colonnade/ItemBuilder" "end" "J" (.long e4) ∧ Fld Z hh_ a "com/example/colonnade/colonnade/ItemBuilder" "kept" "J" (.long (0 : Int64)) ∧ Fld Z hh_ a "com/example/colonnade/colonnade/ItemBuilder" "trailingBlanks" "J" (.long tb) ∧ Exa Z hh_ sb "java/lang/StringBuilder" ∧ Fld Z hh_ sb "java/lang/AbstractStringBuilder" "value" "[B" (.ref v) ∧ Fld Z hh_ sb "java/lang/AbstractStringBuilder" "coder" "B" (.int (0 : Int32)) ∧ Fld Z hh_ sb "java/lang/AbstractStringBuilder" "count" "I" (.int (0 : Int32))
set_option maxRecDepth 65536 in
set_option maxHeartbeats 40000000 in
theorem rm_fin0 (l : Launch) (Z : State) (a0 : Array Value) (hw : ∀ d ∈ tables_1, d.before a0 Z = true) (ws : List Jvm.Cond) (a : Addr) (kd : Addr) (b : Addr) (sb : Addr) (v : Addr) (kv : ClassId) (vs : List Value) (r1 : Int64) (r2 : Int64) (r3 : Int64) (e4 : Int64) (tb : Int64) (G1 : Int32) (G9 : Value) (h0 : Heap) (n0 : Nat) (Z0 : n0 ≤ h0.size) (I0 : Exa Z h0 a "com/example/colonnade/colonnade/ItemBuilder") (I1 : Fld Z h0 a "com/example/colonnade/colonnade/ItemBuilder" "text" "Lcom/example/colonnade/colonnade/TextSpool;" (.ref b)) (I2 : Fld Z h0 a "com/example/colonnade/colonnade/ItemBuilder" "started" "Z" (.int (1 : Int32))) (I3 : Fld Z h0 a "com/example/colonnade/colonnade/ItemBuilder" "line" "J" (.long r1)) (I4 : Fld Z h0 a "com/example/colonnade/colonnade/ItemBuilder" "column" "J" (.long r2)) (I5 : Fld Z h0 a "com/example/colonnade/colonnade/ItemBuilder" "start" "J" (.long r3)) (I6 : Fld Z h0 a "com/example/colonnade/colonnade/ItemBuilder" "end" "J" (.long e4)) (I7 : Fld Z h0 a "com/example/colonnade/colonnade/ItemBuilder" "kept" "J" (.long (0 : Int64))) (I8 : Fld Z h0 a "com/example/colonnade/colonnade/ItemBuilder" "trailingBlanks" "J" (.long tb)) (T0 : Exa Z h0 b "com/example/colonnade/colonnade/TextSpool") (T1 : Fld Z h0 b "com/example/colonnade/colonnade/TextSpool" "chars" "Ljava/lang/StringBuilder;" (.ref sb)) (T2 : Fld Z h0 b "com/example/colonnade/colonnade/TextSpool" "charsInMemory" "I" (.int (1000 : Int32))) (T3 : Fld Z h0 b "com/example/colonnade/colonnade/TextSpool" "file" "Lcom/example/colonnade/colonnade/SpoolFile;" .null) (S_0 : Exa Z h0 sb "java/lang/StringBuilder") (S_1 : Fld Z h0 sb "java/lang/AbstractStringBuilder" "value" "[B" (.ref v)) (S_2 : Fld Z h0 sb "java/lang/AbstractStringBuilder" "coder" "B" (.int (0 : Int32))) (S_3 : Fld Z h0 sb "java/lang/AbstractStringBuilder" "count" "I" (.int (0 : Int32))) (A0 : Arv Z h0 v kv .byte (16 : Int32) vs (.int 0)) (ga : n0 ≤ a) (gs : n0 ≤ sb) (m1 : a ≠ b) (m2 : a ≠ sb) (m3 : a ≠ v) (n1 : sb ≠ v) (n2 : b ≠ sb) (n3 : b ≠ v) (S1 : Sta Z Z.heap "java/lang/String" "COMPACT_STRINGS" "Z" (.int G1)) (P1 : ¬ G1 = 0) (S9 : Sta Z Z.heap "jdk/internal/util/Preconditions" "SIOOBE_FORMATTER" "Ljava/util/function/BiFunction;" G9) (r9 : G9.isRef = true) (OL : Old Z n0 h0) :
    MetFree l y_36 (head1 (Jvm.Cond.code y_36 prog_46_method_9_code 3 (some (.object "com/example/colonnade/colonnade/SpooledItem")) :: ws) ({ frames := 4, cells := 4, slots := 13, locals := 71 } : Room)) (fun aa_ U => aa_ = #[(.ref a), (.ref kd)] ∧ Z.Warmed39 U.vm ∧ U.heap = h0 ∧ CHv Z consts_1 U.vm h0) (fun _ _ _ _ _ => True) (fun _ U o U' => ∃ vv_ LL_, o = .returned vv_ ∧ Q_fin0 Z a kd b sb v kv vs r1 r2 r3 e4 tb G1 G9 h0 n0 vv_ U'.heap LL_ ∧ CHr Z consts_1 U.vm U.heap U'.vm U'.heap ∧ ReturnedEndW U o U' LL_ 4 13) := by
  refine MetFree.of_bodySF (plainFor_of_name pn_com_example_colonnade_colonnade_ItemBuilder) hisR ?_
  intro p e s m args below meth c s₁ Bd hml0 hP hK
  obtain ⟨rfl, hZ, hh, hC0⟩ := hP
  have hx := Bd.exec
  have hby := Bd.bytes
  have hml : c.maxLocals = 3 := hml0
  have hown : s.vm.findClass "com/example/colonnade/colonnade/ItemBuilder" = some m.cls := findClass_of_methodNamed Bd.named
  have hnm := (name_of_methodNamed Bd.named Bd.method).1
  have X0 : Stand p l e ({ frames := 4, cells := 4, slots := 13, locals := 71 } : Room) (s.setVm s.vm) m #[(.ref a), (.ref kd)] below meth c s₁ [] 0 0 := Stand.of_body Bd
  have e0 : s₁.heap = h0 := by rw [← hh, Bd.state]; rfl
  have N0 := Fr.nil n0
  have ef : entryFrame m #[(.ref a), (.ref kd)] 3 = mkF m 0 #[.val (.ref a), .val (.ref kd), .unset] [] := by first | (simp [entryFrame, mkF, argsToLocals, Value.category]; done) | rfl
  have hS0 : s.Since s.vm h0.size := (State.WarmedH.refl s).since _
  have hk0 : h0.size ≤ h0.size := Nat.le_refl _
  have own_EW := own_EW0 hw
  have ch0 : CHr Z consts_1 s.vm h0 s.vm h0 := CHr.refl hC0
  refine FinH.start (Q := Q_fin0 Z a kd b sb v kv vs r1 r2 r3 e4 tb G1 G9 h0 n0) ef ?_
  obtain ⟨T101, h101, X101, e101, E101, A101, D101, -, st101⟩ := newO X0 hx hZ hown (w_ hw 98 rfl) (w_ hw 99 rfl) (w_ hw 100 rfl) e0 (g := (mkF m 0 #[.val (.ref a), .val (.ref kd), .unset] [])) rfl (hb hby d36_0) (by decide) (by decide)
  obtain ⟨a101, g101⟩ : ∃ z, z = h0.size := ⟨_, rfl⟩
  rw [← g101] at A101 D101 st101
  refine FinH.by (fun tt_ kk_ => st101 tt_ kk_) ?_
  have ch102 : CHr Z consts_1 s.vm h0 s.vm h101 := ch0.trans (CHr.ext E101 ch0.1)
  refine FinH.by (fun tt_ kk_ => XS.dup X101.here hx rfl (hb hby d36_3) rfl rfl (XS.aloadN X101.here hx rfl (hb hby d36_4) rfl rfl (XS.aloadN X101.here hx rfl (hb hby d36_5) rfl rfl kk_))) ?_
  have F103 : Fld Z h101 a "com/example/colonnade/colonnade/ItemBuilder" "line" "J" (.long r1) := (I3.ext E101)
  obtain ⟨T104, X104, e104, st104⟩ := getF X101 hx hZ hown (host := "") (Or.inl (w_ hw 49 rfl)) Via.refl e101 F103 (g := (mkF m 6 #[.val (.ref a), .val (.ref kd), .unset] [(.ref a), (.ref kd), (.ref a101), (.ref a101)])) rfl rfl (hb hby d36_6)
  refine FinH.by (fun tt_ kk_ => st104 tt_ kk_) ?_
  refine FinH.by (fun tt_ kk_ => XS.aloadN X104.here hx rfl (hb hby d36_9) rfl rfl kk_) ?_
  have F105 : Fld Z h101 a "com/example/colonnade/colonnade/ItemBuilder" "column" "J" (.long r2) := (I4.ext E101)
  obtain ⟨T106, X106, e106, st106⟩ := getF X104 hx hZ hown (host := "") (Or.inl (w_ hw 51 rfl)) Via.refl e104 F105 (g := (mkF m 10 #[.val (.ref a), .val (.ref kd), .unset] [(.ref a), (.long r1), (.ref kd), (.ref a101), (.ref a101)])) rfl rfl (hb hby d36_10)
  refine FinH.by (fun tt_ kk_ => st106 tt_ kk_) ?_
  refine FinH.by (fun tt_ kk_ => XS.aloadN X106.here hx rfl (hb hby d36_13) rfl rfl kk_) ?_
  have F107 : Fld Z h101 a "com/example/colonnade/colonnade/ItemBuilder" "start" "J" (.long r3) := (I5.ext E101)
  obtain ⟨T108, X108, e108, st108⟩ := getF X106 hx hZ hown (host := "") (Or.inl (w_ hw 53 rfl)) Via.refl e106 F107 (g := (mkF m 14 #[.val (.ref a), .val (.ref kd), .unset] [(.ref a), (.long r2), (.long r1), (.ref kd), (.ref a101), (.ref a101)])) rfl rfl (hb hby d36_14)
  refine FinH.by (fun tt_ kk_ => st108 tt_ kk_) ?_
  refine FinH.by (fun tt_ kk_ => XS.aloadN X108.here hx rfl (hb hby d36_17) rfl rfl kk_) ?_
  have F109 : Fld Z h101 a "com/example/colonnade/colonnade/ItemBuilder" "end" "J" (.long e4) := (I6.ext E101)
  obtain ⟨T110, X110, e110, st110⟩ := getF X108 hx hZ hown (host := "") (Or.inl (w_ hw 55 rfl)) Via.refl e108 F109 (g := (mkF m 18 #[.val (.ref a), .val (.ref kd), .unset] [(.ref a), (.long r3), (.long r2), (.long r1), (.ref kd), (.ref a101), (.ref a101)])) rfl rfl (hb hby d36_18)
  refine FinH.by (fun tt_ kk_ => st110 tt_ kk_) ?_
  refine FinH.by (fun tt_ kk_ => XS.aloadN X110.here hx rfl (hb hby d36_21) rfl rfl kk_) ?_
  have F111 : Fld Z h101 a "com/example/colonnade/colonnade/ItemBuilder" "text" "Lcom/example/colonnade/colonnade/TextSpool;" (.ref b) := (I1.ext E101)
  obtain ⟨T112, X112, e112, st112⟩ := getF X110 hx hZ hown (host := "") (Or.inl (w_ hw 40 rfl)) Via.refl e110 F111 (g := (mkF m 22 #[.val (.ref a), .val (.ref kd), .unset] [(.ref a), (.long e4), (.long r3), (.long r2), (.long r1), (.ref kd), (.ref a101), (.ref a101)])) rfl rfl (hb hby d36_22)
  refine FinH.by (fun tt_ kk_ => st112 tt_ kk_) ?_
  refine FinH.by (fun tt_ kk_ => XS.aloadN X112.here hx rfl (hb hby d36_25) rfl rfl kk_) ?_
  have F113 : Fld Z h101 a "com/example/colonnade/colonnade/ItemBuilder" "kept" "J" (.long (0 : Int64)) := (I7.ext E101)
  obtain ⟨T114, X114, e114, st114⟩ := getF X112 hx hZ hown (host := "") (Or.inl (w_ hw 57 rfl)) Via.refl e112 F113 (g := (mkF m 26 #[.val (.ref a), .val (.ref kd), .unset] [(.ref a), (.ref b), (.long e4), (.long r3), (.long r2), (.long r1), (.ref kd), (.ref a101), (.ref a101)])) rfl rfl (hb hby d36_26)
  refine FinH.by (fun tt_ kk_ => st114 tt_ kk_) ?_
  have E115 : Exa Z h101 b "com/example/colonnade/colonnade/TextSpool" := (T0.ext E101)
  have F116 : Fld Z h101 b "com/example/colonnade/colonnade/TextSpool" "chars" "Ljava/lang/StringBuilder;" (.ref sb) := (T1.ext E101)
  have F117 : Fld Z h101 b "com/example/colonnade/colonnade/TextSpool" "charsInMemory" "I" (.int (1000 : Int32)) := (T2.ext E101)
  have F118 : Fld Z h101 b "com/example/colonnade/colonnade/TextSpool" "file" "Lcom/example/colonnade/colonnade/SpoolFile;" .null := (T3.ext E101)
  have E119 : Exa Z h101 sb "java/lang/StringBuilder" := (S_0.ext E101)
  have F120 : Fld Z h101 sb "java/lang/AbstractStringBuilder" "value" "[B" (.ref v) := (S_1.ext E101)
  have F121 : Fld Z h101 sb "java/lang/AbstractStringBuilder" "coder" "B" (.int (0 : Int32)) := (S_2.ext E101)
  have F122 : Fld Z h101 sb "java/lang/AbstractStringBuilder" "count" "I" (.int (0 : Int32)) := (S_3.ext E101)
  have A123 : Arv Z h101 v kv .byte (16 : Int32) vs (.int 0) := (A0.ext E101)
  have O124 : Old Z n0 h101 := (OL.ext E101)
  have z125 : n0 ≤ h101.size := Nat.le_trans Z0 E101.1
  obtain ⟨cq126, kq126, qa126, qb126, qc126⟩ := isOf hZ e114 E115
  obtain ⟨v126, _, ⟨T126, L126, k126, n126⟩, -, X126, hS126, hg126, ⟨Lc126, hQ126, l126, y126, z126, hC126⟩, st126⟩ := X114.virtualBackS hx (y := y_35) (z := y_35) hown (mvT hZ (w_ hw 101 rfl)) (mvT hZ (w_ hw 102 rfl)) (notFace_of_selects (args := #[]) (mvT hZ (w_ hw 104 rfl))) (mvT hZ (w_ hw 104 rfl)) (mvT hZ (w_ hw 103 rfl)) (by decide) (backOfSH (W := 11) (rm_tak0 l Z a0 hw [] b sb v kv (vs : List Value) G1 G9 h101 n0 z125 E115 F116 F117 F118 E119 F120 F121 F122 A123 gs n1 n2 S1 P1 S9 r9 O124) hZ (w_ hw 105 rfl) (w_ hw 11 rfl) (by decide) (by decide) own_EW ch102.1) qa126 qc126 (g := (mkF m 29 #[.val (.ref a), .val (.ref kd), .unset] [(.long (0 : Int64)), (.ref b), (.long e4), (.long r3), (.long r2), (.long r1), (.ref kd), (.ref a101), (.ref a101)])) rfl (by rw [hml]; rfl) (Steps.refl _) (argsL := [(.long (0 : Int64))]) (rest := [(.long e4), (.long r3), (.long r2), (.long r1), (.ref kd), (.ref a101), (.ref a101)]) (lenOf pd_434 rfl) rfl (by show 2 * 0 + _ ≤ _; exact Nat.le_of_eq rfl) (hb hby d36_29) (fun _ _ => ⟨rfl, e114, (by decide : 1 + 3 ≤ _), (by decide : 6 + 7 ≤ _)⟩)
  dsimp only [Pt.U, Pt.locs, Pt.cells, Pt.slots] at X126 l126 y126 z126 st126 hQ126 hS126 hg126 hC126
  subst l126 y126 z126
  obtain ⟨y127, rfl, Nq126, p126_0, p126_1, p126_2, p126_3, p126_4, p126_5, p126_6⟩ := hQ126
  have N126_ := Fr.app N0 Nq126
  refine FinH.byS st126 ?_
  obtain ⟨X126w, hS126w, hZ126, hown126⟩ := rebS hS0 (by rw [e114]; exact (Nat.le_trans hk0 E101.1)) X126 hS126 hg126 hZ hown
  have ch128 : CHr Z consts_1 s.vm h0 T126.vm T126.heap := ch102.trans hC126
  have E129 : Exa Z T126.heap a101 "com/example/colonnade/colonnade/SpooledItem" := (A101.keep p126_0)
  have ne130 : sb ≠ a101 := Nat.ne_of_lt (Nat.lt_of_lt_of_le S_0.lt (Nat.le_of_eq g101.symm))
  have F131 : Fld Z T126.heap a101 "com/example/colonnade/colonnade/SpooledItem" "kind" "Lcom/example/colonnade/colonnade/Item$Kind;" .null := ((D101 (Or.inr (w_ hw 185 rfl)) (ty := (.object "com/example/colonnade/colonnade/Item$Kind")) (by decide) : Fld Z h101 a101 "com/example/colonnade/colonnade/SpooledItem" "kind" "Lcom/example/colonnade/colonnade/Item$Kind;" .null).keep p126_0 (ninS (Ne.symm ne130) nin0))
  have F132 : Fld Z T126.heap a101 "com/example/colonnade/colonnade/SpooledItem" "text" "Lcom/example/colonnade/colonnade/SpooledText;" .null := ((D101 (Or.inr (w_ hw 195 rfl)) (ty := (.object "com/example/colonnade/colonnade/SpooledText")) (by decide) : Fld Z h101 a101 "com/example/colonnade/colonnade/SpooledItem" "text" "Lcom/example/colonnade/colonnade/SpooledText;" .null).keep p126_0 (ninS (Ne.symm ne130) nin0))
  have F133 : Fld Z T126.heap a101 "com/example/colonnade/colonnade/SpooledItem" "line" "J" (.long (0 : Int64)) := ((D101 (Or.inr (w_ hw 187 rfl)) (ty := .long) (by decide) : Fld Z h101 a101 "com/example/colonnade/colonnade/SpooledItem" "line" "J" (.long (0 : Int64))).keep p126_0 (ninS (Ne.symm ne130) nin0))
  have F134 : Fld Z T126.heap a101 "com/example/colonnade/colonnade/SpooledItem" "column" "J" (.long (0 : Int64)) := ((D101 (Or.inr (w_ hw 189 rfl)) (ty := .long) (by decide) : Fld Z h101 a101 "com/example/colonnade/colonnade/SpooledItem" "column" "J" (.long (0 : Int64))).keep p126_0 (ninS (Ne.symm ne130) nin0))
  have F135 : Fld Z T126.heap a101 "com/example/colonnade/colonnade/SpooledItem" "start" "J" (.long (0 : Int64)) := ((D101 (Or.inr (w_ hw 191 rfl)) (ty := .long) (by decide) : Fld Z h101 a101 "com/example/colonnade/colonnade/SpooledItem" "start" "J" (.long (0 : Int64))).keep p126_0 (ninS (Ne.symm ne130) nin0))
  have F136 : Fld Z T126.heap a101 "com/example/colonnade/colonnade/SpooledItem" "end" "J" (.long (0 : Int64)) := ((D101 (Or.inr (w_ hw 193 rfl)) (ty := .long) (by decide) : Fld Z h101 a101 "com/example/colonnade/colonnade/SpooledItem" "end" "J" (.long (0 : Int64))).keep p126_0 (ninS (Ne.symm ne130) nin0))
  have g137 : n0 ≤ a101 := Nat.le_trans Z0 (Nat.le_of_eq g101.symm)
  have z138 : n0 ≤ T126.heap.size := Nat.le_trans z125 p126_0.1
  obtain ⟨v139, _, ⟨T139, L139, k139, n139⟩, -, X139, ⟨Lc139, hQ139, l139, y139, z139⟩, st139⟩ := X126w.specialBack hx (y := y_23) rfl hown126 (mvT hZ126 (w_ hw 175 rfl)) (mvT hZ126 (w_ hw 176 rfl)) (mvT hZ126 (w_ hw 177 rfl)) (by decide) (backOf (W := 1) (rm_sii l Z a0 hw [] a101 kd r1 r2 r3 e4 y127 T126.heap n0 z138 E129 F131 F132 F133 F134 F135 F136 g137) hZ126 (w_ hw 177 rfl) (w_ hw 100 rfl) (by decide) (by decide)) (g := (mkF m 32 #[.val (.ref a), .val (.ref kd), .unset] [(.ref y127), (.long e4), (.long r3), (.long r2), (.long r1), (.ref kd), (.ref a101), (.ref a101)])) rfl (by rw [hml]; rfl) (Steps.refl _) (a := a101) (argsL := [(.ref kd), (.long r1), (.long r2), (.long r3), (.long e4), (.ref y127)]) (rest := [(.ref a101)]) (lenOf pd_436 rfl) rfl (by show 2 * 0 + _ ≤ _; exact Nat.le_of_eq rfl) (hb hby d36_32) (fun _ _ => ⟨rfl, rfl, (by decide : 4 + 0 ≤ _), (by decide : 13 + 0 ≤ _)⟩)
  dsimp only [Pt.U, Pt.locs, Pt.cells, Pt.slots] at X139 l139 y139 z139 st139 hQ139
  subst l139 y139 z139
  obtain ⟨rfl, Nq139, p139_0, p139_1, p139_2, p139_3, p139_4, p139_5⟩ := hQ139
  have N139_ := Fr.app N126_ Nq139
  refine FinH.byS st139 ?_
  have ch140 : CHr Z consts_1 s.vm h0 T126.vm T139.heap := ch128.trans (CHr.keep p139_0 (allS (Safe.exa hZ126.alike E129 (by decide) (by decide)) all0) ch128.1)
  refine FinH.by (fun tt_ kk_ => XS.astoreN X139.here hx rfl (hb hby d36_35) rfl rfl (l' := #[.val (.ref a), .val (.ref kd), .val (.ref a101)]) rfl (XS.aloadN X139.here hx rfl (hb hby d36_36) rfl rfl (XS.iconst X139.here hx rfl (hb hby d36_37) kk_))) ?_
  have ne141 : a ≠ a101 := Nat.ne_of_lt (Nat.lt_of_lt_of_le I0.lt (Nat.le_of_eq g101.symm))
  have F142 : Fld Z T139.heap a "com/example/colonnade/colonnade/ItemBuilder" "started" "Z" (.int (1 : Int32)) := (((I2.ext E101).keep p126_0 (ninS m2 nin0)).keep p139_0 (ninS ne141 nin0))
  have E143 : Exa Z T139.heap a "com/example/colonnade/colonnade/ItemBuilder" := (((I0.ext E101).keep p126_0).keep p139_0)
  obtain ⟨T144, h144, X144, e144, W144, st144⟩ := putFN X139 hx hZ126 hown126 (w_ hw 47 rfl) Via.refl rfl F142 E143 (Or.inl (w_ hw 48 rfl)) (w_ hw 1 rfl) (ty := .boolean) (v' := .int (0 : Int32)) (by decide) rfl rfl (g := (mkF m 38 #[.val (.ref a), .val (.ref kd), .val (.ref a101)] [(.int 0), (.ref a)])) rfl rfl (hb hby d36_38)
  refine FinH.by (fun tt_ kk_ => st144 tt_ kk_) ?_
  have N144_ := Fr.snoc X144 N139_ ga
  have ch145 : CHr Z consts_1 s.vm h0 T126.vm h144 := ch140.trans (CHr.wr W144 (Safe.exa hZ126.alike E143 (by decide) (by decide)) ch140.1)
  refine FinH.by (fun tt_ kk_ => XS.aloadN X144.here hx rfl (hb hby d36_41) rfl rfl kk_) ?_
  have kp146 : Keep h0 h101 [a, sb] := (Keep.refl h0 [a, sb]).ext E101
  have kp147 : Keep h0 T126.heap [a, sb] := kp146.trans p126_0 (allS (Or.inl (List.mem_of_getElem? (i := 1) rfl)) all0)
  have kp148 : Keep h0 T139.heap [a, sb] := kp147.trans p139_0 (allS (Or.inr (Nat.le_trans (Nat.le_refl _) (Nat.le_of_eq g101.symm))) all0)
  have kp149 : Keep h0 h144 [a, sb] := kp148.wr W144 (Or.inl (List.mem_of_getElem? (i := 0) rfl))
  have E150 : Exa Z h144 a101 "com/example/colonnade/colonnade/SpooledItem" := (p139_1.wr W144)
  have F151 : Fld Z h144 a101 "com/example/colonnade/colonnade/SpooledItem" "line" "J" (.long r1) := (p139_2.other W144 (Or.inl (Ne.symm ne141)))
  have F152 : Fld Z h144 a101 "com/example/colonnade/colonnade/SpooledItem" "column" "J" (.long r2) := (p139_3.other W144 (Or.inl (Ne.symm ne141)))
  have F153 : Fld Z h144 a101 "com/example/colonnade/colonnade/SpooledItem" "start" "J" (.long r3) := (p139_4.other W144 (Or.inl (Ne.symm ne141)))
  have F154 : Fld Z h144 a101 "com/example/colonnade/colonnade/SpooledItem" "end" "J" (.long e4) := (p139_5.other W144 (Or.inl (Ne.symm ne141)))
  have E155 : Exa Z h144 a "com/example/colonnade/colonnade/ItemBuilder" := (E143.wr W144)
  have F156 : Fld Z h144 a "com/example/colonnade/colonnade/ItemBuilder" "text" "Lcom/example/colonnade/colonnade/TextSpool;" (.ref b) := (((F111.keep p126_0 (ninS m2 nin0)).keep p139_0 (ninS ne141 nin0)).other W144 (Or.inr (slot_ne (Or.inr (w_ hw 41 rfl)) (Or.inl (w_ hw 48 rfl)) (by decide) (t := (.object "com/example/colonnade/colonnade/TextSpool")) (t' := .boolean) (by decide) (by decide))))
  have F157 : Fld Z h144 a "com/example/colonnade/colonnade/ItemBuilder" "line" "J" (.long r1) := (((F103.keep p126_0 (ninS m2 nin0)).keep p139_0 (ninS ne141 nin0)).other W144 (Or.inr (slot_ne (Or.inl (w_ hw 50 rfl)) (Or.inl (w_ hw 48 rfl)) (by decide) (t := .long) (t' := .boolean) (by decide) (by decide))))
  have F158 : Fld Z h144 a "com/example/colonnade/colonnade/ItemBuilder" "column" "J" (.long r2) := (((F105.keep p126_0 (ninS m2 nin0)).keep p139_0 (ninS ne141 nin0)).other W144 (Or.inr (slot_ne (Or.inl (w_ hw 52 rfl)) (Or.inl (w_ hw 48 rfl)) (by decide) (t := .long) (t' := .boolean) (by decide) (by decide))))
  have F159 : Fld Z h144 a "com/example/colonnade/colonnade/ItemBuilder" "start" "J" (.long r3) := (((F107.keep p126_0 (ninS m2 nin0)).keep p139_0 (ninS ne141 nin0)).other W144 (Or.inr (slot_ne (Or.inl (w_ hw 54 rfl)) (Or.inl (w_ hw 48 rfl)) (by decide) (t := .long) (t' := .boolean) (by decide) (by decide))))
  have F160 : Fld Z h144 a "com/example/colonnade/colonnade/ItemBuilder" "end" "J" (.long e4) := (((F109.keep p126_0 (ninS m2 nin0)).keep p139_0 (ninS ne141 nin0)).other W144 (Or.inr (slot_ne (Or.inl (w_ hw 56 rfl)) (Or.inl (w_ hw 48 rfl)) (by decide) (t := .long) (t' := .boolean) (by decide) (by decide))))
  have F161 : Fld Z h144 a "com/example/colonnade/colonnade/ItemBuilder" "kept" "J" (.long (0 : Int64)) := (((F113.keep p126_0 (ninS m2 nin0)).keep p139_0 (ninS ne141 nin0)).other W144 (Or.inr (slot_ne (Or.inl (w_ hw 58 rfl)) (Or.inl (w_ hw 48 rfl)) (by decide) (t := .long) (t' := .boolean) (by decide) (by decide))))
  have F162 : Fld Z h144 a "com/example/colonnade/colonnade/ItemBuilder" "trailingBlanks" "J" (.long tb) := ((((I8.ext E101).keep p126_0 (ninS m2 nin0)).keep p139_0 (ninS ne141 nin0)).other W144 (Or.inr (slot_ne (Or.inl (w_ hw 60 rfl)) (Or.inl (w_ hw 48 rfl)) (by decide) (t := .long) (t' := .boolean) (by decide) (by decide))))
  have E163 : Exa Z h144 sb "java/lang/StringBuilder" := ((p126_3.keep p139_0).wr W144)
  have F164 : Fld Z h144 sb "java/lang/AbstractStringBuilder" "value" "[B" (.ref v) := ((p126_4.keep p139_0 (ninS ne130 nin0)).other W144 (Or.inl (Ne.symm m2)))
  have F165 : Fld Z h144 sb "java/lang/AbstractStringBuilder" "coder" "B" (.int (0 : Int32)) := ((p126_5.keep p139_0 (ninS ne130 nin0)).other W144 (Or.inl (Ne.symm m2)))
  have F166 : Fld Z h144 sb "java/lang/AbstractStringBuilder" "count" "I" (.int (0 : Int32)) := ((p126_6.keep p139_0 (ninS ne130 nin0)).other W144 (Or.inl (Ne.symm m2)))
  show FinH _ _ _ _ _ _ _ _ _ (T144.setTop (mkF m 42 #[.val (.ref a), .val (.ref kd), .val (.ref a101)] [(.ref a101)]))
  exact FinH.ret (v := some (.ref a101)) X144 hS126w (by rw [e144]; exact (Nat.le_trans (Nat.le_refl _) (Nat.le_trans p139_0.1 (Keep.of_wr W144).1))) (fun h => by rw [Bd.returns] at h; cases h) Bd.notSynchronized (by rw [e144]; exact ⟨a101, rfl, N144_, kp149, (Nat.le_trans (Nat.le_refl _) (Nat.le_of_eq g101.symm)), E150, F151, F152, F153, F154, E155, F156, (F142.same W144), F157, F158, F159, F160, F161, F162, E163, F164, F165, F166⟩) (by rw [hh, e144]; exact ch145.trans (CHv.at X144 hZ126 own_EW ch145.1)) (by decide) (by decide) (fun fs hr => retA X144 hx Bd.returns rfl rfl (hb hby d36_42) hr)
abbrev y_37 : MethodName := (⟨"com/example/colonnade/colonnade/SpooledItem", "line", "()J"⟩ : MethodName)
theorem d37_0 : decode prog_89_method_7_code 0 = .ok (.aload_n 0, 1) := by decide +kernel
theorem d37_1 : decode prog_89_method_7_code 1 = .ok (.getfield 13, 3) := by decide +kernel
theorem d37_4 : decode prog_89_method_7_code 4 = .ok (.lreturn, 1) := by decide +kernel
def Q_gt0 (Z : State) (y : Addr) (r : Int64) (h0 : Heap) (n0 : Nat) (vv_ : Option Value) (hh_ : Heap) (LL_ : List Loc) : Prop := vv_ = some (.long r) ∧ Fr n0 LL_ ∧ hh_ = h0
set_option maxRecDepth 65536 in
set_option maxHeartbeats 40000000 in
theorem rm_gt0 (l : Launch) (Z : State) (a0 : Array Value) (hw : ∀ d ∈ tables_1, d.before a0 Z = true) (ws : List Jvm.Cond) (y : Addr) (r : Int64) (h0 : Heap) (n0 : Nat) (Z0 : n0 ≤ h0.size) (Y0 : Exa Z h0 y "com/example/colonnade/colonnade/SpooledItem") (Y1 : Fld Z h0 y "com/example/colonnade/colonnade/SpooledItem" "line" "J" (.long r)) :
    MetFree l y_37 (head1 (Jvm.Cond.code y_37 prog_89_method_7_code 1 (some .long) :: ws) ({ frames := 0, cells := 0, slots := 0, locals := 0 } : Room)) (fun aa_ U => aa_ = #[(.ref y)] ∧ Z.Warmed39 U.vm ∧ U.heap = h0) (fun _ _ _ _ _ => True) (fun _ U o U' => ∃ vv_ LL_, o = .returned vv_ ∧ Q_gt0 Z y r h0 n0 vv_ U'.heap LL_ ∧ FrameEnd U o U' LL_ 0 0) := by
  refine MetFree.of_bodySF (plainFor_of_name pn_com_example_colonnade_colonnade_SpooledItem) hisR ?_
  intro p e s m args below meth c s₁ Bd hml0 hP hK
  obtain ⟨rfl, hZ, hh⟩ := hP
  have hx := Bd.exec
  have hby := Bd.bytes
  have hml : c.maxLocals = 1 := hml0
  have hown : s.vm.findClass "com/example/colonnade/colonnade/SpooledItem" = some m.cls := findClass_of_methodNamed Bd.named
  have hnm := (name_of_methodNamed Bd.named Bd.method).1
  have X0 : Stand p l e ({ frames := 0, cells := 0, slots := 0, locals := 0 } : Room) s m #[(.ref y)] below meth c s₁ [] 0 0 := Stand.of_body Bd
  have e0 : s₁.heap = h0 := by rw [← hh, Bd.state]; rfl
  have N0 := Fr.nil n0
  have ef : entryFrame m #[(.ref y)] 1 = mkF m 0 #[.val (.ref y)] [] := by first | (simp [entryFrame, mkF, argsToLocals, Value.category]; done) | rfl
  refine Fin.start (Q := Q_gt0 Z y r h0 n0) ef ?_
  refine Fin.by (fun tt_ kk_ => XS.aloadN X0.here hx rfl (hb hby d37_0) rfl rfl kk_) ?_
  obtain ⟨T101, X101, e101, st101⟩ := getF X0 hx hZ hown (host := "") (Or.inl (w_ hw 186 rfl)) Via.refl e0 Y1 (g := (mkF m 1 #[.val (.ref y)] [(.ref y)])) rfl rfl (hb hby d37_1)
  refine Fin.by (fun tt_ kk_ => st101 tt_ kk_) ?_
  show Fin _ _ _ _ _ _ _ (T101.setTop (mkF m 4 #[.val (.ref y)] [(.long r)]))
  exact Fin.ret (v := some (.long r)) X101 (fun h => by rw [Bd.returns] at h; cases h) Bd.notSynchronized (by rw [e101]; exact ⟨rfl, N0, rfl⟩) (by decide) (by decide) (fun fs hr => retJ X101 hx Bd.returns (hb hby d37_4) hr)
abbrev y_38 : MethodName := (⟨"com/example/colonnade/colonnade/SpooledItem", "column", "()J"⟩ : MethodName)
theorem d38_0 : decode prog_89_method_8_code 0 = .ok (.aload_n 0, 1) := by decide +kernel
theorem d38_1 : decode prog_89_method_8_code 1 = .ok (.getfield 17, 3) := by decide +kernel
theorem d38_4 : decode prog_89_method_8_code 4 = .ok (.lreturn, 1) := by decide +kernel
def Q_gt1 (Z : State) (y : Addr) (r : Int64) (h0 : Heap) (n0 : Nat) (vv_ : Option Value) (hh_ : Heap) (LL_ : List Loc) : Prop := vv_ = some (.long r) ∧ Fr n0 LL_ ∧ hh_ = h0
set_option maxRecDepth 65536 in
set_option maxHeartbeats 40000000 in
theorem rm_gt1 (l : Launch) (Z : State) (a0 : Array Value) (hw : ∀ d ∈ tables_1, d.before a0 Z = true) (ws : List Jvm.Cond) (y : Addr) (r : Int64) (h0 : Heap) (n0 : Nat) (Z0 : n0 ≤ h0.size) (Y0 : Exa Z h0 y "com/example/colonnade/colonnade/SpooledItem") (Y1 : Fld Z h0 y "com/example/colonnade/colonnade/SpooledItem" "column" "J" (.long r)) :
    MetFree l y_38 (head1 (Jvm.Cond.code y_38 prog_89_method_8_code 1 (some .long) :: ws) ({ frames := 0, cells := 0, slots := 0, locals := 0 } : Room)) (fun aa_ U => aa_ = #[(.ref y)] ∧ Z.Warmed39 U.vm ∧ U.heap = h0) (fun _ _ _ _ _ => True) (fun _ U o U' => ∃ vv_ LL_, o = .returned vv_ ∧ Q_gt1 Z y r h0 n0 vv_ U'.heap LL_ ∧ FrameEnd U o U' LL_ 0 0) := by
  refine MetFree.of_bodySF (plainFor_of_name pn_com_example_colonnade_colonnade_SpooledItem) hisR ?_
  intro p e s m args below meth c s₁ Bd hml0 hP hK
  obtain ⟨rfl, hZ, hh⟩ := hP
  have hx := Bd.exec
  have hby := Bd.bytes
  have hml : c.maxLocals = 1 := hml0
  have hown : s.vm.findClass "com/example/colonnade/colonnade/SpooledItem" = some m.cls := findClass_of_methodNamed Bd.named
  have hnm := (name_of_methodNamed Bd.named Bd.method).1
  have X0 : Stand p l e ({ frames := 0, cells := 0, slots := 0, locals := 0 } : Room) s m #[(.ref y)] below meth c s₁ [] 0 0 := Stand.of_body Bd
  have e0 : s₁.heap = h0 := by rw [← hh, Bd.state]; rfl
  have N0 := Fr.nil n0
  have ef : entryFrame m #[(.ref y)] 1 = mkF m 0 #[.val (.ref y)] [] := by first | (simp [entryFrame, mkF, argsToLocals, Value.category]; done) | rfl
  refine Fin.start (Q := Q_gt1 Z y r h0 n0) ef ?_
  refine Fin.by (fun tt_ kk_ => XS.aloadN X0.here hx rfl (hb hby d38_0) rfl rfl kk_) ?_
  obtain ⟨T101, X101, e101, st101⟩ := getF X0 hx hZ hown (host := "") (Or.inl (w_ hw 188 rfl)) Via.refl e0 Y1 (g := (mkF m 1 #[.val (.ref y)] [(.ref y)])) rfl rfl (hb hby d38_1)
  refine Fin.by (fun tt_ kk_ => st101 tt_ kk_) ?_
  show Fin _ _ _ _ _ _ _ (T101.setTop (mkF m 4 #[.val (.ref y)] [(.long r)]))
  exact Fin.ret (v := some (.long r)) X101 (fun h => by rw [Bd.returns] at h; cases h) Bd.notSynchronized (by rw [e101]; exact ⟨rfl, N0, rfl⟩) (by decide) (by decide) (fun fs hr => retJ X101 hx Bd.returns (hb hby d38_4) hr)
abbrev y_39 : MethodName := (⟨"com/example/colonnade/colonnade/SpooledItem", "start", "()J"⟩ : MethodName)
theorem d39_0 : decode prog_89_method_9_code 0 = .ok (.aload_n 0, 1) := by decide +kernel
theorem d39_1 : decode prog_89_method_9_code 1 = .ok (.getfield 20, 3) := by decide +kernel
theorem d39_4 : decode prog_89_method_9_code 4 = .ok (.lreturn, 1) := by decide +kernel
def Q_gt2 (Z : State) (y : Addr) (r : Int64) (h0 : Heap) (n0 : Nat) (vv_ : Option Value) (hh_ : Heap) (LL_ : List Loc) : Prop := vv_ = some (.long r) ∧ Fr n0 LL_ ∧ hh_ = h0
set_option maxRecDepth 65536 in
set_option maxHeartbeats 40000000 in
theorem rm_gt2 (l : Launch) (Z : State) (a0 : Array Value) (hw : ∀ d ∈ tables_1, d.before a0 Z = true) (ws : List Jvm.Cond) (y : Addr) (r : Int64) (h0 : Heap) (n0 : Nat) (Z0 : n0 ≤ h0.size) (Y0 : Exa Z h0 y "com/example/colonnade/colonnade/SpooledItem") (Y1 : Fld Z h0 y "com/example/colonnade/colonnade/SpooledItem" "start" "J" (.long r)) :
    MetFree l y_39 (head1 (Jvm.Cond.code y_39 prog_89_method_9_code 1 (some .long) :: ws) ({ frames := 0, cells := 0, slots := 0, locals := 0 } : Room)) (fun aa_ U => aa_ = #[(.ref y)] ∧ Z.Warmed39 U.vm ∧ U.heap = h0) (fun _ _ _ _ _ => True) (fun _ U o U' => ∃ vv_ LL_, o = .returned vv_ ∧ Q_gt2 Z y r h0 n0 vv_ U'.heap LL_ ∧ FrameEnd U o U' LL_ 0 0) := by
  refine MetFree.of_bodySF (plainFor_of_name pn_com_example_colonnade_colonnade_SpooledItem) hisR ?_
  intro p e s m args below meth c s₁ Bd hml0 hP hK
  obtain ⟨rfl, hZ, hh⟩ := hP
  have hx := Bd.exec
  have hby := Bd.bytes
  have hml : c.maxLocals = 1 := hml0
  have hown : s.vm.findClass "com/example/colonnade/colonnade/SpooledItem" = some m.cls := findClass_of_methodNamed Bd.named
  have hnm := (name_of_methodNamed Bd.named Bd.method).1
  have X0 : Stand p l e ({ frames := 0, cells := 0, slots := 0, locals := 0 } : Room) s m #[(.ref y)] below meth c s₁ [] 0 0 := Stand.of_body Bd
  have e0 : s₁.heap = h0 := by rw [← hh, Bd.state]; rfl
  have N0 := Fr.nil n0
  have ef : entryFrame m #[(.ref y)] 1 = mkF m 0 #[.val (.ref y)] [] := by first | (simp [entryFrame, mkF, argsToLocals, Value.category]; done) | rfl
  refine Fin.start (Q := Q_gt2 Z y r h0 n0) ef ?_
  refine Fin.by (fun tt_ kk_ => XS.aloadN X0.here hx rfl (hb hby d39_0) rfl rfl kk_) ?_
  obtain ⟨T101, X101, e101, st101⟩ := getF X0 hx hZ hown (host := "") (Or.inl (w_ hw 190 rfl)) Via.refl e0 Y1 (g := (mkF m 1 #[.val (.ref y)] [(.ref y)])) rfl rfl (hb hby d39_1)
  refine Fin.by (fun tt_ kk_ => st101 tt_ kk_) ?_
  show Fin _ _ _ _ _ _ _ (T101.setTop (mkF m 4 #[.val (.ref y)] [(.long r)]))
  exact Fin.ret (v := some (.long r)) X101 (fun h => by rw [Bd.returns] at h; cases h) Bd.notSynchronized (by rw [e101]; exact ⟨rfl, N0, rfl⟩) (by decide) (by decide) (fun fs hr => retJ X101 hx Bd.returns (hb hby d39_4) hr)
abbrev y_40 : MethodName := (⟨"com/example/colonnade/colonnade/SpooledItem", "end", "()J"⟩ : MethodName)
theorem d40_0 : decode prog_89_method_10_code 0 = .ok (.aload_n 0, 1) := by decide +kernel
theorem d40_1 : decode prog_89_method_10_code 1 = .ok (.getfield 23, 3) := by decide +kernel
theorem d40_4 : decode prog_89_method_10_code 4 = .ok (.lreturn, 1) := by decide +kernel
def Q_gt3 (Z : State) (y : Addr) (r : Int64) (h0 : Heap) (n0 : Nat) (vv_ : Option Value) (hh_ : Heap) (LL_ : List Loc) : Prop := vv_ = some (.long r) ∧ Fr n0 LL_ ∧ hh_ = h0
set_option maxRecDepth 65536 in
set_option maxHeartbeats 40000000 in
theorem rm_gt3 (l : Launch) (Z : State) (a0 : Array Value) (hw : ∀ d ∈ tables_1, d.before a0 Z = true) (ws : List Jvm.Cond) (y : Addr) (r : Int64) (h0 : Heap) (n0 : Nat) (Z0 : n0 ≤ h0.size) (Y0 : Exa Z h0 y "com/example/colonnade/colonnade/SpooledItem") (Y1 : Fld Z h0 y "com/example/colonnade/colonnade/SpooledItem" "end" "J" (.long r)) :
    MetFree l y_40 (head1 (Jvm.Cond.code y_40 prog_89_method_10_code 1 (some .long) :: ws) ({ frames := 0, cells := 0, slots := 0, locals := 0 } : Room)) (fun aa_ U => aa_ = #[(.ref y)] ∧ Z.Warmed39 U.vm ∧ U.heap = h0) (fun _ _ _ _ _ => True) (fun _ U o U' => ∃ vv_ LL_, o = .returned vv_ ∧ Q_gt3 Z y r h0 n0 vv_ U'.heap LL_ ∧ FrameEnd U o U' LL_ 0 0) := by
  refine MetFree.of_bodySF (plainFor_of_name pn_com_example_colonnade_colonnade_SpooledItem) hisR ?_
  intro p e s m args below meth c s₁ Bd hml0 hP hK
  obtain ⟨rfl, hZ, hh⟩ := hP
  have hx := Bd.exec
  have hby := Bd.bytes
  have hml : c.maxLocals = 1 := hml0
  have hown : s.vm.findClass "com/example/colonnade/colonnade/SpooledItem" = some m.cls := findClass_of_methodNamed Bd.named
  have hnm := (name_of_methodNamed Bd.named Bd.method).1
  have X0 : Stand p l e ({ frames := 0, cells := 0, slots := 0, locals := 0 } : Room) s m #[(.ref y)] below meth c s₁ [] 0 0 := Stand.of_body Bd
  have e0 : s₁.heap = h0 := by rw [← hh, Bd.state]; rfl
  have N0 := Fr.nil n0
  have ef : entryFrame m #[(.ref y)] 1 = mkF m 0 #[.val (.ref y)] [] := by first | (simp [entryFrame, mkF, argsToLocals, Value.category]; done) | rfl
  refine Fin.start (Q := Q_gt3 Z y r h0 n0) ef ?_
  refine Fin.by (fun tt_ kk_ => XS.aloadN X0.here hx rfl (hb hby d40_0) rfl rfl kk_) ?_
  obtain ⟨T101, X101, e101, st101⟩ := getF X0 hx hZ hown (host := "") (Or.inl (w_ hw 192 rfl)) Via.refl e0 Y1 (g := (mkF m 1 #[.val (.ref y)] [(.ref y)])) rfl rfl (hb hby d40_1)
  refine Fin.by (fun tt_ kk_ => st101 tt_ kk_) ?_
  show Fin _ _ _ _ _ _ _ (T101.setTop (mkF m 4 #[.val (.ref y)] [(.long r)]))
  exact Fin.ret (v := some (.long r)) X101 (fun h => by rw [Bd.returns] at h; cases h) Bd.notSynchronized (by rw [e101]; exact ⟨rfl, N0, rfl⟩) (by decide) (by decide) (fun fs hr => retJ X101 hx Bd.returns (hb hby d40_4) hr)
theorem pd_458 : parseMethodDescriptor "(JJJ)V" = some ⟨[.long, .long, .long], none⟩ := by decide +kernel
theorem pd_459 : parseMethodDescriptor "(Lcom/example/colonnade/colonnade/Item$Kind;)Lcom/example/colonnade/colonnade/SpooledItem;" = some ⟨[(.object "com/example/colonnade/colonnade/Item$Kind")], some (.object "com/example/colonnade/colonnade/SpooledItem")⟩ := by decide +kernel
theorem pd_460 : parseMethodDescriptor "(J)V" = some ⟨[.long], none⟩ := by decide +kernel
theorem pn_com_example_colonnade_colonnade_ItemBuilderStartPinLaw : plainName "com/example/colonnade/colonnade/ItemBuilderStartPinLaw" = true := by first | (simp [plainName, overriddenIn]; done) | decide +kernel
def Q_law (Z : State) (l_ : Int64) (cc : Int64) (oo : Int64) (dd : Int64) (kk : Int64) (fl : Int32) (G1 : Int32) (G9 : Value) (aS : Addr) (aT : Addr) (h0 : Heap) (n0 : Nat) (vv_ : Option Value) (hh_ : Heap) (LL_ : List Loc) : Prop := vv_ = some (.int (1 : Int32)) ∧ Fr n0 LL_
set_option maxRecDepth 65536 in
set_option maxHeartbeats 40000000 in
theorem rm_law (l : Launch) (Z : State) (a0 : Array Value) (hw : ∀ d ∈ tables_1, d.before a0 Z = true) (ws : List Jvm.Cond) (l_ : Int64) (cc : Int64) (oo : Int64) (dd : Int64) (kk : Int64) (fl : Int32) (G1 : Int32) (G9 : Value) (aS : Addr) (aT : Addr) (h0 : Heap) (n0 : Nat) (Z0 : n0 ≤ h0.size) (S1 : Sta Z Z.heap "java/lang/String" "COMPACT_STRINGS" "Z" (.int G1)) (P1 : ¬ G1 = 0) (S9 : Sta Z Z.heap "jdk/internal/util/Preconditions" "SIOOBE_FORMATTER" "Ljava/util/function/BiFunction;" G9) (r9 : G9.isRef = true) (OL : Old Z n0 h0) (S3 : Sta Z Z.heap "com/example/colonnade/colonnade/Item$Kind" "STATEMENT" "Lcom/example/colonnade/colonnade/Item$Kind;" (.ref aS)) (S4 : Sta Z Z.heap "com/example/colonnade/colonnade/Item$Kind" "DATA" "Lcom/example/colonnade/colonnade/Item$Kind;" (.ref aT)) :
    MetFree l x (head1 (Jvm.Cond.code x code maxLocals ret :: ws) room_1) (fun aa_ U => aa_ = #[(.long l_), (.long cc), (.long oo), (.long dd), (.long kk), (.int fl)] ∧ Z.Warmed39 U.vm ∧ U.heap = h0 ∧ CHv Z consts_1 U.vm h0) (fun _ _ _ _ _ => True) (fun _ U o U' => ∃ vv_ LL_, o = .returned vv_ ∧ Q_law Z l_ cc oo dd kk fl G1 G9 aS aT h0 n0 vv_ U'.heap LL_ ∧ CHr Z consts_1 U.vm U.heap U'.vm U'.heap ∧ ReturnedEndW U o U' LL_ 32 1216) := by
  refine MetFree.of_bodySF (plainFor_of_name pn_com_example_colonnade_colonnade_ItemBuilderStartPinLaw) hisR ?_
  intro p e s m args below meth c s₁ Bd hml0 hP hK
  obtain ⟨rfl, hZ, hh, hC0⟩ := hP
  have hx := Bd.exec
  have hby := Bd.bytes
  have hml : c.maxLocals = 15 := hml0
  have hown : s.vm.findClass "com/example/colonnade/colonnade/ItemBuilderStartPinLaw" = some m.cls := findClass_of_methodNamed Bd.named
  have hnm := (name_of_methodNamed Bd.named Bd.method).1
  have X0 : Stand p l e room_1 (s.setVm s.vm) m #[(.long l_), (.long cc), (.long oo), (.long dd), (.long kk), (.int fl)] below meth c s₁ [] 0 0 := Stand.of_body Bd
  have e0 : s₁.heap = h0 := by rw [← hh, Bd.state]; rfl
  have N0 := Fr.nil n0
  have ef : entryFrame m #[(.long l_), (.long cc), (.long oo), (.long dd), (.long kk), (.int fl)] maxLocals = mkF m 0 #[.val (.long l_), .second, .val (.long cc), .second, .val (.long oo), .second, .val (.long dd), .second, .val (.long kk), .second, .val (.int fl), .unset, .unset, .unset, .unset] [] := by first | (simp [entryFrame, mkF, argsToLocals, Value.category, maxLocals]; done) | rfl
  have hS0 : s.Since s.vm h0.size := (State.WarmedH.refl s).since _
  have hk0 : h0.size ≤ h0.size := Nat.le_refl _
  have own_EW := own_EW0 hw
  have ch0 : CHr Z consts_1 s.vm h0 s.vm h0 := CHr.refl hC0
  refine FinH.start (Q := Q_law Z l_ cc oo dd kk fl G1 G9 aS aT h0 n0) ef ?_
  obtain ⟨T101, h101, X101, e101, E101, A101, D101, -, st101⟩ := newO X0 hx hZ hown (w_ hw 0 rfl) (w_ hw 1 rfl) (w_ hw 2 rfl) e0 (g := (mkF m 0 #[.val (.long l_), .second, .val (.long cc), .second, .val (.long oo), .second, .val (.long dd), .second, .val (.long kk), .second, .val (.int fl), .unset, .unset, .unset, .unset] [])) rfl (hb hby at_0) (by decide) (by decide)
  obtain ⟨a101, g101⟩ : ∃ z, z = h0.size := ⟨_, rfl⟩
  rw [← g101] at A101 D101 st101
  refine FinH.by (fun tt_ kk_ => st101 tt_ kk_) ?_
  have ch102 : CHr Z consts_1 s.vm h0 s.vm h101 := ch0.trans (CHr.ext E101 ch0.1)
  refine FinH.by (fun tt_ kk_ => XS.dup X101.here hx rfl (hb hby at_3) rfl rfl (XS.sipush X101.here hx rfl (hb hby at_4) kk_)) ?_
  have g103 : n0 ≤ a101 := Nat.le_trans Z0 (Nat.le_of_eq g101.symm)
  have O104 : Old Z n0 h101 := (OL.ext E101)
  have z105 : n0 ≤ h101.size := Nat.le_trans Z0 E101.1
  obtain ⟨v106, _, ⟨T106, L106, k106, n106⟩, -, X106, ⟨Lc106, hQ106, l106, y106, z106⟩, st106⟩ := X101.specialBack hx (y := y_3) rfl hown (mvT hZ (w_ hw 3 rfl)) (mvT hZ (w_ hw 4 rfl)) (mvT hZ (w_ hw 5 rfl)) (by decide) (backOf (W := 1) (rm_ibi l Z a0 hw [] a101 G1 h101 n0 z105 A101 (D101 (Or.inr (w_ hw 41 rfl)) (ty := (.object "com/example/colonnade/colonnade/TextSpool")) (by decide) : Fld Z h101 a101 "com/example/colonnade/colonnade/ItemBuilder" "text" "Lcom/example/colonnade/colonnade/TextSpool;" .null) (D101 (Or.inl (w_ hw 48 rfl)) (ty := .boolean) (by decide) : Fld Z h101 a101 "com/example/colonnade/colonnade/ItemBuilder" "started" "Z" (.int (0 : Int32))) (D101 (Or.inl (w_ hw 50 rfl)) (ty := .long) (by decide) : Fld Z h101 a101 "com/example/colonnade/colonnade/ItemBuilder" "line" "J" (.long (0 : Int64))) (D101 (Or.inl (w_ hw 52 rfl)) (ty := .long) (by decide) : Fld Z h101 a101 "com/example/colonnade/colonnade/ItemBuilder" "column" "J" (.long (0 : Int64))) (D101 (Or.inl (w_ hw 54 rfl)) (ty := .long) (by decide) : Fld Z h101 a101 "com/example/colonnade/colonnade/ItemBuilder" "start" "J" (.long (0 : Int64))) (D101 (Or.inl (w_ hw 56 rfl)) (ty := .long) (by decide) : Fld Z h101 a101 "com/example/colonnade/colonnade/ItemBuilder" "end" "J" (.long (0 : Int64))) (D101 (Or.inl (w_ hw 58 rfl)) (ty := .long) (by decide) : Fld Z h101 a101 "com/example/colonnade/colonnade/ItemBuilder" "kept" "J" (.long (0 : Int64))) (D101 (Or.inl (w_ hw 60 rfl)) (ty := .long) (by decide) : Fld Z h101 a101 "com/example/colonnade/colonnade/ItemBuilder" "trailingBlanks" "J" (.long (0 : Int64))) g103 S1 P1 O104) hZ (w_ hw 5 rfl) (w_ hw 2 rfl) (by decide) (by decide)) (g := (mkF m 7 #[.val (.long l_), .second, .val (.long cc), .second, .val (.long oo), .second, .val (.long dd), .second, .val (.long kk), .second, .val (.int fl), .unset, .unset, .unset, .unset] [(.int 1000), (.ref a101), (.ref a101)])) rfl (by rw [hml]; rfl) (Steps.refl _) (a := a101) (argsL := [(.int 1000)]) (rest := [(.ref a101)]) (lenOf pd_16 rfl) rfl (by show 2 * 0 + _ ≤ _; exact Nat.le_of_eq rfl) (hb hby at_7) (fun _ _ => ⟨rfl, e101, (by decide : 1 + 3 ≤ _), (by decide : 8 + 23 ≤ _)⟩)
  dsimp only [Pt.U, Pt.locs, Pt.cells, Pt.slots] at X106 l106 y106 z106 st106 hQ106
  subst l106 y106 z106
  obtain ⟨b107, sb108, v109, kv110, rfl, Nq106, p106_0, p106_1, p106_2, p106_3, p106_4, p106_5, p106_6, p106_7, p106_8, p106_9, p106_10, p106_11, p106_12, p106_13, p106_14, p106_15, p106_16, p106_17, p106_18, p106_19, p106_20, p106_21, p106_22, p106_23, p106_24, p106_25⟩ := hQ106
  have N106_ := Fr.app N0 Nq106
  refine FinH.byS st106 ?_
  have ch111 : CHr Z consts_1 s.vm h0 s.vm T106.heap := ch102.trans (CHr.keep p106_0 (allS (Safe.exa hZ.alike A101 (by decide) (by decide)) all0) ch102.1)
  refine FinH.by (fun tt_ kk_ => XS.astore X106.here hx rfl (hb hby at_10) rfl rfl (l' := #[.val (.long l_), .second, .val (.long cc), .second, .val (.long oo), .second, .val (.long dd), .second, .val (.long kk), .second, .val (.int fl), .val (.ref a101), .unset, .unset, .unset]) rfl (XS.iload X106.here hx rfl (hb hby at_12) rfl (XS.iconst X106.here hx rfl (hb hby at_14) (XS.iand X106.here hx rfl (hb hby at_15) rfl kk_)))) ?_
  show FinH _ _ _ _ _ _ _ _ _ (T106.setTop (mkF m 16 #[.val (.long l_), .second, .val (.long cc), .second, .val (.long oo), .second, .val (.long dd), .second, .val (.long kk), .second, .val (.int fl), .val (.ref a101), .unset, .unset, .unset] [(.int (fl &&& 1))]))
  by_cases f0 : (fl &&& (1 : Int32)) = (0 : Int32)
  · refine FinH.by (fun tt_ kk_ => XS.ifYes X106.here hx rfl (pc0 := 16) (pc' := 53) rfl (hb hby at_16) rfl ((if0 _ _).trans (teq f0).1) (by decide) (by decide) kk_) ?_
    refine FinH.by (fun tt_ kk_ => XS.aload X106.here hx rfl (hb hby at_53) rfl rfl (XS.lloadN X106.here hx rfl (hb hby at_55) rfl (XS.lloadN X106.here hx rfl (hb hby at_56) rfl (XS.lload X106.here hx rfl (hb hby at_57) rfl kk_)))) ?_
    have z112 : n0 ≤ T106.heap.size := Nat.le_trans z105 p106_0.1
    obtain ⟨cq113, kq113, qa113, qb113, qc113⟩ := isOf hZ rfl p106_7
    obtain ⟨v113, _, ⟨T113, L113, k113, n113⟩, -, X113, ⟨Lc113, hQ113, l113, y113, z113⟩, st113⟩ := X106.virtualBack hx (y := y_4) (z := y_4) hown (mvT hZ (w_ hw 42 rfl)) (mvT hZ (w_ hw 43 rfl)) (notFace_of_selects (args := #[]) (mvT hZ (w_ hw 45 rfl))) (mvT hZ (w_ hw 45 rfl)) (mvT hZ (w_ hw 44 rfl)) (by decide) (backOf (W := 0) (rm_sta l Z a0 hw [] a101 b107 l_ cc oo (0 : Int32) (0 : Int64) (0 : Int64) (0 : Int64) (0 : Int64) (0 : Int64) (0 : Int64) T106.heap n0 z112 p106_7 p106_8 p106_9 p106_10 p106_11 p106_12 p106_13 p106_14 p106_15 g103) hZ (w_ hw 46 rfl) (w_ hw 2 rfl) (by decide) (by decide)) qa113 qc113 (g := (mkF m 59 #[.val (.long l_), .second, .val (.long cc), .second, .val (.long oo), .second, .val (.long dd), .second, .val (.long kk), .second, .val (.int fl), .val (.ref a101), .unset, .unset, .unset] [(.long oo), (.long cc), (.long l_), (.ref a101)])) rfl (by rw [hml]; rfl) (Steps.refl _) (argsL := [(.long l_), (.long cc), (.long oo)]) (rest := []) (lenOf pd_458 rfl) rfl (by show 2 * 0 + _ ≤ _; exact Nat.le_of_eq rfl) (hb hby at_59) (fun _ _ => ⟨rfl, rfl, (by decide : 4 + 0 ≤ _), (by decide : 31 + 0 ≤ _)⟩)
    dsimp only [Pt.U, Pt.locs, Pt.cells, Pt.slots] at X113 l113 y113 z113 st113 hQ113
    subst l113 y113 z113
    obtain ⟨rfl, Nq113, p113_0, p113_1, p113_2, p113_3, p113_4, p113_5, p113_6, p113_7, p113_8, p113_9⟩ := hQ113
    have N113_ := Fr.app N106_ Nq113
    refine FinH.byS st113 ?_
    have ch114 : CHr Z consts_1 s.vm h0 s.vm T113.heap := ch111.trans (CHr.keep p113_0 (allS (Safe.exa hZ.alike p106_7 (by decide) (by decide)) all0) ch111.1)
    refine FinH.by (fun tt_ kk_ => XS.aload X113.here hx rfl (hb hby at_62) rfl rfl kk_) ?_
    have z115 : n0 ≤ T113.heap.size := Nat.le_trans z112 p113_0.1
    obtain ⟨cq116, kq116, qa116, qb116, qc116⟩ := isOf hZ rfl p113_1
    obtain ⟨v116, _, ⟨T116, L116, k116, n116⟩, -, X116, ⟨Lc116, hQ116, l116, y116, z116⟩, st116⟩ := X113.virtualBack hx (y := y_5) (z := y_5) hown (mvT hZ (w_ hw 61 rfl)) (mvT hZ (w_ hw 62 rfl)) (notFace_of_selects (args := #[]) (mvT hZ (w_ hw 64 rfl))) (mvT hZ (w_ hw 64 rfl)) (mvT hZ (w_ hw 63 rfl)) (by decide) (backOf (W := 0) (rm_std l Z a0 hw [] a101 T113.heap n0 z115 p113_1 p113_3) hZ (w_ hw 65 rfl) (w_ hw 2 rfl) (by decide) (by decide)) qa116 qc116 (g := (mkF m 64 #[.val (.long l_), .second, .val (.long cc), .second, .val (.long oo), .second, .val (.long dd), .second, .val (.long kk), .second, .val (.int fl), .val (.ref a101), .unset, .unset, .unset] [(.ref a101)])) rfl (by rw [hml]; rfl) (Steps.refl _) (argsL := []) (rest := []) (lenOf pd_120 rfl) rfl (by show 2 * 0 + _ ≤ _; exact Nat.le_of_eq rfl) (hb hby at_64) (fun _ _ => ⟨rfl, rfl, (by decide : 4 + 0 ≤ _), (by decide : 31 + 0 ≤ _)⟩)
    dsimp only [Pt.U, Pt.locs, Pt.cells, Pt.slots] at X116 l116 y116 z116 st116 hQ116
    subst l116 y116 z116
    obtain ⟨rfl, Nq116, e116_⟩ := hQ116
    have N116_ := Fr.app N113_ Nq116
    refine FinH.byS st116 ?_
    have e116 := e116_
    show FinH _ _ _ _ _ _ _ _ _ (T116.setTop (mkF m 67 #[.val (.long l_), .second, .val (.long cc), .second, .val (.long oo), .second, .val (.long dd), .second, .val (.long kk), .second, .val (.int fl), .val (.ref a101), .unset, .unset, .unset] [(.int 1)]))
    refine FinH.by (fun tt_ kk_ => XS.ifYes X116.here hx rfl (pc0 := 67) (pc' := 72) rfl (hb hby at_67) rfl ((if0 _ _).trans (feq (by decide : ¬ (1 : Int32) = (0 : Int32))).2) (by decide) (by decide) kk_) ?_
    refine FinH.by (fun tt_ kk_ => XS.lload X116.here hx rfl (hb hby at_72) rfl (XS.lstore X116.here hx rfl (hb hby at_74) rfl (l' := #[.val (.long l_), .second, .val (.long cc), .second, .val (.long oo), .second, .val (.long dd), .second, .val (.long kk), .second, .val (.int fl), .val (.ref a101), .val (.long oo), .second, .unset]) rfl (XS.iload X116.here hx rfl (hb hby at_76) rfl (XS.iconst X116.here hx rfl (hb hby at_78) (XS.iand X116.here hx rfl (hb hby at_79) rfl kk_))))) ?_
    show FinH _ _ _ _ _ _ _ _ _ (T116.setTop (mkF m 80 #[.val (.long l_), .second, .val (.long cc), .second, .val (.long oo), .second, .val (.long dd), .second, .val (.long kk), .second, .val (.int fl), .val (.ref a101), .val (.long oo), .second, .unset] [(.int (fl &&& 2))]))
    by_cases f1 : (fl &&& (2 : Int32)) = (0 : Int32)
    · refine FinH.by (fun tt_ kk_ => XS.ifYes X116.here hx rfl (pc0 := 80) (pc' := 94) rfl (hb hby at_80) rfl ((if0 _ _).trans (teq f1).1) (by decide) (by decide) kk_) ?_
      refine FinH.by (fun tt_ kk_ => XS.aload X116.here hx rfl (hb hby at_94) rfl rfl kk_) ?_
      have O117 : Old Z n0 T113.heap := ((O104.keep p106_0 (allS g103 all0)).keep p113_0 (allS g103 all0))
      obtain ⟨T118, X118, e118, st118⟩ := getS X116 hx hZ (host := "") hown (w_ hw 90 rfl) Via.refl e116 (S3.ext O117.2) (g := (mkF m 96 #[.val (.long l_), .second, .val (.long cc), .second, .val (.long oo), .second, .val (.long dd), .second, .val (.long kk), .second, .val (.int fl), .val (.ref a101), .val (.long oo), .second, .unset] [(.ref a101)])) rfl (hb hby at_96)
      refine FinH.by (fun tt_ kk_ => st118 tt_ kk_) ?_
      have E119 : Exa Z T113.heap b107 "com/example/colonnade/colonnade/TextSpool" := (p106_16.keep p113_0)
      have ne120 : a101 ≠ b107 := Nat.ne_of_lt (Nat.lt_of_lt_of_le A101.lt p106_1)
      have F121 : Fld Z T113.heap b107 "com/example/colonnade/colonnade/TextSpool" "chars" "Ljava/lang/StringBuilder;" (.ref sb108) := (p106_17.keep p113_0 (ninS (Ne.symm ne120) nin0))
      have F122 : Fld Z T113.heap b107 "com/example/colonnade/colonnade/TextSpool" "charsInMemory" "I" (.int (1000 : Int32)) := (p106_18.keep p113_0 (ninS (Ne.symm ne120) nin0))
      have F123 : Fld Z T113.heap b107 "com/example/colonnade/colonnade/TextSpool" "file" "Lcom/example/colonnade/colonnade/SpoolFile;" .null := (p106_19.keep p113_0 (ninS (Ne.symm ne120) nin0))
      have E124 : Exa Z T113.heap sb108 "java/lang/StringBuilder" := (p106_20.keep p113_0)
      have ne125 : a101 ≠ sb108 := Nat.ne_of_lt (Nat.lt_of_lt_of_le A101.lt p106_2)
      have F126 : Fld Z T113.heap sb108 "java/lang/AbstractStringBuilder" "value" "[B" (.ref v109) := (p106_21.keep p113_0 (ninS (Ne.symm ne125) nin0))
      have F127 : Fld Z T113.heap sb108 "java/lang/AbstractStringBuilder" "coder" "B" (.int (0 : Int32)) := (p106_22.keep p113_0 (ninS (Ne.symm ne125) nin0))
      have F128 : Fld Z T113.heap sb108 "java/lang/AbstractStringBuilder" "count" "I" (.int (0 : Int32)) := (p106_23.keep p113_0 (ninS (Ne.symm ne125) nin0))
      have ne129 : a101 ≠ v109 := Nat.ne_of_lt (Nat.lt_of_lt_of_le A101.lt p106_3)
      have A130 : Arv Z T113.heap v109 kv110 .byte (16 : Int32) [] (.int 0) := (p106_25.keep p113_0 (ninS (Ne.symm ne129) nin0))
      have z132 : n0 ≤ h101.size := Nat.le_trans Z0 E101.1
      have g131 : n0 ≤ sb108 := Nat.le_trans z132 p106_2
      obtain ⟨cq133, kq133, qa133, qb133, qc133⟩ := isOf hZ e118 p113_1
      obtain ⟨v133, _, ⟨T133, L133, k133, n133⟩, -, X133, hS133, hg133, ⟨Lc133, hQ133, l133, y133, z133, hC133⟩, st133⟩ := X118.virtualBackS hx (y := y_36) (z := y_36) hown (mvT hZ (w_ hw 93 rfl)) (mvT hZ (w_ hw 94 rfl)) (notFace_of_selects (args := #[]) (mvT hZ (w_ hw 96 rfl))) (mvT hZ (w_ hw 96 rfl)) (mvT hZ (w_ hw 95 rfl)) (by decide) (backOfSH (W := 0) (rm_fin0 l Z a0 hw [] a101 aS b107 sb108 v109 kv110 ([] : List Value) l_ cc oo oo (0 : Int64) G1 G9 T113.heap n0 z115 p113_1 p113_2 p113_3 p113_4 p113_5 p113_6 p113_7 p113_8 p113_9 E119 F121 F122 F123 E124 F126 F127 F128 A130 g103 g131 ne120 ne125 ne129 p106_6 p106_4 p106_5 S1 P1 S9 r9 O117) hZ (w_ hw 97 rfl) (w_ hw 2 rfl) (by decide) (by decide) own_EW ch114.1) qa133 qc133 (g := (mkF m 99 #[.val (.long l_), .second, .val (.long cc), .second, .val (.long oo), .second, .val (.long dd), .second, .val (.long kk), .second, .val (.int fl), .val (.ref a101), .val (.long oo), .second, .unset] [(.ref aS), (.ref a101)])) rfl (by rw [hml]; rfl) (Steps.refl _) (argsL := [(.ref aS)]) (rest := []) (lenOf pd_459 rfl) rfl (by show 2 * 0 + _ ≤ _; exact Nat.le_of_eq rfl) (hb hby at_99) (fun _ _ => ⟨rfl, e118, (by decide : 4 + 4 ≤ _), (by decide : 31 + 13 ≤ _)⟩)
      dsimp only [Pt.U, Pt.locs, Pt.cells, Pt.slots] at X133 l133 y133 z133 st133 hQ133 hS133 hg133 hC133
      subst l133 y133 z133
      obtain ⟨y134, rfl, Nq133, p133_0, p133_1, p133_2, p133_3, p133_4, p133_5, p133_6, p133_7, p133_8, p133_9, p133_10, p133_11, p133_12, p133_13, p133_14, p133_15, p133_16, p133_17, p133_18, p133_19⟩ := hQ133
      have N133_ := Fr.app N116_ Nq133
      refine FinH.byS st133 ?_
      obtain ⟨X133w, hS133w, hZ133, hown133⟩ := rebS hS0 (by rw [e118]; exact (Nat.le_trans hk0 (Nat.le_trans (Nat.le_trans E101.1 p106_0.1) p113_0.1))) X133 hS133 hg133 hZ hown
      have ch135 : CHr Z consts_1 s.vm h0 T133.vm T133.heap := ch114.trans hC133
      refine FinH.by (fun tt_ kk_ => XS.astore X133w.here hx rfl (hb hby at_102) rfl rfl (l' := #[.val (.long l_), .second, .val (.long cc), .second, .val (.long oo), .second, .val (.long dd), .second, .val (.long kk), .second, .val (.int fl), .val (.ref a101), .val (.long oo), .second, .val (.ref y134)]) rfl (XS.aload X133w.here hx rfl (hb hby at_104) rfl rfl kk_)) ?_
      have z136 : n0 ≤ T133.heap.size := Nat.le_trans z115 p133_0.1
      obtain ⟨cq137, kq137, qa137, qb137, qc137⟩ := isOf hZ133 rfl p133_2
      obtain ⟨v137, _, ⟨T137, L137, k137, n137⟩, -, X137, ⟨Lc137, hQ137, l137, y137, z137⟩, st137⟩ := X133w.virtualBack hx (y := y_37) (z := y_37) hown133 (mvT hZ133 (w_ hw 196 rfl)) (mvT hZ133 (w_ hw 197 rfl)) (notFace_of_selects (args := #[]) (mvT hZ133 (w_ hw 199 rfl))) (mvT hZ133 (w_ hw 199 rfl)) (mvT hZ133 (w_ hw 198 rfl)) (by decide) (backOf (W := 0) (rm_gt0 l Z a0 hw [] y134 l_ T133.heap n0 z136 p133_2 p133_3) hZ133 (w_ hw 200 rfl) (w_ hw 100 rfl) (by decide) (by decide)) qa137 qc137 (g := (mkF m 106 #[.val (.long l_), .second, .val (.long cc), .second, .val (.long oo), .second, .val (.long dd), .second, .val (.long kk), .second, .val (.int fl), .val (.ref a101), .val (.long oo), .second, .val (.ref y134)] [(.ref y134)])) rfl (by rw [hml]; rfl) (Steps.refl _) (argsL := []) (rest := []) (lenOf pd_190 rfl) rfl (by show 2 * 0 + _ ≤ _; exact Nat.le_of_eq rfl) (hb hby at_106) (fun _ _ => ⟨rfl, rfl, (by decide : 8 + 0 ≤ _), (by decide : 44 + 0 ≤ _)⟩)
      dsimp only [Pt.U, Pt.locs, Pt.cells, Pt.slots] at X137 l137 y137 z137 st137 hQ137
      subst l137 y137 z137
      obtain ⟨rfl, Nq137, e137_⟩ := hQ137
      have N137_ := Fr.app N133_ Nq137
      refine FinH.byS st137 ?_
      have e137 := e137_
      refine FinH.by (fun tt_ kk_ => XS.lloadN X137.here hx rfl (hb hby at_109) rfl (XS.lcmp X137.here hx rfl (hb hby at_110) rfl kk_)) ?_
      show FinH _ _ _ _ _ _ _ _ _ (T137.setTop (mkF m 111 #[.val (.long l_), .second, .val (.long cc), .second, .val (.long oo), .second, .val (.long dd), .second, .val (.long kk), .second, .val (.int fl), .val (.ref a101), .val (.long oo), .second, .val (.ref y134)] [(.int (lcmpW l_ l_))]))
      refine FinH.by (fun tt_ kk_ => XS.ifNo X137.here hx rfl (hb hby at_111) rfl ((if0 _ _).trans (teq (own_lc _ : (lcmpW l_ l_) = (0 : Int32))).2) kk_) ?_
      refine FinH.by (fun tt_ kk_ => XS.aload X137.here hx rfl (hb hby at_114) rfl rfl kk_) ?_
      obtain ⟨cq138, kq138, qa138, qb138, qc138⟩ := isOf hZ133 e137 p133_2
      obtain ⟨v138, _, ⟨T138, L138, k138, n138⟩, -, X138, ⟨Lc138, hQ138, l138, y138, z138⟩, st138⟩ := X137.virtualBack hx (y := y_38) (z := y_38) hown133 (mvT hZ133 (w_ hw 201 rfl)) (mvT hZ133 (w_ hw 202 rfl)) (notFace_of_selects (args := #[]) (mvT hZ133 (w_ hw 204 rfl))) (mvT hZ133 (w_ hw 204 rfl)) (mvT hZ133 (w_ hw 203 rfl)) (by decide) (backOf (W := 0) (rm_gt1 l Z a0 hw [] y134 cc T133.heap n0 z136 p133_2 p133_4) hZ133 (w_ hw 205 rfl) (w_ hw 100 rfl) (by decide) (by decide)) qa138 qc138 (g := (mkF m 116 #[.val (.long l_), .second, .val (.long cc), .second, .val (.long oo), .second, .val (.long dd), .second, .val (.long kk), .second, .val (.int fl), .val (.ref a101), .val (.long oo), .second, .val (.ref y134)] [(.ref y134)])) rfl (by rw [hml]; rfl) (Steps.refl _) (argsL := []) (rest := []) (lenOf pd_190 rfl) rfl (by show 2 * 0 + _ ≤ _; exact Nat.le_of_eq rfl) (hb hby at_116) (fun _ _ => ⟨rfl, e137, (by decide : 8 + 0 ≤ _), (by decide : 44 + 0 ≤ _)⟩)
      dsimp only [Pt.U, Pt.locs, Pt.cells, Pt.slots] at X138 l138 y138 z138 st138 hQ138
      subst l138 y138 z138
      obtain ⟨rfl, Nq138, e138_⟩ := hQ138
      have N138_ := Fr.app N137_ Nq138
      refine FinH.byS st138 ?_
      have e138 := e138_
      refine FinH.by (fun tt_ kk_ => XS.lloadN X138.here hx rfl (hb hby at_119) rfl (XS.lcmp X138.here hx rfl (hb hby at_120) rfl kk_)) ?_
      show FinH _ _ _ _ _ _ _ _ _ (T138.setTop (mkF m 121 #[.val (.long l_), .second, .val (.long cc), .second, .val (.long oo), .second, .val (.long dd), .second, .val (.long kk), .second, .val (.int fl), .val (.ref a101), .val (.long oo), .second, .val (.ref y134)] [(.int (lcmpW cc cc))]))
      refine FinH.by (fun tt_ kk_ => XS.ifNo X138.here hx rfl (hb hby at_121) rfl ((if0 _ _).trans (teq (own_lc _ : (lcmpW cc cc) = (0 : Int32))).2) kk_) ?_
      refine FinH.by (fun tt_ kk_ => XS.aload X138.here hx rfl (hb hby at_124) rfl rfl kk_) ?_
      obtain ⟨cq139, kq139, qa139, qb139, qc139⟩ := isOf hZ133 e138 p133_2
      obtain ⟨v139, _, ⟨T139, L139, k139, n139⟩, -, X139, ⟨Lc139, hQ139, l139, y139, z139⟩, st139⟩ := X138.virtualBack hx (y := y_39) (z := y_39) hown133 (mvT hZ133 (w_ hw 206 rfl)) (mvT hZ133 (w_ hw 207 rfl)) (notFace_of_selects (args := #[]) (mvT hZ133 (w_ hw 209 rfl))) (mvT hZ133 (w_ hw 209 rfl)) (mvT hZ133 (w_ hw 208 rfl)) (by decide) (backOf (W := 0) (rm_gt2 l Z a0 hw [] y134 oo T133.heap n0 z136 p133_2 p133_5) hZ133 (w_ hw 210 rfl) (w_ hw 100 rfl) (by decide) (by decide)) qa139 qc139 (g := (mkF m 126 #[.val (.long l_), .second, .val (.long cc), .second, .val (.long oo), .second, .val (.long dd), .second, .val (.long kk), .second, .val (.int fl), .val (.ref a101), .val (.long oo), .second, .val (.ref y134)] [(.ref y134)])) rfl (by rw [hml]; rfl) (Steps.refl _) (argsL := []) (rest := []) (lenOf pd_190 rfl) rfl (by show 2 * 0 + _ ≤ _; exact Nat.le_of_eq rfl) (hb hby at_126) (fun _ _ => ⟨rfl, e138, (by decide : 8 + 0 ≤ _), (by decide : 44 + 0 ≤ _)⟩)
      dsimp only [Pt.U, Pt.locs, Pt.cells, Pt.slots] at X139 l139 y139 z139 st139 hQ139
      subst l139 y139 z139
      obtain ⟨rfl, Nq139, e139_⟩ := hQ139
      have N139_ := Fr.app N138_ Nq139
      refine FinH.byS st139 ?_
      have e139 := e139_
      refine FinH.by (fun tt_ kk_ => XS.lload X139.here hx rfl (hb hby at_129) rfl (XS.lcmp X139.here hx rfl (hb hby at_131) rfl kk_)) ?_
      show FinH _ _ _ _ _ _ _ _ _ (T139.setTop (mkF m 132 #[.val (.long l_), .second, .val (.long cc), .second, .val (.long oo), .second, .val (.long dd), .second, .val (.long kk), .second, .val (.int fl), .val (.ref a101), .val (.long oo), .second, .val (.ref y134)] [(.int (lcmpW oo oo))]))
      refine FinH.by (fun tt_ kk_ => XS.ifNo X139.here hx rfl (hb hby at_132) rfl ((if0 _ _).trans (teq (own_lc _ : (lcmpW oo oo) = (0 : Int32))).2) kk_) ?_
      refine FinH.by (fun tt_ kk_ => XS.aload X139.here hx rfl (hb hby at_135) rfl rfl kk_) ?_
      obtain ⟨cq140, kq140, qa140, qb140, qc140⟩ := isOf hZ133 e139 p133_2
      obtain ⟨v140, _, ⟨T140, L140, k140, n140⟩, -, X140, ⟨Lc140, hQ140, l140, y140, z140⟩, st140⟩ := X139.virtualBack hx (y := y_40) (z := y_40) hown133 (mvT hZ133 (w_ hw 211 rfl)) (mvT hZ133 (w_ hw 212 rfl)) (notFace_of_selects (args := #[]) (mvT hZ133 (w_ hw 214 rfl))) (mvT hZ133 (w_ hw 214 rfl)) (mvT hZ133 (w_ hw 213 rfl)) (by decide) (backOf (W := 0) (rm_gt3 l Z a0 hw [] y134 oo T133.heap n0 z136 p133_2 p133_6) hZ133 (w_ hw 215 rfl) (w_ hw 100 rfl) (by decide) (by decide)) qa140 qc140 (g := (mkF m 137 #[.val (.long l_), .second, .val (.long cc), .second, .val (.long oo), .second, .val (.long dd), .second, .val (.long kk), .second, .val (.int fl), .val (.ref a101), .val (.long oo), .second, .val (.ref y134)] [(.ref y134)])) rfl (by rw [hml]; rfl) (Steps.refl _) (argsL := []) (rest := []) (lenOf pd_190 rfl) rfl (by show 2 * 0 + _ ≤ _; exact Nat.le_of_eq rfl) (hb hby at_137) (fun _ _ => ⟨rfl, e139, (by decide : 8 + 0 ≤ _), (by decide : 44 + 0 ≤ _)⟩)
      dsimp only [Pt.U, Pt.locs, Pt.cells, Pt.slots] at X140 l140 y140 z140 st140 hQ140
      subst l140 y140 z140
      obtain ⟨rfl, Nq140, e140_⟩ := hQ140
      have N140_ := Fr.app N139_ Nq140
      refine FinH.byS st140 ?_
      have e140 := e140_
      refine FinH.by (fun tt_ kk_ => XS.lload X140.here hx rfl (hb hby at_140) rfl (XS.lcmp X140.here hx rfl (hb hby at_142) rfl kk_)) ?_
      show FinH _ _ _ _ _ _ _ _ _ (T140.setTop (mkF m 143 #[.val (.long l_), .second, .val (.long cc), .second, .val (.long oo), .second, .val (.long dd), .second, .val (.long kk), .second, .val (.int fl), .val (.ref a101), .val (.long oo), .second, .val (.ref y134)] [(.int (lcmpW oo oo))]))
      refine FinH.by (fun tt_ kk_ => XS.ifNo X140.here hx rfl (hb hby at_143) rfl ((if0 _ _).trans (teq (own_lc _ : (lcmpW oo oo) = (0 : Int32))).2) kk_) ?_
      refine FinH.by (fun tt_ kk_ => XS.iconst X140.here hx rfl (hb hby at_146) (XS.goto X140.here hx rfl (pc0 := 147) (pc' := 151) rfl (hb hby at_147) (by decide) (by decide) kk_)) ?_
      show FinH _ _ _ _ _ _ _ _ _ (T140.setTop (mkF m 151 #[.val (.long l_), .second, .val (.long cc), .second, .val (.long oo), .second, .val (.long dd), .second, .val (.long kk), .second, .val (.int fl), .val (.ref a101), .val (.long oo), .second, .val (.ref y134)] [(.int 1)]))
      exact FinH.ret (v := some (.int (nar .boolean (1 : Int32)))) X140 hS133w (by rw [e140]; exact (Nat.le_refl _)) (fun h => by rw [Bd.returns] at h; cases h) Bd.notSynchronized (by rw [e140]; exact ⟨rfl, N140_⟩) (by rw [hh, e140]; exact ch135.trans (CHv.at X140 hZ133 own_EW ch135.1)) (by decide) (by decide) (fun fs hr => retN X140 hx (t := .boolean) Bd.returns (by simp) (hb hby at_151) hr)
    · refine FinH.by (fun tt_ kk_ => XS.ifNo X116.here hx rfl (hb hby at_80) rfl ((if0 _ _).trans (feq f1).1) kk_) ?_
      refine FinH.by (fun tt_ kk_ => XS.aload X116.here hx rfl (hb hby at_83) rfl rfl (XS.lload X116.here hx rfl (hb hby at_85) rfl kk_)) ?_
      have E141 : Exa Z T113.heap b107 "com/example/colonnade/colonnade/TextSpool" := (p106_16.keep p113_0)
      have ne142 : a101 ≠ b107 := Nat.ne_of_lt (Nat.lt_of_lt_of_le A101.lt p106_1)
      have F143 : Fld Z T113.heap b107 "com/example/colonnade/colonnade/TextSpool" "chars" "Ljava/lang/StringBuilder;" (.ref sb108) := (p106_17.keep p113_0 (ninS (Ne.symm ne142) nin0))
      have F144 : Fld Z T113.heap b107 "com/example/colonnade/colonnade/TextSpool" "file" "Lcom/example/colonnade/colonnade/SpoolFile;" .null := (p106_19.keep p113_0 (ninS (Ne.symm ne142) nin0))
      have E145 : Exa Z T113.heap sb108 "java/lang/StringBuilder" := (p106_20.keep p113_0)
      have ne146 : a101 ≠ sb108 := Nat.ne_of_lt (Nat.lt_of_lt_of_le A101.lt p106_2)
      have F147 : Fld Z T113.heap sb108 "java/lang/AbstractStringBuilder" "count" "I" (.int (0 : Int32)) := (p106_23.keep p113_0 (ninS (Ne.symm ne146) nin0))
      obtain ⟨cq148, kq148, qa148, qb148, qc148⟩ := isOf hZ e116 p113_1
      obtain ⟨v148, _, ⟨T148, L148, k148, n148⟩, -, X148, ⟨Lc148, hQ148, l148, y148, z148⟩, st148⟩ := X116.virtualBack hx (y := y_18) (z := y_18) hown (mvT hZ (w_ hw 66 rfl)) (mvT hZ (w_ hw 67 rfl)) (notFace_of_selects (args := #[]) (mvT hZ (w_ hw 69 rfl))) (mvT hZ (w_ hw 69 rfl)) (mvT hZ (w_ hw 68 rfl)) (by decide) (backOf (W := 0) (rm_kab l Z a0 hw [] a101 b107 sb108 l_ cc oo kk T113.heap n0 z115 p113_1 p113_2 p113_3 p113_4 p113_5 p113_6 p113_7 p113_8 p113_9 E141 F143 F144 E145 F147 g103) hZ (w_ hw 70 rfl) (w_ hw 2 rfl) (by decide) (by decide)) qa148 qc148 (g := (mkF m 87 #[.val (.long l_), .second, .val (.long cc), .second, .val (.long oo), .second, .val (.long dd), .second, .val (.long kk), .second, .val (.int fl), .val (.ref a101), .val (.long oo), .second, .unset] [(.long kk), (.ref a101)])) rfl (by rw [hml]; rfl) (Steps.refl _) (argsL := [(.long kk)]) (rest := []) (lenOf pd_460 rfl) rfl (by show 2 * 0 + _ ≤ _; exact Nat.le_of_eq rfl) (hb hby at_87) (fun _ _ => ⟨rfl, e116, (by decide : 4 + 0 ≤ _), (by decide : 31 + 0 ≤ _)⟩)
      dsimp only [Pt.U, Pt.locs, Pt.cells, Pt.slots] at X148 l148 y148 z148 st148 hQ148
      subst l148 y148 z148
      obtain ⟨rfl, Nq148, p148_0, p148_1, p148_2, p148_3, p148_4, p148_5, p148_6, p148_7, p148_8, p148_9⟩ := hQ148
      have N148_ := Fr.app N116_ Nq148
      refine FinH.byS st148 ?_
      have ch149 : CHr Z consts_1 s.vm h0 s.vm T148.heap := ch114.trans (CHr.keep p148_0 (allS (Safe.exa hZ.alike p113_1 (by decide) (by decide)) all0) ch114.1)
      refine FinH.by (fun tt_ kk_ => XS.lload X148.here hx rfl (hb hby at_90) rfl (XS.lstore X148.here hx rfl (hb hby at_92) rfl (l' := #[.val (.long l_), .second, .val (.long cc), .second, .val (.long oo), .second, .val (.long dd), .second, .val (.long kk), .second, .val (.int fl), .val (.ref a101), .val (.long kk), .second, .unset]) rfl (XS.aload X148.here hx rfl (hb hby at_94) rfl rfl kk_))) ?_
      have O150 : Old Z n0 T148.heap := (((O104.keep p106_0 (allS g103 all0)).keep p113_0 (allS g103 all0)).keep p148_0 (allS g103 all0))
      obtain ⟨T151, X151, e151, st151⟩ := getS X148 hx hZ (host := "") hown (w_ hw 90 rfl) Via.refl rfl (S3.ext O150.2) (g := (mkF m 96 #[.val (.long l_), .second, .val (.long cc), .second, .val (.long oo), .second, .val (.long dd), .second, .val (.long kk), .second, .val (.int fl), .val (.ref a101), .val (.long kk), .second, .unset] [(.ref a101)])) rfl (hb hby at_96)
      refine FinH.by (fun tt_ kk_ => st151 tt_ kk_) ?_
      have E152 : Exa Z T148.heap b107 "com/example/colonnade/colonnade/TextSpool" := (E141.keep p148_0)
      have F153 : Fld Z T148.heap b107 "com/example/colonnade/colonnade/TextSpool" "chars" "Ljava/lang/StringBuilder;" (.ref sb108) := (F143.keep p148_0 (ninS (Ne.symm ne142) nin0))
      have F154 : Fld Z T148.heap b107 "com/example/colonnade/colonnade/TextSpool" "charsInMemory" "I" (.int (1000 : Int32)) := ((p106_18.keep p113_0 (ninS (Ne.symm ne142) nin0)).keep p148_0 (ninS (Ne.symm ne142) nin0))
      have F155 : Fld Z T148.heap b107 "com/example/colonnade/colonnade/TextSpool" "file" "Lcom/example/colonnade/colonnade/SpoolFile;" .null := (F144.keep p148_0 (ninS (Ne.symm ne142) nin0))
      have E156 : Exa Z T148.heap sb108 "java/lang/StringBuilder" := (E145.keep p148_0)
      have F157 : Fld Z T148.heap sb108 "java/lang/AbstractStringBuilder" "value" "[B" (.ref v109) := ((p106_21.keep p113_0 (ninS (Ne.symm ne146) nin0)).keep p148_0 (ninS (Ne.symm ne146) nin0))
      have F158 : Fld Z T148.heap sb108 "java/lang/AbstractStringBuilder" "coder" "B" (.int (0 : Int32)) := ((p106_22.keep p113_0 (ninS (Ne.symm ne146) nin0)).keep p148_0 (ninS (Ne.symm ne146) nin0))
      have F159 : Fld Z T148.heap sb108 "java/lang/AbstractStringBuilder" "count" "I" (.int (0 : Int32)) := (F147.keep p148_0 (ninS (Ne.symm ne146) nin0))
      have ne160 : a101 ≠ v109 := Nat.ne_of_lt (Nat.lt_of_lt_of_le A101.lt p106_3)
      have A161 : Arv Z T148.heap v109 kv110 .byte (16 : Int32) [] (.int 0) := ((p106_25.keep p113_0 (ninS (Ne.symm ne160) nin0)).keep p148_0 (ninS (Ne.symm ne160) nin0))
      have z163 : n0 ≤ h101.size := Nat.le_trans Z0 E101.1
      have g162 : n0 ≤ sb108 := Nat.le_trans z163 p106_2
      have z164 : n0 ≤ T148.heap.size := Nat.le_trans z115 p148_0.1
      obtain ⟨cq165, kq165, qa165, qb165, qc165⟩ := isOf hZ e151 p148_1
      obtain ⟨v165, _, ⟨T165, L165, k165, n165⟩, -, X165, hS165, hg165, ⟨Lc165, hQ165, l165, y165, z165, hC165⟩, st165⟩ := X151.virtualBackS hx (y := y_36) (z := y_36) hown (mvT hZ (w_ hw 93 rfl)) (mvT hZ (w_ hw 94 rfl)) (notFace_of_selects (args := #[]) (mvT hZ (w_ hw 96 rfl))) (mvT hZ (w_ hw 96 rfl)) (mvT hZ (w_ hw 95 rfl)) (by decide) (backOfSH (W := 0) (rm_fin0 l Z a0 hw [] a101 aS b107 sb108 v109 kv110 ([] : List Value) l_ cc oo kk (0 : Int64) G1 G9 T148.heap n0 z164 p148_1 p148_2 p148_3 p148_4 p148_5 p148_6 p148_7 p148_8 p148_9 E152 F153 F154 F155 E156 F157 F158 F159 A161 g103 g162 ne142 ne146 ne160 p106_6 p106_4 p106_5 S1 P1 S9 r9 O150) hZ (w_ hw 97 rfl) (w_ hw 2 rfl) (by decide) (by decide) own_EW ch149.1) qa165 qc165 (g := (mkF m 99 #[.val (.long l_), .second, .val (.long cc), .second, .val (.long oo), .second, .val (.long dd), .second, .val (.long kk), .second, .val (.int fl), .val (.ref a101), .val (.long kk), .second, .unset] [(.ref aS), (.ref a101)])) rfl (by rw [hml]; rfl) (Steps.refl _) (argsL := [(.ref aS)]) (rest := []) (lenOf pd_459 rfl) rfl (by show 2 * 0 + _ ≤ _; exact Nat.le_of_eq rfl) (hb hby at_99) (fun _ _ => ⟨rfl, e151, (by decide : 4 + 4 ≤ _), (by decide : 31 + 13 ≤ _)⟩)
      dsimp only [Pt.U, Pt.locs, Pt.cells, Pt.slots] at X165 l165 y165 z165 st165 hQ165 hS165 hg165 hC165
      subst l165 y165 z165
      obtain ⟨y166, rfl, Nq165, p165_0, p165_1, p165_2, p165_3, p165_4, p165_5, p165_6, p165_7, p165_8, p165_9, p165_10, p165_11, p165_12, p165_13, p165_14, p165_15, p165_16, p165_17, p165_18, p165_19⟩ := hQ165
      have N165_ := Fr.app N148_ Nq165
      refine FinH.byS st165 ?_
      obtain ⟨X165w, hS165w, hZ165, hown165⟩ := rebS hS0 (by rw [e151]; exact (Nat.le_trans hk0 (Nat.le_trans (Nat.le_trans (Nat.le_trans E101.1 p106_0.1) p113_0.1) p148_0.1))) X165 hS165 hg165 hZ hown
      have ch167 : CHr Z consts_1 s.vm h0 T165.vm T165.heap := ch149.trans hC165
      refine FinH.by (fun tt_ kk_ => XS.astore X165w.here hx rfl (hb hby at_102) rfl rfl (l' := #[.val (.long l_), .second, .val (.long cc), .second, .val (.long oo), .second, .val (.long dd), .second, .val (.long kk), .second, .val (.int fl), .val (.ref a101), .val (.long kk), .second, .val (.ref y166)]) rfl (XS.aload X165w.here hx rfl (hb hby at_104) rfl rfl kk_)) ?_
      have z168 : n0 ≤ T165.heap.size := Nat.le_trans z164 p165_0.1
      obtain ⟨cq169, kq169, qa169, qb169, qc169⟩ := isOf hZ165 rfl p165_2
      obtain ⟨v169, _, ⟨T169, L169, k169, n169⟩, -, X169, ⟨Lc169, hQ169, l169, y169, z169⟩, st169⟩ := X165w.virtualBack hx (y := y_37) (z := y_37) hown165 (mvT hZ165 (w_ hw 196 rfl)) (mvT hZ165 (w_ hw 197 rfl)) (notFace_of_selects (args := #[]) (mvT hZ165 (w_ hw 199 rfl))) (mvT hZ165 (w_ hw 199 rfl)) (mvT hZ165 (w_ hw 198 rfl)) (by decide) (backOf (W := 0) (rm_gt0 l Z a0 hw [] y166 l_ T165.heap n0 z168 p165_2 p165_3) hZ165 (w_ hw 200 rfl) (w_ hw 100 rfl) (by decide) (by decide)) qa169 qc169 (g := (mkF m 106 #[.val (.long l_), .second, .val (.long cc), .second, .val (.long oo), .second, .val (.long dd), .second, .val (.long kk), .second, .val (.int fl), .val (.ref a101), .val (.long kk), .second, .val (.ref y166)] [(.ref y166)])) rfl (by rw [hml]; rfl) (Steps.refl _) (argsL := []) (rest := []) (lenOf pd_190 rfl) rfl (by show 2 * 0 + _ ≤ _; exact Nat.le_of_eq rfl) (hb hby at_106) (fun _ _ => ⟨rfl, rfl, (by decide : 8 + 0 ≤ _), (by decide : 44 + 0 ≤ _)⟩)
      dsimp only [Pt.U, Pt.locs, Pt.cells, Pt.slots] at X169 l169 y169 z169 st169 hQ169
      subst l169 y169 z169
      obtain ⟨rfl, Nq169, e169_⟩ := hQ169
      have N169_ := Fr.app N165_ Nq169
      refine FinH.byS st169 ?_
      have e169 := e169_
      refine FinH.by (fun tt_ kk_ => XS.lloadN X169.here hx rfl (hb hby at_109) rfl (XS.lcmp X169.here hx rfl (hb hby at_110) rfl kk_)) ?_
      show FinH _ _ _ _ _ _ _ _ _ (T169.setTop (mkF m 111 #[.val (.long l_), .second, .val (.long cc), .second, .val (.long oo), .second, .val (.long dd), .second, .val (.long kk), .second, .val (.int fl), .val (.ref a101), .val (.long kk), .second, .val (.ref y166)] [(.int (lcmpW l_ l_))]))
      refine FinH.by (fun tt_ kk_ => XS.ifNo X169.here hx rfl (hb hby at_111) rfl ((if0 _ _).trans (teq (own_lc _ : (lcmpW l_ l_) = (0 : Int32))).2) kk_) ?_
      refine FinH.by (fun tt_ kk_ => XS.aload X169.here hx rfl (hb hby at_114) rfl rfl kk_) ?_
      obtain ⟨cq170, kq170, qa170, qb170, qc170⟩ := isOf hZ165 e169 p165_2
      obtain ⟨v170, _, ⟨T170, L170, k170, n170⟩, -, X170, ⟨Lc170, hQ170, l170, y170, z170⟩, st170⟩ := X169.virtualBack hx (y := y_38) (z := y_38) hown165 (mvT hZ165 (w_ hw 201 rfl)) (mvT hZ165 (w_ hw 202 rfl)) (notFace_of_selects (args := #[]) (mvT hZ165 (w_ hw 204 rfl))) (mvT hZ165 (w_ hw 204 rfl)) (mvT hZ165 (w_ hw 203 rfl)) (by decide) (backOf (W := 0) (rm_gt1 l Z a0 hw [] y166 cc T165.heap n0 z168 p165_2 p165_4) hZ165 (w_ hw 205 rfl) (w_ hw 100 rfl) (by decide) (by decide)) qa170 qc170 (g := (mkF m 116 #[.val (.long l_), .second, .val (.long cc), .second, .val (.long oo), .second, .val (.long dd), .second, .val (.long kk), .second, .val (.int fl), .val (.ref a101), .val (.long kk), .second, .val (.ref y166)] [(.ref y166)])) rfl (by rw [hml]; rfl) (Steps.refl _) (argsL := []) (rest := []) (lenOf pd_190 rfl) rfl (by show 2 * 0 + _ ≤ _; exact Nat.le_of_eq rfl) (hb hby at_116) (fun _ _ => ⟨rfl, e169, (by decide : 8 + 0 ≤ _), (by decide : 44 + 0 ≤ _)⟩)
      dsimp only [Pt.U, Pt.locs, Pt.cells, Pt.slots] at X170 l170 y170 z170 st170 hQ170
      subst l170 y170 z170
      obtain ⟨rfl, Nq170, e170_⟩ := hQ170
      have N170_ := Fr.app N169_ Nq170
      refine FinH.byS st170 ?_
      have e170 := e170_
      refine FinH.by (fun tt_ kk_ => XS.lloadN X170.here hx rfl (hb hby at_119) rfl (XS.lcmp X170.here hx rfl (hb hby at_120) rfl kk_)) ?_
      show FinH _ _ _ _ _ _ _ _ _ (T170.setTop (mkF m 121 #[.val (.long l_), .second, .val (.long cc), .second, .val (.long oo), .second, .val (.long dd), .second, .val (.long kk), .second, .val (.int fl), .val (.ref a101), .val (.long kk), .second, .val (.ref y166)] [(.int (lcmpW cc cc))]))
      refine FinH.by (fun tt_ kk_ => XS.ifNo X170.here hx rfl (hb hby at_121) rfl ((if0 _ _).trans (teq (own_lc _ : (lcmpW cc cc) = (0 : Int32))).2) kk_) ?_
      refine FinH.by (fun tt_ kk_ => XS.aload X170.here hx rfl (hb hby at_124) rfl rfl kk_) ?_
      obtain ⟨cq171, kq171, qa171, qb171, qc171⟩ := isOf hZ165 e170 p165_2
      obtain ⟨v171, _, ⟨T171, L171, k171, n171⟩, -, X171, ⟨Lc171, hQ171, l171, y171, z171⟩, st171⟩ := X170.virtualBack hx (y := y_39) (z := y_39) hown165 (mvT hZ165 (w_ hw 206 rfl)) (mvT hZ165 (w_ hw 207 rfl)) (notFace_of_selects (args := #[]) (mvT hZ165 (w_ hw 209 rfl))) (mvT hZ165 (w_ hw 209 rfl)) (mvT hZ165 (w_ hw 208 rfl)) (by decide) (backOf (W := 0) (rm_gt2 l Z a0 hw [] y166 oo T165.heap n0 z168 p165_2 p165_5) hZ165 (w_ hw 210 rfl) (w_ hw 100 rfl) (by decide) (by decide)) qa171 qc171 (g := (mkF m 126 #[.val (.long l_), .second, .val (.long cc), .second, .val (.long oo), .second, .val (.long dd), .second, .val (.long kk), .second, .val (.int fl), .val (.ref a101), .val (.long kk), .second, .val (.ref y166)] [(.ref y166)])) rfl (by rw [hml]; rfl) (Steps.refl _) (argsL := []) (rest := []) (lenOf pd_190 rfl) rfl (by show 2 * 0 + _ ≤ _; exact Nat.le_of_eq rfl) (hb hby at_126) (fun _ _ => ⟨rfl, e170, (by decide : 8 + 0 ≤ _), (by decide : 44 + 0 ≤ _)⟩)
      dsimp only [Pt.U, Pt.locs, Pt.cells, Pt.slots] at X171 l171 y171 z171 st171 hQ171
      subst l171 y171 z171
      obtain ⟨rfl, Nq171, e171_⟩ := hQ171
      have N171_ := Fr.app N170_ Nq171
      refine FinH.byS st171 ?_
      have e171 := e171_
      refine FinH.by (fun tt_ kk_ => XS.lload X171.here hx rfl (hb hby at_129) rfl (XS.lcmp X171.here hx rfl (hb hby at_131) rfl kk_)) ?_
      show FinH _ _ _ _ _ _ _ _ _ (T171.setTop (mkF m 132 #[.val (.long l_), .second, .val (.long cc), .second, .val (.long oo), .second, .val (.long dd), .second, .val (.long kk), .second, .val (.int fl), .val (.ref a101), .val (.long kk), .second, .val (.ref y166)] [(.int (lcmpW oo oo))]))
      refine FinH.by (fun tt_ kk_ => XS.ifNo X171.here hx rfl (hb hby at_132) rfl ((if0 _ _).trans (teq (own_lc _ : (lcmpW oo oo) = (0 : Int32))).2) kk_) ?_
      refine FinH.by (fun tt_ kk_ => XS.aload X171.here hx rfl (hb hby at_135) rfl rfl kk_) ?_
      obtain ⟨cq172, kq172, qa172, qb172, qc172⟩ := isOf hZ165 e171 p165_2
      obtain ⟨v172, _, ⟨T172, L172, k172, n172⟩, -, X172, ⟨Lc172, hQ172, l172, y172, z172⟩, st172⟩ := X171.virtualBack hx (y := y_40) (z := y_40) hown165 (mvT hZ165 (w_ hw 211 rfl)) (mvT hZ165 (w_ hw 212 rfl)) (notFace_of_selects (args := #[]) (mvT hZ165 (w_ hw 214 rfl))) (mvT hZ165 (w_ hw 214 rfl)) (mvT hZ165 (w_ hw 213 rfl)) (by decide) (backOf (W := 0) (rm_gt3 l Z a0 hw [] y166 kk T165.heap n0 z168 p165_2 p165_6) hZ165 (w_ hw 215 rfl) (w_ hw 100 rfl) (by decide) (by decide)) qa172 qc172 (g := (mkF m 137 #[.val (.long l_), .second, .val (.long cc), .second, .val (.long oo), .second, .val (.long dd), .second, .val (.long kk), .second, .val (.int fl), .val (.ref a101), .val (.long kk), .second, .val (.ref y166)] [(.ref y166)])) rfl (by rw [hml]; rfl) (Steps.refl _) (argsL := []) (rest := []) (lenOf pd_190 rfl) rfl (by show 2 * 0 + _ ≤ _; exact Nat.le_of_eq rfl) (hb hby at_137) (fun _ _ => ⟨rfl, e171, (by decide : 8 + 0 ≤ _), (by decide : 44 + 0 ≤ _)⟩)
      dsimp only [Pt.U, Pt.locs, Pt.cells, Pt.slots] at X172 l172 y172 z172 st172 hQ172
      subst l172 y172 z172
      obtain ⟨rfl, Nq172, e172_⟩ := hQ172
      have N172_ := Fr.app N171_ Nq172
      refine FinH.byS st172 ?_
      have e172 := e172_
      refine FinH.by (fun tt_ kk_ => XS.lload X172.here hx rfl (hb hby at_140) rfl (XS.lcmp X172.here hx rfl (hb hby at_142) rfl kk_)) ?_
      show FinH _ _ _ _ _ _ _ _ _ (T172.setTop (mkF m 143 #[.val (.long l_), .second, .val (.long cc), .second, .val (.long oo), .second, .val (.long dd), .second, .val (.long kk), .second, .val (.int fl), .val (.ref a101), .val (.long kk), .second, .val (.ref y166)] [(.int (lcmpW kk kk))]))
      refine FinH.by (fun tt_ kk_ => XS.ifNo X172.here hx rfl (hb hby at_143) rfl ((if0 _ _).trans (teq (own_lc _ : (lcmpW kk kk) = (0 : Int32))).2) kk_) ?_
      refine FinH.by (fun tt_ kk_ => XS.iconst X172.here hx rfl (hb hby at_146) (XS.goto X172.here hx rfl (pc0 := 147) (pc' := 151) rfl (hb hby at_147) (by decide) (by decide) kk_)) ?_
      show FinH _ _ _ _ _ _ _ _ _ (T172.setTop (mkF m 151 #[.val (.long l_), .second, .val (.long cc), .second, .val (.long oo), .second, .val (.long dd), .second, .val (.long kk), .second, .val (.int fl), .val (.ref a101), .val (.long kk), .second, .val (.ref y166)] [(.int 1)]))
      exact FinH.ret (v := some (.int (nar .boolean (1 : Int32)))) X172 hS165w (by rw [e172]; exact (Nat.le_refl _)) (fun h => by rw [Bd.returns] at h; cases h) Bd.notSynchronized (by rw [e172]; exact ⟨rfl, N172_⟩) (by rw [hh, e172]; exact ch167.trans (CHv.at X172 hZ165 own_EW ch167.1)) (by decide) (by decide) (fun fs hr => retN X172 hx (t := .boolean) Bd.returns (by simp) (hb hby at_151) hr)
  · refine FinH.by (fun tt_ kk_ => XS.ifNo X106.here hx rfl (hb hby at_16) rfl ((if0 _ _).trans (feq f0).1) kk_) ?_
    refine FinH.by (fun tt_ kk_ => XS.aload X106.here hx rfl (hb hby at_19) rfl rfl (XS.lload X106.here hx rfl (hb hby at_21) rfl (XS.lload X106.here hx rfl (hb hby at_23) rfl (XS.lload X106.here hx rfl (hb hby at_25) rfl kk_)))) ?_
    have z173 : n0 ≤ T106.heap.size := Nat.le_trans z105 p106_0.1
    obtain ⟨cq174, kq174, qa174, qb174, qc174⟩ := isOf hZ rfl p106_7
    obtain ⟨v174, _, ⟨T174, L174, k174, n174⟩, -, X174, ⟨Lc174, hQ174, l174, y174, z174⟩, st174⟩ := X106.virtualBack hx (y := y_4) (z := y_4) hown (mvT hZ (w_ hw 42 rfl)) (mvT hZ (w_ hw 43 rfl)) (notFace_of_selects (args := #[]) (mvT hZ (w_ hw 45 rfl))) (mvT hZ (w_ hw 45 rfl)) (mvT hZ (w_ hw 44 rfl)) (by decide) (backOf (W := 0) (rm_sta l Z a0 hw [] a101 b107 dd dd dd (0 : Int32) (0 : Int64) (0 : Int64) (0 : Int64) (0 : Int64) (0 : Int64) (0 : Int64) T106.heap n0 z173 p106_7 p106_8 p106_9 p106_10 p106_11 p106_12 p106_13 p106_14 p106_15 g103) hZ (w_ hw 46 rfl) (w_ hw 2 rfl) (by decide) (by decide)) qa174 qc174 (g := (mkF m 27 #[.val (.long l_), .second, .val (.long cc), .second, .val (.long oo), .second, .val (.long dd), .second, .val (.long kk), .second, .val (.int fl), .val (.ref a101), .unset, .unset, .unset] [(.long dd), (.long dd), (.long dd), (.ref a101)])) rfl (by rw [hml]; rfl) (Steps.refl _) (argsL := [(.long dd), (.long dd), (.long dd)]) (rest := []) (lenOf pd_458 rfl) rfl (by show 2 * 0 + _ ≤ _; exact Nat.le_of_eq rfl) (hb hby at_27) (fun _ _ => ⟨rfl, rfl, (by decide : 4 + 0 ≤ _), (by decide : 31 + 0 ≤ _)⟩)
    dsimp only [Pt.U, Pt.locs, Pt.cells, Pt.slots] at X174 l174 y174 z174 st174 hQ174
    subst l174 y174 z174
    obtain ⟨rfl, Nq174, p174_0, p174_1, p174_2, p174_3, p174_4, p174_5, p174_6, p174_7, p174_8, p174_9⟩ := hQ174
    have N174_ := Fr.app N106_ Nq174
    refine FinH.byS st174 ?_
    have ch175 : CHr Z consts_1 s.vm h0 s.vm T174.heap := ch111.trans (CHr.keep p174_0 (allS (Safe.exa hZ.alike p106_7 (by decide) (by decide)) all0) ch111.1)
    refine FinH.by (fun tt_ kk_ => XS.aload X174.here hx rfl (hb hby at_30) rfl rfl (XS.bipush X174.here hx rfl (hb hby at_32) kk_)) ?_
    have E176 : Exa Z T174.heap b107 "com/example/colonnade/colonnade/TextSpool" := (p106_16.keep p174_0)
    have ne177 : a101 ≠ b107 := Nat.ne_of_lt (Nat.lt_of_lt_of_le A101.lt p106_1)
    have F178 : Fld Z T174.heap b107 "com/example/colonnade/colonnade/TextSpool" "chars" "Ljava/lang/StringBuilder;" (.ref sb108) := (p106_17.keep p174_0 (ninS (Ne.symm ne177) nin0))
    have F179 : Fld Z T174.heap b107 "com/example/colonnade/colonnade/TextSpool" "charsInMemory" "I" (.int (1000 : Int32)) := (p106_18.keep p174_0 (ninS (Ne.symm ne177) nin0))
    have F180 : Fld Z T174.heap b107 "com/example/colonnade/colonnade/TextSpool" "file" "Lcom/example/colonnade/colonnade/SpoolFile;" .null := (p106_19.keep p174_0 (ninS (Ne.symm ne177) nin0))
    have E181 : Exa Z T174.heap sb108 "java/lang/StringBuilder" := (p106_20.keep p174_0)
    have ne182 : a101 ≠ sb108 := Nat.ne_of_lt (Nat.lt_of_lt_of_le A101.lt p106_2)
    have F183 : Fld Z T174.heap sb108 "java/lang/AbstractStringBuilder" "value" "[B" (.ref v109) := (p106_21.keep p174_0 (ninS (Ne.symm ne182) nin0))
    have F184 : Fld Z T174.heap sb108 "java/lang/AbstractStringBuilder" "coder" "B" (.int (0 : Int32)) := (p106_22.keep p174_0 (ninS (Ne.symm ne182) nin0))
    have F185 : Fld Z T174.heap sb108 "java/lang/AbstractStringBuilder" "count" "I" (.int (0 : Int32)) := (p106_23.keep p174_0 (ninS (Ne.symm ne182) nin0))
    have F186 : Fld Z T174.heap sb108 "java/lang/AbstractStringBuilder" "maybeLatin1" "Z" (.int (0 : Int32)) := (p106_24.keep p174_0 (ninS (Ne.symm ne182) nin0))
    have ne187 : a101 ≠ v109 := Nat.ne_of_lt (Nat.lt_of_lt_of_le A101.lt p106_3)
    have A188 : Arv Z T174.heap v109 kv110 .byte (16 : Int32) [] (.int 0) := (p106_25.keep p174_0 (ninS (Ne.symm ne187) nin0))
    have z190 : n0 ≤ h101.size := Nat.le_trans Z0 E101.1
    have g189 : n0 ≤ sb108 := Nat.le_trans z190 p106_2
    have z192 : n0 ≤ h101.size := Nat.le_trans Z0 E101.1
    have g191 : n0 ≤ v109 := Nat.le_trans z192 p106_3
    have O193 : Old Z n0 T174.heap := ((O104.keep p106_0 (allS g103 all0)).keep p174_0 (allS g103 all0))
    have z194 : n0 ≤ T174.heap.size := Nat.le_trans z173 p174_0.1
    obtain ⟨cq195, kq195, qa195, qb195, qc195⟩ := isOf hZ rfl p174_1
    obtain ⟨v195, _, ⟨T195, L195, k195, n195⟩, -, X195, ⟨Lc195, hQ195, l195, y195, z195⟩, st195⟩ := X174.virtualBack hx (y := y_16) (z := y_16) hown (mvT hZ (w_ hw 216 rfl)) (mvT hZ (w_ hw 217 rfl)) (notFace_of_selects (args := #[]) (mvT hZ (w_ hw 219 rfl))) (mvT hZ (w_ hw 219 rfl)) (mvT hZ (w_ hw 218 rfl)) (by decide) (backOf (W := 0) (rm_add l Z a0 hw [] a101 b107 sb108 v109 kv110 ([] : List Value) dd dd dd G1 T174.heap n0 z194 rfl p174_1 p174_2 p174_3 p174_4 p174_5 p174_6 p174_7 p174_8 p174_9 E176 F178 F179 F180 E181 F183 F184 F185 F186 A188 g103 g189 g191 ne177 ne182 ne187 p106_6 p106_4 p106_5 S1 P1 O193) hZ (w_ hw 220 rfl) (w_ hw 2 rfl) (by decide) (by decide)) qa195 qc195 (g := (mkF m 34 #[.val (.long l_), .second, .val (.long cc), .second, .val (.long oo), .second, .val (.long dd), .second, .val (.long kk), .second, .val (.int fl), .val (.ref a101), .unset, .unset, .unset] [(.int 32), (.ref a101)])) rfl (by rw [hml]; rfl) (Steps.refl _) (argsL := [(.int 32)]) (rest := []) (lenOf pd_174 rfl) rfl (by show 2 * 0 + _ ≤ _; exact Nat.le_of_eq rfl) (hb hby at_34) (fun _ _ => ⟨rfl, rfl, (by decide : 4 + 0 ≤ _), (by decide : 31 + 0 ≤ _)⟩)
    dsimp only [Pt.U, Pt.locs, Pt.cells, Pt.slots] at X195 l195 y195 z195 st195 hQ195
    subst l195 y195 z195
    obtain ⟨rfl, Nq195, p195_0, p195_1, p195_2, p195_3, p195_4, p195_5, p195_6, p195_7, p195_8, p195_9, p195_10, p195_11, p195_12, p195_13, p195_14, p195_15⟩ := hQ195
    have N195_ := Fr.app N174_ Nq195
    refine FinH.byS st195 ?_
    have sf197 : Safe Z consts_1 s.vm h101 a101 := (Safe.ext E101 ch0.1 (Safe.new (Nat.le_of_eq g101.symm)))
    have sf198 : Safe Z consts_1 s.vm T106.heap v109 := (Safe.keep p106_0 (allS sf197 all0) ch102.1 (Safe.new p106_3))
    have sf199 : Safe Z consts_1 s.vm T106.heap a101 := (Safe.keep p106_0 (allS sf197 all0) ch102.1 sf197)
    have sf200 : Safe Z consts_1 s.vm T174.heap v109 := (Safe.keep p174_0 (allS sf199 all0) ch111.1 sf198)
    have ch196 : CHr Z consts_1 s.vm h0 s.vm T195.heap := ch175.trans (CHr.keep p195_0 (allS (Safe.exa hZ.alike p174_1 (by decide) (by decide)) (allS (Safe.exa hZ.alike E181 (by decide) (by decide)) (allS sf200 all0))) ch175.1)
    refine FinH.by (fun tt_ kk_ => XS.aload X195.here hx rfl (hb hby at_37) rfl rfl (XS.lload X195.here hx rfl (hb hby at_39) rfl kk_)) ?_
    have E201 : Exa Z T195.heap b107 "com/example/colonnade/colonnade/TextSpool" := (E176.keep p195_0)
    have F202 : Fld Z T195.heap b107 "com/example/colonnade/colonnade/TextSpool" "chars" "Ljava/lang/StringBuilder;" (.ref sb108) := (F178.keep p195_0 (ninS (Ne.symm ne177) (ninS p106_4 (ninS p106_5 nin0))))
    have F203 : Fld Z T195.heap b107 "com/example/colonnade/colonnade/TextSpool" "file" "Lcom/example/colonnade/colonnade/SpoolFile;" .null := (F180.keep p195_0 (ninS (Ne.symm ne177) (ninS p106_4 (ninS p106_5 nin0))))
    have z204 : n0 ≤ T195.heap.size := Nat.le_trans z194 p195_0.1
    obtain ⟨cq205, kq205, qa205, qb205, qc205⟩ := isOf hZ rfl p195_1
    obtain ⟨v205, _, ⟨T205, L205, k205, n205⟩, -, X205, ⟨Lc205, hQ205, l205, y205, z205⟩, st205⟩ := X195.virtualBack hx (y := y_17) (z := y_17) hown (mvT hZ (w_ hw 241 rfl)) (mvT hZ (w_ hw 242 rfl)) (notFace_of_selects (args := #[]) (mvT hZ (w_ hw 244 rfl))) (mvT hZ (w_ hw 244 rfl)) (mvT hZ (w_ hw 243 rfl)) (by decide) (backOf (W := 0) (rm_kee l Z a0 hw [] a101 b107 sb108 dd dd dd kk T195.heap n0 z204 p195_1 p195_2 p195_3 p195_4 p195_5 p195_6 p195_7 p195_8 p195_9 E201 F202 F203 p195_10 p195_13 g103) hZ (w_ hw 245 rfl) (w_ hw 2 rfl) (by decide) (by decide)) qa205 qc205 (g := (mkF m 41 #[.val (.long l_), .second, .val (.long cc), .second, .val (.long oo), .second, .val (.long dd), .second, .val (.long kk), .second, .val (.int fl), .val (.ref a101), .unset, .unset, .unset] [(.long kk), (.ref a101)])) rfl (by rw [hml]; rfl) (Steps.refl _) (argsL := [(.long kk)]) (rest := []) (lenOf pd_460 rfl) rfl (by show 2 * 0 + _ ≤ _; exact Nat.le_of_eq rfl) (hb hby at_41) (fun _ _ => ⟨rfl, rfl, (by decide : 4 + 0 ≤ _), (by decide : 31 + 0 ≤ _)⟩)
    dsimp only [Pt.U, Pt.locs, Pt.cells, Pt.slots] at X205 l205 y205 z205 st205 hQ205
    subst l205 y205 z205
    obtain ⟨rfl, Nq205, p205_0, p205_1, p205_2, p205_3, p205_4, p205_5, p205_6, p205_7, p205_8, p205_9⟩ := hQ205
    have N205_ := Fr.app N195_ Nq205
    refine FinH.byS st205 ?_
    have ch206 : CHr Z consts_1 s.vm h0 s.vm T205.heap := ch196.trans (CHr.keep p205_0 (allS (Safe.exa hZ.alike p195_1 (by decide) (by decide)) all0) ch196.1)
    refine FinH.by (fun tt_ kk_ => XS.aload X205.here hx rfl (hb hby at_44) rfl rfl kk_) ?_
    have O207 : Old Z n0 T205.heap := ((O193.keep p195_0 (allS g103 (allS g189 (allS g191 all0)))).keep p205_0 (allS g103 all0))
    obtain ⟨T208, X208, e208, st208⟩ := getS X205 hx hZ (host := "") hown (w_ hw 246 rfl) Via.refl rfl (S4.ext O207.2) (g := (mkF m 46 #[.val (.long l_), .second, .val (.long cc), .second, .val (.long oo), .second, .val (.long dd), .second, .val (.long kk), .second, .val (.int fl), .val (.ref a101), .unset, .unset, .unset] [(.ref a101)])) rfl (hb hby at_46)
    refine FinH.by (fun tt_ kk_ => st208 tt_ kk_) ?_
    have E209 : Exa Z T205.heap b107 "com/example/colonnade/colonnade/TextSpool" := (E201.keep p205_0)
    have F210 : Fld Z T205.heap b107 "com/example/colonnade/colonnade/TextSpool" "chars" "Ljava/lang/StringBuilder;" (.ref sb108) := (F202.keep p205_0 (ninS (Ne.symm ne177) nin0))
    have F211 : Fld Z T205.heap b107 "com/example/colonnade/colonnade/TextSpool" "charsInMemory" "I" (.int (1000 : Int32)) := ((F179.keep p195_0 (ninS (Ne.symm ne177) (ninS p106_4 (ninS p106_5 nin0)))).keep p205_0 (ninS (Ne.symm ne177) nin0))
    have F212 : Fld Z T205.heap b107 "com/example/colonnade/colonnade/TextSpool" "file" "Lcom/example/colonnade/colonnade/SpoolFile;" .null := (F203.keep p205_0 (ninS (Ne.symm ne177) nin0))
    have E213 : Exa Z T205.heap sb108 "java/lang/StringBuilder" := (p195_10.keep p205_0)
    have F214 : Fld Z T205.heap sb108 "java/lang/AbstractStringBuilder" "value" "[B" (.ref v109) := (p195_11.keep p205_0 (ninS (Ne.symm ne182) nin0))
    have F215 : Fld Z T205.heap sb108 "java/lang/AbstractStringBuilder" "coder" "B" (.int (0 : Int32)) := (p195_12.keep p205_0 (ninS (Ne.symm ne182) nin0))
    have F216 : Fld Z T205.heap sb108 "java/lang/AbstractStringBuilder" "count" "I" (.int (1 : Int32)) := (p195_13.keep p205_0 (ninS (Ne.symm ne182) nin0))
    have F217 : Fld Z T205.heap sb108 "java/lang/AbstractStringBuilder" "maybeLatin1" "Z" (.int (0 : Int32)) := (p195_14.keep p205_0 (ninS (Ne.symm ne182) nin0))
    have A218 : Arv Z T205.heap v109 kv110 .byte (16 : Int32) (([] : List Value) ++ [(.int ((32 : Int32).toInt8.toInt32))]) (.int 0) := (p195_15.keep p205_0 (ninS (Ne.symm ne187) nin0))
    have z219 : n0 ≤ T205.heap.size := Nat.le_trans z204 p205_0.1
    obtain ⟨cq220, kq220, qa220, qb220, qc220⟩ := isOf hZ e208 p205_1
    obtain ⟨v220, _, ⟨T220, L220, k220, n220⟩, -, X220, ⟨Lc220, hQ220, l220, y220, z220⟩, st220⟩ := X208.virtualBack hx (y := y_36) (z := y_36) hown (mvT hZ (w_ hw 93 rfl)) (mvT hZ (w_ hw 94 rfl)) (notFace_of_selects (args := #[]) (mvT hZ (w_ hw 96 rfl))) (mvT hZ (w_ hw 96 rfl)) (mvT hZ (w_ hw 95 rfl)) (by decide) (backOf (W := 0) (rm_fin1 l Z a0 hw [] a101 aT b107 sb108 v109 kv110 ((([] : List Value) ++ [(.int ((32 : Int32).toInt8.toInt32))]) : List Value) dd dd dd kk (1 : Int64) G1 G9 T205.heap n0 z219 rfl p205_1 p205_2 p205_3 p205_4 p205_5 p205_6 p205_7 p205_8 p205_9 E209 F210 F211 F212 E213 F214 F215 F216 F217 A218 g103 g189 ne177 ne182 ne187 p106_6 p106_4 p106_5 S1 P1 S9 r9 O207) hZ (w_ hw 97 rfl) (w_ hw 2 rfl) (by decide) (by decide)) qa220 qc220 (g := (mkF m 49 #[.val (.long l_), .second, .val (.long cc), .second, .val (.long oo), .second, .val (.long dd), .second, .val (.long kk), .second, .val (.int fl), .val (.ref a101), .unset, .unset, .unset] [(.ref aT), (.ref a101)])) rfl (by rw [hml]; rfl) (Steps.refl _) (argsL := [(.ref aT)]) (rest := []) (lenOf pd_459 rfl) rfl (by show 2 * 0 + _ ≤ _; exact Nat.le_of_eq rfl) (hb hby at_49) (fun _ _ => ⟨rfl, e208, (by decide : 4 + 4 ≤ _), (by decide : 31 + 14 ≤ _)⟩)
    dsimp only [Pt.U, Pt.locs, Pt.cells, Pt.slots] at X220 l220 y220 z220 st220 hQ220
    subst l220 y220 z220
    obtain ⟨y221, rfl, Nq220, p220_0, p220_1, p220_2, p220_3, p220_4, p220_5, p220_6, p220_7, p220_8, p220_9, p220_10, p220_11, p220_12, p220_13, p220_14, p220_15, p220_16, p220_17, p220_18, p220_19⟩ := hQ220
    have N220_ := Fr.app N205_ Nq220
    refine FinH.byS st220 ?_
    have ch222 : CHr Z consts_1 s.vm h0 s.vm T220.heap := ch206.trans (CHr.keep p220_0 (allS (Safe.exa hZ.alike p205_1 (by decide) (by decide)) (allS (Safe.exa hZ.alike E213 (by decide) (by decide)) all0)) ch206.1)
    refine FinH.by (fun tt_ kk_ => XS.pop X220.here hx rfl (hb hby at_52) rfl rfl (XS.aload X220.here hx rfl (hb hby at_53) rfl rfl (XS.lloadN X220.here hx rfl (hb hby at_55) rfl (XS.lloadN X220.here hx rfl (hb hby at_56) rfl (XS.lload X220.here hx rfl (hb hby at_57) rfl kk_))))) ?_
    have z223 : n0 ≤ T220.heap.size := Nat.le_trans z219 p220_0.1
    obtain ⟨cq224, kq224, qa224, qb224, qc224⟩ := isOf hZ rfl p220_7
    obtain ⟨v224, _, ⟨T224, L224, k224, n224⟩, -, X224, ⟨Lc224, hQ224, l224, y224, z224⟩, st224⟩ := X220.virtualBack hx (y := y_4) (z := y_4) hown (mvT hZ (w_ hw 42 rfl)) (mvT hZ (w_ hw 43 rfl)) (notFace_of_selects (args := #[]) (mvT hZ (w_ hw 45 rfl))) (mvT hZ (w_ hw 45 rfl)) (mvT hZ (w_ hw 44 rfl)) (by decide) (backOf (W := 0) (rm_sta l Z a0 hw [] a101 b107 l_ cc oo (0 : Int32) dd dd dd kk (1 : Int64) (1 : Int64) T220.heap n0 z223 p220_7 p220_8 p220_9 p220_10 p220_11 p220_12 p220_13 p220_14 p220_15 g103) hZ (w_ hw 46 rfl) (w_ hw 2 rfl) (by decide) (by decide)) qa224 qc224 (g := (mkF m 59 #[.val (.long l_), .second, .val (.long cc), .second, .val (.long oo), .second, .val (.long dd), .second, .val (.long kk), .second, .val (.int fl), .val (.ref a101), .unset, .unset, .unset] [(.long oo), (.long cc), (.long l_), (.ref a101)])) rfl (by rw [hml]; rfl) (Steps.refl _) (argsL := [(.long l_), (.long cc), (.long oo)]) (rest := []) (lenOf pd_458 rfl) rfl (by show 2 * 0 + _ ≤ _; exact Nat.le_of_eq rfl) (hb hby at_59) (fun _ _ => ⟨rfl, rfl, (by decide : 8 + 0 ≤ _), (by decide : 45 + 0 ≤ _)⟩)
    dsimp only [Pt.U, Pt.locs, Pt.cells, Pt.slots] at X224 l224 y224 z224 st224 hQ224
    subst l224 y224 z224
    obtain ⟨rfl, Nq224, p224_0, p224_1, p224_2, p224_3, p224_4, p224_5, p224_6, p224_7, p224_8, p224_9⟩ := hQ224
    have N224_ := Fr.app N220_ Nq224
    refine FinH.byS st224 ?_
    have ch225 : CHr Z consts_1 s.vm h0 s.vm T224.heap := ch222.trans (CHr.keep p224_0 (allS (Safe.exa hZ.alike p220_7 (by decide) (by decide)) all0) ch222.1)
    refine FinH.by (fun tt_ kk_ => XS.aload X224.here hx rfl (hb hby at_62) rfl rfl kk_) ?_
    have z226 : n0 ≤ T224.heap.size := Nat.le_trans z223 p224_0.1
    obtain ⟨cq227, kq227, qa227, qb227, qc227⟩ := isOf hZ rfl p224_1
    obtain ⟨v227, _, ⟨T227, L227, k227, n227⟩, -, X227, ⟨Lc227, hQ227, l227, y227, z227⟩, st227⟩ := X224.virtualBack hx (y := y_5) (z := y_5) hown (mvT hZ (w_ hw 61 rfl)) (mvT hZ (w_ hw 62 rfl)) (notFace_of_selects (args := #[]) (mvT hZ (w_ hw 64 rfl))) (mvT hZ (w_ hw 64 rfl)) (mvT hZ (w_ hw 63 rfl)) (by decide) (backOf (W := 0) (rm_std l Z a0 hw [] a101 T224.heap n0 z226 p224_1 p224_3) hZ (w_ hw 65 rfl) (w_ hw 2 rfl) (by decide) (by decide)) qa227 qc227 (g := (mkF m 64 #[.val (.long l_), .second, .val (.long cc), .second, .val (.long oo), .second, .val (.long dd), .second, .val (.long kk), .second, .val (.int fl), .val (.ref a101), .unset, .unset, .unset] [(.ref a101)])) rfl (by rw [hml]; rfl) (Steps.refl _) (argsL := []) (rest := []) (lenOf pd_120 rfl) rfl (by show 2 * 0 + _ ≤ _; exact Nat.le_of_eq rfl) (hb hby at_64) (fun _ _ => ⟨rfl, rfl, (by decide : 8 + 0 ≤ _), (by decide : 45 + 0 ≤ _)⟩)
    dsimp only [Pt.U, Pt.locs, Pt.cells, Pt.slots] at X227 l227 y227 z227 st227 hQ227
    subst l227 y227 z227
    obtain ⟨rfl, Nq227, e227_⟩ := hQ227
    have N227_ := Fr.app N224_ Nq227
    refine FinH.byS st227 ?_
    have e227 := e227_
    show FinH _ _ _ _ _ _ _ _ _ (T227.setTop (mkF m 67 #[.val (.long l_), .second, .val (.long cc), .second, .val (.long oo), .second, .val (.long dd), .second, .val (.long kk), .second, .val (.int fl), .val (.ref a101), .unset, .unset, .unset] [(.int 1)]))
    refine FinH.by (fun tt_ kk_ => XS.ifYes X227.here hx rfl (pc0 := 67) (pc' := 72) rfl (hb hby at_67) rfl ((if0 _ _).trans (feq (by decide : ¬ (1 : Int32) = (0 : Int32))).2) (by decide) (by decide) kk_) ?_
    refine FinH.by (fun tt_ kk_ => XS.lload X227.here hx rfl (hb hby at_72) rfl (XS.lstore X227.here hx rfl (hb hby at_74) rfl (l' := #[.val (.long l_), .second, .val (.long cc), .second, .val (.long oo), .second, .val (.long dd), .second, .val (.long kk), .second, .val (.int fl), .val (.ref a101), .val (.long oo), .second, .unset]) rfl (XS.iload X227.here hx rfl (hb hby at_76) rfl (XS.iconst X227.here hx rfl (hb hby at_78) (XS.iand X227.here hx rfl (hb hby at_79) rfl kk_))))) ?_
    show FinH _ _ _ _ _ _ _ _ _ (T227.setTop (mkF m 80 #[.val (.long l_), .second, .val (.long cc), .second, .val (.long oo), .second, .val (.long dd), .second, .val (.long kk), .second, .val (.int fl), .val (.ref a101), .val (.long oo), .second, .unset] [(.int (fl &&& 2))]))
    by_cases f1 : (fl &&& (2 : Int32)) = (0 : Int32)
    · refine FinH.by (fun tt_ kk_ => XS.ifYes X227.here hx rfl (pc0 := 80) (pc' := 94) rfl (hb hby at_80) rfl ((if0 _ _).trans (teq f1).1) (by decide) (by decide) kk_) ?_
      refine FinH.by (fun tt_ kk_ => XS.aload X227.here hx rfl (hb hby at_94) rfl rfl kk_) ?_
      have O228 : Old Z n0 T224.heap := ((O207.keep p220_0 (allS g103 (allS g189 all0))).keep p224_0 (allS g103 all0))
      obtain ⟨T229, X229, e229, st229⟩ := getS X227 hx hZ (host := "") hown (w_ hw 90 rfl) Via.refl e227 (S3.ext O228.2) (g := (mkF m 96 #[.val (.long l_), .second, .val (.long cc), .second, .val (.long oo), .second, .val (.long dd), .second, .val (.long kk), .second, .val (.int fl), .val (.ref a101), .val (.long oo), .second, .unset] [(.ref a101)])) rfl (hb hby at_96)
      refine FinH.by (fun tt_ kk_ => st229 tt_ kk_) ?_
      have E230 : Exa Z T224.heap b107 "com/example/colonnade/colonnade/TextSpool" := ((E209.keep p220_0).keep p224_0)
      have F231 : Fld Z T224.heap b107 "com/example/colonnade/colonnade/TextSpool" "chars" "Ljava/lang/StringBuilder;" (.ref sb108) := ((F210.keep p220_0 (ninS (Ne.symm ne177) (ninS p106_4 nin0))).keep p224_0 (ninS (Ne.symm ne177) nin0))
      have F232 : Fld Z T224.heap b107 "com/example/colonnade/colonnade/TextSpool" "charsInMemory" "I" (.int (1000 : Int32)) := ((F211.keep p220_0 (ninS (Ne.symm ne177) (ninS p106_4 nin0))).keep p224_0 (ninS (Ne.symm ne177) nin0))
      have F233 : Fld Z T224.heap b107 "com/example/colonnade/colonnade/TextSpool" "file" "Lcom/example/colonnade/colonnade/SpoolFile;" .null := ((F212.keep p220_0 (ninS (Ne.symm ne177) (ninS p106_4 nin0))).keep p224_0 (ninS (Ne.symm ne177) nin0))
      have E234 : Exa Z T224.heap sb108 "java/lang/StringBuilder" := (p220_16.keep p224_0)
      have F235 : Fld Z T224.heap sb108 "java/lang/AbstractStringBuilder" "value" "[B" (.ref v109) := (p220_17.keep p224_0 (ninS (Ne.symm ne182) nin0))
      have F236 : Fld Z T224.heap sb108 "java/lang/AbstractStringBuilder" "coder" "B" (.int (0 : Int32)) := (p220_18.keep p224_0 (ninS (Ne.symm ne182) nin0))
      have F237 : Fld Z T224.heap sb108 "java/lang/AbstractStringBuilder" "count" "I" (.int (0 : Int32)) := (p220_19.keep p224_0 (ninS (Ne.symm ne182) nin0))
      have A238 : Arv Z T224.heap v109 kv110 .byte (16 : Int32) (([] : List Value) ++ [(.int ((32 : Int32).toInt8.toInt32))]) (.int 0) := ((A218.keep p220_0 (ninS (Ne.symm ne187) (ninS (Ne.symm p106_6) nin0))).keep p224_0 (ninS (Ne.symm ne187) nin0))
      obtain ⟨cq239, kq239, qa239, qb239, qc239⟩ := isOf hZ e229 p224_1
      obtain ⟨v239, _, ⟨T239, L239, k239, n239⟩, -, X239, hS239, hg239, ⟨Lc239, hQ239, l239, y239, z239, hC239⟩, st239⟩ := X229.virtualBackS hx (y := y_36) (z := y_36) hown (mvT hZ (w_ hw 93 rfl)) (mvT hZ (w_ hw 94 rfl)) (notFace_of_selects (args := #[]) (mvT hZ (w_ hw 96 rfl))) (mvT hZ (w_ hw 96 rfl)) (mvT hZ (w_ hw 95 rfl)) (by decide) (backOfSH (W := 0) (rm_fin0 l Z a0 hw [] a101 aS b107 sb108 v109 kv110 ((([] : List Value) ++ [(.int ((32 : Int32).toInt8.toInt32))]) : List Value) l_ cc oo oo (0 : Int64) G1 G9 T224.heap n0 z226 p224_1 p224_2 p224_3 p224_4 p224_5 p224_6 p224_7 p224_8 p224_9 E230 F231 F232 F233 E234 F235 F236 F237 A238 g103 g189 ne177 ne182 ne187 p106_6 p106_4 p106_5 S1 P1 S9 r9 O228) hZ (w_ hw 97 rfl) (w_ hw 2 rfl) (by decide) (by decide) own_EW ch225.1) qa239 qc239 (g := (mkF m 99 #[.val (.long l_), .second, .val (.long cc), .second, .val (.long oo), .second, .val (.long dd), .second, .val (.long kk), .second, .val (.int fl), .val (.ref a101), .val (.long oo), .second, .unset] [(.ref aS), (.ref a101)])) rfl (by rw [hml]; rfl) (Steps.refl _) (argsL := [(.ref aS)]) (rest := []) (lenOf pd_459 rfl) rfl (by show 2 * 0 + _ ≤ _; exact Nat.le_of_eq rfl) (hb hby at_99) (fun _ _ => ⟨rfl, e229, (by decide : 8 + 4 ≤ _), (by decide : 45 + 13 ≤ _)⟩)
      dsimp only [Pt.U, Pt.locs, Pt.cells, Pt.slots] at X239 l239 y239 z239 st239 hQ239 hS239 hg239 hC239
      subst l239 y239 z239
      obtain ⟨y240, rfl, Nq239, p239_0, p239_1, p239_2, p239_3, p239_4, p239_5, p239_6, p239_7, p239_8, p239_9, p239_10, p239_11, p239_12, p239_13, p239_14, p239_15, p239_16, p239_17, p239_18, p239_19⟩ := hQ239
      have N239_ := Fr.app N227_ Nq239
      refine FinH.byS st239 ?_
      obtain ⟨X239w, hS239w, hZ239, hown239⟩ := rebS hS0 (by rw [e229]; exact (Nat.le_trans hk0 (Nat.le_trans (Nat.le_trans (Nat.le_trans (Nat.le_trans (Nat.le_trans (Nat.le_trans E101.1 p106_0.1) p174_0.1) p195_0.1) p205_0.1) p220_0.1) p224_0.1))) X239 hS239 hg239 hZ hown
      have ch241 : CHr Z consts_1 s.vm h0 T239.vm T239.heap := ch225.trans hC239
      refine FinH.by (fun tt_ kk_ => XS.astore X239w.here hx rfl (hb hby at_102) rfl rfl (l' := #[.val (.long l_), .second, .val (.long cc), .second, .val (.long oo), .second, .val (.long dd), .second, .val (.long kk), .second, .val (.int fl), .val (.ref a101), .val (.long oo), .second, .val (.ref y240)]) rfl (XS.aload X239w.here hx rfl (hb hby at_104) rfl rfl kk_)) ?_
      have z242 : n0 ≤ T239.heap.size := Nat.le_trans z226 p239_0.1
      obtain ⟨cq243, kq243, qa243, qb243, qc243⟩ := isOf hZ239 rfl p239_2
      obtain ⟨v243, _, ⟨T243, L243, k243, n243⟩, -, X243, ⟨Lc243, hQ243, l243, y243, z243⟩, st243⟩ := X239w.virtualBack hx (y := y_37) (z := y_37) hown239 (mvT hZ239 (w_ hw 196 rfl)) (mvT hZ239 (w_ hw 197 rfl)) (notFace_of_selects (args := #[]) (mvT hZ239 (w_ hw 199 rfl))) (mvT hZ239 (w_ hw 199 rfl)) (mvT hZ239 (w_ hw 198 rfl)) (by decide) (backOf (W := 0) (rm_gt0 l Z a0 hw [] y240 l_ T239.heap n0 z242 p239_2 p239_3) hZ239 (w_ hw 200 rfl) (w_ hw 100 rfl) (by decide) (by decide)) qa243 qc243 (g := (mkF m 106 #[.val (.long l_), .second, .val (.long cc), .second, .val (.long oo), .second, .val (.long dd), .second, .val (.long kk), .second, .val (.int fl), .val (.ref a101), .val (.long oo), .second, .val (.ref y240)] [(.ref y240)])) rfl (by rw [hml]; rfl) (Steps.refl _) (argsL := []) (rest := []) (lenOf pd_190 rfl) rfl (by show 2 * 0 + _ ≤ _; exact Nat.le_of_eq rfl) (hb hby at_106) (fun _ _ => ⟨rfl, rfl, (by decide : 12 + 0 ≤ _), (by decide : 58 + 0 ≤ _)⟩)
      dsimp only [Pt.U, Pt.locs, Pt.cells, Pt.slots] at X243 l243 y243 z243 st243 hQ243
      subst l243 y243 z243
      obtain ⟨rfl, Nq243, e243_⟩ := hQ243
      have N243_ := Fr.app N239_ Nq243
      refine FinH.byS st243 ?_
      have e243 := e243_
      refine FinH.by (fun tt_ kk_ => XS.lloadN X243.here hx rfl (hb hby at_109) rfl (XS.lcmp X243.here hx rfl (hb hby at_110) rfl kk_)) ?_
      show FinH _ _ _ _ _ _ _ _ _ (T243.setTop (mkF m 111 #[.val (.long l_), .second, .val (.long cc), .second, .val (.long oo), .second, .val (.long dd), .second, .val (.long kk), .second, .val (.int fl), .val (.ref a101), .val (.long oo), .second, .val (.ref y240)] [(.int (lcmpW l_ l_))]))
      refine FinH.by (fun tt_ kk_ => XS.ifNo X243.here hx rfl (hb hby at_111) rfl ((if0 _ _).trans (teq (own_lc _ : (lcmpW l_ l_) = (0 : Int32))).2) kk_) ?_
      refine FinH.by (fun tt_ kk_ => XS.aload X243.here hx rfl (hb hby at_114) rfl rfl kk_) ?_
      obtain ⟨cq244, kq244, qa244, qb244, qc244⟩ := isOf hZ239 e243 p239_2
      obtain ⟨v244, _, ⟨T244, L244, k244, n244⟩, -, X244, ⟨Lc244, hQ244, l244, y244, z244⟩, st244⟩ := X243.virtualBack hx (y := y_38) (z := y_38) hown239 (mvT hZ239 (w_ hw 201 rfl)) (mvT hZ239 (w_ hw 202 rfl)) (notFace_of_selects (args := #[]) (mvT hZ239 (w_ hw 204 rfl))) (mvT hZ239 (w_ hw 204 rfl)) (mvT hZ239 (w_ hw 203 rfl)) (by decide) (backOf (W := 0) (rm_gt1 l Z a0 hw [] y240 cc T239.heap n0 z242 p239_2 p239_4) hZ239 (w_ hw 205 rfl) (w_ hw 100 rfl) (by decide) (by decide)) qa244 qc244 (g := (mkF m 116 #[.val (.long l_), .second, .val (.long cc), .second, .val (.long oo), .second, .val (.long dd), .second, .val (.long kk), .second, .val (.int fl), .val (.ref a101), .val (.long oo), .second, .val (.ref y240)] [(.ref y240)])) rfl (by rw [hml]; rfl) (Steps.refl _) (argsL := []) (rest := []) (lenOf pd_190 rfl) rfl (by show 2 * 0 + _ ≤ _; exact Nat.le_of_eq rfl) (hb hby at_116) (fun _ _ => ⟨rfl, e243, (by decide : 12 + 0 ≤ _), (by decide : 58 + 0 ≤ _)⟩)
      dsimp only [Pt.U, Pt.locs, Pt.cells, Pt.slots] at X244 l244 y244 z244 st244 hQ244
      subst l244 y244 z244
      obtain ⟨rfl, Nq244, e244_⟩ := hQ244
      have N244_ := Fr.app N243_ Nq244
      refine FinH.byS st244 ?_
      have e244 := e244_
      refine FinH.by (fun tt_ kk_ => XS.lloadN X244.here hx rfl (hb hby at_119) rfl (XS.lcmp X244.here hx rfl (hb hby at_120) rfl kk_)) ?_
      show FinH _ _ _ _ _ _ _ _ _ (T244.setTop (mkF m 121 #[.val (.long l_), .second, .val (.long cc), .second, .val (.long oo), .second, .val (.long dd), .second, .val (.long kk), .second, .val (.int fl), .val (.ref a101), .val (.long oo), .second, .val (.ref y240)] [(.int (lcmpW cc cc))]))
      refine FinH.by (fun tt_ kk_ => XS.ifNo X244.here hx rfl (hb hby at_121) rfl ((if0 _ _).trans (teq (own_lc _ : (lcmpW cc cc) = (0 : Int32))).2) kk_) ?_
      refine FinH.by (fun tt_ kk_ => XS.aload X244.here hx rfl (hb hby at_124) rfl rfl kk_) ?_
      obtain ⟨cq245, kq245, qa245, qb245, qc245⟩ := isOf hZ239 e244 p239_2
      obtain ⟨v245, _, ⟨T245, L245, k245, n245⟩, -, X245, ⟨Lc245, hQ245, l245, y245, z245⟩, st245⟩ := X244.virtualBack hx (y := y_39) (z := y_39) hown239 (mvT hZ239 (w_ hw 206 rfl)) (mvT hZ239 (w_ hw 207 rfl)) (notFace_of_selects (args := #[]) (mvT hZ239 (w_ hw 209 rfl))) (mvT hZ239 (w_ hw 209 rfl)) (mvT hZ239 (w_ hw 208 rfl)) (by decide) (backOf (W := 0) (rm_gt2 l Z a0 hw [] y240 oo T239.heap n0 z242 p239_2 p239_5) hZ239 (w_ hw 210 rfl) (w_ hw 100 rfl) (by decide) (by decide)) qa245 qc245 (g := (mkF m 126 #[.val (.long l_), .second, .val (.long cc), .second, .val (.long oo), .second, .val (.long dd), .second, .val (.long kk), .second, .val (.int fl), .val (.ref a101), .val (.long oo), .second, .val (.ref y240)] [(.ref y240)])) rfl (by rw [hml]; rfl) (Steps.refl _) (argsL := []) (rest := []) (lenOf pd_190 rfl) rfl (by show 2 * 0 + _ ≤ _; exact Nat.le_of_eq rfl) (hb hby at_126) (fun _ _ => ⟨rfl, e244, (by decide : 12 + 0 ≤ _), (by decide : 58 + 0 ≤ _)⟩)
      dsimp only [Pt.U, Pt.locs, Pt.cells, Pt.slots] at X245 l245 y245 z245 st245 hQ245
      subst l245 y245 z245
      obtain ⟨rfl, Nq245, e245_⟩ := hQ245
      have N245_ := Fr.app N244_ Nq245
      refine FinH.byS st245 ?_
      have e245 := e245_
      refine FinH.by (fun tt_ kk_ => XS.lload X245.here hx rfl (hb hby at_129) rfl (XS.lcmp X245.here hx rfl (hb hby at_131) rfl kk_)) ?_
      show FinH _ _ _ _ _ _ _ _ _ (T245.setTop (mkF m 132 #[.val (.long l_), .second, .val (.long cc), .second, .val (.long oo), .second, .val (.long dd), .second, .val (.long kk), .second, .val (.int fl), .val (.ref a101), .val (.long oo), .second, .val (.ref y240)] [(.int (lcmpW oo oo))]))
      refine FinH.by (fun tt_ kk_ => XS.ifNo X245.here hx rfl (hb hby at_132) rfl ((if0 _ _).trans (teq (own_lc _ : (lcmpW oo oo) = (0 : Int32))).2) kk_) ?_
      refine FinH.by (fun tt_ kk_ => XS.aload X245.here hx rfl (hb hby at_135) rfl rfl kk_) ?_
      obtain ⟨cq246, kq246, qa246, qb246, qc246⟩ := isOf hZ239 e245 p239_2
      obtain ⟨v246, _, ⟨T246, L246, k246, n246⟩, -, X246, ⟨Lc246, hQ246, l246, y246, z246⟩, st246⟩ := X245.virtualBack hx (y := y_40) (z := y_40) hown239 (mvT hZ239 (w_ hw 211 rfl)) (mvT hZ239 (w_ hw 212 rfl)) (notFace_of_selects (args := #[]) (mvT hZ239 (w_ hw 214 rfl))) (mvT hZ239 (w_ hw 214 rfl)) (mvT hZ239 (w_ hw 213 rfl)) (by decide) (backOf (W := 0) (rm_gt3 l Z a0 hw [] y240 oo T239.heap n0 z242 p239_2 p239_6) hZ239 (w_ hw 215 rfl) (w_ hw 100 rfl) (by decide) (by decide)) qa246 qc246 (g := (mkF m 137 #[.val (.long l_), .second, .val (.long cc), .second, .val (.long oo), .second, .val (.long dd), .second, .val (.long kk), .second, .val (.int fl), .val (.ref a101), .val (.long oo), .second, .val (.ref y240)] [(.ref y240)])) rfl (by rw [hml]; rfl) (Steps.refl _) (argsL := []) (rest := []) (lenOf pd_190 rfl) rfl (by show 2 * 0 + _ ≤ _; exact Nat.le_of_eq rfl) (hb hby at_137) (fun _ _ => ⟨rfl, e245, (by decide : 12 + 0 ≤ _), (by decide : 58 + 0 ≤ _)⟩)
      dsimp only [Pt.U, Pt.locs, Pt.cells, Pt.slots] at X246 l246 y246 z246 st246 hQ246
      subst l246 y246 z246
      obtain ⟨rfl, Nq246, e246_⟩ := hQ246
      have N246_ := Fr.app N245_ Nq246
      refine FinH.byS st246 ?_
      have e246 := e246_
      refine FinH.by (fun tt_ kk_ => XS.lload X246.here hx rfl (hb hby at_140) rfl (XS.lcmp X246.here hx rfl (hb hby at_142) rfl kk_)) ?_
      show FinH _ _ _ _ _ _ _ _ _ (T246.setTop (mkF m 143 #[.val (.long l_), .second, .val (.long cc), .second, .val (.long oo), .second, .val (.long dd), .second, .val (.long kk), .second, .val (.int fl), .val (.ref a101), .val (.long oo), .second, .val (.ref y240)] [(.int (lcmpW oo oo))]))
      refine FinH.by (fun tt_ kk_ => XS.ifNo X246.here hx rfl (hb hby at_143) rfl ((if0 _ _).trans (teq (own_lc _ : (lcmpW oo oo) = (0 : Int32))).2) kk_) ?_
      refine FinH.by (fun tt_ kk_ => XS.iconst X246.here hx rfl (hb hby at_146) (XS.goto X246.here hx rfl (pc0 := 147) (pc' := 151) rfl (hb hby at_147) (by decide) (by decide) kk_)) ?_
      show FinH _ _ _ _ _ _ _ _ _ (T246.setTop (mkF m 151 #[.val (.long l_), .second, .val (.long cc), .second, .val (.long oo), .second, .val (.long dd), .second, .val (.long kk), .second, .val (.int fl), .val (.ref a101), .val (.long oo), .second, .val (.ref y240)] [(.int 1)]))
      exact FinH.ret (v := some (.int (nar .boolean (1 : Int32)))) X246 hS239w (by rw [e246]; exact (Nat.le_refl _)) (fun h => by rw [Bd.returns] at h; cases h) Bd.notSynchronized (by rw [e246]; exact ⟨rfl, N246_⟩) (by rw [hh, e246]; exact ch241.trans (CHv.at X246 hZ239 own_EW ch241.1)) (by decide) (by decide) (fun fs hr => retN X246 hx (t := .boolean) Bd.returns (by simp) (hb hby at_151) hr)
    · refine FinH.by (fun tt_ kk_ => XS.ifNo X227.here hx rfl (hb hby at_80) rfl ((if0 _ _).trans (feq f1).1) kk_) ?_
      refine FinH.by (fun tt_ kk_ => XS.aload X227.here hx rfl (hb hby at_83) rfl rfl (XS.lload X227.here hx rfl (hb hby at_85) rfl kk_)) ?_
      have E247 : Exa Z T224.heap b107 "com/example/colonnade/colonnade/TextSpool" := ((E209.keep p220_0).keep p224_0)
      have F248 : Fld Z T224.heap b107 "com/example/colonnade/colonnade/TextSpool" "chars" "Ljava/lang/StringBuilder;" (.ref sb108) := ((F210.keep p220_0 (ninS (Ne.symm ne177) (ninS p106_4 nin0))).keep p224_0 (ninS (Ne.symm ne177) nin0))
      have F249 : Fld Z T224.heap b107 "com/example/colonnade/colonnade/TextSpool" "file" "Lcom/example/colonnade/colonnade/SpoolFile;" .null := ((F212.keep p220_0 (ninS (Ne.symm ne177) (ninS p106_4 nin0))).keep p224_0 (ninS (Ne.symm ne177) nin0))
      have E250 : Exa Z T224.heap sb108 "java/lang/StringBuilder" := (p220_16.keep p224_0)
      have F251 : Fld Z T224.heap sb108 "java/lang/AbstractStringBuilder" "count" "I" (.int (0 : Int32)) := (p220_19.keep p224_0 (ninS (Ne.symm ne182) nin0))
      obtain ⟨cq252, kq252, qa252, qb252, qc252⟩ := isOf hZ e227 p224_1
      obtain ⟨v252, _, ⟨T252, L252, k252, n252⟩, -, X252, ⟨Lc252, hQ252, l252, y252, z252⟩, st252⟩ := X227.virtualBack hx (y := y_18) (z := y_18) hown (mvT hZ (w_ hw 66 rfl)) (mvT hZ (w_ hw 67 rfl)) (notFace_of_selects (args := #[]) (mvT hZ (w_ hw 69 rfl))) (mvT hZ (w_ hw 69 rfl)) (mvT hZ (w_ hw 68 rfl)) (by decide) (backOf (W := 0) (rm_kab l Z a0 hw [] a101 b107 sb108 l_ cc oo kk T224.heap n0 z226 p224_1 p224_2 p224_3 p224_4 p224_5 p224_6 p224_7 p224_8 p224_9 E247 F248 F249 E250 F251 g103) hZ (w_ hw 70 rfl) (w_ hw 2 rfl) (by decide) (by decide)) qa252 qc252 (g := (mkF m 87 #[.val (.long l_), .second, .val (.long cc), .second, .val (.long oo), .second, .val (.long dd), .second, .val (.long kk), .second, .val (.int fl), .val (.ref a101), .val (.long oo), .second, .unset] [(.long kk), (.ref a101)])) rfl (by rw [hml]; rfl) (Steps.refl _) (argsL := [(.long kk)]) (rest := []) (lenOf pd_460 rfl) rfl (by show 2 * 0 + _ ≤ _; exact Nat.le_of_eq rfl) (hb hby at_87) (fun _ _ => ⟨rfl, e227, (by decide : 8 + 0 ≤ _), (by decide : 45 + 0 ≤ _)⟩)
      dsimp only [Pt.U, Pt.locs, Pt.cells, Pt.slots] at X252 l252 y252 z252 st252 hQ252
      subst l252 y252 z252
      obtain ⟨rfl, Nq252, p252_0, p252_1, p252_2, p252_3, p252_4, p252_5, p252_6, p252_7, p252_8, p252_9⟩ := hQ252
      have N252_ := Fr.app N227_ Nq252
      refine FinH.byS st252 ?_
      have ch253 : CHr Z consts_1 s.vm h0 s.vm T252.heap := ch225.trans (CHr.keep p252_0 (allS (Safe.exa hZ.alike p224_1 (by decide) (by decide)) all0) ch225.1)
      refine FinH.by (fun tt_ kk_ => XS.lload X252.here hx rfl (hb hby at_90) rfl (XS.lstore X252.here hx rfl (hb hby at_92) rfl (l' := #[.val (.long l_), .second, .val (.long cc), .second, .val (.long oo), .second, .val (.long dd), .second, .val (.long kk), .second, .val (.int fl), .val (.ref a101), .val (.long kk), .second, .unset]) rfl (XS.aload X252.here hx rfl (hb hby at_94) rfl rfl kk_))) ?_
      have O254 : Old Z n0 T252.heap := (((O207.keep p220_0 (allS g103 (allS g189 all0))).keep p224_0 (allS g103 all0)).keep p252_0 (allS g103 all0))
      obtain ⟨T255, X255, e255, st255⟩ := getS X252 hx hZ (host := "") hown (w_ hw 90 rfl) Via.refl rfl (S3.ext O254.2) (g := (mkF m 96 #[.val (.long l_), .second, .val (.long cc), .second, .val (.long oo), .second, .val (.long dd), .second, .val (.long kk), .second, .val (.int fl), .val (.ref a101), .val (.long kk), .second, .unset] [(.ref a101)])) rfl (hb hby at_96)
      refine FinH.by (fun tt_ kk_ => st255 tt_ kk_) ?_
      have E256 : Exa Z T252.heap b107 "com/example/colonnade/colonnade/TextSpool" := (E247.keep p252_0)
      have F257 : Fld Z T252.heap b107 "com/example/colonnade/colonnade/TextSpool" "chars" "Ljava/lang/StringBuilder;" (.ref sb108) := (F248.keep p252_0 (ninS (Ne.symm ne177) nin0))
      have F258 : Fld Z T252.heap b107 "com/example/colonnade/colonnade/TextSpool" "charsInMemory" "I" (.int (1000 : Int32)) := (((F211.keep p220_0 (ninS (Ne.symm ne177) (ninS p106_4 nin0))).keep p224_0 (ninS (Ne.symm ne177) nin0)).keep p252_0 (ninS (Ne.symm ne177) nin0))
      have F259 : Fld Z T252.heap b107 "com/example/colonnade/colonnade/TextSpool" "file" "Lcom/example/colonnade/colonnade/SpoolFile;" .null := (F249.keep p252_0 (ninS (Ne.symm ne177) nin0))
      have E260 : Exa Z T252.heap sb108 "java/lang/StringBuilder" := (E250.keep p252_0)
      have F261 : Fld Z T252.heap sb108 "java/lang/AbstractStringBuilder" "value" "[B" (.ref v109) := ((p220_17.keep p224_0 (ninS (Ne.symm ne182) nin0)).keep p252_0 (ninS (Ne.symm ne182) nin0))
      have F262 : Fld Z T252.heap sb108 "java/lang/AbstractStringBuilder" "coder" "B" (.int (0 : Int32)) := ((p220_18.keep p224_0 (ninS (Ne.symm ne182) nin0)).keep p252_0 (ninS (Ne.symm ne182) nin0))
      have F263 : Fld Z T252.heap sb108 "java/lang/AbstractStringBuilder" "count" "I" (.int (0 : Int32)) := (F251.keep p252_0 (ninS (Ne.symm ne182) nin0))
      have A264 : Arv Z T252.heap v109 kv110 .byte (16 : Int32) (([] : List Value) ++ [(.int ((32 : Int32).toInt8.toInt32))]) (.int 0) := (((A218.keep p220_0 (ninS (Ne.symm ne187) (ninS (Ne.symm p106_6) nin0))).keep p224_0 (ninS (Ne.symm ne187) nin0)).keep p252_0 (ninS (Ne.symm ne187) nin0))
      have z265 : n0 ≤ T252.heap.size := Nat.le_trans z226 p252_0.1
      obtain ⟨cq266, kq266, qa266, qb266, qc266⟩ := isOf hZ e255 p252_1
      obtain ⟨v266, _, ⟨T266, L266, k266, n266⟩, -, X266, hS266, hg266, ⟨Lc266, hQ266, l266, y266, z266, hC266⟩, st266⟩ := X255.virtualBackS hx (y := y_36) (z := y_36) hown (mvT hZ (w_ hw 93 rfl)) (mvT hZ (w_ hw 94 rfl)) (notFace_of_selects (args := #[]) (mvT hZ (w_ hw 96 rfl))) (mvT hZ (w_ hw 96 rfl)) (mvT hZ (w_ hw 95 rfl)) (by decide) (backOfSH (W := 0) (rm_fin0 l Z a0 hw [] a101 aS b107 sb108 v109 kv110 ((([] : List Value) ++ [(.int ((32 : Int32).toInt8.toInt32))]) : List Value) l_ cc oo kk (0 : Int64) G1 G9 T252.heap n0 z265 p252_1 p252_2 p252_3 p252_4 p252_5 p252_6 p252_7 p252_8 p252_9 E256 F257 F258 F259 E260 F261 F262 F263 A264 g103 g189 ne177 ne182 ne187 p106_6 p106_4 p106_5 S1 P1 S9 r9 O254) hZ (w_ hw 97 rfl) (w_ hw 2 rfl) (by decide) (by decide) own_EW ch253.1) qa266 qc266 (g := (mkF m 99 #[.val (.long l_), .second, .val (.long cc), .second, .val (.long oo), .second, .val (.long dd), .second, .val (.long kk), .second, .val (.int fl), .val (.ref a101), .val (.long kk), .second, .unset] [(.ref aS), (.ref a101)])) rfl (by rw [hml]; rfl) (Steps.refl _) (argsL := [(.ref aS)]) (rest := []) (lenOf pd_459 rfl) rfl (by show 2 * 0 + _ ≤ _; exact Nat.le_of_eq rfl) (hb hby at_99) (fun _ _ => ⟨rfl, e255, (by decide : 8 + 4 ≤ _), (by decide : 45 + 13 ≤ _)⟩)
      dsimp only [Pt.U, Pt.locs, Pt.cells, Pt.slots] at X266 l266 y266 z266 st266 hQ266 hS266 hg266 hC266
      subst l266 y266 z266
      obtain ⟨y267, rfl, Nq266, p266_0, p266_1, p266_2, p266_3, p266_4, p266_5, p266_6, p266_7, p266_8, p266_9, p266_10, p266_11, p266_12, p266_13, p266_14, p266_15, p266_16, p266_17, p266_18, p266_19⟩ := hQ266
      have N266_ := Fr.app N252_ Nq266
      refine FinH.byS st266 ?_
      obtain ⟨X266w, hS266w, hZ266, hown266⟩ := rebS hS0 (by rw [e255]; exact (Nat.le_trans hk0 (Nat.le_trans (Nat.le_trans (Nat.le_trans (Nat.le_trans (Nat.le_trans (Nat.le_trans (Nat.le_trans E101.1 p106_0.1) p174_0.1) p195_0.1) p205_0.1) p220_0.1) p224_0.1) p252_0.1))) X266 hS266 hg266 hZ hown
      have ch268 : CHr Z consts_1 s.vm h0 T266.vm T266.heap := ch253.trans hC266
      refine FinH.by (fun tt_ kk_ => XS.astore X266w.here hx rfl (hb hby at_102) rfl rfl (l' := #[.val (.long l_), .second, .val (.long cc), .second, .val (.long oo), .second, .val (.long dd), .second, .val (.long kk), .second, .val (.int fl), .val (.ref a101), .val (.long kk), .second, .val (.ref y267)]) rfl (XS.aload X266w.here hx rfl (hb hby at_104) rfl rfl kk_)) ?_
      have z269 : n0 ≤ T266.heap.size := Nat.le_trans z265 p266_0.1
      obtain ⟨cq270, kq270, qa270, qb270, qc270⟩ := isOf hZ266 rfl p266_2
      obtain ⟨v270, _, ⟨T270, L270, k270, n270⟩, -, X270, ⟨Lc270, hQ270, l270, y270, z270⟩, st270⟩ := X266w.virtualBack hx (y := y_37) (z := y_37) hown266 (mvT hZ266 (w_ hw 196 rfl)) (mvT hZ266 (w_ hw 197 rfl)) (notFace_of_selects (args := #[]) (mvT hZ266 (w_ hw 199 rfl))) (mvT hZ266 (w_ hw 199 rfl)) (mvT hZ266 (w_ hw 198 rfl)) (by decide) (backOf (W := 0) (rm_gt0 l Z a0 hw [] y267 l_ T266.heap n0 z269 p266_2 p266_3) hZ266 (w_ hw 200 rfl) (w_ hw 100 rfl) (by decide) (by decide)) qa270 qc270 (g := (mkF m 106 #[.val (.long l_), .second, .val (.long cc), .second, .val (.long oo), .second, .val (.long dd), .second, .val (.long kk), .second, .val (.int fl), .val (.ref a101), .val (.long kk), .second, .val (.ref y267)] [(.ref y267)])) rfl (by rw [hml]; rfl) (Steps.refl _) (argsL := []) (rest := []) (lenOf pd_190 rfl) rfl (by show 2 * 0 + _ ≤ _; exact Nat.le_of_eq rfl) (hb hby at_106) (fun _ _ => ⟨rfl, rfl, (by decide : 12 + 0 ≤ _), (by decide : 58 + 0 ≤ _)⟩)
      dsimp only [Pt.U, Pt.locs, Pt.cells, Pt.slots] at X270 l270 y270 z270 st270 hQ270
      subst l270 y270 z270
      obtain ⟨rfl, Nq270, e270_⟩ := hQ270
      have N270_ := Fr.app N266_ Nq270
      refine FinH.byS st270 ?_
      have e270 := e270_
      refine FinH.by (fun tt_ kk_ => XS.lloadN X270.here hx rfl (hb hby at_109) rfl (XS.lcmp X270.here hx rfl (hb hby at_110) rfl kk_)) ?_
      show FinH _ _ _ _ _ _ _ _ _ (T270.setTop (mkF m 111 #[.val (.long l_), .second, .val (.long cc), .second, .val (.long oo), .second, .val (.long dd), .second, .val (.long kk), .second, .val (.int fl), .val (.ref a101), .val (.long kk), .second, .val (.ref y267)] [(.int (lcmpW l_ l_))]))
      refine FinH.by (fun tt_ kk_ => XS.ifNo X270.here hx rfl (hb hby at_111) rfl ((if0 _ _).trans (teq (own_lc _ : (lcmpW l_ l_) = (0 : Int32))).2) kk_) ?_
      refine FinH.by (fun tt_ kk_ => XS.aload X270.here hx rfl (hb hby at_114) rfl rfl kk_) ?_
      obtain ⟨cq271, kq271, qa271, qb271, qc271⟩ := isOf hZ266 e270 p266_2
      obtain ⟨v271, _, ⟨T271, L271, k271, n271⟩, -, X271, ⟨Lc271, hQ271, l271, y271, z271⟩, st271⟩ := X270.virtualBack hx (y := y_38) (z := y_38) hown266 (mvT hZ266 (w_ hw 201 rfl)) (mvT hZ266 (w_ hw 202 rfl)) (notFace_of_selects (args := #[]) (mvT hZ266 (w_ hw 204 rfl))) (mvT hZ266 (w_ hw 204 rfl)) (mvT hZ266 (w_ hw 203 rfl)) (by decide) (backOf (W := 0) (rm_gt1 l Z a0 hw [] y267 cc T266.heap n0 z269 p266_2 p266_4) hZ266 (w_ hw 205 rfl) (w_ hw 100 rfl) (by decide) (by decide)) qa271 qc271 (g := (mkF m 116 #[.val (.long l_), .second, .val (.long cc), .second, .val (.long oo), .second, .val (.long dd), .second, .val (.long kk), .second, .val (.int fl), .val (.ref a101), .val (.long kk), .second, .val (.ref y267)] [(.ref y267)])) rfl (by rw [hml]; rfl) (Steps.refl _) (argsL := []) (rest := []) (lenOf pd_190 rfl) rfl (by show 2 * 0 + _ ≤ _; exact Nat.le_of_eq rfl) (hb hby at_116) (fun _ _ => ⟨rfl, e270, (by decide : 12 + 0 ≤ _), (by decide : 58 + 0 ≤ _)⟩)
      dsimp only [Pt.U, Pt.locs, Pt.cells, Pt.slots] at X271 l271 y271 z271 st271 hQ271
      subst l271 y271 z271
      obtain ⟨rfl, Nq271, e271_⟩ := hQ271
      have N271_ := Fr.app N270_ Nq271
      refine FinH.byS st271 ?_
      have e271 := e271_
      refine FinH.by (fun tt_ kk_ => XS.lloadN X271.here hx rfl (hb hby at_119) rfl (XS.lcmp X271.here hx rfl (hb hby at_120) rfl kk_)) ?_
      show FinH _ _ _ _ _ _ _ _ _ (T271.setTop (mkF m 121 #[.val (.long l_), .second, .val (.long cc), .second, .val (.long oo), .second, .val (.long dd), .second, .val (.long kk), .second, .val (.int fl), .val (.ref a101), .val (.long kk), .second, .val (.ref y267)] [(.int (lcmpW cc cc))]))
      refine FinH.by (fun tt_ kk_ => XS.ifNo X271.here hx rfl (hb hby at_121) rfl ((if0 _ _).trans (teq (own_lc _ : (lcmpW cc cc) = (0 : Int32))).2) kk_) ?_
      refine FinH.by (fun tt_ kk_ => XS.aload X271.here hx rfl (hb hby at_124) rfl rfl kk_) ?_
      obtain ⟨cq272, kq272, qa272, qb272, qc272⟩ := isOf hZ266 e271 p266_2
      obtain ⟨v272, _, ⟨T272, L272, k272, n272⟩, -, X272, ⟨Lc272, hQ272, l272, y272, z272⟩, st272⟩ := X271.virtualBack hx (y := y_39) (z := y_39) hown266 (mvT hZ266 (w_ hw 206 rfl)) (mvT hZ266 (w_ hw 207 rfl)) (notFace_of_selects (args := #[]) (mvT hZ266 (w_ hw 209 rfl))) (mvT hZ266 (w_ hw 209 rfl)) (mvT hZ266 (w_ hw 208 rfl)) (by decide) (backOf (W := 0) (rm_gt2 l Z a0 hw [] y267 oo T266.heap n0 z269 p266_2 p266_5) hZ266 (w_ hw 210 rfl) (w_ hw 100 rfl) (by decide) (by decide)) qa272 qc272 (g := (mkF m 126 #[.val (.long l_), .second, .val (.long cc), .second, .val (.long oo), .second, .val (.long dd), .second, .val (.long kk), .second, .val (.int fl), .val (.ref a101), .val (.long kk), .second, .val (.ref y267)] [(.ref y267)])) rfl (by rw [hml]; rfl) (Steps.refl _) (argsL := []) (rest := []) (lenOf pd_190 rfl) rfl (by show 2 * 0 + _ ≤ _; exact Nat.le_of_eq rfl) (hb hby at_126) (fun _ _ => ⟨rfl, e271, (by decide : 12 + 0 ≤ _), (by decide : 58 + 0 ≤ _)⟩)
      dsimp only [Pt.U, Pt.locs, Pt.cells, Pt.slots] at X272 l272 y272 z272 st272 hQ272
      subst l272 y272 z272
      obtain ⟨rfl, Nq272, e272_⟩ := hQ272
      have N272_ := Fr.app N271_ Nq272
      refine FinH.byS st272 ?_
      have e272 := e272_
      refine FinH.by (fun tt_ kk_ => XS.lload X272.here hx rfl (hb hby at_129) rfl (XS.lcmp X272.here hx rfl (hb hby at_131) rfl kk_)) ?_
      show FinH _ _ _ _ _ _ _ _ _ (T272.setTop (mkF m 132 #[.val (.long l_), .second, .val (.long cc), .second, .val (.long oo), .second, .val (.long dd), .second, .val (.long kk), .second, .val (.int fl), .val (.ref a101), .val (.long kk), .second, .val (.ref y267)] [(.int (lcmpW oo oo))]))
      refine FinH.by (fun tt_ kk_ => XS.ifNo X272.here hx rfl (hb hby at_132) rfl ((if0 _ _).trans (teq (own_lc _ : (lcmpW oo oo) = (0 : Int32))).2) kk_) ?_
      refine FinH.by (fun tt_ kk_ => XS.aload X272.here hx rfl (hb hby at_135) rfl rfl kk_) ?_
      obtain ⟨cq273, kq273, qa273, qb273, qc273⟩ := isOf hZ266 e272 p266_2
      obtain ⟨v273, _, ⟨T273, L273, k273, n273⟩, -, X273, ⟨Lc273, hQ273, l273, y273, z273⟩, st273⟩ := X272.virtualBack hx (y := y_40) (z := y_40) hown266 (mvT hZ266 (w_ hw 211 rfl)) (mvT hZ266 (w_ hw 212 rfl)) (notFace_of_selects (args := #[]) (mvT hZ266 (w_ hw 214 rfl))) (mvT hZ266 (w_ hw 214 rfl)) (mvT hZ266 (w_ hw 213 rfl)) (by decide) (backOf (W := 0) (rm_gt3 l Z a0 hw [] y267 kk T266.heap n0 z269 p266_2 p266_6) hZ266 (w_ hw 215 rfl) (w_ hw 100 rfl) (by decide) (by decide)) qa273 qc273 (g := (mkF m 137 #[.val (.long l_), .second, .val (.long cc), .second, .val (.long oo), .second, .val (.long dd), .second, .val (.long kk), .second, .val (.int fl), .val (.ref a101), .val (.long kk), .second, .val (.ref y267)] [(.ref y267)])) rfl (by rw [hml]; rfl) (Steps.refl _) (argsL := []) (rest := []) (lenOf pd_190 rfl) rfl (by show 2 * 0 + _ ≤ _; exact Nat.le_of_eq rfl) (hb hby at_137) (fun _ _ => ⟨rfl, e272, (by decide : 12 + 0 ≤ _), (by decide : 58 + 0 ≤ _)⟩)
      dsimp only [Pt.U, Pt.locs, Pt.cells, Pt.slots] at X273 l273 y273 z273 st273 hQ273
      subst l273 y273 z273
      obtain ⟨rfl, Nq273, e273_⟩ := hQ273
      have N273_ := Fr.app N272_ Nq273
      refine FinH.byS st273 ?_
      have e273 := e273_
      refine FinH.by (fun tt_ kk_ => XS.lload X273.here hx rfl (hb hby at_140) rfl (XS.lcmp X273.here hx rfl (hb hby at_142) rfl kk_)) ?_
      show FinH _ _ _ _ _ _ _ _ _ (T273.setTop (mkF m 143 #[.val (.long l_), .second, .val (.long cc), .second, .val (.long oo), .second, .val (.long dd), .second, .val (.long kk), .second, .val (.int fl), .val (.ref a101), .val (.long kk), .second, .val (.ref y267)] [(.int (lcmpW kk kk))]))
      refine FinH.by (fun tt_ kk_ => XS.ifNo X273.here hx rfl (hb hby at_143) rfl ((if0 _ _).trans (teq (own_lc _ : (lcmpW kk kk) = (0 : Int32))).2) kk_) ?_
      refine FinH.by (fun tt_ kk_ => XS.iconst X273.here hx rfl (hb hby at_146) (XS.goto X273.here hx rfl (pc0 := 147) (pc' := 151) rfl (hb hby at_147) (by decide) (by decide) kk_)) ?_
      show FinH _ _ _ _ _ _ _ _ _ (T273.setTop (mkF m 151 #[.val (.long l_), .second, .val (.long cc), .second, .val (.long oo), .second, .val (.long dd), .second, .val (.long kk), .second, .val (.int fl), .val (.ref a101), .val (.long kk), .second, .val (.ref y267)] [(.int 1)]))
      exact FinH.ret (v := some (.int (nar .boolean (1 : Int32)))) X273 hS266w (by rw [e273]; exact (Nat.le_refl _)) (fun h => by rw [Bd.returns] at h; cases h) Bd.notSynchronized (by rw [e273]; exact ⟨rfl, N273_⟩) (by rw [hh, e273]; exact ch268.trans (CHv.at X273 hZ266 own_EW ch268.1)) (by decide) (by decide) (fun fs hr => retN X273 hx (t := .boolean) Bd.returns (by simp) (hb hby at_151) hr)
set_option maxRecDepth 65536 in
set_option maxHeartbeats 40000000 in
theorem comes_1 {Post : Tables → Env → Array Value → State → Outcome → State → Prop} (hpost : ∀ tb e args s v u, (limb_1_1.after args s (.returned v) u = true ∧ limb_1_2.after args s (.returned v) u = true ∧ True) → ReturnedEndW s (.returned v) u (Jvm.fieldLocs frame_1_writes args s ++ Jvm.arrayLocs frame_1_arrays args s ++ Jvm.staticLocs frame_1_statics s) 32 1216 → Post tb e args s (.returned v) u) :
    ArmFor flags0 classFile x code maxLocals ret World_1 tables_1 room_1 Calls_1 rest_1 Pre_1 Post := by
  intro l hfl _ _ p e ha hc hk s m args below hf hA hF happ hP
  obtain ⟨hcalls, hrest, hpre⟩ := hP
  obtain ⟨-, -, -, hnamed, -, -, -, hat⟩ := (Spec.applies_iff hf).mp happ
  obtain ⟨hg, hn⟩ := and_e (Cond.before_iff.mp (show (Jvm.Cond.and given_1 narrow_1).before args s = true from hpre))
  obtain ⟨q0, r0⟩ := and_e hg
  obtain ⟨q1, r1⟩ := and_e r0
  obtain ⟨q2, r2⟩ := and_e r1
  obtain ⟨q3, r3⟩ := and_e r2
  obtain ⟨q4, r4⟩ := and_e r3
  obtain ⟨q5, r5⟩ := and_e r4
  obtain ⟨w0, w1, w2, w3, w4, w5, rfl⟩ : ∃ w0 w1 w2 w3 w4 w5 : Value, args = #[w0, w1, w2, w3, w4, w5] := by
    have hs : args.size = 6 := by simpa [Cond.value, given_1] using q0
    obtain ⟨L⟩ := args
    match L, hs with
    | [w0, w1, w2, w3, w4, w5], _ => exact ⟨w0, w1, w2, w3, w4, w5, rfl⟩
  have hw := fun d (hd : d ∈ tables_1) => atoms_spec (ws := Jvm.Cond.code x code maxLocals ret :: tables_1) hat d (List.mem_cons_of_mem _ hd)
  obtain ⟨hsets, hown0⟩ := atoms_of _ (rest_1_c_eq ▸ (show rest_1_c.before _ s = true from hrest))
  have hfit : Fit s := fun {y c} hc i hi => by
    obtain ⟨ha, rfl⟩ := Array.getElem?_eq_some_iff.mp hc
    have q := List.all_eq_true.mp ((Array.all_eq_true_iff_forall_mem.mp hF) _ (Array.getElem_mem ha)) i (List.mem_range.mpr hi)
    simpa [Array.getElem?_eq_getElem hi] using q
  obtain ⟨i0, e0⟩ := isL_v q1
  obtain rfl : w0 = (.long i0) := Option.some.inj e0
  obtain ⟨i1, e1⟩ := isL_v q2
  obtain rfl : w1 = (.long i1) := Option.some.inj e1
  obtain ⟨i2, e2⟩ := isL_v q3
  obtain rfl : w2 = (.long i2) := Option.some.inj e2
  obtain ⟨i3, e3⟩ := isL_v q4
  obtain rfl : w3 = (.long i3) := Option.some.inj e3
  obtain ⟨i4, e4⟩ := isL_v q5
  obtain rfl : w4 = (.long i4) := Option.some.inj e4
  obtain ⟨i5, e5⟩ := is_v r5
  obtain rfl : w5 = (.int i5) := Option.some.inj e5
  have nz_cs := not_v (Cond.before_iff.mp (hsets _ (List.mem_of_getElem? (i := 2) rfl)))
  obtain ⟨G1, ee_cs⟩ := is_v (Cond.before_iff.mp (hsets _ (List.mem_of_getElem? (i := 1) rfl)))
  have S1 : Sta s s.heap "java/lang/String" "COMPACT_STRINGS" "Z" (.int G1) := Sta.start ee_cs (Or.inl (hsets _ (List.mem_of_getElem? (i := 0) rfl)))
  have P1 : ¬ (G1 = (0 : Int32)) := gotF (Cond.eq_ints ee_cs (Term.int_eval (0))) nz_cs
  obtain ⟨G9, ee_G9, r9⟩ := isR_v (Cond.before_iff.mp (hsets _ (List.mem_of_getElem? (i := 8) rfl)))
  have S9 : Sta s s.heap "jdk/internal/util/Preconditions" "SIOOBE_FORMATTER" "Ljava/util/function/BiFunction;" G9 := Sta.start ee_G9 (Or.inl (hsets _ (List.mem_of_getElem? (i := 7) rfl)))
  obtain ⟨nS, nT⟩ := and_e hn
  obtain ⟨aS, evS⟩ := exa_v nS
  obtain ⟨aT, evT⟩ := exa_v nT
  have S3 : Sta s s.heap "com/example/colonnade/colonnade/Item$Kind" "STATEMENT" "Lcom/example/colonnade/colonnade/Item$Kind;" (.ref aS) := Sta.start evS (Or.inr ⟨(w_ hw 91 rfl), (w_ hw 92 rfl)⟩)
  have S4 : Sta s s.heap "com/example/colonnade/colonnade/Item$Kind" "DATA" "Lcom/example/colonnade/colonnade/Item$Kind;" (.ref aT) := Sta.start evT (Or.inr ⟨(w_ hw 91 rfl), (w_ hw 247 rfl)⟩)
  have hC0 : CHv s consts_1 s.vm s.heap := CHv.start (own_EW0 hw) (fun p hp => hcalls.1 p hp) (hsets _ (List.mem_of_getElem? (i := 2) rfl)) (w_ hw 31 rfl) (w_ hw 133 rfl)
  obtain ⟨n, o, h1, h2, h3, _, L, rfl, ⟨rfl, N⟩, -, hq⟩ := rm_law l s _ hw tables_1 i0 i1 i2 i3 i4 i5 G1 G9 aS aT s.heap s.heap.size (Nat.le_refl _) S1 P1 S9 r9 (Old.start s) S3 S4 p e ha hc hk s m _ below hf ((Spec.applies_iff_loose hf).mp happ).1 ⟨rfl, State.Warmed39.refl s, rfl, hC0⟩ trivial
  refine ⟨n, _, h1, h2, h3, hpost _ _ _ _ _ _ ⟨Cond.after_iff.mpr rfl, Cond.after_iff.mpr (eq_i res_at (Term.int_eval (1)) rfl), trivial⟩ ⟨hq.1, hq.2.1, hq.2.2.1, (hq.2.2.2.sift fun y hy => Or.inr (N y hy)).mono (by decide) (by decide)⟩⟩
theorem main_1_1 : Claimed_1_1 := comes_1 fun _ _ _ _ _ _ h hF => ⟨h.1, hF⟩
theorem main_1_2 : Claimed_1_2 := comes_1 fun _ _ _ _ _ _ h hF => ⟨h.2.1, hF⟩
end Jvm.Pilot.@@N@@
namespace Jvm.Pilot.@@N@@
open Jvm Jvm.ClassFile Sem Op Lib Jvm.Free Jvm.Stand Jvm.Pilot.@@N@@.Jvm.D
/-! MADE BY PROGRAM (witnessworld.py) out of the Statement's table words and the real class files: 30 classes; the members and pool entries that the words name. The judged class is class 1, her method 1. -/
namespace start1
open Jvm.ClassFile
def u (s : String) : CpInfo := .utf8 (stringToUtf16 s)
/-- a pool by its gaps: so many unusable entries, then the entry; so many at the end -/
def gap : Nat → List CpInfo → List CpInfo
  | 0, r => r
  | n + 1, r => .unusable :: gap n r
def poolList (es : List (Nat × CpInfo)) (last : Nat) : List CpInfo := es.foldr (fun e r => gap e.1 (e.2 :: r)) (gap last [])
def pool (es : List (Nat × CpInfo)) (last : Nat) : Array CpInfo := ⟨poolList es last⟩
def fileOf (pool : Array CpInfo) (this : Nat) (attrs : Array Attribute := #[]) (ms : Array MethodInfo := #[]) (fl : Nat := 33) (sup : Nat := 0) (ifs : Array Nat := #[]) (fds : Array FieldInfo := #[]) : ClassFile where
  minorVersion := 0
  majorVersion := 65
  constantPool := pool
  accessFlags := fl
  thisClass := this
  superClass := sup
  interfaces := ifs
  fields := fds
  methods := ms
  attributes := attrs
def plain (name : String) (sup : Option ClassId) : Class where
  name := name
  kind := .ordinary
  loader := none
  accessFlags := 33
  super := sup
  interfaces := #[]
  cf := none
  fields := #[]
  methods := #[]
  instanceTypes := #[]
  staticTypes := #[]
  resolved := #[]
  callSites := []
  init := .initialized
  statics := none
  mirror := none

def pool0 : Array CpInfo := pool [(5, u "<init>"), (0, u "()V"), (1, .class_ 10), (1, u "java/lang/Object")] 113

def k0c0 : Code := { maxStack := 0, maxLocals := 1, code := object_method_1_code, exceptionTable := #[], attributes := #[] }
def k0m0 : Method := { name := "<init>", desc := "()V", sig := { parameters := [], returnType := none }, accessFlags := 1, code := some k0c0 }
/-- java/lang/Object -/
def k0 : Class := { plain "java/lang/Object" none with
  accessFlags := 33
  interfaces := #[]
  cf := some (fileOf pool0 8 #[] #[{ accessFlags := 1, nameIndex := 5, descriptorIndex := 6, attributes := #[] }] 33 0 #[] #[])
  fields := #[]
  methods := #[k0m0]
  instanceTypes := #[]
  staticTypes := #[]
  resolved := Array.replicate 124 none
  statics := none }

def pool1 : Array CpInfo := pool [(2, .class_ 4), (1, u "java/lang/Object"), (0, u "<init>"), (0, u "()V"), (0, .class_ 8), (0, u "com/example/colonnade/colonnade/ItemBuilder"), (0, .methodref 7 10), (0, .nameAndType 5 11), (0, u "(I)V"), (0, .methodref 7 13), (0, .nameAndType 14 15), (0, u "start"), (0, u "(JJJ)V"), (0, .methodref 7 17), (0, .nameAndType 18 19), (0, u "add"), (0, u "(C)V"), (0, .methodref 7 21), (0, .nameAndType 22 23), (0, u "keep"), (0, u "(J)V"), (0, .fieldref 25 26), (0, .class_ 27), (0, .nameAndType 28 29), (0, u "com/example/colonnade/colonnade/Item$Kind"), (0, u "DATA"), (0, u "Lcom/example/colonnade/colonnade/Item$Kind;"), (0, .methodref 7 31), (0, .nameAndType 32 33), (0, u "finish"), (0, u "(Lcom/example/colonnade/colonnade/Item$Kind;)Lcom/example/colonnade/colonnade/SpooledItem;"), (0, .methodref 7 35), (0, .nameAndType 36 37), (0, u "started"), (0, u "()Z"), (0, .methodref 7 39), (0, .nameAndType 40 23), (0, u "keepAllButTrailingBlanks"), (0, .fieldref 25 42), (0, .nameAndType 43 29), (0, u "STATEMENT"), (0, .methodref 45 46), (0, .class_ 47), (0, .nameAndType 48 49), (0, u "com/example/colonnade/colonnade/SpooledItem"), (0, u "line"), (0, u "()J"), (0, .methodref 45 51), (0, .nameAndType 52 49), (0, u "column"), (0, .methodref 45 54), (0, .nameAndType 14 49), (0, .methodref 45 56), (0, .nameAndType 57 49), (0, u "end"), (0, .class_ 59), (0, u "com/example/colonnade/colonnade/ItemBuilderStartPinLaw"), (2, u "law"), (0, u "(JJJJJI)Z")] 7

def k1m0 : Method := { name := "<init>", desc := "()V", sig := { parameters := [], returnType := none }, accessFlags := 1, code := none }
def k1c1 : Code := { maxStack := 7, maxLocals := 15, code := code, exceptionTable := #[], attributes := #[] }
def k1m1 : Method := { name := "law", desc := "(JJJJJI)Z", sig := { parameters := [.long, .long, .long, .long, .long, .int], returnType := some .boolean }, accessFlags := 9, code := some k1c1 }
/-- com/example/colonnade/colonnade/ItemBuilderStartPinLaw -/
def k1 : Class := { plain "com/example/colonnade/colonnade/ItemBuilderStartPinLaw" (some 0) with
  accessFlags := 49
  interfaces := #[]
  cf := some (fileOf pool1 58 #[] #[{ accessFlags := 1, nameIndex := 5, descriptorIndex := 6, attributes := #[] }, { accessFlags := 9, nameIndex := 62, descriptorIndex := 63, attributes := #[] }] 49 2 #[] #[])
  fields := #[]
  methods := #[k1m0, k1m1]
  instanceTypes := #[]
  staticTypes := #[]
  resolved := Array.replicate 71 none
  statics := none }

def pool2 : Array CpInfo := pool [(1, .methodref 2 3), (0, .class_ 4), (0, .nameAndType 5 6), (0, u "java/lang/Object"), (0, u "<init>"), (0, u "()V"), (0, .class_ 8), (0, u "com/example/colonnade/colonnade/TextSpool"), (0, .methodref 7 10), (0, .nameAndType 5 11), (0, u "(I)V"), (0, .fieldref 13 14), (0, .class_ 15), (0, .nameAndType 16 17), (0, u "com/example/colonnade/colonnade/ItemBuilder"), (0, u "text"), (0, u "Lcom/example/colonnade/colonnade/TextSpool;"), (0, .fieldref 13 19), (0, .nameAndType 20 21), (0, u "started"), (0, u "Z"), (0, .fieldref 13 23), (0, .nameAndType 24 25), (0, u "line"), (0, u "J"), (0, .fieldref 13 27), (0, .nameAndType 28 25), (0, u "column"), (0, .fieldref 13 30), (0, .nameAndType 31 25), (0, u "start"), (0, .fieldref 13 33), (0, .nameAndType 34 25), (0, u "end"), (0, .fieldref 13 36), (0, .nameAndType 37 25), (0, u "kept"), (0, .fieldref 13 39), (0, .nameAndType 40 25), (0, u "trailingBlanks"), (0, .methodref 7 42), (0, .nameAndType 43 44), (0, u "append"), (0, u "(C)V"), (0, .methodref 13 46), (0, .nameAndType 47 48), (0, u "isBlank"), (0, u "(C)Z"), (3, .methodref 7 53), (0, .nameAndType 54 55), (0, u "length"), (0, u "()J"), (0, .class_ 57), (0, u "com/example/colonnade/colonnade/SpooledItem"), (0, .methodref 7 59), (0, .nameAndType 60 61), (0, u "take"), (0, u "(J)Lcom/example/colonnade/colonnade/SpooledText;"), (0, .methodref 56 63), (0, .nameAndType 5 64), (0, u "(Lcom/example/colonnade/colonnade/Item$Kind;JJJJLcom/example/colonnade/colonnade/SpooledText;)V"), (2, u "()Z"), (0, u "(JJJ)V"), (0, u "add"), (3, u "keep"), (0, u "(J)V"), (0, u "keepAllButTrailingBlanks"), (0, u "finish"), (0, u "(Lcom/example/colonnade/colonnade/Item$Kind;)Lcom/example/colonnade/colonnade/SpooledItem;")] 8

def k2c0 : Code := { maxStack := 4, maxLocals := 2, code := prog_46_method_1_code, exceptionTable := #[], attributes := #[] }
def k2m0 : Method := { name := "<init>", desc := "(I)V", sig := { parameters := [.int], returnType := none }, accessFlags := 0, code := some k2c0 }
def k2c1 : Code := { maxStack := 1, maxLocals := 1, code := prog_46_method_2_code, exceptionTable := #[], attributes := #[] }
def k2m1 : Method := { name := "started", desc := "()Z", sig := { parameters := [], returnType := some .boolean }, accessFlags := 0, code := some k2c1 }
def k2c2 : Code := { maxStack := 3, maxLocals := 7, code := prog_46_method_4_code, exceptionTable := #[], attributes := #[] }
def k2m2 : Method := { name := "start", desc := "(JJJ)V", sig := { parameters := [.long, .long, .long], returnType := none }, accessFlags := 0, code := some k2c2 }
def k2c3 : Code := { maxStack := 5, maxLocals := 2, code := prog_46_method_5_code, exceptionTable := #[], attributes := #[] }
def k2m3 : Method := { name := "add", desc := "(C)V", sig := { parameters := [.char], returnType := none }, accessFlags := 0, code := some k2c3 }
def k2c4 : Code := { maxStack := 3, maxLocals := 3, code := prog_46_method_7_code, exceptionTable := #[], attributes := #[] }
def k2m4 : Method := { name := "keep", desc := "(J)V", sig := { parameters := [.long], returnType := none }, accessFlags := 0, code := some k2c4 }
def k2c5 : Code := { maxStack := 5, maxLocals := 3, code := prog_46_method_8_code, exceptionTable := #[], attributes := #[] }
def k2m5 : Method := { name := "keepAllButTrailingBlanks", desc := "(J)V", sig := { parameters := [.long], returnType := none }, accessFlags := 0, code := some k2c5 }
def k2c6 : Code := { maxStack := 14, maxLocals := 3, code := prog_46_method_9_code, exceptionTable := #[], attributes := #[] }
def k2m6 : Method := { name := "finish", desc := "(Lcom/example/colonnade/colonnade/Item$Kind;)Lcom/example/colonnade/colonnade/SpooledItem;", sig := { parameters := [(.object "com/example/colonnade/colonnade/Item$Kind")], returnType := some (.object "com/example/colonnade/colonnade/SpooledItem") }, accessFlags := 0, code := some k2c6 }
def k2c7 : Code := { maxStack := 2, maxLocals := 1, code := prog_46_method_10_code, exceptionTable := #[], attributes := #[] }
def k2m7 : Method := { name := "isBlank", desc := "(C)Z", sig := { parameters := [.char], returnType := some .boolean }, accessFlags := 10, code := some k2c7 }
/-- com/example/colonnade/colonnade/ItemBuilder -/
def k2 : Class := { plain "com/example/colonnade/colonnade/ItemBuilder" (some 0) with
  accessFlags := 48
  interfaces := #[]
  cf := some (fileOf pool2 13 #[] #[{ accessFlags := 0, nameIndex := 5, descriptorIndex := 11, attributes := #[] }, { accessFlags := 0, nameIndex := 20, descriptorIndex := 67, attributes := #[] }, { accessFlags := 0, nameIndex := 31, descriptorIndex := 68, attributes := #[] }, { accessFlags := 0, nameIndex := 69, descriptorIndex := 44, attributes := #[] }, { accessFlags := 0, nameIndex := 73, descriptorIndex := 74, attributes := #[] }, { accessFlags := 0, nameIndex := 75, descriptorIndex := 74, attributes := #[] }, { accessFlags := 0, nameIndex := 76, descriptorIndex := 77, attributes := #[] }, { accessFlags := 10, nameIndex := 47, descriptorIndex := 48, attributes := #[] }] 48 2 #[] #[{ accessFlags := 18, nameIndex := 16, descriptorIndex := 17, attributes := #[] }, { accessFlags := 2, nameIndex := 20, descriptorIndex := 21, attributes := #[] }, { accessFlags := 2, nameIndex := 24, descriptorIndex := 25, attributes := #[] }, { accessFlags := 2, nameIndex := 28, descriptorIndex := 25, attributes := #[] }, { accessFlags := 2, nameIndex := 31, descriptorIndex := 25, attributes := #[] }, { accessFlags := 2, nameIndex := 34, descriptorIndex := 25, attributes := #[] }, { accessFlags := 2, nameIndex := 37, descriptorIndex := 25, attributes := #[] }, { accessFlags := 2, nameIndex := 40, descriptorIndex := 25, attributes := #[] }])
  fields := #[{ name := "text", type := (.object "com/example/colonnade/colonnade/TextSpool"), accessFlags := 18, slot := 0, constantValue := 0 }, { name := "started", type := .boolean, accessFlags := 2, slot := 1, constantValue := 0 }, { name := "line", type := .long, accessFlags := 2, slot := 2, constantValue := 0 }, { name := "column", type := .long, accessFlags := 2, slot := 3, constantValue := 0 }, { name := "start", type := .long, accessFlags := 2, slot := 4, constantValue := 0 }, { name := "end", type := .long, accessFlags := 2, slot := 5, constantValue := 0 }, { name := "kept", type := .long, accessFlags := 2, slot := 6, constantValue := 0 }, { name := "trailingBlanks", type := .long, accessFlags := 2, slot := 7, constantValue := 0 }]
  methods := #[k2m0, k2m1, k2m2, k2m3, k2m4, k2m5, k2m6, k2m7]
  instanceTypes := #[(.object "com/example/colonnade/colonnade/TextSpool"), .boolean, .long, .long, .long, .long, .long, .long]
  staticTypes := #[]
  resolved := Array.replicate 86 none
  statics := none }

def pool3 : Array CpInfo := pool [(1, .methodref 2 3), (0, .class_ 4), (0, .nameAndType 5 6), (0, u "java/lang/Object"), (0, u "<init>"), (0, u "()V"), (0, .class_ 8), (0, u "java/lang/StringBuilder"), (0, .methodref 7 3), (0, .fieldref 11 12), (0, .class_ 13), (0, .nameAndType 14 15), (0, u "com/example/colonnade/colonnade/TextSpool"), (0, u "chars"), (0, u "Ljava/lang/StringBuilder;"), (0, .fieldref 11 17), (0, .nameAndType 18 19), (0, u "charsInMemory"), (0, u "I"), (0, .methodref 7 21), (0, .nameAndType 22 23), (0, u "append"), (0, u "(C)Ljava/lang/StringBuilder;"), (0, .methodref 7 25), (0, .nameAndType 26 27), (0, u "length"), (0, u "()I"), (9, .fieldref 11 38), (0, .nameAndType 39 40), (0, u "file"), (0, u "Lcom/example/colonnade/colonnade/SpoolFile;"), (4, u "()J"), (0, .class_ 47), (0, u "com/example/colonnade/colonnade/SpooledText"), (0, .methodref 7 49), (0, .nameAndType 50 51), (0, u "substring"), (0, u "(II)Ljava/lang/String;"), (0, .methodref 46 53), (0, .nameAndType 5 54), (0, u "(Ljava/lang/String;)V"), (0, .methodref 7 56), (0, .nameAndType 57 58), (0, u "setLength"), (0, u "(I)V"), (15, u "(C)V"), (2, u "take"), (0, u "(J)Lcom/example/colonnade/colonnade/SpooledText;")] 3

def k3c0 : Code := { maxStack := 3, maxLocals := 2, code := prog_103_method_1_code, exceptionTable := #[], attributes := #[] }
def k3m0 : Method := { name := "<init>", desc := "(I)V", sig := { parameters := [.int], returnType := none }, accessFlags := 0, code := some k3c0 }
def k3c1 : Code := { maxStack := 2, maxLocals := 2, code := prog_103_method_2_code, exceptionTable := #[], attributes := #[] }
def k3m1 : Method := { name := "append", desc := "(C)V", sig := { parameters := [.char], returnType := none }, accessFlags := 0, code := some k3c1 }
def k3c2 : Code := { maxStack := 4, maxLocals := 1, code := prog_103_method_5_code, exceptionTable := #[], attributes := #[] }
def k3m2 : Method := { name := "length", desc := "()J", sig := { parameters := [], returnType := some .long }, accessFlags := 0, code := some k3c2 }
def k3c3 : Code := { maxStack := 6, maxLocals := 4, code := prog_103_method_6_code, exceptionTable := #[], attributes := #[] }
def k3m3 : Method := { name := "take", desc := "(J)Lcom/example/colonnade/colonnade/SpooledText;", sig := { parameters := [.long], returnType := some (.object "com/example/colonnade/colonnade/SpooledText") }, accessFlags := 0, code := some k3c3 }
/-- com/example/colonnade/colonnade/TextSpool -/
def k3 : Class := { plain "com/example/colonnade/colonnade/TextSpool" (some 0) with
  accessFlags := 48
  interfaces := #[]
  cf := some (fileOf pool3 11 #[] #[{ accessFlags := 0, nameIndex := 5, descriptorIndex := 58, attributes := #[] }, { accessFlags := 0, nameIndex := 22, descriptorIndex := 74, attributes := #[] }, { accessFlags := 0, nameIndex := 26, descriptorIndex := 45, attributes := #[] }, { accessFlags := 0, nameIndex := 77, descriptorIndex := 78, attributes := #[] }] 48 2 #[] #[{ accessFlags := 18, nameIndex := 18, descriptorIndex := 19, attributes := #[] }, { accessFlags := 18, nameIndex := 14, descriptorIndex := 15, attributes := #[] }, { accessFlags := 2, nameIndex := 39, descriptorIndex := 40, attributes := #[] }])
  fields := #[{ name := "charsInMemory", type := .int, accessFlags := 18, slot := 0, constantValue := 0 }, { name := "chars", type := (.object "java/lang/StringBuilder"), accessFlags := 18, slot := 1, constantValue := 0 }, { name := "file", type := (.object "com/example/colonnade/colonnade/SpoolFile"), accessFlags := 2, slot := 2, constantValue := 0 }]
  methods := #[k3m0, k3m1, k3m2, k3m3]
  instanceTypes := #[.int, (.object "java/lang/StringBuilder"), (.object "com/example/colonnade/colonnade/SpoolFile")]
  staticTypes := #[]
  resolved := Array.replicate 82 none
  statics := none }

def pool4 : Array CpInfo := pool [(1, .class_ 2), (0, u "java/lang/Appendable"), (0, .class_ 4), (0, u "java/lang/Object")] 9

/-- java/lang/Appendable -/
def k4 : Class := { plain "java/lang/Appendable" (some 0) with
  accessFlags := 1537
  interfaces := #[]
  cf := some (fileOf pool4 1 #[] #[] 1537 3 #[] #[])
  fields := #[]
  methods := #[]
  instanceTypes := #[]
  staticTypes := #[]
  resolved := Array.replicate 14 none
  statics := none }

def pool5 : Array CpInfo := pool [(2, .class_ 4), (1, u "java/lang/CharSequence"), (42, .class_ 48), (0, u "java/lang/CharSequence$1CodePointIterator"), (10, .class_ 60), (0, u "java/lang/CharSequence$1CharIterator"), (5, .class_ 67), (0, u "java/lang/Object")] 63

/-- java/lang/CharSequence -/
def k5 : Class := { plain "java/lang/CharSequence" (some 0) with
  accessFlags := 1537
  interfaces := #[]
  cf := some (fileOf pool5 2 #[.nestMembers #[47, 59]] #[] 1537 66 #[] #[])
  fields := #[]
  methods := #[]
  instanceTypes := #[]
  staticTypes := #[]
  resolved := Array.replicate 131 none
  statics := none }

def pool6 : Array CpInfo := pool [(1, .class_ 2), (0, u "java/lang/String"), (0, .methodref 4 5), (0, .class_ 6), (0, .nameAndType 7 8), (0, u "java/lang/Object"), (0, u "<init>"), (0, u "()V"), (1, .class_ 12), (1, u "java/lang/AbstractStringBuilder"), (0, u "EMPTYVALUE"), (0, u "[B"), (0, .fieldref 10 16), (0, .nameAndType 17 14), (0, u "value"), (0, .fieldref 1 19), (0, .nameAndType 20 21), (0, u "COMPACT_STRINGS"), (0, u "Z"), (0, .fieldref 10 23), (0, .nameAndType 24 25), (0, u "coder"), (0, u "B"), (8, u "length"), (0, u "()I"), (9, u "append"), (2, .class_ 49), (0, u "java/lang/CharSequence"), (23, .fieldref 10 74), (0, .nameAndType 75 21), (0, u "maybeLatin1"), (3, .fieldref 10 80), (0, .nameAndType 81 82), (0, u "count"), (0, u "I"), (0, .methodref 10 84), (0, .nameAndType 85 86), (0, u "isLatin1"), (0, u "()Z"), (1, .class_ 90), (1, u "java/lang/StringLatin1"), (9, .methodref 10 101), (0, .nameAndType 102 103), (0, u "ensureCapacityInternal"), (0, u "(I)V"), (57, .methodref 162 163), (0, .class_ 164), (0, .nameAndType 165 166), (0, u "jdk/internal/util/Preconditions"), (0, u "checkFromToIndex"), (0, u "(IIILjava/util/function/BiFunction;)I"), (12, .fieldref 162 180), (0, .nameAndType 181 182), (0, u "SIOOBE_FORMATTER"), (0, u "Ljava/util/function/BiFunction;"), (8, .methodref 88 192), (0, .nameAndType 193 194), (0, u "canEncode"), (0, u "(C)Z"), (97, u "(C)Ljava/lang/AbstractStringBuilder;"), (9, u "substring"), (0, u "(II)Ljava/lang/String;"), (0, .methodref 88 305), (0, .nameAndType 306 307), (0, u "newString"), (0, u "([BII)Ljava/lang/String;"), (136, .class_ 445), (0, u "java/lang/Appendable"), (30, u "setLength")] 132

def k6m0 : Method := { name := "<init>", desc := "()V", sig := { parameters := [], returnType := none }, accessFlags := 0, code := none }
def k6c1 : Code := { maxStack := 2, maxLocals := 2, code := jdk_68_method_2_code, exceptionTable := #[], attributes := #[] }
def k6m1 : Method := { name := "<init>", desc := "(I)V", sig := { parameters := [.int], returnType := none }, accessFlags := 0, code := some k6c1 }
def k6c2 : Code := { maxStack := 1, maxLocals := 1, code := jdk_68_method_6_code, exceptionTable := #[], attributes := #[] }
def k6m2 : Method := { name := "length", desc := "()I", sig := { parameters := [], returnType := some .int }, accessFlags := 1, code := some k6c2 }
def k6c3 : Code := { maxStack := 4, maxLocals := 3, code := jdk_68_method_9_code, exceptionTable := #[], attributes := #[] }
def k6m3 : Method := { name := "ensureCapacityInternal", desc := "(I)V", sig := { parameters := [.int], returnType := none }, accessFlags := 2, code := some k6c3 }
def k6c4 : Code := { maxStack := 3, maxLocals := 2, code := jdk_68_method_13_code, exceptionTable := #[], attributes := #[] }
def k6m4 : Method := { name := "setLength", desc := "(I)V", sig := { parameters := [.int], returnType := none }, accessFlags := 1, code := some k6c4 }
def k6c5 : Code := { maxStack := 5, maxLocals := 2, code := jdk_68_method_31_code, exceptionTable := #[], attributes := #[] }
def k6m5 : Method := { name := "append", desc := "(C)Ljava/lang/AbstractStringBuilder;", sig := { parameters := [.char], returnType := some (.object "java/lang/AbstractStringBuilder") }, accessFlags := 1, code := some k6c5 }
def k6c6 : Code := { maxStack := 4, maxLocals := 3, code := jdk_68_method_42_code, exceptionTable := #[], attributes := #[] }
def k6m6 : Method := { name := "substring", desc := "(II)Ljava/lang/String;", sig := { parameters := [.int, .int], returnType := some (.object "java/lang/String") }, accessFlags := 1, code := some k6c6 }
def k6c7 : Code := { maxStack := 1, maxLocals := 1, code := jdk_68_method_68_code, exceptionTable := #[], attributes := #[] }
def k6m7 : Method := { name := "isLatin1", desc := "()Z", sig := { parameters := [], returnType := some .boolean }, accessFlags := 16, code := some k6c7 }
/-- java/lang/AbstractStringBuilder -/
def k6 : Class := { plain "java/lang/AbstractStringBuilder" (some 0) with
  accessFlags := 1056
  interfaces := #[4, 5]
  cf := some (fileOf pool6 10 #[] #[{ accessFlags := 0, nameIndex := 7, descriptorIndex := 8, attributes := #[] }, { accessFlags := 0, nameIndex := 7, descriptorIndex := 103, attributes := #[] }, { accessFlags := 1, nameIndex := 34, descriptorIndex := 35, attributes := #[] }, { accessFlags := 2, nameIndex := 102, descriptorIndex := 103, attributes := #[] }, { accessFlags := 1, nameIndex := 476, descriptorIndex := 103, attributes := #[] }, { accessFlags := 1, nameIndex := 45, descriptorIndex := 292, attributes := #[] }, { accessFlags := 1, nameIndex := 302, descriptorIndex := 303, attributes := #[] }, { accessFlags := 16, nameIndex := 85, descriptorIndex := 86, attributes := #[] }] 1056 4 #[444, 48] #[{ accessFlags := 0, nameIndex := 17, descriptorIndex := 14, attributes := #[] }, { accessFlags := 0, nameIndex := 24, descriptorIndex := 25, attributes := #[] }, { accessFlags := 0, nameIndex := 75, descriptorIndex := 21, attributes := #[] }, { accessFlags := 0, nameIndex := 81, descriptorIndex := 82, attributes := #[] }, { accessFlags := 26, nameIndex := 13, descriptorIndex := 14, attributes := #[] }])
  fields := #[{ name := "value", type := (.array .byte), accessFlags := 0, slot := 0, constantValue := 0 }, { name := "coder", type := .byte, accessFlags := 0, slot := 1, constantValue := 0 }, { name := "maybeLatin1", type := .boolean, accessFlags := 0, slot := 2, constantValue := 0 }, { name := "count", type := .int, accessFlags := 0, slot := 3, constantValue := 0 }, { name := "EMPTYVALUE", type := (.array .byte), accessFlags := 26, slot := 0, constantValue := 0 }]
  methods := #[k6m0, k6m1, k6m2, k6m3, k6m4, k6m5, k6m6, k6m7]
  instanceTypes := #[(.array .byte), .byte, .boolean, .int]
  staticTypes := #[(.array .byte)]
  resolved := Array.replicate 609 none
  statics := none }

def pool7 : Array CpInfo := pool [(1, .class_ 2), (0, u "java/io/Serializable"), (0, .class_ 4), (0, u "java/lang/Object")] 2

/-- java/io/Serializable -/
def k7 : Class := { plain "java/io/Serializable" (some 0) with
  accessFlags := 1537
  interfaces := #[]
  cf := some (fileOf pool7 1 #[] #[] 1537 3 #[] #[])
  fields := #[]
  methods := #[]
  instanceTypes := #[]
  staticTypes := #[]
  resolved := Array.replicate 7 none
  statics := none }

def pool8 : Array CpInfo := pool [(1, .class_ 2), (0, u "java/lang/Comparable"), (0, .class_ 4), (0, u "java/lang/Object")] 7

/-- java/lang/Comparable -/
def k8 : Class := { plain "java/lang/Comparable" (some 0) with
  accessFlags := 1537
  interfaces := #[]
  cf := some (fileOf pool8 1 #[] #[] 1537 3 #[] #[])
  fields := #[]
  methods := #[]
  instanceTypes := #[]
  staticTypes := #[]
  resolved := Array.replicate 12 none
  statics := none }

def pool9 : Array CpInfo := pool [(1, .methodref 2 3), (0, .class_ 4), (0, .nameAndType 5 6), (0, u "java/lang/AbstractStringBuilder"), (0, u "<init>"), (0, u "(I)V"), (17, .class_ 26), (1, u "java/lang/StringBuilder"), (0, u "append"), (22, .methodref 2 51), (0, .nameAndType 27 52), (0, u "(C)Ljava/lang/AbstractStringBuilder;"), (92, u "()V"), (10, u "()I"), (95, .methodref 2 253), (0, .nameAndType 254 255), (0, u "substring"), (0, u "(II)Ljava/lang/String;"), (30, u "(C)Ljava/lang/StringBuilder;"), (46, .methodref 2 334), (0, .nameAndType 335 6), (0, u "setLength"), (7, .methodref 2 344), (0, .nameAndType 345 156), (0, u "length"), (3, .class_ 350), (0, u "java/lang/Appendable"), (0, .class_ 352), (0, u "java/io/Serializable"), (0, .class_ 354), (0, u "java/lang/Comparable"), (0, .class_ 356), (0, u "java/lang/CharSequence"), (0, u "serialVersionUID"), (0, u "J")] 63

def k9c0 : Code := { maxStack := 2, maxLocals := 1, code := jdk_67_method_1_code, exceptionTable := #[], attributes := #[] }
def k9m0 : Method := { name := "<init>", desc := "()V", sig := { parameters := [], returnType := none }, accessFlags := 1, code := some k9c0 }
def k9c1 : Code := { maxStack := 2, maxLocals := 2, code := jdk_67_method_14_code, exceptionTable := #[], attributes := #[] }
def k9m1 : Method := { name := "append", desc := "(C)Ljava/lang/StringBuilder;", sig := { parameters := [.char], returnType := some (.object "java/lang/StringBuilder") }, accessFlags := 1, code := some k9c1 }
def k9c2 : Code := { maxStack := 3, maxLocals := 3, code := jdk_67_method_62_code, exceptionTable := #[], attributes := #[] }
def k9m2 : Method := { name := "substring", desc := "(II)Ljava/lang/String;", sig := { parameters := [.int, .int], returnType := some (.object "java/lang/String") }, accessFlags := 4161, code := some k9c2 }
def k9c3 : Code := { maxStack := 2, maxLocals := 2, code := jdk_67_method_89_code, exceptionTable := #[], attributes := #[] }
def k9m3 : Method := { name := "setLength", desc := "(I)V", sig := { parameters := [.int], returnType := none }, accessFlags := 4161, code := some k9c3 }
def k9c4 : Code := { maxStack := 1, maxLocals := 1, code := jdk_67_method_93_code, exceptionTable := #[], attributes := #[] }
def k9m4 : Method := { name := "length", desc := "()I", sig := { parameters := [], returnType := some .int }, accessFlags := 4161, code := some k9c4 }
/-- java/lang/StringBuilder -/
def k9 : Class := { plain "java/lang/StringBuilder" (some 6) with
  accessFlags := 49
  interfaces := #[4, 7, 8, 5]
  cf := some (fileOf pool9 24 #[] #[{ accessFlags := 1, nameIndex := 5, descriptorIndex := 145, attributes := #[] }, { accessFlags := 1, nameIndex := 27, descriptorIndex := 286, attributes := #[] }, { accessFlags := 4161, nameIndex := 254, descriptorIndex := 255, attributes := #[] }, { accessFlags := 4161, nameIndex := 335, descriptorIndex := 6, attributes := #[] }, { accessFlags := 4161, nameIndex := 345, descriptorIndex := 156, attributes := #[] }] 49 2 #[349, 351, 353, 355] #[{ accessFlags := 24, nameIndex := 357, descriptorIndex := 358, attributes := #[] }])
  fields := #[{ name := "serialVersionUID", type := .long, accessFlags := 24, slot := 0, constantValue := 0 }]
  methods := #[k9m0, k9m1, k9m2, k9m3, k9m4]
  instanceTypes := #[(.array .byte), .byte, .boolean, .int]
  staticTypes := #[.long]
  resolved := Array.replicate 422 none
  statics := none }

def pool10 : Array CpInfo := pool [(1, .class_ 2), (0, u "java/lang/constant/Constable"), (0, .class_ 4), (0, u "java/lang/Object")] 6

/-- java/lang/constant/Constable -/
def k10 : Class := { plain "java/lang/constant/Constable" (some 0) with
  accessFlags := 1537
  interfaces := #[]
  cf := some (fileOf pool10 1 #[] #[] 1537 3 #[] #[])
  fields := #[]
  methods := #[]
  instanceTypes := #[]
  staticTypes := #[]
  resolved := Array.replicate 11 none
  statics := none }

def pool11 : Array CpInfo := pool [(1, .class_ 2), (0, u "java/lang/constant/ConstantDesc"), (0, .class_ 4), (0, u "java/lang/Object")] 32

/-- java/lang/constant/ConstantDesc -/
def k11 : Class := { plain "java/lang/constant/ConstantDesc" (some 0) with
  accessFlags := 1537
  interfaces := #[]
  cf := some (fileOf pool11 1 #[] #[] 1537 3 #[] #[])
  fields := #[]
  methods := #[]
  instanceTypes := #[]
  staticTypes := #[]
  resolved := Array.replicate 37 none
  statics := none }

def pool12 : Array CpInfo := pool [(1, .methodref 2 3), (0, .class_ 4), (0, .nameAndType 5 6), (0, u "java/lang/Object"), (0, u "<init>"), (0, u "()V"), (2, .fieldref 10 11), (0, .class_ 12), (0, .nameAndType 13 14), (0, u "java/lang/String"), (0, u "value"), (0, u "[B"), (0, .fieldref 10 16), (0, .nameAndType 17 18), (0, u "coder"), (0, u "B"), (2, u "hash"), (0, u "I"), (2, u "hashIsZero"), (0, u "Z"), (11, .fieldref 10 39), (0, .nameAndType 40 26), (0, u "COMPACT_STRINGS"), (170, u "([BB)V"), (122, u "()I"), (0, .methodref 10 336), (0, .nameAndType 17 337), (0, u "()B"), (169, u "length"), (67, .class_ 576), (0, u "java/lang/CharSequence"), (22, u "CASE_INSENSITIVE_ORDER"), (0, u "Ljava/util/Comparator;"), (500, u "serialPersistentFields"), (0, u "[Ljava/io/ObjectStreamField;"), (0, .class_ 1104), (0, u "java/lang/String$CaseInsensitiveComparator"), (1, .class_ 1107), (0, u "java/io/Serializable"), (0, .class_ 1109), (0, u "java/lang/Comparable"), (0, .class_ 1111), (0, u "java/lang/constant/Constable"), (0, .class_ 1113), (0, u "java/lang/constant/ConstantDesc"), (2, u "serialVersionUID"), (0, u "J"), (3, u "REPL"), (0, u "C"), (2, u "LATIN1"), (1, u "UTF16")] 323

def k12m0 : Method := { name := "<init>", desc := "()V", sig := { parameters := [], returnType := none }, accessFlags := 1, code := none }
def k12c1 : Code := { maxStack := 2, maxLocals := 1, code := jdk_42_method_54_code, exceptionTable := #[], attributes := #[] }
def k12m1 : Method := { name := "length", desc := "()I", sig := { parameters := [], returnType := some .int }, accessFlags := 1, code := some k12c1 }
def k12c2 : Code := { maxStack := 2, maxLocals := 3, code := jdk_42_method_151_code, exceptionTable := #[], attributes := #[] }
def k12m2 : Method := { name := "<init>", desc := "([BB)V", sig := { parameters := [(.array .byte), .byte], returnType := none }, accessFlags := 0, code := some k12c2 }
def k12c3 : Code := { maxStack := 1, maxLocals := 1, code := jdk_42_method_152_code, exceptionTable := #[], attributes := #[] }
def k12m3 : Method := { name := "coder", desc := "()B", sig := { parameters := [], returnType := some .byte }, accessFlags := 0, code := some k12c3 }
/-- java/lang/String -/
def k12 : Class := { plain "java/lang/String" (some 0) with
  accessFlags := 49
  interfaces := #[7, 8, 5, 10, 11]
  cf := some (fileOf pool12 10 #[.nestMembers #[1103]] #[{ accessFlags := 1, nameIndex := 5, descriptorIndex := 6, attributes := #[] }, { accessFlags := 1, nameIndex := 507, descriptorIndex := 334, attributes := #[] }, { accessFlags := 0, nameIndex := 5, descriptorIndex := 211, attributes := #[] }, { accessFlags := 0, nameIndex := 17, descriptorIndex := 337, attributes := #[] }] 49 2 #[1106, 1108, 575, 1110, 1112] #[{ accessFlags := 18, nameIndex := 13, descriptorIndex := 14, attributes := #[] }, { accessFlags := 18, nameIndex := 17, descriptorIndex := 18, attributes := #[] }, { accessFlags := 2, nameIndex := 21, descriptorIndex := 22, attributes := #[] }, { accessFlags := 2, nameIndex := 25, descriptorIndex := 26, attributes := #[] }, { accessFlags := 26, nameIndex := 1116, descriptorIndex := 1117, attributes := #[] }, { accessFlags := 24, nameIndex := 40, descriptorIndex := 26, attributes := #[] }, { accessFlags := 26, nameIndex := 1101, descriptorIndex := 1102, attributes := #[] }, { accessFlags := 26, nameIndex := 1121, descriptorIndex := 1122, attributes := #[] }, { accessFlags := 25, nameIndex := 599, descriptorIndex := 600, attributes := #[] }, { accessFlags := 24, nameIndex := 1125, descriptorIndex := 18, attributes := #[] }, { accessFlags := 24, nameIndex := 1127, descriptorIndex := 18, attributes := #[] }])
  fields := #[{ name := "value", type := (.array .byte), accessFlags := 18, slot := 0, constantValue := 0 }, { name := "coder", type := .byte, accessFlags := 18, slot := 1, constantValue := 0 }, { name := "hash", type := .int, accessFlags := 2, slot := 2, constantValue := 0 }, { name := "hashIsZero", type := .boolean, accessFlags := 2, slot := 3, constantValue := 0 }, { name := "serialVersionUID", type := .long, accessFlags := 26, slot := 0, constantValue := 0 }, { name := "COMPACT_STRINGS", type := .boolean, accessFlags := 24, slot := 1, constantValue := 0 }, { name := "serialPersistentFields", type := (.array (.object "java/io/ObjectStreamField")), accessFlags := 26, slot := 2, constantValue := 0 }, { name := "REPL", type := .char, accessFlags := 26, slot := 3, constantValue := 0 }, { name := "CASE_INSENSITIVE_ORDER", type := (.object "java/util/Comparator"), accessFlags := 25, slot := 4, constantValue := 0 }, { name := "LATIN1", type := .byte, accessFlags := 24, slot := 5, constantValue := 0 }, { name := "UTF16", type := .byte, accessFlags := 24, slot := 6, constantValue := 0 }]
  methods := #[k12m0, k12m1, k12m2, k12m3]
  instanceTypes := #[(.array .byte), .byte, .int, .boolean]
  staticTypes := #[.long, .boolean, (.array (.object "java/io/ObjectStreamField")), .char, (.object "java/util/Comparator"), .byte, .byte]
  resolved := Array.replicate 1451 none
  statics := some 0 }

def pool13 : Array CpInfo := pool [(2, .class_ 4), (1, u "java/lang/Enum"), (0, u "name"), (0, u "Ljava/lang/String;"), (2, u "ordinal"), (0, u "I"), (1, .class_ 14), (1, u "java/lang/Object"), (4, u "hash"), (86, .class_ 108), (1, u "java/lang/Enum$EnumDesc"), (2, .class_ 112), (0, u "java/lang/constant/Constable"), (0, .class_ 114), (0, u "java/lang/Comparable"), (0, .class_ 116), (0, u "java/io/Serializable")] 87

/-- java/lang/Enum -/
def k13 : Class := { plain "java/lang/Enum" (some 0) with
  accessFlags := 1057
  interfaces := #[10, 8, 7]
  cf := some (fileOf pool13 2 #[.nestMembers #[106]] #[] 1057 12 #[111, 113, 115] #[{ accessFlags := 18, nameIndex := 5, descriptorIndex := 6, attributes := #[] }, { accessFlags := 18, nameIndex := 9, descriptorIndex := 10, attributes := #[] }, { accessFlags := 2, nameIndex := 19, descriptorIndex := 10, attributes := #[] }])
  fields := #[{ name := "name", type := (.object "java/lang/String"), accessFlags := 18, slot := 0, constantValue := 0 }, { name := "ordinal", type := .int, accessFlags := 18, slot := 1, constantValue := 0 }, { name := "hash", type := .int, accessFlags := 2, slot := 2, constantValue := 0 }]
  methods := #[]
  instanceTypes := #[(.object "java/lang/String"), .int, .int]
  staticTypes := #[]
  resolved := Array.replicate 204 none
  statics := none }

def pool14 : Array CpInfo := pool [(1, .class_ 2), (0, u "com/example/colonnade/colonnade/Item$Kind"), (2, u "STATEMENT"), (0, u "Lcom/example/colonnade/colonnade/Item$Kind;"), (2, u "COMMAND"), (2, u "DATA"), (2, u "$VALUES"), (0, u "[Lcom/example/colonnade/colonnade/Item$Kind;"), (6, .class_ 25), (1, u "java/lang/Enum"), (8, u "jsonName"), (0, u "Ljava/lang/String;"), (30, .class_ 67), (0, u "com/example/colonnade/colonnade/Item")] 2

/-- com/example/colonnade/colonnade/Item$Kind -/
def k14 : Class := { plain "com/example/colonnade/colonnade/Item$Kind" (some 13) with
  accessFlags := 16433
  interfaces := #[]
  cf := some (fileOf pool14 1 #[.nestHost 66] #[] 16433 23 #[] #[{ accessFlags := 16409, nameIndex := 5, descriptorIndex := 6, attributes := #[] }, { accessFlags := 16409, nameIndex := 9, descriptorIndex := 6, attributes := #[] }, { accessFlags := 16409, nameIndex := 12, descriptorIndex := 6, attributes := #[] }, { accessFlags := 18, nameIndex := 34, descriptorIndex := 35, attributes := #[] }, { accessFlags := 4122, nameIndex := 15, descriptorIndex := 16, attributes := #[] }])
  fields := #[{ name := "STATEMENT", type := (.object "com/example/colonnade/colonnade/Item$Kind"), accessFlags := 16409, slot := 0, constantValue := 0 }, { name := "COMMAND", type := (.object "com/example/colonnade/colonnade/Item$Kind"), accessFlags := 16409, slot := 1, constantValue := 0 }, { name := "DATA", type := (.object "com/example/colonnade/colonnade/Item$Kind"), accessFlags := 16409, slot := 2, constantValue := 0 }, { name := "jsonName", type := (.object "java/lang/String"), accessFlags := 18, slot := 3, constantValue := 0 }, { name := "$VALUES", type := (.array (.object "com/example/colonnade/colonnade/Item$Kind")), accessFlags := 4122, slot := 3, constantValue := 0 }]
  methods := #[]
  instanceTypes := #[(.object "java/lang/String"), .int, .int, (.object "java/lang/String")]
  staticTypes := #[(.object "com/example/colonnade/colonnade/Item$Kind"), (.object "com/example/colonnade/colonnade/Item$Kind"), (.object "com/example/colonnade/colonnade/Item$Kind"), (.array (.object "com/example/colonnade/colonnade/Item$Kind"))]
  resolved := Array.replicate 70 none
  statics := some 1 }

def pool15 : Array CpInfo := pool [(1, .methodref 2 3), (0, .class_ 4), (0, .nameAndType 5 6), (0, u "java/lang/Object"), (0, u "<init>"), (0, u "()V"), (0, .class_ 8), (0, u "java/lang/Record")] 13

def k15c0 : Code := { maxStack := 1, maxLocals := 1, code := jdk_30_method_1_code, exceptionTable := #[], attributes := #[] }
def k15m0 : Method := { name := "<init>", desc := "()V", sig := { parameters := [], returnType := none }, accessFlags := 4, code := some k15c0 }
/-- java/lang/Record -/
def k15 : Class := { plain "java/lang/Record" (some 0) with
  accessFlags := 1057
  interfaces := #[]
  cf := some (fileOf pool15 7 #[] #[{ accessFlags := 4, nameIndex := 5, descriptorIndex := 6, attributes := #[] }] 1057 2 #[] #[])
  fields := #[]
  methods := #[k15m0]
  instanceTypes := #[]
  staticTypes := #[]
  resolved := Array.replicate 22 none
  statics := none }

def pool16 : Array CpInfo := pool [(1, .methodref 2 3), (0, .class_ 4), (0, .nameAndType 5 6), (0, u "java/lang/Record"), (0, u "<init>"), (0, u "()V"), (0, .fieldref 8 9), (0, .class_ 10), (0, .nameAndType 11 12), (0, u "com/example/colonnade/colonnade/SpooledItem"), (0, u "kind"), (0, u "Lcom/example/colonnade/colonnade/Item$Kind;"), (0, .fieldref 8 14), (0, .nameAndType 15 16), (0, u "line"), (0, u "J"), (0, .fieldref 8 18), (0, .nameAndType 19 16), (0, u "column"), (0, .fieldref 8 21), (0, .nameAndType 22 16), (0, u "start"), (0, .fieldref 8 24), (0, .nameAndType 25 16), (0, u "end"), (0, .fieldref 8 27), (0, .nameAndType 28 29), (0, u "text"), (0, u "Lcom/example/colonnade/colonnade/SpooledText;"), (32, u "(Lcom/example/colonnade/colonnade/Item$Kind;JJJJLcom/example/colonnade/colonnade/SpooledText;)V"), (9, u "()J")] 29

def k16c0 : Code := { maxStack := 3, maxLocals := 11, code := prog_89_method_1_code, exceptionTable := #[], attributes := #[] }
def k16m0 : Method := { name := "<init>", desc := "(Lcom/example/colonnade/colonnade/Item$Kind;JJJJLcom/example/colonnade/colonnade/SpooledText;)V", sig := { parameters := [(.object "com/example/colonnade/colonnade/Item$Kind"), .long, .long, .long, .long, (.object "com/example/colonnade/colonnade/SpooledText")], returnType := none }, accessFlags := 0, code := some k16c0 }
def k16c1 : Code := { maxStack := 2, maxLocals := 1, code := prog_89_method_7_code, exceptionTable := #[], attributes := #[] }
def k16m1 : Method := { name := "line", desc := "()J", sig := { parameters := [], returnType := some .long }, accessFlags := 1, code := some k16c1 }
def k16c2 : Code := { maxStack := 2, maxLocals := 1, code := prog_89_method_8_code, exceptionTable := #[], attributes := #[] }
def k16m2 : Method := { name := "column", desc := "()J", sig := { parameters := [], returnType := some .long }, accessFlags := 1, code := some k16c2 }
def k16c3 : Code := { maxStack := 2, maxLocals := 1, code := prog_89_method_9_code, exceptionTable := #[], attributes := #[] }
def k16m3 : Method := { name := "start", desc := "()J", sig := { parameters := [], returnType := some .long }, accessFlags := 1, code := some k16c3 }
def k16c4 : Code := { maxStack := 2, maxLocals := 1, code := prog_89_method_10_code, exceptionTable := #[], attributes := #[] }
def k16m4 : Method := { name := "end", desc := "()J", sig := { parameters := [], returnType := some .long }, accessFlags := 1, code := some k16c4 }
/-- com/example/colonnade/colonnade/SpooledItem -/
def k16 : Class := { plain "com/example/colonnade/colonnade/SpooledItem" (some 15) with
  accessFlags := 48
  interfaces := #[]
  cf := some (fileOf pool16 8 #[] #[{ accessFlags := 0, nameIndex := 5, descriptorIndex := 62, attributes := #[] }, { accessFlags := 1, nameIndex := 15, descriptorIndex := 72, attributes := #[] }, { accessFlags := 1, nameIndex := 19, descriptorIndex := 72, attributes := #[] }, { accessFlags := 1, nameIndex := 22, descriptorIndex := 72, attributes := #[] }, { accessFlags := 1, nameIndex := 25, descriptorIndex := 72, attributes := #[] }] 48 2 #[] #[{ accessFlags := 18, nameIndex := 11, descriptorIndex := 12, attributes := #[] }, { accessFlags := 18, nameIndex := 15, descriptorIndex := 16, attributes := #[] }, { accessFlags := 18, nameIndex := 19, descriptorIndex := 16, attributes := #[] }, { accessFlags := 18, nameIndex := 22, descriptorIndex := 16, attributes := #[] }, { accessFlags := 18, nameIndex := 25, descriptorIndex := 16, attributes := #[] }, { accessFlags := 18, nameIndex := 28, descriptorIndex := 29, attributes := #[] }])
  fields := #[{ name := "kind", type := (.object "com/example/colonnade/colonnade/Item$Kind"), accessFlags := 18, slot := 0, constantValue := 0 }, { name := "line", type := .long, accessFlags := 18, slot := 1, constantValue := 0 }, { name := "column", type := .long, accessFlags := 18, slot := 2, constantValue := 0 }, { name := "start", type := .long, accessFlags := 18, slot := 3, constantValue := 0 }, { name := "end", type := .long, accessFlags := 18, slot := 4, constantValue := 0 }, { name := "text", type := (.object "com/example/colonnade/colonnade/SpooledText"), accessFlags := 18, slot := 5, constantValue := 0 }]
  methods := #[k16m0, k16m1, k16m2, k16m3, k16m4]
  instanceTypes := #[(.object "com/example/colonnade/colonnade/Item$Kind"), .long, .long, .long, .long, (.object "com/example/colonnade/colonnade/SpooledText")]
  staticTypes := #[]
  resolved := Array.replicate 102 none
  statics := none }

def pool17 : Array CpInfo := pool [(1, .class_ 2), (0, u "java/lang/AutoCloseable"), (0, .class_ 4), (0, u "java/lang/Object")] 7

/-- java/lang/AutoCloseable -/
def k17 : Class := { plain "java/lang/AutoCloseable" (some 0) with
  accessFlags := 1537
  interfaces := #[]
  cf := some (fileOf pool17 1 #[] #[] 1537 3 #[] #[])
  fields := #[]
  methods := #[]
  instanceTypes := #[]
  staticTypes := #[]
  resolved := Array.replicate 12 none
  statics := none }

def pool18 : Array CpInfo := pool [(1, .methodref 2 3), (0, .class_ 4), (0, .nameAndType 5 6), (0, u "java/lang/Object"), (0, u "<init>"), (0, u "()V"), (0, .fieldref 8 9), (0, .class_ 10), (0, .nameAndType 11 12), (0, u "com/example/colonnade/colonnade/SpooledText"), (0, u "text"), (0, u "Ljava/lang/String;"), (0, .fieldref 8 14), (0, .nameAndType 15 16), (0, u "file"), (0, u "Lcom/example/colonnade/colonnade/SpoolFile;"), (0, .methodref 18 19), (0, .class_ 20), (0, .nameAndType 21 22), (0, u "java/lang/String"), (0, u "length"), (0, u "()I"), (0, .fieldref 8 24), (0, .nameAndType 21 25), (0, u "J"), (4, u "(Ljava/lang/String;)V"), (43, .class_ 75), (0, u "java/lang/AutoCloseable")] 12

def k18c0 : Code := { maxStack := 3, maxLocals := 2, code := prog_90_method_1_code, exceptionTable := #[], attributes := #[] }
def k18m0 : Method := { name := "<init>", desc := "(Ljava/lang/String;)V", sig := { parameters := [(.object "java/lang/String")], returnType := none }, accessFlags := 0, code := some k18c0 }
/-- com/example/colonnade/colonnade/SpooledText -/
def k18 : Class := { plain "com/example/colonnade/colonnade/SpooledText" (some 0) with
  accessFlags := 48
  interfaces := #[17]
  cf := some (fileOf pool18 8 #[] #[{ accessFlags := 0, nameIndex := 5, descriptorIndex := 30, attributes := #[] }] 48 2 #[74] #[{ accessFlags := 18, nameIndex := 11, descriptorIndex := 12, attributes := #[] }, { accessFlags := 18, nameIndex := 15, descriptorIndex := 16, attributes := #[] }, { accessFlags := 18, nameIndex := 21, descriptorIndex := 25, attributes := #[] }])
  fields := #[{ name := "text", type := (.object "java/lang/String"), accessFlags := 18, slot := 0, constantValue := 0 }, { name := "file", type := (.object "com/example/colonnade/colonnade/SpoolFile"), accessFlags := 18, slot := 1, constantValue := 0 }, { name := "length", type := .long, accessFlags := 18, slot := 2, constantValue := 0 }]
  methods := #[k18m0]
  instanceTypes := #[(.object "java/lang/String"), (.object "com/example/colonnade/colonnade/SpoolFile"), .long]
  staticTypes := #[]
  resolved := Array.replicate 88 none
  statics := none }

def pool19 : Array CpInfo := pool [(2, .class_ 4), (1, u "java/lang/Object"), (0, u "<init>"), (0, u "()V"), (17, .class_ 26), (1, u "jdk/internal/util/Preconditions"), (20, u "checkFromToIndex"), (7, .class_ 56), (0, u "jdk/internal/util/Preconditions$4"), (57, .class_ 115), (0, u "jdk/internal/util/Preconditions$1"), (7, u "SIOOBE_FORMATTER"), (0, u "Ljava/util/function/BiFunction;"), (0, .class_ 126), (0, u "jdk/internal/util/Preconditions$2"), (3, u "AIOOBE_FORMATTER"), (0, .class_ 132), (0, u "jdk/internal/util/Preconditions$3"), (3, u "IOOBE_FORMATTER"), (46, u "(IIILjava/util/function/BiFunction;)I")] 10

def k19m0 : Method := { name := "<init>", desc := "()V", sig := { parameters := [], returnType := none }, accessFlags := 1, code := none }
def k19c1 : Code := { maxStack := 4, maxLocals := 4, code := jdk_41_method_12_code, exceptionTable := #[], attributes := #[] }
def k19m1 : Method := { name := "checkFromToIndex", desc := "(IIILjava/util/function/BiFunction;)I", sig := { parameters := [.int, .int, .int, (.object "java/util/function/BiFunction")], returnType := some .int }, accessFlags := 9, code := some k19c1 }
/-- jdk/internal/util/Preconditions -/
def k19 : Class := { plain "jdk/internal/util/Preconditions" (some 0) with
  accessFlags := 33
  interfaces := #[]
  cf := some (fileOf pool19 24 #[.nestMembers #[55, 131, 125, 114]] #[{ accessFlags := 1, nameIndex := 5, descriptorIndex := 6, attributes := #[] }, { accessFlags := 9, nameIndex := 47, descriptorIndex := 183, attributes := #[] }] 33 2 #[] #[{ accessFlags := 25, nameIndex := 123, descriptorIndex := 124, attributes := #[] }, { accessFlags := 25, nameIndex := 130, descriptorIndex := 124, attributes := #[] }, { accessFlags := 25, nameIndex := 136, descriptorIndex := 124, attributes := #[] }])
  fields := #[{ name := "SIOOBE_FORMATTER", type := (.object "java/util/function/BiFunction"), accessFlags := 25, slot := 0, constantValue := 0 }, { name := "AIOOBE_FORMATTER", type := (.object "java/util/function/BiFunction"), accessFlags := 25, slot := 1, constantValue := 0 }, { name := "IOOBE_FORMATTER", type := (.object "java/util/function/BiFunction"), accessFlags := 25, slot := 2, constantValue := 0 }]
  methods := #[k19m0, k19m1]
  instanceTypes := #[]
  staticTypes := #[(.object "java/util/function/BiFunction"), (.object "java/util/function/BiFunction"), (.object "java/util/function/BiFunction")]
  resolved := Array.replicate 194 none
  statics := some 2 }

def pool20 : Array CpInfo := pool [(1, .class_ 2), (0, u "java/lang/String"), (1, .class_ 6), (1, u "java/lang/Object"), (0, u "<init>"), (0, u "()V"), (5, .class_ 16), (1, u "java/lang/StringLatin1"), (73, u "canEncode"), (14, u "(C)Z"), (6, .methodref 1 113), (0, .nameAndType 7 114), (0, u "([BB)V"), (6, u "$assertionsDisabled"), (0, u "Z"), (8, .class_ 133), (1, u "java/util/Arrays"), (17, .string 152), (0, u ""), (43, u "newString"), (0, u "([BII)Ljava/lang/String;"), (23, .class_ 223), (1, u "java/lang/StringLatin1$LinesSpliterator"), (8, .methodref 131 233), (0, .nameAndType 234 235), (0, u "copyOfRange"), (0, u "([BII)[B"), (154, .class_ 391), (0, u "java/lang/StringLatin1$CharsSpliterator")] 3

def k20m0 : Method := { name := "<init>", desc := "()V", sig := { parameters := [], returnType := none }, accessFlags := 0, code := none }
def k20c1 : Code := { maxStack := 2, maxLocals := 1, code := jdk_43_method_3_code, exceptionTable := #[], attributes := #[] }
def k20m1 : Method := { name := "canEncode", desc := "(C)Z", sig := { parameters := [.char], returnType := some .boolean }, accessFlags := 9, code := some k20c1 }
def k20c2 : Code := { maxStack := 6, maxLocals := 3, code := jdk_43_method_47_code, exceptionTable := #[], attributes := #[] }
def k20m2 : Method := { name := "newString", desc := "([BII)Ljava/lang/String;", sig := { parameters := [(.array .byte), .int, .int], returnType := some (.object "java/lang/String") }, accessFlags := 9, code := some k20c2 }
/-- java/lang/StringLatin1 -/
def k20 : Class := { plain "java/lang/StringLatin1" (some 0) with
  accessFlags := 48
  interfaces := #[]
  cf := some (fileOf pool20 14 #[.nestMembers #[390, 221]] #[{ accessFlags := 0, nameIndex := 7, descriptorIndex := 8, attributes := #[] }, { accessFlags := 9, nameIndex := 90, descriptorIndex := 105, attributes := #[] }, { accessFlags := 9, nameIndex := 196, descriptorIndex := 197, attributes := #[] }] 48 4 #[] #[{ accessFlags := 4120, nameIndex := 121, descriptorIndex := 122, attributes := #[] }])
  fields := #[{ name := "$assertionsDisabled", type := .boolean, accessFlags := 4120, slot := 0, constantValue := 0 }]
  methods := #[k20m0, k20m1, k20m2]
  instanceTypes := #[]
  staticTypes := #[.boolean]
  resolved := Array.replicate 395 none
  statics := none }

def pool21 : Array CpInfo := pool [(2, .class_ 4), (1, u "java/lang/Object"), (0, u "<init>"), (0, u "()V"), (7, .class_ 16), (1, u "java/util/Arrays"), (57, .class_ 76), (1, u "java/util/Arrays$NaturalOrder"), (36, .class_ 115), (1, u "java/util/Arrays$LegacyMergeSort"), (1, u "Z"), (21, u "copyOfRange"), (10, .methodref 151 152), (0, .class_ 153), (0, .nameAndType 154 155), (0, u "java/lang/System"), (0, u "arraycopy"), (0, u "(Ljava/lang/Object;ILjava/lang/Object;II)V"), (148, .methodref 305 306), (0, .class_ 307), (0, .nameAndType 308 309), (0, u "java/lang/Math"), (0, u "min"), (0, u "(II)I"), (29, .methodref 14 340), (0, .nameAndType 341 342), (0, u "copyOfRangeByte"), (0, u "([BII)[B"), (0, .methodref 14 344), (0, .nameAndType 345 346), (0, u "checkLength"), (0, u "(II)V"), (28, .class_ 376), (0, u "java/util/Arrays$ArrayList"), (68, u "$assertionsDisabled"), (269, u "MIN_ARRAY_SORT_GRAN"), (0, u "I"), (2, u "INSERTIONSORT_THRESHOLD"), (255, .class_ 976), (0, u "java/util/Arrays$ArrayItr")] 52

def k21m0 : Method := { name := "<init>", desc := "()V", sig := { parameters := [], returnType := none }, accessFlags := 2, code := none }
def k21c1 : Code := { maxStack := 4, maxLocals := 2, code := jdk_65_method_131_code, exceptionTable := #[], attributes := #[] }
def k21m1 : Method := { name := "checkLength", desc := "(II)V", sig := { parameters := [.int, .int], returnType := none }, accessFlags := 10, code := some k21c1 }
def k21c2 : Code := { maxStack := 3, maxLocals := 3, code := jdk_65_method_132_code, exceptionTable := #[], attributes := #[] }
def k21m2 : Method := { name := "copyOfRange", desc := "([BII)[B", sig := { parameters := [(.array .byte), .int, .int], returnType := some (.array .byte) }, accessFlags := 9, code := some k21c2 }
def k21c3 : Code := { maxStack := 6, maxLocals := 5, code := jdk_65_method_133_code, exceptionTable := #[], attributes := #[] }
def k21m3 : Method := { name := "copyOfRangeByte", desc := "([BII)[B", sig := { parameters := [(.array .byte), .int, .int], returnType := some (.array .byte) }, accessFlags := 10, code := some k21c3 }
/-- java/util/Arrays -/
def k21 : Class := { plain "java/util/Arrays" (some 0) with
  accessFlags := 49
  interfaces := #[]
  cf := some (fileOf pool21 14 #[.nestMembers #[975, 375, 113, 74]] #[{ accessFlags := 2, nameIndex := 5, descriptorIndex := 6, attributes := #[] }, { accessFlags := 10, nameIndex := 345, descriptorIndex := 346, attributes := #[] }, { accessFlags := 9, nameIndex := 139, descriptorIndex := 342, attributes := #[] }, { accessFlags := 10, nameIndex := 341, descriptorIndex := 342, attributes := #[] }] 49 2 #[] #[{ accessFlags := 26, nameIndex := 715, descriptorIndex := 716, attributes := #[] }, { accessFlags := 26, nameIndex := 719, descriptorIndex := 716, attributes := #[] }, { accessFlags := 4120, nameIndex := 445, descriptorIndex := 117, attributes := #[] }])
  fields := #[{ name := "MIN_ARRAY_SORT_GRAN", type := .int, accessFlags := 26, slot := 0, constantValue := 0 }, { name := "INSERTIONSORT_THRESHOLD", type := .int, accessFlags := 26, slot := 1, constantValue := 0 }, { name := "$assertionsDisabled", type := .boolean, accessFlags := 4120, slot := 2, constantValue := 0 }]
  methods := #[k21m0, k21m1, k21m2, k21m3]
  instanceTypes := #[]
  staticTypes := #[.int, .int, .boolean]
  resolved := Array.replicate 1029 none
  statics := none }

def pool22 : Array CpInfo := pool [(1, .class_ 2), (0, u "java/lang/Math"), (1, .class_ 6), (1, u "java/lang/Object"), (0, u "<init>"), (0, u "()V"), (89, .class_ 100), (1, u "java/lang/Math$RandomNumberGeneratorHolder"), (71, u "negativeZeroFloatBits"), (0, u "J"), (2, u "negativeZeroDoubleBits"), (24, u "min"), (43, u "$assertionsDisabled"), (0, u "Z"), (88, u "(II)I"), (2, u "twoToTheDoubleScaleDown"), (0, u "D"), (4, u "twoToTheDoubleScaleUp"), (9, u "E"), (3, u "PI"), (2, u "TAU"), (2, u "DEGREES_TO_RADIANS"), (0, u "RADIANS_TO_DEGREES")] 94

def k22m0 : Method := { name := "<init>", desc := "()V", sig := { parameters := [], returnType := none }, accessFlags := 2, code := none }
def k22c1 : Code := { maxStack := 2, maxLocals := 2, code := jdk_29_method_69_code, exceptionTable := #[], attributes := #[] }
def k22m1 : Method := { name := "min", desc := "(II)I", sig := { parameters := [.int, .int], returnType := some .int }, accessFlags := 9, code := some k22c1 }
/-- java/lang/Math -/
def k22 : Class := { plain "java/lang/Math" (some 0) with
  accessFlags := 49
  interfaces := #[]
  cf := some (fileOf pool22 1 #[.nestMembers #[98]] #[{ accessFlags := 2, nameIndex := 7, descriptorIndex := 8, attributes := #[] }, { accessFlags := 9, nameIndex := 201, descriptorIndex := 335, attributes := #[] }] 49 4 #[] #[{ accessFlags := 25, nameIndex := 354, descriptorIndex := 339, attributes := #[] }, { accessFlags := 25, nameIndex := 358, descriptorIndex := 339, attributes := #[] }, { accessFlags := 25, nameIndex := 361, descriptorIndex := 339, attributes := #[] }, { accessFlags := 26, nameIndex := 364, descriptorIndex := 339, attributes := #[] }, { accessFlags := 26, nameIndex := 365, descriptorIndex := 339, attributes := #[] }, { accessFlags := 26, nameIndex := 172, descriptorIndex := 173, attributes := #[] }, { accessFlags := 26, nameIndex := 176, descriptorIndex := 173, attributes := #[] }, { accessFlags := 8, nameIndex := 344, descriptorIndex := 339, attributes := #[] }, { accessFlags := 8, nameIndex := 338, descriptorIndex := 339, attributes := #[] }, { accessFlags := 4120, nameIndex := 245, descriptorIndex := 246, attributes := #[] }])
  fields := #[{ name := "E", type := .double, accessFlags := 25, slot := 0, constantValue := 0 }, { name := "PI", type := .double, accessFlags := 25, slot := 1, constantValue := 0 }, { name := "TAU", type := .double, accessFlags := 25, slot := 2, constantValue := 0 }, { name := "DEGREES_TO_RADIANS", type := .double, accessFlags := 26, slot := 3, constantValue := 0 }, { name := "RADIANS_TO_DEGREES", type := .double, accessFlags := 26, slot := 4, constantValue := 0 }, { name := "negativeZeroFloatBits", type := .long, accessFlags := 26, slot := 5, constantValue := 0 }, { name := "negativeZeroDoubleBits", type := .long, accessFlags := 26, slot := 6, constantValue := 0 }, { name := "twoToTheDoubleScaleUp", type := .double, accessFlags := 8, slot := 7, constantValue := 0 }, { name := "twoToTheDoubleScaleDown", type := .double, accessFlags := 8, slot := 8, constantValue := 0 }, { name := "$assertionsDisabled", type := .boolean, accessFlags := 4120, slot := 9, constantValue := 0 }]
  methods := #[k22m0, k22m1]
  instanceTypes := #[]
  staticTypes := #[.double, .double, .double, .double, .double, .long, .long, .double, .double, .boolean]
  resolved := Array.replicate 460 none
  statics := none }

def pool23 : Array CpInfo := pool [(2, .class_ 4), (1, u "java/lang/Object"), (0, u "<init>"), (0, u "()V"), (1, .class_ 10), (1, u "java/lang/System"), (0, u "allowSecurityManager"), (0, u "I"), (16, u "cons"), (0, u "Ljava/io/Console;"), (77, .class_ 110), (1, u "java/lang/System$CallersHolder"), (43, u "initialErrStream"), (0, u "Ljava/io/PrintStream;"), (19, u "security"), (0, u "Ljava/lang/SecurityManager;"), (31, .class_ 209), (0, u "java/lang/System$1"), (7, u "props"), (0, u "Ljava/util/Properties;"), (2, u "lineSeparator"), (0, u "Ljava/lang/String;"), (96, .class_ 321), (1, u "java/lang/System$LoggerFinder"), (5, .class_ 328), (0, u "java/lang/System$Logger"), (67, u "err"), (2, u "out"), (91, u "notSupportedJnuEncoding"), (15, u "in"), (17, u "initialIn"), (0, u "Ljava/io/InputStream;"), (35, u "bootLayer"), (0, u "Ljava/lang/ModuleLayer;"), (99, .class_ 664), (0, u "java/lang/System$2"), (9, u "NEVER"), (2, u "MAYBE"), (49, u "arraycopy"), (0, u "(Ljava/lang/Object;ILjava/lang/Object;II)V"), (72, .class_ 802), (0, u "java/lang/System$Logger$Level")] 31

def k23m0 : Method := { name := "<init>", desc := "()V", sig := { parameters := [], returnType := none }, accessFlags := 2, code := none }
def k23m1 : Method := { name := "arraycopy", desc := "(Ljava/lang/Object;ILjava/lang/Object;II)V", sig := { parameters := [(.object "java/lang/Object"), .int, (.object "java/lang/Object"), .int, .int], returnType := none }, accessFlags := 265, code := none }
/-- java/lang/System -/
def k23 : Class := { plain "java/lang/System" (some 0) with
  accessFlags := 49
  interfaces := #[]
  cf := some (fileOf pool23 8 #[.nestMembers #[319, 327, 801, 108, 663, 208]] #[{ accessFlags := 2, nameIndex := 5, descriptorIndex := 6, attributes := #[] }, { accessFlags := 265, nameIndex := 727, descriptorIndex := 728, attributes := #[] }] 49 2 #[] #[{ accessFlags := 25, nameIndex := 507, descriptorIndex := 526, attributes := #[] }, { accessFlags := 25, nameIndex := 399, descriptorIndex := 155, attributes := #[] }, { accessFlags := 25, nameIndex := 396, descriptorIndex := 155, attributes := #[] }, { accessFlags := 10, nameIndex := 525, descriptorIndex := 526, attributes := #[] }, { accessFlags := 26, nameIndex := 674, descriptorIndex := 12, attributes := #[] }, { accessFlags := 26, nameIndex := 677, descriptorIndex := 12, attributes := #[] }, { accessFlags := 10, nameIndex := 11, descriptorIndex := 12, attributes := #[] }, { accessFlags := 74, nameIndex := 175, descriptorIndex := 176, attributes := #[] }, { accessFlags := 10, nameIndex := 491, descriptorIndex := 222, attributes := #[] }, { accessFlags := 74, nameIndex := 29, descriptorIndex := 30, attributes := #[] }, { accessFlags := 74, nameIndex := 154, descriptorIndex := 155, attributes := #[] }, { accessFlags := 10, nameIndex := 217, descriptorIndex := 218, attributes := #[] }, { accessFlags := 10, nameIndex := 221, descriptorIndex := 222, attributes := #[] }, { accessFlags := 8, nameIndex := 562, descriptorIndex := 563, attributes := #[] }])
  fields := #[{ name := "in", type := (.object "java/io/InputStream"), accessFlags := 25, slot := 0, constantValue := 0 }, { name := "out", type := (.object "java/io/PrintStream"), accessFlags := 25, slot := 1, constantValue := 0 }, { name := "err", type := (.object "java/io/PrintStream"), accessFlags := 25, slot := 2, constantValue := 0 }, { name := "initialIn", type := (.object "java/io/InputStream"), accessFlags := 10, slot := 3, constantValue := 0 }, { name := "NEVER", type := .int, accessFlags := 26, slot := 4, constantValue := 0 }, { name := "MAYBE", type := .int, accessFlags := 26, slot := 5, constantValue := 0 }, { name := "allowSecurityManager", type := .int, accessFlags := 10, slot := 6, constantValue := 0 }, { name := "security", type := (.object "java/lang/SecurityManager"), accessFlags := 74, slot := 7, constantValue := 0 }, { name := "notSupportedJnuEncoding", type := (.object "java/lang/String"), accessFlags := 10, slot := 8, constantValue := 0 }, { name := "cons", type := (.object "java/io/Console"), accessFlags := 74, slot := 9, constantValue := 0 }, { name := "initialErrStream", type := (.object "java/io/PrintStream"), accessFlags := 74, slot := 10, constantValue := 0 }, { name := "props", type := (.object "java/util/Properties"), accessFlags := 10, slot := 11, constantValue := 0 }, { name := "lineSeparator", type := (.object "java/lang/String"), accessFlags := 10, slot := 12, constantValue := 0 }, { name := "bootLayer", type := (.object "java/lang/ModuleLayer"), accessFlags := 8, slot := 13, constantValue := 0 }]
  methods := #[k23m0, k23m1]
  instanceTypes := #[]
  staticTypes := #[(.object "java/io/InputStream"), (.object "java/io/PrintStream"), (.object "java/io/PrintStream"), (.object "java/io/InputStream"), .int, .int, .int, (.object "java/lang/SecurityManager"), (.object "java/lang/String"), (.object "java/io/Console"), (.object "java/io/PrintStream"), (.object "java/util/Properties"), (.object "java/lang/String"), (.object "java/lang/ModuleLayer")]
  resolved := Array.replicate 834 none
  statics := none }

def pool24 : Array CpInfo := pool [(9, u "<init>"), (6, .class_ 18), (1, u "java/lang/Object"), (0, u "()V"), (1, .class_ 23), (1, u "jdk/internal/util/ArraysSupport"), (0, u "LOG2_ARRAY_LONG_INDEX_SCALE"), (0, u "I"), (2, u "U"), (0, u "Ljdk/internal/misc/Unsafe;"), (8, u "BIG_ENDIAN"), (0, u "Z"), (8, u "LOG2_BYTE_BIT_SIZE"), (4, u "LOG2_ARRAY_INT_INDEX_SCALE"), (54, u "JLA"), (0, u "Ljdk/internal/access/JavaLangAccess;"), (11, u "LOG2_ARRAY_BOOLEAN_INDEX_SCALE"), (9, u "LOG2_ARRAY_BYTE_INDEX_SCALE"), (5, u "LOG2_ARRAY_CHAR_INDEX_SCALE"), (5, u "LOG2_ARRAY_SHORT_INDEX_SCALE"), (18, u "LOG2_ARRAY_FLOAT_INDEX_SCALE"), (24, u "LOG2_ARRAY_DOUBLE_INDEX_SCALE"), (89, u "T_BOOLEAN"), (2, u "T_CHAR"), (1, u "T_FLOAT"), (1, u "T_DOUBLE"), (1, u "T_BYTE"), (1, u "T_SHORT"), (1, u "T_INT"), (1, u "T_LONG"), (1, u "SOFT_MAX_ARRAY_LENGTH")] 83

def k24m0 : Method := { name := "<init>", desc := "()V", sig := { parameters := [], returnType := none }, accessFlags := 2, code := none }
/-- jdk/internal/util/ArraysSupport -/
def k24 : Class := { plain "jdk/internal/util/ArraysSupport" (some 0) with
  accessFlags := 33
  interfaces := #[]
  cf := some (fileOf pool24 21 #[] #[{ accessFlags := 2, nameIndex := 9, descriptorIndex := 19, attributes := #[] }] 33 16 #[] #[{ accessFlags := 24, nameIndex := 28, descriptorIndex := 29, attributes := #[] }, { accessFlags := 26, nameIndex := 38, descriptorIndex := 39, attributes := #[] }, { accessFlags := 25, nameIndex := 121, descriptorIndex := 25, attributes := #[] }, { accessFlags := 25, nameIndex := 131, descriptorIndex := 25, attributes := #[] }, { accessFlags := 25, nameIndex := 137, descriptorIndex := 25, attributes := #[] }, { accessFlags := 25, nameIndex := 143, descriptorIndex := 25, attributes := #[] }, { accessFlags := 25, nameIndex := 53, descriptorIndex := 25, attributes := #[] }, { accessFlags := 25, nameIndex := 24, descriptorIndex := 25, attributes := #[] }, { accessFlags := 25, nameIndex := 162, descriptorIndex := 25, attributes := #[] }, { accessFlags := 25, nameIndex := 187, descriptorIndex := 25, attributes := #[] }, { accessFlags := 26, nameIndex := 48, descriptorIndex := 25, attributes := #[] }, { accessFlags := 25, nameIndex := 277, descriptorIndex := 25, attributes := #[] }, { accessFlags := 25, nameIndex := 280, descriptorIndex := 25, attributes := #[] }, { accessFlags := 25, nameIndex := 282, descriptorIndex := 25, attributes := #[] }, { accessFlags := 25, nameIndex := 284, descriptorIndex := 25, attributes := #[] }, { accessFlags := 25, nameIndex := 286, descriptorIndex := 25, attributes := #[] }, { accessFlags := 25, nameIndex := 288, descriptorIndex := 25, attributes := #[] }, { accessFlags := 25, nameIndex := 290, descriptorIndex := 25, attributes := #[] }, { accessFlags := 25, nameIndex := 292, descriptorIndex := 25, attributes := #[] }, { accessFlags := 26, nameIndex := 108, descriptorIndex := 109, attributes := #[] }, { accessFlags := 25, nameIndex := 294, descriptorIndex := 25, attributes := #[] }])
  fields := #[{ name := "U", type := (.object "jdk/internal/misc/Unsafe"), accessFlags := 24, slot := 0, constantValue := 0 }, { name := "BIG_ENDIAN", type := .boolean, accessFlags := 26, slot := 1, constantValue := 0 }, { name := "LOG2_ARRAY_BOOLEAN_INDEX_SCALE", type := .int, accessFlags := 25, slot := 2, constantValue := 0 }, { name := "LOG2_ARRAY_BYTE_INDEX_SCALE", type := .int, accessFlags := 25, slot := 3, constantValue := 0 }, { name := "LOG2_ARRAY_CHAR_INDEX_SCALE", type := .int, accessFlags := 25, slot := 4, constantValue := 0 }, { name := "LOG2_ARRAY_SHORT_INDEX_SCALE", type := .int, accessFlags := 25, slot := 5, constantValue := 0 }, { name := "LOG2_ARRAY_INT_INDEX_SCALE", type := .int, accessFlags := 25, slot := 6, constantValue := 0 }, { name := "LOG2_ARRAY_LONG_INDEX_SCALE", type := .int, accessFlags := 25, slot := 7, constantValue := 0 }, { name := "LOG2_ARRAY_FLOAT_INDEX_SCALE", type := .int, accessFlags := 25, slot := 8, constantValue := 0 }, { name := "LOG2_ARRAY_DOUBLE_INDEX_SCALE", type := .int, accessFlags := 25, slot := 9, constantValue := 0 }, { name := "LOG2_BYTE_BIT_SIZE", type := .int, accessFlags := 26, slot := 10, constantValue := 0 }, { name := "T_BOOLEAN", type := .int, accessFlags := 25, slot := 11, constantValue := 0 }, { name := "T_CHAR", type := .int, accessFlags := 25, slot := 12, constantValue := 0 }, { name := "T_FLOAT", type := .int, accessFlags := 25, slot := 13, constantValue := 0 }, { name := "T_DOUBLE", type := .int, accessFlags := 25, slot := 14, constantValue := 0 }, { name := "T_BYTE", type := .int, accessFlags := 25, slot := 15, constantValue := 0 }, { name := "T_SHORT", type := .int, accessFlags := 25, slot := 16, constantValue := 0 }, { name := "T_INT", type := .int, accessFlags := 25, slot := 17, constantValue := 0 }, { name := "T_LONG", type := .int, accessFlags := 25, slot := 18, constantValue := 0 }, { name := "JLA", type := (.object "jdk/internal/access/JavaLangAccess"), accessFlags := 26, slot := 19, constantValue := 0 }, { name := "SOFT_MAX_ARRAY_LENGTH", type := .int, accessFlags := 25, slot := 20, constantValue := 0 }]
  methods := #[k24m0]
  instanceTypes := #[]
  staticTypes := #[(.object "jdk/internal/misc/Unsafe"), .boolean, .int, .int, .int, .int, .int, .int, .int, .int, .int, .int, .int, .int, .int, .int, .int, .int, .int, (.object "jdk/internal/access/JavaLangAccess"), .int]
  resolved := Array.replicate 378 none
  statics := none }

def pool25 : Array CpInfo := pool [(1, u "java/lang/Cloneable"), (0, .class_ 1), (0, u "java/lang/Object"), (0, .class_ 3)] 3

/-- java/lang/Cloneable -/
def k25 : Class := { plain "java/lang/Cloneable" (some 0) with
  accessFlags := 1537
  interfaces := #[]
  cf := some (fileOf pool25 2 #[] #[] 1537 4 #[] #[])
  fields := #[]
  methods := #[]
  instanceTypes := #[]
  staticTypes := #[]
  resolved := Array.replicate 8 none
  statics := none }

/-- the primitive byte -/
def k26 : Class := { plain "byte" none with kind := .primitive 'B', accessFlags := 0x411 }
/-- [B -/
def k27 : Class := { plain "[B" (some 0) with kind := .array 26 .byte, interfaces := #[25, 7], accessFlags := 1041 }

/-- the primitive int -/
def k28 : Class := { plain "int" none with kind := .primitive 'I', accessFlags := 0x411 }
/-- [I -/
def k29 : Class := { plain "[I" (some 0) with kind := .array 28 .int, interfaces := #[25, 7], accessFlags := 1041 }

def heap : Heap := #[{ cls := 12, slots := #[.long 0, .int 1, .null, .int 0, .null, .int 0, .int 0], vm := .statics 12 },
  { cls := 14, slots := #[.ref 3, .null, .ref 4, .null], vm := .statics 14 },
  { cls := 19, slots := #[.null, .null, .null], vm := .statics 19 },
  { cls := 14, slots := #[.null, .int 0, .int 0, .null], vm := .none },
  { cls := 14, slots := #[.null, .int 1, .int 0, .null], vm := .none }]
def classes : Array Class := #[k0, k1, k2, k3, k4, k5, k6, k7, k8, k9, k10, k11, k12, k13, k14, k15, k16, k17, k18, k19, k20, k21, k22, k23, k24, k25, k26, k27, k28, k29]
def interned : List (Array UInt16 × Addr) := []
def slotsUsed : Nat := 22
def theMethod : MethodId := ⟨1, 1⟩
def args0 : Array Value := #[.long 5, .long 5, .long 5, .long 5, .long 5, .int 5]
def aboutOver (below : List Frame) : State where
  vm := { classes := classes, interned := interned.toArray }
  heap := heap
  slotsUsed := slotsUsed
  threads := #[{ frames := .invoking theMethod args0 :: below }]
def below0 : List Frame := [.native { method := ⟨0, 0⟩, args := #[] }]
def about1 : State := aboutOver below0
def p0 : Program := .bare "" "" ""
def e0 : Env := launch0.env 0 0 0
theorem w_frames : about1.frames = Frame.invoking theMethod args0 :: below0 := rfl
set_option maxRecDepth 65536 in
theorem w_args : argsFit about1.vm theMethod args0 = true := by decide +kernel
set_option maxRecDepth 65536 in
theorem w_heap : heapFits about1 = true := by decide +kernel
set_option maxRecDepth 65536 in
theorem w_runnable : about1.curStatus? = some .runnable := by decide +kernel
set_option maxRecDepth 65536 in
theorem w_alone : about1.alone = true := by decide +kernel
set_option maxRecDepth 65536 in
theorem w_named : about1.methodNamed? x = some theMethod := by decide +kernel
set_option maxRecDepth 65536 in
theorem w_hears : about1.hears theMethod below0 = true := by decide +kernel
set_option maxRecDepth 65536 in
theorem w_ripe : about1.ripe theMethod args0 below0 = true := by decide +kernel
theorem w_running : about1.status = .running := rfl
set_option maxRecDepth 65536 in
theorem w_room : about1.hasRoom e0.platform room_1 = true :=
  launch0.hasRoom_least _ room_1 (by decide +kernel) (by decide +kernel) (by decide +kernel) (by decide +kernel) (by decide +kernel) (by decide +kernel)
theorem allAtoms_all (ts : List Jvm.Cond) (a : Array Jvm.Value) (st : Jvm.State) : (allAtoms ts).before a st = ts.all (fun c => c.before a st) := by
  induction ts with
  | nil => rfl
  | cons c t ih =>
    show (Jvm.Cond.and c (allAtoms t)).before a st = _
    rw [Jvm.Cond.before_and, ih, List.all_cons]
def words1 : List Jvm.Cond := Jvm.Cond.code x code maxLocals ret :: tables_1
/-- a 'code' word, met by the world's own term for the bytes: nothing is compared byte by byte -/
theorem code_word {y : MethodName} {bytes : ByteArray} {mx : Nat} {rt : Option FieldType} {a : Array Value} {s : State} {m : MethodId} {meth : Method} {c : Code} (h1 : s.methodNamed? y = some m) (h2 : s.vm.method? m = some meth) (h3 : meth.code = some c) (h4 : c.code = bytes)
    (h5 : (c.maxLocals == mx && c.exceptionTable.isEmpty && decide (c.maxStack ≤ mostOperands) && decide (meth.sig.returnType = rt) && !meth.locks && decide (parseMethodDescriptor y.desc = some meth.sig)) = true) : (Jvm.Cond.code y bytes mx rt).before a s = true := by
  simp only [Bool.and_eq_true, beq_iff_eq, Bool.not_eq_true', decide_eq_true_eq] at h5
  obtain ⟨⟨⟨⟨⟨g1, g2⟩, g3⟩, g4⟩, g5⟩, g6⟩ := h5
  simp [Cond.before, Cond.holds, Cond.value, h1, h2, h3, h4, g1, g2, g3, g4, g5, g6]
def isCode : Jvm.Cond → Bool
  | .code _ _ _ _ => true
  | _ => false
theorem all_split {L : List Jvm.Cond} {P : Jvm.Cond → Bool} (h1 : L.all (fun c => isCode c || P c) = true) (h2 : ∀ c ∈ L.filter isCode, P c = true) : L.all P = true := by
  refine List.all_eq_true.mpr fun c hc => ?_
  have h := List.all_eq_true.mp h1 c hc
  rcases Bool.eq_false_or_eq_true (isCode c) with hi | hi
  · exact h2 c (List.mem_filter.mpr ⟨hc, hi⟩)
  · simpa [hi] using h
set_option maxRecDepth 65536 in
theorem w_c0 : (Jvm.Cond.code x code maxLocals ret).before args0 about1 = true := code_word (m := ⟨1, 1⟩) (meth := k1m1) (c := k1c1) (by decide +kernel) rfl rfl rfl (by decide +kernel)
set_option maxRecDepth 65536 in
theorem w_c1 : (Jvm.Cond.code ({ cls := "com/example/colonnade/colonnade/ItemBuilder", name := "<init>", desc := "(I)V" } : Jvm.MethodName) prog_46_method_1_code (2 : Nat) (Option.none : Option Jvm.ClassFile.FieldType)).before args0 about1 = true := code_word (m := ⟨2, 0⟩) (meth := k2m0) (c := k2c0) (by decide +kernel) rfl rfl rfl (by decide +kernel)
set_option maxRecDepth 65536 in
theorem w_c2 : (Jvm.Cond.code ({ cls := "java/lang/Object", name := "<init>", desc := "()V" } : Jvm.MethodName) object_method_1_code (1 : Nat) (Option.none : Option Jvm.ClassFile.FieldType)).before args0 about1 = true := code_word (m := ⟨0, 0⟩) (meth := k0m0) (c := k0c0) (by decide +kernel) rfl rfl rfl (by decide +kernel)
set_option maxRecDepth 65536 in
theorem w_c3 : (Jvm.Cond.code ({ cls := "com/example/colonnade/colonnade/TextSpool", name := "<init>", desc := "(I)V" } : Jvm.MethodName) prog_103_method_1_code (2 : Nat) (Option.none : Option Jvm.ClassFile.FieldType)).before args0 about1 = true := code_word (m := ⟨3, 0⟩) (meth := k3m0) (c := k3c0) (by decide +kernel) rfl rfl rfl (by decide +kernel)
set_option maxRecDepth 65536 in
theorem w_c4 : (Jvm.Cond.code ({ cls := "java/lang/StringBuilder", name := "<init>", desc := "()V" } : Jvm.MethodName) jdk_67_method_1_code (1 : Nat) (Option.none : Option Jvm.ClassFile.FieldType)).before args0 about1 = true := code_word (m := ⟨9, 0⟩) (meth := k9m0) (c := k9c0) (by decide +kernel) rfl rfl rfl (by decide +kernel)
set_option maxRecDepth 65536 in
theorem w_c5 : (Jvm.Cond.code ({ cls := "java/lang/AbstractStringBuilder", name := "<init>", desc := "(I)V" } : Jvm.MethodName) jdk_68_method_2_code (2 : Nat) (Option.none : Option Jvm.ClassFile.FieldType)).before args0 about1 = true := code_word (m := ⟨6, 1⟩) (meth := k6m1) (c := k6c1) (by decide +kernel) rfl rfl rfl (by decide +kernel)
set_option maxRecDepth 65536 in
theorem w_c6 : (Jvm.Cond.code ({ cls := "com/example/colonnade/colonnade/ItemBuilder", name := "start", desc := "(JJJ)V" } : Jvm.MethodName) prog_46_method_4_code (7 : Nat) (Option.none : Option Jvm.ClassFile.FieldType)).before args0 about1 = true := code_word (m := ⟨2, 2⟩) (meth := k2m2) (c := k2c2) (by decide +kernel) rfl rfl rfl (by decide +kernel)
set_option maxRecDepth 65536 in
theorem w_c7 : (Jvm.Cond.code ({ cls := "com/example/colonnade/colonnade/ItemBuilder", name := "started", desc := "()Z" } : Jvm.MethodName) prog_46_method_2_code (1 : Nat) (Option.some Jvm.ClassFile.FieldType.boolean)).before args0 about1 = true := code_word (m := ⟨2, 1⟩) (meth := k2m1) (c := k2c1) (by decide +kernel) rfl rfl rfl (by decide +kernel)
set_option maxRecDepth 65536 in
theorem w_c8 : (Jvm.Cond.code ({ cls := "com/example/colonnade/colonnade/ItemBuilder", name := "keepAllButTrailingBlanks", desc := "(J)V" } : Jvm.MethodName) prog_46_method_8_code (3 : Nat) (Option.none : Option Jvm.ClassFile.FieldType)).before args0 about1 = true := code_word (m := ⟨2, 5⟩) (meth := k2m5) (c := k2c5) (by decide +kernel) rfl rfl rfl (by decide +kernel)
set_option maxRecDepth 65536 in
theorem w_c9 : (Jvm.Cond.code ({ cls := "com/example/colonnade/colonnade/TextSpool", name := "length", desc := "()J" } : Jvm.MethodName) prog_103_method_5_code (1 : Nat) (Option.some Jvm.ClassFile.FieldType.long)).before args0 about1 = true := code_word (m := ⟨3, 2⟩) (meth := k3m2) (c := k3c2) (by decide +kernel) rfl rfl rfl (by decide +kernel)
set_option maxRecDepth 65536 in
theorem w_c10 : (Jvm.Cond.code ({ cls := "java/lang/StringBuilder", name := "length", desc := "()I" } : Jvm.MethodName) jdk_67_method_93_code (1 : Nat) (Option.some Jvm.ClassFile.FieldType.int)).before args0 about1 = true := code_word (m := ⟨9, 4⟩) (meth := k9m4) (c := k9c4) (by decide +kernel) rfl rfl rfl (by decide +kernel)
set_option maxRecDepth 65536 in
theorem w_c11 : (Jvm.Cond.code ({ cls := "java/lang/AbstractStringBuilder", name := "length", desc := "()I" } : Jvm.MethodName) jdk_68_method_6_code (1 : Nat) (Option.some Jvm.ClassFile.FieldType.int)).before args0 about1 = true := code_word (m := ⟨6, 2⟩) (meth := k6m2) (c := k6c2) (by decide +kernel) rfl rfl rfl (by decide +kernel)
set_option maxRecDepth 65536 in
theorem w_c12 : (Jvm.Cond.code ({ cls := "com/example/colonnade/colonnade/ItemBuilder", name := "finish", desc := "(Lcom/example/colonnade/colonnade/Item$Kind;)Lcom/example/colonnade/colonnade/SpooledItem;" } : Jvm.MethodName) prog_46_method_9_code (3 : Nat) (Option.some (Jvm.ClassFile.FieldType.object "com/example/colonnade/colonnade/SpooledItem"))).before args0 about1 = true := code_word (m := ⟨2, 6⟩) (meth := k2m6) (c := k2c6) (by decide +kernel) rfl rfl rfl (by decide +kernel)
set_option maxRecDepth 65536 in
theorem w_c13 : (Jvm.Cond.code ({ cls := "com/example/colonnade/colonnade/TextSpool", name := "take", desc := "(J)Lcom/example/colonnade/colonnade/SpooledText;" } : Jvm.MethodName) prog_103_method_6_code (4 : Nat) (Option.some (Jvm.ClassFile.FieldType.object "com/example/colonnade/colonnade/SpooledText"))).before args0 about1 = true := code_word (m := ⟨3, 3⟩) (meth := k3m3) (c := k3c3) (by decide +kernel) rfl rfl rfl (by decide +kernel)
set_option maxRecDepth 65536 in
theorem w_c14 : (Jvm.Cond.code ({ cls := "java/lang/StringBuilder", name := "substring", desc := "(II)Ljava/lang/String;" } : Jvm.MethodName) jdk_67_method_62_code (3 : Nat) (Option.some (Jvm.ClassFile.FieldType.object "java/lang/String"))).before args0 about1 = true := code_word (m := ⟨9, 2⟩) (meth := k9m2) (c := k9c2) (by decide +kernel) rfl rfl rfl (by decide +kernel)
set_option maxRecDepth 65536 in
theorem w_c15 : (Jvm.Cond.code ({ cls := "java/lang/AbstractStringBuilder", name := "substring", desc := "(II)Ljava/lang/String;" } : Jvm.MethodName) jdk_68_method_42_code (3 : Nat) (Option.some (Jvm.ClassFile.FieldType.object "java/lang/String"))).before args0 about1 = true := code_word (m := ⟨6, 6⟩) (meth := k6m6) (c := k6c6) (by decide +kernel) rfl rfl rfl (by decide +kernel)
set_option maxRecDepth 65536 in
theorem w_c16 : (Jvm.Cond.code ({ cls := "jdk/internal/util/Preconditions", name := "checkFromToIndex", desc := "(IIILjava/util/function/BiFunction;)I" } : Jvm.MethodName) jdk_41_method_12_code (4 : Nat) (Option.some Jvm.ClassFile.FieldType.int)).before args0 about1 = true := code_word (m := ⟨19, 1⟩) (meth := k19m1) (c := k19c1) (by decide +kernel) rfl rfl rfl (by decide +kernel)
set_option maxRecDepth 65536 in
theorem w_c17 : (Jvm.Cond.code ({ cls := "java/lang/AbstractStringBuilder", name := "isLatin1", desc := "()Z" } : Jvm.MethodName) jdk_68_method_68_code (1 : Nat) (Option.some Jvm.ClassFile.FieldType.boolean)).before args0 about1 = true := code_word (m := ⟨6, 7⟩) (meth := k6m7) (c := k6c7) (by decide +kernel) rfl rfl rfl (by decide +kernel)
set_option maxRecDepth 65536 in
theorem w_c18 : (Jvm.Cond.code ({ cls := "java/lang/StringLatin1", name := "newString", desc := "([BII)Ljava/lang/String;" } : Jvm.MethodName) jdk_43_method_47_code (3 : Nat) (Option.some (Jvm.ClassFile.FieldType.object "java/lang/String"))).before args0 about1 = true := code_word (m := ⟨20, 2⟩) (meth := k20m2) (c := k20c2) (by decide +kernel) rfl rfl rfl (by decide +kernel)
set_option maxRecDepth 65536 in
theorem w_c19 : (Jvm.Cond.code ({ cls := "com/example/colonnade/colonnade/SpooledText", name := "<init>", desc := "(Ljava/lang/String;)V" } : Jvm.MethodName) prog_90_method_1_code (2 : Nat) (Option.none : Option Jvm.ClassFile.FieldType)).before args0 about1 = true := code_word (m := ⟨18, 0⟩) (meth := k18m0) (c := k18c0) (by decide +kernel) rfl rfl rfl (by decide +kernel)
set_option maxRecDepth 65536 in
theorem w_c20 : (Jvm.Cond.code ({ cls := "java/lang/String", name := "length", desc := "()I" } : Jvm.MethodName) jdk_42_method_54_code (1 : Nat) (Option.some Jvm.ClassFile.FieldType.int)).before args0 about1 = true := code_word (m := ⟨12, 1⟩) (meth := k12m1) (c := k12c1) (by decide +kernel) rfl rfl rfl (by decide +kernel)
set_option maxRecDepth 65536 in
theorem w_c21 : (Jvm.Cond.code ({ cls := "java/lang/String", name := "coder", desc := "()B" } : Jvm.MethodName) jdk_42_method_152_code (1 : Nat) (Option.some Jvm.ClassFile.FieldType.byte)).before args0 about1 = true := code_word (m := ⟨12, 3⟩) (meth := k12m3) (c := k12c3) (by decide +kernel) rfl rfl rfl (by decide +kernel)
set_option maxRecDepth 65536 in
theorem w_c22 : (Jvm.Cond.code ({ cls := "java/lang/StringBuilder", name := "setLength", desc := "(I)V" } : Jvm.MethodName) jdk_67_method_89_code (2 : Nat) (Option.none : Option Jvm.ClassFile.FieldType)).before args0 about1 = true := code_word (m := ⟨9, 3⟩) (meth := k9m3) (c := k9c3) (by decide +kernel) rfl rfl rfl (by decide +kernel)
set_option maxRecDepth 65536 in
theorem w_c23 : (Jvm.Cond.code ({ cls := "java/lang/AbstractStringBuilder", name := "setLength", desc := "(I)V" } : Jvm.MethodName) jdk_68_method_13_code (2 : Nat) (Option.none : Option Jvm.ClassFile.FieldType)).before args0 about1 = true := code_word (m := ⟨6, 4⟩) (meth := k6m4) (c := k6c4) (by decide +kernel) rfl rfl rfl (by decide +kernel)
set_option maxRecDepth 65536 in
theorem w_c24 : (Jvm.Cond.code ({ cls := "java/lang/AbstractStringBuilder", name := "ensureCapacityInternal", desc := "(I)V" } : Jvm.MethodName) jdk_68_method_9_code (3 : Nat) (Option.none : Option Jvm.ClassFile.FieldType)).before args0 about1 = true := code_word (m := ⟨6, 3⟩) (meth := k6m3) (c := k6c3) (by decide +kernel) rfl rfl rfl (by decide +kernel)
set_option maxRecDepth 65536 in
theorem w_c25 : (Jvm.Cond.code ({ cls := "com/example/colonnade/colonnade/SpooledItem", name := "<init>", desc := "(Lcom/example/colonnade/colonnade/Item$Kind;JJJJLcom/example/colonnade/colonnade/SpooledText;)V" } : Jvm.MethodName) prog_89_method_1_code (11 : Nat) (Option.none : Option Jvm.ClassFile.FieldType)).before args0 about1 = true := code_word (m := ⟨16, 0⟩) (meth := k16m0) (c := k16c0) (by decide +kernel) rfl rfl rfl (by decide +kernel)
set_option maxRecDepth 65536 in
theorem w_c26 : (Jvm.Cond.code ({ cls := "java/lang/Record", name := "<init>", desc := "()V" } : Jvm.MethodName) jdk_30_method_1_code (1 : Nat) (Option.none : Option Jvm.ClassFile.FieldType)).before args0 about1 = true := code_word (m := ⟨15, 0⟩) (meth := k15m0) (c := k15c0) (by decide +kernel) rfl rfl rfl (by decide +kernel)
set_option maxRecDepth 65536 in
theorem w_c27 : (Jvm.Cond.code ({ cls := "com/example/colonnade/colonnade/SpooledItem", name := "line", desc := "()J" } : Jvm.MethodName) prog_89_method_7_code (1 : Nat) (Option.some Jvm.ClassFile.FieldType.long)).before args0 about1 = true := code_word (m := ⟨16, 1⟩) (meth := k16m1) (c := k16c1) (by decide +kernel) rfl rfl rfl (by decide +kernel)
set_option maxRecDepth 65536 in
theorem w_c28 : (Jvm.Cond.code ({ cls := "com/example/colonnade/colonnade/SpooledItem", name := "column", desc := "()J" } : Jvm.MethodName) prog_89_method_8_code (1 : Nat) (Option.some Jvm.ClassFile.FieldType.long)).before args0 about1 = true := code_word (m := ⟨16, 2⟩) (meth := k16m2) (c := k16c2) (by decide +kernel) rfl rfl rfl (by decide +kernel)
set_option maxRecDepth 65536 in
theorem w_c29 : (Jvm.Cond.code ({ cls := "com/example/colonnade/colonnade/SpooledItem", name := "start", desc := "()J" } : Jvm.MethodName) prog_89_method_9_code (1 : Nat) (Option.some Jvm.ClassFile.FieldType.long)).before args0 about1 = true := code_word (m := ⟨16, 3⟩) (meth := k16m3) (c := k16c3) (by decide +kernel) rfl rfl rfl (by decide +kernel)
set_option maxRecDepth 65536 in
theorem w_c30 : (Jvm.Cond.code ({ cls := "com/example/colonnade/colonnade/SpooledItem", name := "end", desc := "()J" } : Jvm.MethodName) prog_89_method_10_code (1 : Nat) (Option.some Jvm.ClassFile.FieldType.long)).before args0 about1 = true := code_word (m := ⟨16, 4⟩) (meth := k16m4) (c := k16c4) (by decide +kernel) rfl rfl rfl (by decide +kernel)
set_option maxRecDepth 65536 in
theorem w_c31 : (Jvm.Cond.code ({ cls := "com/example/colonnade/colonnade/ItemBuilder", name := "add", desc := "(C)V" } : Jvm.MethodName) prog_46_method_5_code (2 : Nat) (Option.none : Option Jvm.ClassFile.FieldType)).before args0 about1 = true := code_word (m := ⟨2, 3⟩) (meth := k2m3) (c := k2c3) (by decide +kernel) rfl rfl rfl (by decide +kernel)
set_option maxRecDepth 65536 in
theorem w_c32 : (Jvm.Cond.code ({ cls := "com/example/colonnade/colonnade/TextSpool", name := "append", desc := "(C)V" } : Jvm.MethodName) prog_103_method_2_code (2 : Nat) (Option.none : Option Jvm.ClassFile.FieldType)).before args0 about1 = true := code_word (m := ⟨3, 1⟩) (meth := k3m1) (c := k3c1) (by decide +kernel) rfl rfl rfl (by decide +kernel)
set_option maxRecDepth 65536 in
theorem w_c33 : (Jvm.Cond.code ({ cls := "java/lang/StringBuilder", name := "append", desc := "(C)Ljava/lang/StringBuilder;" } : Jvm.MethodName) jdk_67_method_14_code (2 : Nat) (Option.some (Jvm.ClassFile.FieldType.object "java/lang/StringBuilder"))).before args0 about1 = true := code_word (m := ⟨9, 1⟩) (meth := k9m1) (c := k9c1) (by decide +kernel) rfl rfl rfl (by decide +kernel)
set_option maxRecDepth 65536 in
theorem w_c34 : (Jvm.Cond.code ({ cls := "java/lang/AbstractStringBuilder", name := "append", desc := "(C)Ljava/lang/AbstractStringBuilder;" } : Jvm.MethodName) jdk_68_method_31_code (2 : Nat) (Option.some (Jvm.ClassFile.FieldType.object "java/lang/AbstractStringBuilder"))).before args0 about1 = true := code_word (m := ⟨6, 5⟩) (meth := k6m5) (c := k6c5) (by decide +kernel) rfl rfl rfl (by decide +kernel)
set_option maxRecDepth 65536 in
theorem w_c35 : (Jvm.Cond.code ({ cls := "java/lang/StringLatin1", name := "canEncode", desc := "(C)Z" } : Jvm.MethodName) jdk_43_method_3_code (1 : Nat) (Option.some Jvm.ClassFile.FieldType.boolean)).before args0 about1 = true := code_word (m := ⟨20, 1⟩) (meth := k20m1) (c := k20c1) (by decide +kernel) rfl rfl rfl (by decide +kernel)
set_option maxRecDepth 65536 in
theorem w_c36 : (Jvm.Cond.code ({ cls := "com/example/colonnade/colonnade/ItemBuilder", name := "isBlank", desc := "(C)Z" } : Jvm.MethodName) prog_46_method_10_code (1 : Nat) (Option.some Jvm.ClassFile.FieldType.boolean)).before args0 about1 = true := code_word (m := ⟨2, 7⟩) (meth := k2m7) (c := k2c7) (by decide +kernel) rfl rfl rfl (by decide +kernel)
set_option maxRecDepth 65536 in
theorem w_c37 : (Jvm.Cond.code ({ cls := "com/example/colonnade/colonnade/ItemBuilder", name := "keep", desc := "(J)V" } : Jvm.MethodName) prog_46_method_7_code (3 : Nat) (Option.none : Option Jvm.ClassFile.FieldType)).before args0 about1 = true := code_word (m := ⟨2, 4⟩) (meth := k2m4) (c := k2c4) (by decide +kernel) rfl rfl rfl (by decide +kernel)
set_option maxRecDepth 65536 in
theorem w_c38 : (Jvm.Cond.code ({ cls := "java/util/Arrays", name := "copyOfRange", desc := "([BII)[B" } : Jvm.MethodName) jdk_65_method_132_code (3 : Nat) (Option.some (Jvm.ClassFile.FieldType.array Jvm.ClassFile.FieldType.byte))).before args0 about1 = true := code_word (m := ⟨21, 2⟩) (meth := k21m2) (c := k21c2) (by decide +kernel) rfl rfl rfl (by decide +kernel)
set_option maxRecDepth 65536 in
theorem w_c39 : (Jvm.Cond.code ({ cls := "java/util/Arrays", name := "copyOfRangeByte", desc := "([BII)[B" } : Jvm.MethodName) jdk_65_method_133_code (5 : Nat) (Option.some (Jvm.ClassFile.FieldType.array Jvm.ClassFile.FieldType.byte))).before args0 about1 = true := code_word (m := ⟨21, 3⟩) (meth := k21m3) (c := k21c3) (by decide +kernel) rfl rfl rfl (by decide +kernel)
set_option maxRecDepth 65536 in
theorem w_c40 : (Jvm.Cond.code ({ cls := "java/util/Arrays", name := "checkLength", desc := "(II)V" } : Jvm.MethodName) jdk_65_method_131_code (2 : Nat) (Option.none : Option Jvm.ClassFile.FieldType)).before args0 about1 = true := code_word (m := ⟨21, 1⟩) (meth := k21m1) (c := k21c1) (by decide +kernel) rfl rfl rfl (by decide +kernel)
set_option maxRecDepth 65536 in
theorem w_c41 : (Jvm.Cond.code ({ cls := "java/lang/Math", name := "min", desc := "(II)I" } : Jvm.MethodName) jdk_29_method_69_code (2 : Nat) (Option.some Jvm.ClassFile.FieldType.int)).before args0 about1 = true := code_word (m := ⟨22, 1⟩) (meth := k22m1) (c := k22c1) (by decide +kernel) rfl rfl rfl (by decide +kernel)
set_option maxRecDepth 65536 in
theorem w_c42 : (Jvm.Cond.code ({ cls := "java/lang/String", name := "<init>", desc := "([BB)V" } : Jvm.MethodName) jdk_42_method_151_code (3 : Nat) (Option.none : Option Jvm.ClassFile.FieldType)).before args0 about1 = true := code_word (m := ⟨12, 2⟩) (meth := k12m2) (c := k12c2) (by decide +kernel) rfl rfl rfl (by decide +kernel)
def codes1 : List Jvm.Cond := [Jvm.Cond.code x code maxLocals ret, Jvm.Cond.code ({ cls := "com/example/colonnade/colonnade/ItemBuilder", name := "<init>", desc := "(I)V" } : Jvm.MethodName) prog_46_method_1_code (2 : Nat) (Option.none : Option Jvm.ClassFile.FieldType), Jvm.Cond.code ({ cls := "java/lang/Object", name := "<init>", desc := "()V" } : Jvm.MethodName) object_method_1_code (1 : Nat) (Option.none : Option Jvm.ClassFile.FieldType), Jvm.Cond.code ({ cls := "com/example/colonnade/colonnade/TextSpool", name := "<init>", desc := "(I)V" } : Jvm.MethodName) prog_103_method_1_code (2 : Nat) (Option.none : Option Jvm.ClassFile.FieldType), Jvm.Cond.code ({ cls := "java/lang/StringBuilder", name := "<init>", desc := "()V" } : Jvm.MethodName) jdk_67_method_1_code (1 : Nat) (Option.none : Option Jvm.ClassFile.FieldType), Jvm.Cond.code ({ cls := "java/lang/AbstractStringBuilder", name := "<init>", desc := "(I)V" } : Jvm.MethodName) jdk_68_method_2_code (2 : Nat) (Option.none : Option Jvm.ClassFile.FieldType), Jvm.Cond.code ({ cls := "com/example/colonnade/colonnade/ItemBuilder", name := "start", desc := "(JJJ)V" } : Jvm.MethodName) prog_46_method_4_code (7 : Nat) (Option.none : Option Jvm.ClassFile.FieldType), Jvm.Cond.code ({ cls := "com/example/colonnade/colonnade/ItemBuilder", name := "started", desc := "()Z" } : Jvm.MethodName) prog_46_method_2_code (1 : Nat) (Option.some Jvm.ClassFile.FieldType.boolean), Jvm.Cond.code ({ cls := "com/example/colonnade/colonnade/ItemBuilder", name := "keepAllButTrailingBlanks", desc := "(J)V" } : Jvm.MethodName) prog_46_method_8_code (3 : Nat) (Option.none : Option Jvm.ClassFile.FieldType), Jvm.Cond.code ({ cls := "com/example/colonnade/colonnade/TextSpool", name := "length", desc := "()J" } : Jvm.MethodName) prog_103_method_5_code (1 : Nat) (Option.some Jvm.ClassFile.FieldType.long), Jvm.Cond.code ({ cls := "java/lang/StringBuilder", name := "length", desc := "()I" } : Jvm.MethodName) jdk_67_method_93_code (1 : Nat) (Option.some Jvm.ClassFile.FieldType.int), Jvm.Cond.code ({ cls := "java/lang/AbstractStringBuilder", name := "length", desc := "()I" } : Jvm.MethodName) jdk_68_method_6_code (1 : Nat) (Option.some Jvm.ClassFile.FieldType.int), Jvm.Cond.code ({ cls := "com/example/colonnade/colonnade/ItemBuilder", name := "finish", desc := "(Lcom/example/colonnade/colonnade/Item$Kind;)Lcom/example/colonnade/colonnade/SpooledItem;" } : Jvm.MethodName) prog_46_method_9_code (3 : Nat) (Option.some (Jvm.ClassFile.FieldType.object "com/example/colonnade/colonnade/SpooledItem")), Jvm.Cond.code ({ cls := "com/example/colonnade/colonnade/TextSpool", name := "take", desc := "(J)Lcom/example/colonnade/colonnade/SpooledText;" } : Jvm.MethodName) prog_103_method_6_code (4 : Nat) (Option.some (Jvm.ClassFile.FieldType.object "com/example/colonnade/colonnade/SpooledText")), Jvm.Cond.code ({ cls := "java/lang/StringBuilder", name := "substring", desc := "(II)Ljava/lang/String;" } : Jvm.MethodName) jdk_67_method_62_code (3 : Nat) (Option.some (Jvm.ClassFile.FieldType.object "java/lang/String")), Jvm.Cond.code ({ cls := "java/lang/AbstractStringBuilder", name := "substring", desc := "(II)Ljava/lang/String;" } : Jvm.MethodName) jdk_68_method_42_code (3 : Nat) (Option.some (Jvm.ClassFile.FieldType.object "java/lang/String")), Jvm.Cond.code ({ cls := "jdk/internal/util/Preconditions", name := "checkFromToIndex", desc := "(IIILjava/util/function/BiFunction;)I" } : Jvm.MethodName) jdk_41_method_12_code (4 : Nat) (Option.some Jvm.ClassFile.FieldType.int), Jvm.Cond.code ({ cls := "java/lang/AbstractStringBuilder", name := "isLatin1", desc := "()Z" } : Jvm.MethodName) jdk_68_method_68_code (1 : Nat) (Option.some Jvm.ClassFile.FieldType.boolean), Jvm.Cond.code ({ cls := "java/lang/StringLatin1", name := "newString", desc := "([BII)Ljava/lang/String;" } : Jvm.MethodName) jdk_43_method_47_code (3 : Nat) (Option.some (Jvm.ClassFile.FieldType.object "java/lang/String")), Jvm.Cond.code ({ cls := "com/example/colonnade/colonnade/SpooledText", name := "<init>", desc := "(Ljava/lang/String;)V" } : Jvm.MethodName) prog_90_method_1_code (2 : Nat) (Option.none : Option Jvm.ClassFile.FieldType), Jvm.Cond.code ({ cls := "java/lang/String", name := "length", desc := "()I" } : Jvm.MethodName) jdk_42_method_54_code (1 : Nat) (Option.some Jvm.ClassFile.FieldType.int), Jvm.Cond.code ({ cls := "java/lang/String", name := "coder", desc := "()B" } : Jvm.MethodName) jdk_42_method_152_code (1 : Nat) (Option.some Jvm.ClassFile.FieldType.byte), Jvm.Cond.code ({ cls := "java/lang/StringBuilder", name := "setLength", desc := "(I)V" } : Jvm.MethodName) jdk_67_method_89_code (2 : Nat) (Option.none : Option Jvm.ClassFile.FieldType), Jvm.Cond.code ({ cls := "java/lang/AbstractStringBuilder", name := "setLength", desc := "(I)V" } : Jvm.MethodName) jdk_68_method_13_code (2 : Nat) (Option.none : Option Jvm.ClassFile.FieldType), Jvm.Cond.code ({ cls := "java/lang/AbstractStringBuilder", name := "ensureCapacityInternal", desc := "(I)V" } : Jvm.MethodName) jdk_68_method_9_code (3 : Nat) (Option.none : Option Jvm.ClassFile.FieldType), Jvm.Cond.code ({ cls := "com/example/colonnade/colonnade/SpooledItem", name := "<init>", desc := "(Lcom/example/colonnade/colonnade/Item$Kind;JJJJLcom/example/colonnade/colonnade/SpooledText;)V" } : Jvm.MethodName) prog_89_method_1_code (11 : Nat) (Option.none : Option Jvm.ClassFile.FieldType), Jvm.Cond.code ({ cls := "java/lang/Record", name := "<init>", desc := "()V" } : Jvm.MethodName) jdk_30_method_1_code (1 : Nat) (Option.none : Option Jvm.ClassFile.FieldType), Jvm.Cond.code ({ cls := "com/example/colonnade/colonnade/SpooledItem", name := "line", desc := "()J" } : Jvm.MethodName) prog_89_method_7_code (1 : Nat) (Option.some Jvm.ClassFile.FieldType.long), Jvm.Cond.code ({ cls := "com/example/colonnade/colonnade/SpooledItem", name := "column", desc := "()J" } : Jvm.MethodName) prog_89_method_8_code (1 : Nat) (Option.some Jvm.ClassFile.FieldType.long), Jvm.Cond.code ({ cls := "com/example/colonnade/colonnade/SpooledItem", name := "start", desc := "()J" } : Jvm.MethodName) prog_89_method_9_code (1 : Nat) (Option.some Jvm.ClassFile.FieldType.long), Jvm.Cond.code ({ cls := "com/example/colonnade/colonnade/SpooledItem", name := "end", desc := "()J" } : Jvm.MethodName) prog_89_method_10_code (1 : Nat) (Option.some Jvm.ClassFile.FieldType.long), Jvm.Cond.code ({ cls := "com/example/colonnade/colonnade/ItemBuilder", name := "add", desc := "(C)V" } : Jvm.MethodName) prog_46_method_5_code (2 : Nat) (Option.none : Option Jvm.ClassFile.FieldType), Jvm.Cond.code ({ cls := "com/example/colonnade/colonnade/TextSpool", name := "append", desc := "(C)V" } : Jvm.MethodName) prog_103_method_2_code (2 : Nat) (Option.none : Option Jvm.ClassFile.FieldType), Jvm.Cond.code ({ cls := "java/lang/StringBuilder", name := "append", desc := "(C)Ljava/lang/StringBuilder;" } : Jvm.MethodName) jdk_67_method_14_code (2 : Nat) (Option.some (Jvm.ClassFile.FieldType.object "java/lang/StringBuilder")), Jvm.Cond.code ({ cls := "java/lang/AbstractStringBuilder", name := "append", desc := "(C)Ljava/lang/AbstractStringBuilder;" } : Jvm.MethodName) jdk_68_method_31_code (2 : Nat) (Option.some (Jvm.ClassFile.FieldType.object "java/lang/AbstractStringBuilder")), Jvm.Cond.code ({ cls := "java/lang/StringLatin1", name := "canEncode", desc := "(C)Z" } : Jvm.MethodName) jdk_43_method_3_code (1 : Nat) (Option.some Jvm.ClassFile.FieldType.boolean), Jvm.Cond.code ({ cls := "com/example/colonnade/colonnade/ItemBuilder", name := "isBlank", desc := "(C)Z" } : Jvm.MethodName) prog_46_method_10_code (1 : Nat) (Option.some Jvm.ClassFile.FieldType.boolean), Jvm.Cond.code ({ cls := "com/example/colonnade/colonnade/ItemBuilder", name := "keep", desc := "(J)V" } : Jvm.MethodName) prog_46_method_7_code (3 : Nat) (Option.none : Option Jvm.ClassFile.FieldType), Jvm.Cond.code ({ cls := "java/util/Arrays", name := "copyOfRange", desc := "([BII)[B" } : Jvm.MethodName) jdk_65_method_132_code (3 : Nat) (Option.some (Jvm.ClassFile.FieldType.array Jvm.ClassFile.FieldType.byte)), Jvm.Cond.code ({ cls := "java/util/Arrays", name := "copyOfRangeByte", desc := "([BII)[B" } : Jvm.MethodName) jdk_65_method_133_code (5 : Nat) (Option.some (Jvm.ClassFile.FieldType.array Jvm.ClassFile.FieldType.byte)), Jvm.Cond.code ({ cls := "java/util/Arrays", name := "checkLength", desc := "(II)V" } : Jvm.MethodName) jdk_65_method_131_code (2 : Nat) (Option.none : Option Jvm.ClassFile.FieldType), Jvm.Cond.code ({ cls := "java/lang/Math", name := "min", desc := "(II)I" } : Jvm.MethodName) jdk_29_method_69_code (2 : Nat) (Option.some Jvm.ClassFile.FieldType.int), Jvm.Cond.code ({ cls := "java/lang/String", name := "<init>", desc := "([BB)V" } : Jvm.MethodName) jdk_42_method_151_code (3 : Nat) (Option.none : Option Jvm.ClassFile.FieldType)]
set_option maxRecDepth 65536 in
theorem codes_eq : words1.filter isCode = codes1 := rfl
theorem w_codes : ∀ c ∈ words1.filter isCode, c.before args0 about1 = true := by
  rw [codes_eq]
  intro c hc
  simp only [codes1, List.mem_cons, List.not_mem_nil, or_false] at hc
  rcases hc with rfl | rfl | rfl | rfl | rfl | rfl | rfl | rfl | rfl | rfl | rfl | rfl | rfl | rfl | rfl | rfl | rfl | rfl | rfl | rfl | rfl | rfl | rfl | rfl | rfl | rfl | rfl | rfl | rfl | rfl | rfl | rfl | rfl | rfl | rfl | rfl | rfl | rfl | rfl | rfl | rfl | rfl | rfl
  · exact w_c0
  · exact w_c1
  · exact w_c2
  · exact w_c3
  · exact w_c4
  · exact w_c5
  · exact w_c6
  · exact w_c7
  · exact w_c8
  · exact w_c9
  · exact w_c10
  · exact w_c11
  · exact w_c12
  · exact w_c13
  · exact w_c14
  · exact w_c15
  · exact w_c16
  · exact w_c17
  · exact w_c18
  · exact w_c19
  · exact w_c20
  · exact w_c21
  · exact w_c22
  · exact w_c23
  · exact w_c24
  · exact w_c25
  · exact w_c26
  · exact w_c27
  · exact w_c28
  · exact w_c29
  · exact w_c30
  · exact w_c31
  · exact w_c32
  · exact w_c33
  · exact w_c34
  · exact w_c35
  · exact w_c36
  · exact w_c37
  · exact w_c38
  · exact w_c39
  · exact w_c40
  · exact w_c41
  · exact w_c42
set_option maxRecDepth 65536 in
theorem w_t1 : (words1.take 24).all (fun c => isCode c || c.before args0 about1) = true := by decide +kernel
set_option maxRecDepth 65536 in
theorem w_t2 : ((words1.drop 24).take 24).all (fun c => isCode c || c.before args0 about1) = true := by decide +kernel
set_option maxRecDepth 65536 in
theorem w_t3 : (((words1.drop 24).drop 24).take 24).all (fun c => isCode c || c.before args0 about1) = true := by decide +kernel
set_option maxRecDepth 65536 in
theorem w_t4 : ((((words1.drop 24).drop 24).drop 24).take 24).all (fun c => isCode c || c.before args0 about1) = true := by decide +kernel
set_option maxRecDepth 65536 in
theorem w_t5 : (((((words1.drop 24).drop 24).drop 24).drop 24).take 24).all (fun c => isCode c || c.before args0 about1) = true := by decide +kernel
set_option maxRecDepth 65536 in
theorem w_t6 : ((((((words1.drop 24).drop 24).drop 24).drop 24).drop 24).take 24).all (fun c => isCode c || c.before args0 about1) = true := by decide +kernel
set_option maxRecDepth 65536 in
theorem w_t7 : (((((((words1.drop 24).drop 24).drop 24).drop 24).drop 24).drop 24).take 24).all (fun c => isCode c || c.before args0 about1) = true := by decide +kernel
set_option maxRecDepth 65536 in
theorem w_t8 : ((((((((words1.drop 24).drop 24).drop 24).drop 24).drop 24).drop 24).drop 24).take 24).all (fun c => isCode c || c.before args0 about1) = true := by decide +kernel
set_option maxRecDepth 65536 in
theorem w_t9 : (((((((((words1.drop 24).drop 24).drop 24).drop 24).drop 24).drop 24).drop 24).drop 24).take 24).all (fun c => isCode c || c.before args0 about1) = true := by decide +kernel
set_option maxRecDepth 65536 in
theorem w_t10 : ((((((((((words1.drop 24).drop 24).drop 24).drop 24).drop 24).drop 24).drop 24).drop 24).drop 24).take 24).all (fun c => isCode c || c.before args0 about1) = true := by decide +kernel
set_option maxRecDepth 65536 in
theorem w_t11 : (((((((((((words1.drop 24).drop 24).drop 24).drop 24).drop 24).drop 24).drop 24).drop 24).drop 24).drop 24).take 24).all (fun c => isCode c || c.before args0 about1) = true := by decide +kernel
set_option maxRecDepth 65536 in
theorem w_t12 : (((((((((((words1.drop 24).drop 24).drop 24).drop 24).drop 24).drop 24).drop 24).drop 24).drop 24).drop 24).drop 24).all (fun c => isCode c || c.before args0 about1) = true := by decide +kernel
theorem w_tables : (allAtoms (Jvm.Cond.code x code maxLocals ret :: tables_1)).before args0 about1 = true := by
  rw [allAtoms_all]
  show words1.all (fun c => c.before args0 about1) = true
  refine all_split ?_ w_codes
  rw [← List.take_append_drop 24 words1, List.all_append, w_t1, ← List.take_append_drop 24 (words1.drop 24), List.all_append, w_t2, ← List.take_append_drop 24 ((words1.drop 24).drop 24), List.all_append, w_t3, ← List.take_append_drop 24 (((words1.drop 24).drop 24).drop 24), List.all_append, w_t4, ← List.take_append_drop 24 ((((words1.drop 24).drop 24).drop 24).drop 24), List.all_append, w_t5, ← List.take_append_drop 24 (((((words1.drop 24).drop 24).drop 24).drop 24).drop 24), List.all_append, w_t6, ← List.take_append_drop 24 ((((((words1.drop 24).drop 24).drop 24).drop 24).drop 24).drop 24), List.all_append, w_t7, ← List.take_append_drop 24 (((((((words1.drop 24).drop 24).drop 24).drop 24).drop 24).drop 24).drop 24), List.all_append, w_t8, ← List.take_append_drop 24 ((((((((words1.drop 24).drop 24).drop 24).drop 24).drop 24).drop 24).drop 24).drop 24), List.all_append, w_t9, ← List.take_append_drop 24 (((((((((words1.drop 24).drop 24).drop 24).drop 24).drop 24).drop 24).drop 24).drop 24).drop 24), List.all_append, w_t10, ← List.take_append_drop 24 ((((((((((words1.drop 24).drop 24).drop 24).drop 24).drop 24).drop 24).drop 24).drop 24).drop 24).drop 24), List.all_append, w_t11, w_t12]
  rfl
set_option maxRecDepth 65536 in
theorem w_rest : rest_1_c.before args0 about1 = true := by decide +kernel
set_option maxRecDepth 65536 in
theorem w_case : (Jvm.Cond.and given_1 narrow_1).before args0 about1 = true := by decide +kernel
set_option maxRecDepth 65536 in
theorem w_consts : constsHeld consts_1 about1 := Jvm.Lit.constsHeldB_iff.mp (by decide +kernel)
theorem w_applies : (headSpec (Jvm.Cond.code x code maxLocals ret :: tables_1) room_1).applies x e0.platform about1 = true :=
  (Spec.applies_iff w_frames).mpr ⟨w_running, w_runnable, w_alone, w_named, w_hears, w_ripe, w_room, w_tables⟩
theorem atStart : AtStart classFile x code maxLocals ret World_1 tables_1 room_1 Calls_1 rest_1 Pre_1 launch0 p0 e0 about1 theMethod args0 below0 :=
  ⟨lists_1, trivial, launch0.admits_env _ _ _, launch0.least_env, fairChoices_fair.cas, fairChoices_fair.clock, w_frames, w_args, w_heap, w_applies, ⟨w_consts, trivial⟩, w_rest, w_case⟩
end start1
theorem witness_1 : WitnessClaimed_1 := ⟨start1.p0, start1.e0, start1.about1, start1.theMethod, start1.args0, start1.below0, start1.atStart⟩
end Jvm.Pilot.@@N@@
