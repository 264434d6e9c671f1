import JvmDerived
import JvmDerived.Pilot.@@N@@Statement
import JvmDerived.Pilot.@@N@@Code
set_option linter.unusedVariables false
set_option linter.unusedSimpArgs false
namespace Jvm.Pilot.@@N@@
open Jvm Jvm.ClassFile Sem Op Lib Jvm.Free Jvm.Stand Jvm.LawKit Jvm.RoadKit Bundle Jvm.Pilot.@@N@@.Jvm.D
section OwnKit
variable {p : Program} {l : Launch} {e : Env} {R : Room} {s : State} {m : MethodId} {args : Array Value} {below : List Frame} {meth : Method} {c : Code} {T : State} {locs : List Loc} {cells slots : Nat}
/-- the walk from t comes back with what Q says -/
def Fin (p : Program) (e : Env) (below : List Frame) (s : State) (Q : Option Value → Heap → List Loc → Prop) (C S : Nat) (t : State) : Prop :=
  ∃ s₂ o, Steps p.tables e below t s₂ ∧ s₂.status = .running ∧ Ended s₂ below o ∧ ∃ v L, o = .returned v ∧ Q v s₂.heap L ∧ FrameEnd s o s₂ L C S
theorem Fin.by {Q : Option Value → Heap → List Loc → Prop} {C S : Nat} {a b : State} (h : ∀ t, Steps p.tables e below b t → Steps p.tables e below a t) (k : Fin p e below s Q C S b) : Fin p e below s Q C S a := by
  obtain ⟨s₂, o, h1, h2⟩ := k; exact ⟨s₂, o, h _ h1, h2⟩
theorem Fin.byS {Q : Option Value → Heap → List Loc → Prop} {C S : Nat} {a b : State} (h : Steps p.tables e below a b) (k : Fin p e below s Q C S b) : Fin p e below s Q C S a := Fin.by (fun _ k => h.trans k) k
theorem Fin.start {Q : Option Value → Heap → List Loc → Prop} {C S : Nat} {g g' : JFrame} (q : g = g') (k : Fin p e below s Q C S (T.setTop g')) :
    ∃ s₂ o, Steps p.tables e below (T.setTop g) s₂ ∧ s₂.status = .running ∧ Ended s₂ below o ∧ ∃ v L, o = .returned v ∧ Q v s₂.heap L ∧ FrameEnd s o s₂ L C S := by
  subst q; exact k
theorem Fin.ret {Q : Option Value → Heap → List Loc → Prop} {C S : Nat} {v : Option Value} {g : JFrame} (X : Stand p l e R s m args below meth c T locs cells slots) (hv : meth.sig.returnType = none → v = none) (hl : meth.locks = false)
    (hq : Q v T.heap locs) (hc : cells ≤ C) (hs : slots ≤ S) (st : ∀ fs, (∀ (f : JFrame) (acts : List Action), f.method = m → f.locked = none → f.entered = [] → (doReturn e (T.setTop f) acts v).1 = T.setFrames fs) → Steps p.tables e below (T.setTop g) (T.setFrames fs)) :
    Fin p e below s Q C S (T.setTop g) := by
  obtain ⟨fs, hr, hrun, hended, hW, hsame⟩ := X.leave hv hl
  exact ⟨_, _, st fs hr, hrun, hended, _, _, rfl, hq, ⟨_, rfl⟩, hW, hsame.mono hc hs⟩
theorem retI (X : Stand p l e R s m args below meth c T locs cells slots) (hx : p.tables.exec = Jvm.exec) {pc : Nat} {Ls : Array Slot} {z : Int32} {rest : List Value} (hret : meth.sig.returnType = some .int) (hd : decode c.code pc = .ok (.ireturn, 1)) {fs : List Frame}
    (hl : ∀ (f : JFrame) (acts : List Action), f.method = m → f.locked = none → f.entered = [] → (doReturn e (T.setTop f) acts (some (.int z))).1 = T.setFrames fs) : Steps p.tables e below (T.setTop (mkF m pc Ls (.int z :: rest))) (T.setFrames fs) :=
  retOut X hx hret rfl (Or.inl ⟨rfl, Or.inl rfl, _, rfl⟩) hd hl
theorem retA (X : Stand p l e R s m args below meth c T locs cells slots) (hx : p.tables.exec = Jvm.exec) {pc : Nat} {Ls : Array Slot} {w : Value} {t : FieldType} {rest : List Value} (hret : meth.sig.returnType = some t) (ht : t.isReference = true) (hw : w.isRef = true) (hd : decode c.code pc = .ok (.areturn, 1)) {fs : List Frame}
    (hl : ∀ (f : JFrame) (acts : List Action), f.method = m → f.locked = none → f.entered = [] → (doReturn e (T.setTop f) acts (some w)).1 = T.setFrames fs) : Steps p.tables e below (T.setTop (mkF m pc Ls (w :: rest))) (T.setFrames fs) :=
  retOut X hx hret (by cases t <;> first | (cases ht; done) | rfl) (Or.inr (Or.inr (Or.inr (Or.inr ⟨rfl, ht, hw⟩)))) hd hl
theorem retJ (X : Stand p l e R s m args below meth c T locs cells slots) (hx : p.tables.exec = Jvm.exec) {pc : Nat} {Ls : Array Slot} {z : Int64} {rest : List Value} (hret : meth.sig.returnType = some .long) (hd : decode c.code pc = .ok (.lreturn, 1)) {fs : List Frame}
    (hl : ∀ (f : JFrame) (acts : List Action), f.method = m → f.locked = none → f.entered = [] → (doReturn e (T.setTop f) acts (some (.long z))).1 = T.setFrames fs) : Steps p.tables e below (T.setTop (mkF m pc Ls (.long z :: rest))) (T.setFrames fs) :=
  retOut X hx hret rfl (Or.inr (Or.inl ⟨rfl, rfl, _, rfl⟩)) hd hl
theorem XnullYes {target : State} (X : Stand p l e R s m args below meth c T locs cells slots) (hx : p.tables.exec = Jvm.exec) {g : JFrame} (hg : g.method = m) {v : Value} {rest : List Value} {o : Int} {pc0 pc' : Nat} (hv : v = .null) (hpc : g.pc = pc0) (hd : decode c.code g.pc = .ok (.ifnull o, 3)) (hs : g.stack = v :: rest) (ho : 0 ≤ (pc0 : Int) + o) (hp : ((pc0 : Int) + o).toNat = pc')
    (k : Steps p.tables e below (T.setTop { g with pc := pc', stack := rest }) target) : Steps p.tables e below (T.setTop g) target := by subst hv; exact XS.ifnullYes X.here hx hg hpc hd hs ho hp k
theorem XnullNo {target : State} (X : Stand p l e R s m args below meth c T locs cells slots) (hx : p.tables.exec = Jvm.exec) {g : JFrame} (hg : g.method = m) {v : Value} {a : Addr} {rest : List Value} {o : Int} (hv : v = .ref a) (hd : decode c.code g.pc = .ok (.ifnull o, 3)) (hs : g.stack = v :: rest)
    (k : Steps p.tables e below (T.setTop { g with pc := g.pc + 3, stack := rest }) target) : Steps p.tables e below (T.setTop g) target := by subst hv; exact XS.ifnullNo X.here hx hg hd hs k
theorem XnonnullYes {target : State} (X : Stand p l e R s m args below meth c T locs cells slots) (hx : p.tables.exec = Jvm.exec) {g : JFrame} (hg : g.method = m) {v : Value} {a : Addr} {rest : List Value} {o : Int} {pc0 pc' : Nat} (hv : v = .ref a) (hpc : g.pc = pc0) (hd : decode c.code g.pc = .ok (.ifnonnull o, 3)) (hs : g.stack = v :: rest) (ho : 0 ≤ (pc0 : Int) + o) (hp : ((pc0 : Int) + o).toNat = pc')
    (k : Steps p.tables e below (T.setTop { g with pc := pc', stack := rest }) target) : Steps p.tables e below (T.setTop g) target := by subst hv; exact XS.ifnonnullYes X.here hx hg hpc hd hs ho hp k
theorem XnonnullNo {target : State} (X : Stand p l e R s m args below meth c T locs cells slots) (hx : p.tables.exec = Jvm.exec) {g : JFrame} (hg : g.method = m) {v : Value} {rest : List Value} {o : Int} (hv : v = .null) (hd : decode c.code g.pc = .ok (.ifnonnull o, 3)) (hs : g.stack = v :: rest)
    (k : Steps p.tables e below (T.setTop { g with pc := g.pc + 3, stack := rest }) target) : Steps p.tables e below (T.setTop g) target := by subst hv; exact XS.ifnonnullNo X.here hx hg hd hs k
theorem cat_ref {v : Value} (h : v.isRef = true) : v.category = 1 := by rcases ref_cases h with rfl | ⟨a, rfl⟩ <;> rfl
theorem nar_ref (C : String) {v : Value} (h : v.isRef = true) : narrow (.object C) v = v := rfl
theorem fits_obj {C : String} {v : Value} (h : v.isRef = true) : fits (.object C) v = true := by rcases ref_cases h with rfl | ⟨a, rfl⟩ <;> rfl
end OwnKit
theorem own_and255 (x : Int32) : ¬ (x &&& 255) < 0 ∧ ¬ (255 : Int32) < (x &&& 255) := by
  have h := c_and x 255 (by decide)
  have h255 : (255 : Int32).toInt = 255 := by decide
  have h0 : (0 : Int32).toInt = 0 := by decide
  constructor
  · rw [Int32.lt_iff_toInt_lt]; omega
  · rw [Int32.lt_iff_toInt_lt]; omega
theorem own_c255 (x : Int32) : ¬ (nar .char ((x &&& (255 : Int32)).toUInt32.toUInt16.toUInt32.toInt32)) < 0 ∧ ¬ (255 : Int32) < (nar .char ((x &&& (255 : Int32)).toUInt32.toUInt16.toUInt32.toInt32)) := by
  rw [show nar .char ((x &&& (255 : Int32)).toUInt32.toUInt16.toUInt32.toInt32) = x &&& 255 from by simp only [nar, i2c_mask]]; exact own_and255 x
theorem own_cons {P : Int32 → Prop} {a : Int32} {L : List Int32} (h : P a) (k : ∀ c ∈ L, P c) : ∀ c ∈ a :: L, P c := fun c hc => (List.mem_cons.mp hc).elim (fun q => q ▸ h) (k c)
theorem own_nil {P : Int32 → Prop} : ∀ c ∈ ([] : List Int32), P c := fun _ h => nomatch h
theorem own_i2c255 (x : Int32) : ¬ (255 : Int32) < ((x &&& (255 : Int32)).toUInt32.toUInt16.toUInt32.toInt32) := by rw [i2c_mask]; exact (own_and255 x).2
theorem own_len {t : Term} {s : State} {args : Array Value} {a : Addr} {c : Cell} {ty : FieldType} {n : Int32} (ev : t.eval args s none [] s = some (.ref a)) (A : Arr s s.heap a c ty) (h : (Jvm.Cond.eq (.length t) (.int n)).value args s none s [] = some true) : c.slots.size < 2 ^ 31 ∧ c.slots.size.toInt32 = n := by
  obtain ⟨x, y, hx, hy, -, -⟩ := cmp_v (Or.inl h)
  have hp : c.vm.isStatics = false := Arr.plain A
  obtain ⟨h1, ⟨h2, k, hk, comp, hkind⟩, h3⟩ := A
  have hA : s.arrayAt? a = some c := by simp [State.arrayAt?, h1, hk, hkind, h3, hp]
  have hlt : c.slots.size < 2 ^ 31 := by
    apply Classical.byContradiction; intro q
    simp [Term.eval, ev, hA] at hx
    omega
  exact ⟨hlt, gotT (Cond.eq_ints (len_f ev hA hlt) (Term.int_eval n)) h⟩
theorem own_len0 {t : Term} {s : State} {args : Array Value} {a : Addr} {c : Cell} {ty : FieldType} (ev : t.eval args s none [] s = some (.ref a)) (A : Arr s s.heap a c ty) (h : (Jvm.Cond.eq (.length t) (.int (0 : Int32))).value args s none s [] = some true) : c.slots.size = 0 := by
  obtain ⟨h1, h2⟩ := own_len ev A h
  have := len_toInt h1
  rw [h2] at this
  have h0 : (0 : Int32).toInt = 0 := by decide
  omega
theorem d_jdk_43_method_3_0 : decode jdk_43_method_3_code 0 = .ok (.iload_n 0, 1) := by decide +kernel
theorem d_jdk_43_method_3_1 : decode jdk_43_method_3_code 1 = .ok (.sipush 255, 3) := by decide +kernel
theorem d_jdk_43_method_3_4 : decode jdk_43_method_3_code 4 = .ok (.if_icmp .gt 7, 3) := by decide +kernel
theorem d_jdk_43_method_3_7 : decode jdk_43_method_3_code 7 = .ok (.iconst 1, 1) := by decide +kernel
theorem d_jdk_43_method_3_8 : decode jdk_43_method_3_code 8 = .ok (.goto 4, 3) := by decide +kernel
theorem d_jdk_43_method_3_12 : decode jdk_43_method_3_code 12 = .ok (.ireturn, 1) := by decide +kernel
theorem pn_java_lang_StringLatin1 : plainName "java/lang/StringLatin1" = true := by first | (simp [plainName, overriddenIn]; done) | decide +kernel
def Q_can (Z : State) (x : Int32) (h0 : Heap) (n0 : Nat) (vv_ : Option Value) (hh_ : Heap) (LL_ : List Loc) : Prop := vv_ = some (.int (nar .boolean (1 : Int32))) ∧ Fr n0 LL_ ∧ hh_ = h0
set_option maxRecDepth 65536 in
set_option maxHeartbeats 40000000 in
theorem rm_can (l : Launch) (Z : State) (a0 : Array Value) (hw : ∀ d ∈ tables_1, d.before a0 Z = true) (ws : List Jvm.Cond) (x : Int32) (h0 : Heap) (n0 : Nat) (Z0 : n0 ≤ h0.size) (hc : ¬ (255 : Int32) < x) :
    MetFree l (⟨"java/lang/StringLatin1", "canEncode", "(C)Z"⟩ : MethodName) (head1 (Jvm.Cond.code (⟨"java/lang/StringLatin1", "canEncode", "(C)Z"⟩ : MethodName) jdk_43_method_3_code 1 (some .boolean) :: ws) ({ frames := 0, cells := 0, slots := 0, locals := 0 } : Room)) (fun aa_ U => aa_ = #[(.int x)] ∧ Z.Warmed39 U.vm ∧ U.heap = h0) (fun _ _ _ _ _ => True) (fun _ U o U' => ∃ vv_ LL_, o = .returned vv_ ∧ Q_can Z x h0 n0 vv_ U'.heap LL_ ∧ FrameEnd U o U' LL_ 0 0) := by
  refine MetFree.of_bodySF (plainFor_of_name pn_java_lang_StringLatin1) hisR ?_
  intro p e s m args below meth c s₁ Bd hml0 hP hK
  obtain ⟨rfl, hZ, hh⟩ := hP
  have hx := Bd.exec
  have hby := Bd.bytes
  have hml : c.maxLocals = 1 := hml0
  have hown : s.vm.findClass "java/lang/StringLatin1" = some m.cls := findClass_of_methodNamed Bd.named
  have hnm := (name_of_methodNamed Bd.named Bd.method).1
  have X0 : Stand p l e ({ frames := 0, cells := 0, slots := 0, locals := 0 } : Room) s m #[(.int x)] below meth c s₁ [] 0 0 := Stand.of_body Bd
  have e0 : s₁.heap = h0 := by rw [← hh, Bd.state]; rfl
  have N0 := Fr.nil n0
  have ef : entryFrame m #[(.int x)] 1 = mkF m 0 #[.val (.int x)] [] := by first | (simp [entryFrame, mkF, argsToLocals, Value.category]; done) | rfl
  refine Fin.start (Q := Q_can Z x h0 n0) ef ?_
  show Fin _ _ _ _ _ _ _ (s₁.setTop (mkF m 0 #[.val (.int x)] []))
  refine Fin.by (fun t k => XS.iloadN X0.here hx rfl (hb hby d_jdk_43_method_3_0) rfl k) ?_
  show Fin _ _ _ _ _ _ _ (s₁.setTop (mkF m 1 #[.val (.int x)] [(.int x)]))
  refine Fin.by (fun t k => XS.sipush X0.here hx rfl (hb hby d_jdk_43_method_3_1) k) ?_
  show Fin _ _ _ _ _ _ _ (s₁.setTop (mkF m 4 #[.val (.int x)] [(.int (255 : Int32)), (.int x)]))
  refine Fin.by (fun t k => XS.icmpNo X0.here hx rfl (hb hby d_jdk_43_method_3_4) rfl (flt (hc : ¬ (255 : Int32) < x)).2.2.1 k) ?_
  show Fin _ _ _ _ _ _ _ (s₁.setTop (mkF m 7 #[.val (.int x)] []))
  refine Fin.by (fun t k => XS.iconst X0.here hx rfl (hb hby d_jdk_43_method_3_7) k) ?_
  show Fin _ _ _ _ _ _ _ (s₁.setTop (mkF m 8 #[.val (.int x)] [(.int (1 : Int32))]))
  refine Fin.by (fun t k => XS.goto X0.here hx rfl (pc0 := 8) (pc' := 12) rfl (hb hby d_jdk_43_method_3_8) (by decide) (by decide) k) ?_
  show Fin _ _ _ _ _ _ _ (s₁.setTop (mkF m 12 #[.val (.int x)] [(.int (1 : Int32))]))
  exact Fin.ret (v := some (.int (nar .boolean (1 : Int32)))) X0 (fun h => by rw [Bd.returns] at h; cases h) Bd.notSynchronized (by rw [e0]; exact ⟨rfl, N0, rfl⟩) (by decide) (by decide) (fun fs hr => retN X0 hx (t := .boolean) Bd.returns (by simp) (hb hby d_jdk_43_method_3_12) hr)
theorem d_jdk_43_method_46_0 : decode jdk_43_method_46_code 0 = .ok (.iconst 1, 1) := by decide +kernel
theorem d_jdk_43_method_46_1 : decode jdk_43_method_46_code 1 = .ok (.newarray .byte, 2) := by decide +kernel
theorem d_jdk_43_method_46_3 : decode jdk_43_method_46_code 3 = .ok (.dup, 1) := by decide +kernel
theorem d_jdk_43_method_46_4 : decode jdk_43_method_46_code 4 = .ok (.iconst 0, 1) := by decide +kernel
theorem d_jdk_43_method_46_5 : decode jdk_43_method_46_code 5 = .ok (.iload_n 0, 1) := by decide +kernel
theorem d_jdk_43_method_46_6 : decode jdk_43_method_46_code 6 = .ok (.i2b, 1) := by decide +kernel
theorem d_jdk_43_method_46_7 : decode jdk_43_method_46_code 7 = .ok (.bastore, 1) := by decide +kernel
theorem d_jdk_43_method_46_8 : decode jdk_43_method_46_code 8 = .ok (.areturn, 1) := by decide +kernel
def Q_toB (Z : State) (x : Int32) (h0 : Heap) (n0 : Nat) (vv_ : Option Value) (hh_ : Heap) (LL_ : List Loc) : Prop := ∃ (t : Addr), ∃ (k : ClassId), vv_ = some (.ref t) ∧ Fr n0 LL_ ∧ Keep h0 hh_ [] ∧ h0.size ≤ t ∧ Arv Z hh_ t k .byte (1 : Int32) [(.int ((x.toInt8.toInt32).toInt8.toInt32))] (.int (0 : Int32))
set_option maxRecDepth 65536 in
set_option maxHeartbeats 40000000 in
theorem rm_toB (l : Launch) (Z : State) (a0 : Array Value) (hw : ∀ d ∈ tables_1, d.before a0 Z = true) (ws : List Jvm.Cond) (x : Int32) (h0 : Heap) (n0 : Nat) (Z0 : n0 ≤ h0.size) :
    MetFree l (⟨"java/lang/StringLatin1", "toBytes", "(C)[B"⟩ : MethodName) (head1 (Jvm.Cond.code (⟨"java/lang/StringLatin1", "toBytes", "(C)[B"⟩ : MethodName) jdk_43_method_46_code 1 (some (.array .byte)) :: ws) ({ frames := 0, cells := 1, slots := 1, locals := 0 } : Room)) (fun aa_ U => aa_ = #[(.int x)] ∧ Z.Warmed39 U.vm ∧ U.heap = h0) (fun _ _ _ _ _ => True) (fun _ U o U' => ∃ vv_ LL_, o = .returned vv_ ∧ Q_toB Z x h0 n0 vv_ U'.heap LL_ ∧ FrameEnd U o U' LL_ 1 1) := by
  refine MetFree.of_bodySF (plainFor_of_name pn_java_lang_StringLatin1) hisR ?_
  intro p e s m args below meth c s₁ Bd hml0 hP hK
  obtain ⟨rfl, hZ, hh⟩ := hP
  have hx := Bd.exec
  have hby := Bd.bytes
  have hml : c.maxLocals = 1 := hml0
  have hown : s.vm.findClass "java/lang/StringLatin1" = some m.cls := findClass_of_methodNamed Bd.named
  have hnm := (name_of_methodNamed Bd.named Bd.method).1
  have X0 : Stand p l e ({ frames := 0, cells := 1, slots := 1, locals := 0 } : Room) s m #[(.int x)] below meth c s₁ [] 0 0 := Stand.of_body Bd
  have e0 : s₁.heap = h0 := by rw [← hh, Bd.state]; rfl
  have N0 := Fr.nil n0
  have ef : entryFrame m #[(.int x)] 1 = mkF m 0 #[.val (.int x)] [] := by first | (simp [entryFrame, mkF, argsToLocals, Value.category]; done) | rfl
  refine Fin.start (Q := Q_toB Z x h0 n0) ef ?_
  show Fin _ _ _ _ _ _ _ (s₁.setTop (mkF m 0 #[.val (.int x)] []))
  refine Fin.by (fun t k => XS.iconst X0.here hx rfl (hb hby d_jdk_43_method_46_0) k) ?_
  show Fin _ _ _ _ _ _ _ (s₁.setTop (mkF m 1 #[.val (.int x)] [(.int (1 : Int32))]))
  obtain ⟨T101, h101, k101, X101, e101, E101, A101, st101⟩ := newP X0 hx hZ (hw _ (List.mem_of_getElem? (i := 17) rfl)) e0 (g := (mkF m 1 #[.val (.int x)] [(.int (1 : Int32))])) rfl (hb hby d_jdk_43_method_46_1) rfl (by decide) (cap := 1) (by decide) (by decide) (by decide) (by decide)
  obtain ⟨a101, g101⟩ : ∃ z, z = h0.size := ⟨_, rfl⟩
  rw [← g101] at A101 st101
  refine Fin.by (fun t k => st101 t k) ?_
  have V101 : Arv Z h101 a101 k101 .byte (1 : Int32) [(.int (0 : Int32))] (.int (0 : Int32)) := (Arv.new A101 (by decide)).pad (pad_rep [] (.int (0 : Int32)) 1)
  show Fin _ _ _ _ _ _ _ (T101.setTop (mkF m 3 #[.val (.int x)] [(.ref a101)]))
  refine Fin.by (fun t k => XS.dup X101.here hx rfl (hb hby d_jdk_43_method_46_3) rfl rfl k) ?_
  show Fin _ _ _ _ _ _ _ (T101.setTop (mkF m 4 #[.val (.int x)] [(.ref a101), (.ref a101)]))
  refine Fin.by (fun t k => XS.iconst X101.here hx rfl (hb hby d_jdk_43_method_46_4) k) ?_
  show Fin _ _ _ _ _ _ _ (T101.setTop (mkF m 5 #[.val (.int x)] [(.int (0 : Int32)), (.ref a101), (.ref a101)]))
  refine Fin.by (fun t k => XS.iloadN X101.here hx rfl (hb hby d_jdk_43_method_46_5) rfl k) ?_
  show Fin _ _ _ _ _ _ _ (T101.setTop (mkF m 6 #[.val (.int x)] [(.int x), (.int (0 : Int32)), (.ref a101), (.ref a101)]))
  refine Fin.by (fun t k => XS.i2b X101.here hx rfl (hb hby d_jdk_43_method_46_6) rfl k) ?_
  show Fin _ _ _ _ _ _ _ (T101.setTop (mkF m 7 #[.val (.int x)] [(.int (x.toInt8.toInt32)), (.int (0 : Int32)), (.ref a101), (.ref a101)]))
  obtain ⟨cl102, Ar102, q102, S102, N102, H102, G102⟩ := id V101
  obtain ⟨T102, h102, X102, e102, W102, st102⟩ := stB X101 hx hZ e101 Ar102 (j := (0 : Int32)) (inb_of S102 ⟨by decide, by decide⟩) (g := (mkF m 7 #[.val (.int x)] [(.int (x.toInt8.toInt32)), (.int (0 : Int32)), (.ref a101), (.ref a101)])) rfl rfl (hb hby d_jdk_43_method_46_7)
  have V102 : Arv Z h102 a101 k101 .byte (1 : Int32) [(.int ((x.toInt8.toInt32).toInt8.toInt32))] (.int (0 : Int32)) := Arv.set Ar102 q102 S102 N102 H102 G102 (fits_nar_byte _) W102 0 rfl (Nat.le_of_ble_eq_true rfl)
  have g103 : n0 ≤ a101 := Nat.le_trans Z0 (Nat.le_of_eq g101.symm)
  refine Fin.by (fun t k => st102 t k) ?_
  have N102_ := Fr.snoc X102 N0 g103
  show Fin _ _ _ _ _ _ _ (T102.setTop (mkF m 8 #[.val (.int x)] [(.ref a101)]))
  have kp104 : Keep h0 h101 [] := (Keep.refl h0 []).ext E101
  have kp105 : Keep h0 h102 [] := kp104.wr W102 (Or.inr (Nat.le_trans (Nat.le_refl _) (Nat.le_of_eq g101.symm)))
  exact Fin.ret (v := some (.ref a101)) X102 (fun h => by rw [Bd.returns] at h; cases h) Bd.notSynchronized (by rw [e102]; exact ⟨a101, k101, rfl, N102_, kp105, (Nat.le_trans (Nat.le_refl _) (Nat.le_of_eq g101.symm)), V102⟩) (by decide) (by decide) (fun fs hr => retA X102 hx Bd.returns rfl rfl (hb hby d_jdk_43_method_46_8) hr)
theorem d_jdk_42_method_151_0 : decode jdk_42_method_151_code 0 = .ok (.aload_n 0, 1) := by decide +kernel
theorem d_jdk_42_method_151_1 : decode jdk_42_method_151_code 1 = .ok (.invokespecial 1, 3) := by decide +kernel
theorem d_jdk_42_method_151_4 : decode jdk_42_method_151_code 4 = .ok (.aload_n 0, 1) := by decide +kernel
theorem d_jdk_42_method_151_5 : decode jdk_42_method_151_code 5 = .ok (.aload_n 1, 1) := by decide +kernel
theorem d_jdk_42_method_151_6 : decode jdk_42_method_151_code 6 = .ok (.putfield 9, 3) := by decide +kernel
theorem d_jdk_42_method_151_9 : decode jdk_42_method_151_code 9 = .ok (.aload_n 0, 1) := by decide +kernel
theorem d_jdk_42_method_151_10 : decode jdk_42_method_151_code 10 = .ok (.iload_n 2, 1) := by decide +kernel
theorem d_jdk_42_method_151_11 : decode jdk_42_method_151_code 11 = .ok (.putfield 15, 3) := by decide +kernel
theorem d_jdk_42_method_151_14 : decode jdk_42_method_151_code 14 = .ok (.return_, 1) := by decide +kernel
theorem pn_java_lang_String : plainName "java/lang/String" = true := by first | (simp [plainName, overriddenIn]; done) | decide +kernel
def Q_sin (Z : State) (a : Addr) (b : Addr) (h0 : Heap) (n0 : Nat) (vv_ : Option Value) (hh_ : Heap) (LL_ : List Loc) : Prop := vv_ = none ∧ Fr n0 LL_ ∧ Keep h0 hh_ [a] ∧ Exa Z hh_ a "java/lang/String" ∧ Fld Z hh_ a "java/lang/String" "value" "[B" (.ref b) ∧ Fld Z hh_ a "java/lang/String" "coder" "B" (.int (0 : Int32))
set_option maxRecDepth 65536 in
set_option maxHeartbeats 40000000 in
theorem rm_sin (l : Launch) (Z : State) (a0 : Array Value) (hw : ∀ d ∈ tables_1, d.before a0 Z = true) (ws : List Jvm.Cond) (a : Addr) (b : Addr) (h0 : Heap) (n0 : Nat) (Z0 : n0 ≤ h0.size) (E0 : Exa Z h0 a "java/lang/String") (F0 : Fld Z h0 a "java/lang/String" "value" "[B" .null) (F1 : Fld Z h0 a "java/lang/String" "coder" "B" (.int (0 : Int32))) (ga : n0 ≤ a) :
    MetFree l (⟨"java/lang/String", "<init>", "([BB)V"⟩ : MethodName) (head1 (Jvm.Cond.code (⟨"java/lang/String", "<init>", "([BB)V"⟩ : MethodName) jdk_42_method_151_code 3 none :: ws) ({ frames := 1, cells := 0, slots := 0, locals := 12 } : Room)) (fun aa_ U => aa_ = #[(.ref a), (.ref b), (.int (0 : Int32))] ∧ Z.Warmed39 U.vm ∧ U.heap = h0) (fun _ _ _ _ _ => True) (fun _ U o U' => ∃ vv_ LL_, o = .returned vv_ ∧ Q_sin Z a b h0 n0 vv_ U'.heap LL_ ∧ FrameEnd U o U' LL_ 0 0) := by
  refine MetFree.of_bodySF (plainFor_of_name pn_java_lang_String) hisR ?_
  intro p e s m args below meth c s₁ Bd hml0 hP hK
  obtain ⟨rfl, hZ, hh⟩ := hP
  have hx := Bd.exec
  have hby := Bd.bytes
  have hml : c.maxLocals = 3 := hml0
  have hown : s.vm.findClass "java/lang/String" = some m.cls := findClass_of_methodNamed Bd.named
  have hnm := (name_of_methodNamed Bd.named Bd.method).1
  have X0 : Stand p l e ({ frames := 1, cells := 0, slots := 0, locals := 12 } : Room) s m #[(.ref a), (.ref b), (.int (0 : Int32))] below meth c s₁ [] 0 0 := Stand.of_body Bd
  have e0 : s₁.heap = h0 := by rw [← hh, Bd.state]; rfl
  have N0 := Fr.nil n0
  have ef : entryFrame m #[(.ref a), (.ref b), (.int (0 : Int32))] 3 = mkF m 0 #[.val (.ref a), .val (.ref b), .val (.int (0 : Int32))] [] := by first | (simp [entryFrame, mkF, argsToLocals, Value.category]; done) | rfl
  refine Fin.start (Q := Q_sin Z a b h0 n0) ef ?_
  show Fin _ _ _ _ _ _ _ (s₁.setTop (mkF m 0 #[.val (.ref a), .val (.ref b), .val (.int (0 : Int32))] []))
  refine Fin.by (fun t k => XS.aloadN X0.here hx rfl (hb hby d_jdk_42_method_151_0) rfl rfl k) ?_
  show Fin _ _ _ _ _ _ _ (s₁.setTop (mkF m 1 #[.val (.ref a), .val (.ref b), .val (.int (0 : Int32))] [(.ref a)]))
  obtain ⟨T101, X101, e101, st101⟩ := initO X0 hx hZ hown (hw _ (List.mem_of_getElem? (i := 22) rfl)) (hw _ (List.mem_of_getElem? (i := 23) rfl)) (hw _ (List.mem_of_getElem? (i := 24) rfl)) e0 (g := (mkF m 1 #[.val (.ref a), .val (.ref b), .val (.int (0 : Int32))] [(.ref a)])) rfl (by rw [hml]; rfl) rfl (hb hby d_jdk_42_method_151_1) (by decide) (W := 0) (by show 2 * 0 + _ ≤ _; exact Nat.le_of_eq rfl) (by decide)
  refine Fin.by (fun t k => st101 t k) ?_
  show Fin _ _ _ _ _ _ _ (T101.setTop (mkF m 4 #[.val (.ref a), .val (.ref b), .val (.int (0 : Int32))] []))
  refine Fin.by (fun t k => XS.aloadN X101.here hx rfl (hb hby d_jdk_42_method_151_4) rfl rfl k) ?_
  show Fin _ _ _ _ _ _ _ (T101.setTop (mkF m 5 #[.val (.ref a), .val (.ref b), .val (.int (0 : Int32))] [(.ref a)]))
  refine Fin.by (fun t k => XS.aloadN X101.here hx rfl (hb hby d_jdk_42_method_151_5) rfl rfl k) ?_
  show Fin _ _ _ _ _ _ _ (T101.setTop (mkF m 6 #[.val (.ref a), .val (.ref b), .val (.int (0 : Int32))] [(.ref b), (.ref a)]))
  obtain ⟨T102, h102, X102, e102, W102, st102⟩ := putF X101 hx hZ hown (host := "") (Or.inl (hw _ (List.mem_of_getElem? (i := 25) rfl))) Via.refl e101 F0 E0 (Or.inr ⟨(hw _ (List.mem_of_getElem? (i := 26) rfl)), rfl, hnm⟩) (hw _ (List.mem_of_getElem? (i := 13) rfl)) (ty := (.array .byte)) (by decide) rfl rfl (g := (mkF m 6 #[.val (.ref a), .val (.ref b), .val (.int (0 : Int32))] [(.ref b), (.ref a)])) rfl rfl (hb hby d_jdk_42_method_151_6)
  refine Fin.by (fun t k => st102 t k) ?_
  have N102_ := Fr.snoc X102 N0 ga
  show Fin _ _ _ _ _ _ _ (T102.setTop (mkF m 9 #[.val (.ref a), .val (.ref b), .val (.int (0 : Int32))] []))
  refine Fin.by (fun t k => XS.aloadN X102.here hx rfl (hb hby d_jdk_42_method_151_9) rfl rfl k) ?_
  show Fin _ _ _ _ _ _ _ (T102.setTop (mkF m 10 #[.val (.ref a), .val (.ref b), .val (.int (0 : Int32))] [(.ref a)]))
  refine Fin.by (fun t k => XS.iloadN X102.here hx rfl (hb hby d_jdk_42_method_151_10) rfl k) ?_
  show Fin _ _ _ _ _ _ _ (T102.setTop (mkF m 11 #[.val (.ref a), .val (.ref b), .val (.int (0 : Int32))] [(.int (0 : Int32)), (.ref a)]))
  have F103 : Fld Z h102 a "java/lang/String" "coder" "B" (.int (0 : Int32)) := (F1.other W102 (Or.inr (slot_ne (Or.inr (hw _ (List.mem_of_getElem? (i := 28) rfl))) (Or.inr (hw _ (List.mem_of_getElem? (i := 26) rfl))) (by decide) (t := .byte) (t' := (.array .byte)) (by decide) (by decide))))
  have E104 : Exa Z h102 a "java/lang/String" := (E0.wr W102)
  obtain ⟨T105, h105, X105, e105, W105, st105⟩ := putFN X102 hx hZ hown (hw _ (List.mem_of_getElem? (i := 27) rfl)) Via.refl e102 F103 E104 (Or.inr ⟨(hw _ (List.mem_of_getElem? (i := 28) rfl)), rfl, hnm⟩) (hw _ (List.mem_of_getElem? (i := 13) rfl)) (ty := .byte) (v' := .int (0 : Int32)) (by decide) rfl rfl (g := (mkF m 11 #[.val (.ref a), .val (.ref b), .val (.int (0 : Int32))] [(.int (0 : Int32)), (.ref a)])) rfl rfl (hb hby d_jdk_42_method_151_11)
  refine Fin.by (fun t k => st105 t k) ?_
  have N105_ := Fr.snoc X105 N102_ ga
  show Fin _ _ _ _ _ _ _ (T105.setTop (mkF m 14 #[.val (.ref a), .val (.ref b), .val (.int (0 : Int32))] []))
  have kp106 : Keep h0 h102 [a] := (Keep.refl h0 [a]).wr W102 (Or.inl (List.mem_of_getElem? (i := 0) rfl))
  have kp107 : Keep h0 h105 [a] := kp106.wr W105 (Or.inl (List.mem_of_getElem? (i := 0) rfl))
  have E108 : Exa Z h105 a "java/lang/String" := (E104.wr W105)
  have F109 : Fld Z h105 a "java/lang/String" "value" "[B" (.ref b) := ((F0.same W102).other W105 (Or.inr (slot_ne (Or.inr (hw _ (List.mem_of_getElem? (i := 26) rfl))) (Or.inr (hw _ (List.mem_of_getElem? (i := 28) rfl))) (by decide) (t := (.array .byte)) (t' := .byte) (by decide) (by decide))))
  exact Fin.ret (v := none) X105 (fun _ => rfl) Bd.notSynchronized (by rw [e105]; exact ⟨rfl, N105_, kp107, E108, F109, (F103.same W105)⟩) (by decide) (by decide) (fun fs hr => X105.returnOut hx Bd.returns (hb hby d_jdk_42_method_151_14) hr)
theorem d_jdk_42_method_139_0 : decode jdk_42_method_139_code 0 = .ok (.getstatic 38, 3) := by decide +kernel
theorem d_jdk_42_method_139_3 : decode jdk_42_method_139_code 3 = .ok (.ifCond .eq 23, 3) := by decide +kernel
theorem d_jdk_42_method_139_6 : decode jdk_42_method_139_code 6 = .ok (.iload_n 0, 1) := by decide +kernel
theorem pd_28 : parseMethodDescriptor "(C)Z" = some ⟨[.char], some .boolean⟩ := by decide +kernel
theorem d_jdk_42_method_139_7 : decode jdk_42_method_139_code 7 = .ok (.invokestatic 1015, 3) := by decide +kernel
theorem d_jdk_42_method_139_10 : decode jdk_42_method_139_code 10 = .ok (.ifCond .eq 16, 3) := by decide +kernel
theorem d_jdk_42_method_139_13 : decode jdk_42_method_139_code 13 = .ok (.new 10, 3) := by decide +kernel
theorem d_jdk_42_method_139_16 : decode jdk_42_method_139_code 16 = .ok (.dup, 1) := by decide +kernel
theorem d_jdk_42_method_139_17 : decode jdk_42_method_139_code 17 = .ok (.iload_n 0, 1) := by decide +kernel
theorem pd_34 : parseMethodDescriptor "(C)[B" = some ⟨[.char], some (.array .byte)⟩ := by decide +kernel
theorem d_jdk_42_method_139_18 : decode jdk_42_method_139_code 18 = .ok (.invokestatic 1018, 3) := by decide +kernel
theorem d_jdk_42_method_139_21 : decode jdk_42_method_139_code 21 = .ok (.iconst 0, 1) := by decide +kernel
theorem pd_37 : parseMethodDescriptor "([BB)V" = some ⟨[(.array .byte), .byte], none⟩ := by decide +kernel
theorem d_jdk_42_method_139_22 : decode jdk_42_method_139_code 22 = .ok (.invokespecial 209, 3) := by decide +kernel
theorem d_jdk_42_method_139_25 : decode jdk_42_method_139_code 25 = .ok (.areturn, 1) := by decide +kernel
def Q_vof (Z : State) (x : Int32) (G1 : Int32) (h0 : Heap) (n0 : Nat) (vv_ : Option Value) (hh_ : Heap) (LL_ : List Loc) : Prop := ∃ (t : Addr), ∃ (b : Addr), ∃ (k : ClassId), vv_ = some (.ref t) ∧ Fr n0 LL_ ∧ Keep h0 hh_ [] ∧ h0.size ≤ t ∧ h0.size ≤ b ∧ b ≠ t ∧ Exa Z hh_ t "java/lang/String" ∧ Fld Z hh_ t "java/lang/String" "value" "[B" (.ref b) ∧ Fld Z hh_ t "java/lang/String" "coder" "B" (.int (0 : Int32)) ∧ Arv Z hh_ b k .byte (1 : Int32) [(.int ((x.toInt8.toInt32).toInt8.toInt32))] (.int (0 : Int32))
set_option maxRecDepth 65536 in
set_option maxHeartbeats 40000000 in
theorem rm_vof (l : Launch) (Z : State) (a0 : Array Value) (hw : ∀ d ∈ tables_1, d.before a0 Z = true) (ws : List Jvm.Cond) (x : Int32) (G1 : Int32) (h0 : Heap) (n0 : Nat) (Z0 : n0 ≤ h0.size) (hc : ¬ (255 : Int32) < x) (S1 : Sta Z Z.heap "java/lang/String" "COMPACT_STRINGS" "Z" (.int G1)) (P1 : ¬ G1 = 0) (OL : Old Z n0 h0) :
    MetFree l (⟨"java/lang/String", "valueOf", "(C)Ljava/lang/String;"⟩ : MethodName) (head1 (Jvm.Cond.code (⟨"java/lang/String", "valueOf", "(C)Ljava/lang/String;"⟩ : MethodName) jdk_42_method_139_code 1 (some (.object "java/lang/String")) :: ws) ({ frames := 2, cells := 2, slots := 5, locals := 27 } : Room)) (fun aa_ U => aa_ = #[(.int x)] ∧ Z.Warmed39 U.vm ∧ U.heap = h0) (fun _ _ _ _ _ => True) (fun _ U o U' => ∃ vv_ LL_, o = .returned vv_ ∧ Q_vof Z x G1 h0 n0 vv_ U'.heap LL_ ∧ FrameEnd U o U' LL_ 2 5) := by
  refine MetFree.of_bodySF (plainFor_of_name pn_java_lang_String) hisR ?_
  intro p e s m args below meth c s₁ Bd hml0 hP hK
  obtain ⟨rfl, hZ, hh⟩ := hP
  have hx := Bd.exec
  have hby := Bd.bytes
  have hml : c.maxLocals = 1 := hml0
  have hown : s.vm.findClass "java/lang/String" = some m.cls := findClass_of_methodNamed Bd.named
  have hnm := (name_of_methodNamed Bd.named Bd.method).1
  have X0 : Stand p l e ({ frames := 2, cells := 2, slots := 5, locals := 27 } : Room) s m #[(.int x)] below meth c s₁ [] 0 0 := Stand.of_body Bd
  have e0 : s₁.heap = h0 := by rw [← hh, Bd.state]; rfl
  have N0 := Fr.nil n0
  have ef : entryFrame m #[(.int x)] 1 = mkF m 0 #[.val (.int x)] [] := by first | (simp [entryFrame, mkF, argsToLocals, Value.category]; done) | rfl
  refine Fin.start (Q := Q_vof Z x G1 h0 n0) ef ?_
  show Fin _ _ _ _ _ _ _ (s₁.setTop (mkF m 0 #[.val (.int x)] []))
  obtain ⟨T101, X101, e101, st101⟩ := getS X0 hx hZ (host := "") hown (hw _ (List.mem_of_getElem? (i := 7) rfl)) Via.refl e0 (S1.ext OL.2) (g := (mkF m 0 #[.val (.int x)] [])) rfl (hb hby d_jdk_42_method_139_0)
  refine Fin.by (fun t k => st101 t k) ?_
  show Fin _ _ _ _ _ _ _ (T101.setTop (mkF m 3 #[.val (.int x)] [(.int G1)]))
  refine Fin.by (fun t k => XS.ifNo X101.here hx rfl (hb hby d_jdk_42_method_139_3) rfl ((if0 _ _).trans (feq (P1 : ¬ G1 = (0 : Int32))).1) k) ?_
  show Fin _ _ _ _ _ _ _ (T101.setTop (mkF m 6 #[.val (.int x)] []))
  refine Fin.by (fun t k => XS.iloadN X101.here hx rfl (hb hby d_jdk_42_method_139_6) rfl k) ?_
  show Fin _ _ _ _ _ _ _ (T101.setTop (mkF m 7 #[.val (.int x)] [(.int x)]))
  obtain ⟨v102, _, ⟨T102, L102, k102, n102⟩, -, X102, ⟨Lc102, hQ102, l102, y102, z102⟩, st102⟩ := Jvm.LawKit.callS X101 hx (y := (⟨"java/lang/StringLatin1", "canEncode", "(C)Z"⟩ : MethodName)) hown (mvT hZ (hw _ (List.mem_of_getElem? (i := 8) rfl))) (mvT hZ (hw _ (List.mem_of_getElem? (i := 9) rfl))) (mvT hZ (hw _ (List.mem_of_getElem? (i := 10) rfl))) (mvT hZ (hw _ (List.mem_of_getElem? (i := 11) rfl))) (by decide) (backOf (W := 0) (rm_can l Z a0 hw [] x h0 n0 Z0 hc) hZ (hw _ (List.mem_of_getElem? (i := 11) rfl)) (hw _ (List.mem_of_getElem? (i := 10) rfl)) (by decide) (by decide)) (g := (mkF m 7 #[.val (.int x)] [(.int x)])) rfl (by rw [hml]; rfl) (argsL := [(.int x)]) (rest := []) (lenOf pd_28 rfl) rfl (by show 2 * 0 + _ ≤ _; exact Nat.le_of_eq rfl) (hb hby d_jdk_42_method_139_7) (fun _ _ => ⟨rfl, e101, (by decide : 0 + 0 ≤ _), (by decide : 0 + 0 ≤ _)⟩)
  dsimp only [Pt.U, Pt.locs, Pt.cells, Pt.slots] at X102 l102 y102 z102 st102 hQ102
  subst l102 y102 z102
  obtain ⟨rfl, Nq102, e102_⟩ := hQ102
  have N102_ := Fr.app N0 Nq102
  refine Fin.by (fun t k => st102 t k) ?_
  have e102 := e102_
  show Fin _ _ _ _ _ _ _ (T102.setTop (mkF m 10 #[.val (.int x)] [(.int (nar .boolean (1 : Int32)))]))
  refine Fin.by (fun t k => XS.ifNo X102.here hx rfl (hb hby d_jdk_42_method_139_10) rfl ((if0 _ _).trans (feq (by decide : ¬ (nar .boolean (1 : Int32)) = (0 : Int32))).1) k) ?_
  show Fin _ _ _ _ _ _ _ (T102.setTop (mkF m 13 #[.val (.int x)] []))
  obtain ⟨T103, h103, X103, e103, E103, A103, D103, -, st103⟩ := newO X102 hx hZ hown (hw _ (List.mem_of_getElem? (i := 12) rfl)) (hw _ (List.mem_of_getElem? (i := 13) rfl)) (hw _ (List.mem_of_getElem? (i := 5) rfl)) e102 (g := (mkF m 13 #[.val (.int x)] [])) rfl (hb hby d_jdk_42_method_139_13) (by decide) (by decide)
  obtain ⟨a103, g103⟩ : ∃ z, z = h0.size := ⟨_, rfl⟩
  rw [← g103] at A103 D103 st103
  refine Fin.by (fun t k => st103 t k) ?_
  show Fin _ _ _ _ _ _ _ (T103.setTop (mkF m 16 #[.val (.int x)] [(.ref a103)]))
  refine Fin.by (fun t k => XS.dup X103.here hx rfl (hb hby d_jdk_42_method_139_16) rfl rfl k) ?_
  show Fin _ _ _ _ _ _ _ (T103.setTop (mkF m 17 #[.val (.int x)] [(.ref a103), (.ref a103)]))
  refine Fin.by (fun t k => XS.iloadN X103.here hx rfl (hb hby d_jdk_42_method_139_17) rfl k) ?_
  show Fin _ _ _ _ _ _ _ (T103.setTop (mkF m 18 #[.val (.int x)] [(.int x), (.ref a103), (.ref a103)]))
  have z104 : n0 ≤ h103.size := Nat.le_trans Z0 E103.1
  obtain ⟨v105, _, ⟨T105, L105, k105, n105⟩, -, X105, ⟨Lc105, hQ105, l105, y105, z105⟩, st105⟩ := Jvm.LawKit.callS X103 hx (y := (⟨"java/lang/StringLatin1", "toBytes", "(C)[B"⟩ : MethodName)) hown (mvT hZ (hw _ (List.mem_of_getElem? (i := 14) rfl))) (mvT hZ (hw _ (List.mem_of_getElem? (i := 15) rfl))) (mvT hZ (hw _ (List.mem_of_getElem? (i := 10) rfl))) (mvT hZ (hw _ (List.mem_of_getElem? (i := 16) rfl))) (by decide) (backOf (W := 2) (rm_toB l Z a0 hw [] x h103 n0 z104 ) hZ (hw _ (List.mem_of_getElem? (i := 16) rfl)) (hw _ (List.mem_of_getElem? (i := 10) rfl)) (by decide) (by decide)) (g := (mkF m 18 #[.val (.int x)] [(.int x), (.ref a103), (.ref a103)])) rfl (by rw [hml]; rfl) (argsL := [(.int x)]) (rest := [(.ref a103), (.ref a103)]) (lenOf pd_34 rfl) rfl (by show 2 * 0 + _ ≤ _; exact Nat.le_of_eq rfl) (hb hby d_jdk_42_method_139_18) (fun _ _ => ⟨rfl, e103, (by decide : 1 + 1 ≤ _), (by decide : 4 + 1 ≤ _)⟩)
  dsimp only [Pt.U, Pt.locs, Pt.cells, Pt.slots] at X105 l105 y105 z105 st105 hQ105
  subst l105 y105 z105
  obtain ⟨t106, k107, rfl, Nq105, p105_0, p105_1, p105_2⟩ := hQ105
  have N105_ := Fr.app N102_ Nq105
  refine Fin.by (fun t k => st105 t k) ?_
  show Fin _ _ _ _ _ _ _ (T105.setTop (mkF m 21 #[.val (.int x)] [(.ref t106), (.ref a103), (.ref a103)]))
  refine Fin.by (fun t k => XS.iconst X105.here hx rfl (hb hby d_jdk_42_method_139_21) k) ?_
  show Fin _ _ _ _ _ _ _ (T105.setTop (mkF m 22 #[.val (.int x)] [(.int (0 : Int32)), (.ref t106), (.ref a103), (.ref a103)]))
  have E108 : Exa Z T105.heap a103 "java/lang/String" := (A103.keep p105_0)
  have F109 : Fld Z T105.heap a103 "java/lang/String" "value" "[B" .null := ((D103 (Or.inr (hw _ (List.mem_of_getElem? (i := 26) rfl))) (ty := (.array .byte)) (by decide) : Fld Z h103 a103 "java/lang/String" "value" "[B" .null).keep p105_0 nin0)
  have F110 : Fld Z T105.heap a103 "java/lang/String" "coder" "B" (.int (0 : Int32)) := ((D103 (Or.inr (hw _ (List.mem_of_getElem? (i := 28) rfl))) (ty := .byte) (by decide) : Fld Z h103 a103 "java/lang/String" "coder" "B" (.int (0 : Int32))).keep p105_0 nin0)
  have g111 : n0 ≤ a103 := Nat.le_trans Z0 (Nat.le_of_eq g103.symm)
  have z112 : n0 ≤ T105.heap.size := Nat.le_trans z104 p105_0.1
  obtain ⟨v113, _, ⟨T113, L113, k113, n113⟩, -, X113, ⟨Lc113, hQ113, l113, y113, z113⟩, st113⟩ := X105.specialBack hx (y := (⟨"java/lang/String", "<init>", "([BB)V"⟩ : MethodName)) rfl hown (mvT hZ (hw _ (List.mem_of_getElem? (i := 18) rfl))) (mvT hZ (hw _ (List.mem_of_getElem? (i := 19) rfl))) (mvT hZ (hw _ (List.mem_of_getElem? (i := 21) rfl))) (by decide) (backOf (W := 1) (rm_sin l Z a0 hw [] a103 t106 T105.heap n0 z112 E108 F109 F110 g111) hZ (hw _ (List.mem_of_getElem? (i := 21) rfl)) (hw _ (List.mem_of_getElem? (i := 5) rfl)) (by decide) (by decide)) (g := (mkF m 22 #[.val (.int x)] [(.int (0 : Int32)), (.ref t106), (.ref a103), (.ref a103)])) rfl (by rw [hml]; rfl) (Steps.refl _) (a := a103) (argsL := [(.ref t106), (.int (0 : Int32))]) (rest := [(.ref a103)]) (lenOf pd_37 rfl) rfl (by show 2 * 0 + _ ≤ _; exact Nat.le_of_eq rfl) (hb hby d_jdk_42_method_139_22) (fun _ _ => ⟨rfl, rfl, (by decide : 2 + 0 ≤ _), (by decide : 5 + 0 ≤ _)⟩)
  dsimp only [Pt.U, Pt.locs, Pt.cells, Pt.slots] at X113 l113 y113 z113 st113 hQ113
  subst l113 y113 z113
  obtain ⟨rfl, Nq113, p113_0, p113_1, p113_2, p113_3⟩ := hQ113
  have N113_ := Fr.app N105_ Nq113
  refine Fin.byS st113 ?_
  show Fin _ _ _ _ _ _ _ (T113.setTop (mkF m 25 #[.val (.int x)] [(.ref a103)]))
  have kp114 : Keep h0 h103 [] := (Keep.refl h0 []).ext E103
  have kp115 : Keep h0 T105.heap [] := kp114.trans p105_0 all0
  have kp116 : Keep h0 T113.heap [] := kp115.trans p113_0 (allS (Or.inr (Nat.le_trans (Nat.le_refl _) (Nat.le_of_eq g103.symm))) all0)
  have ne117 : a103 ≠ t106 := Nat.ne_of_lt (Nat.lt_of_lt_of_le A103.lt p105_1)
  have A118 : Arv Z T113.heap t106 k107 .byte (1 : Int32) [(.int ((x.toInt8.toInt32).toInt8.toInt32))] (.int (0 : Int32)) := (p105_2.keep p113_0 (ninS (Ne.symm ne117) nin0))
  exact Fin.ret (v := some (.ref a103)) X113 (fun h => by rw [Bd.returns] at h; cases h) Bd.notSynchronized (⟨a103, t106, k107, rfl, N113_, kp116, (Nat.le_trans (Nat.le_refl _) (Nat.le_of_eq g103.symm)), (Nat.le_trans E103.1 p105_1), (Ne.symm ne117), p113_1, p113_2, p113_3, A118⟩) (by decide) (by decide) (fun fs hr => retA X113 hx Bd.returns rfl rfl (hb hby d_jdk_42_method_139_25) hr)
theorem d_jdk_30_method_1_0 : decode jdk_30_method_1_code 0 = .ok (.aload_n 0, 1) := by decide +kernel
theorem d_jdk_30_method_1_1 : decode jdk_30_method_1_code 1 = .ok (.invokespecial 1, 3) := by decide +kernel
theorem d_jdk_30_method_1_4 : decode jdk_30_method_1_code 4 = .ok (.return_, 1) := by decide +kernel
theorem pn_java_lang_Record : plainName "java/lang/Record" = true := by first | (simp [plainName, overriddenIn]; done) | decide +kernel
def Q_rec (Z : State) (a : Addr) (h0 : Heap) (n0 : Nat) (vv_ : Option Value) (hh_ : Heap) (LL_ : List Loc) : Prop := vv_ = none ∧ Fr n0 LL_ ∧ hh_ = h0
set_option maxRecDepth 65536 in
set_option maxHeartbeats 40000000 in
theorem rm_rec (l : Launch) (Z : State) (a0 : Array Value) (hw : ∀ d ∈ tables_1, d.before a0 Z = true) (ws : List Jvm.Cond) (a : Addr) (h0 : Heap) (n0 : Nat) (Z0 : n0 ≤ h0.size) :
    MetFree l (⟨"java/lang/Record", "<init>", "()V"⟩ : MethodName) (head1 (Jvm.Cond.code (⟨"java/lang/Record", "<init>", "()V"⟩ : MethodName) jdk_30_method_1_code 1 none :: ws) ({ frames := 1, cells := 0, slots := 0, locals := 12 } : Room)) (fun aa_ U => aa_ = #[(.ref a)] ∧ Z.Warmed39 U.vm ∧ U.heap = h0) (fun _ _ _ _ _ => True) (fun _ U o U' => ∃ vv_ LL_, o = .returned vv_ ∧ Q_rec Z a h0 n0 vv_ U'.heap LL_ ∧ FrameEnd U o U' LL_ 0 0) := by
  refine MetFree.of_bodySF (plainFor_of_name pn_java_lang_Record) hisR ?_
  intro p e s m args below meth c s₁ Bd hml0 hP hK
  obtain ⟨rfl, hZ, hh⟩ := hP
  have hx := Bd.exec
  have hby := Bd.bytes
  have hml : c.maxLocals = 1 := hml0
  have hown : s.vm.findClass "java/lang/Record" = some m.cls := findClass_of_methodNamed Bd.named
  have hnm := (name_of_methodNamed Bd.named Bd.method).1
  have X0 : Stand p l e ({ frames := 1, cells := 0, slots := 0, locals := 12 } : Room) s m #[(.ref a)] below meth c s₁ [] 0 0 := Stand.of_body Bd
  have e0 : s₁.heap = h0 := by rw [← hh, Bd.state]; rfl
  have N0 := Fr.nil n0
  have ef : entryFrame m #[(.ref a)] 1 = mkF m 0 #[.val (.ref a)] [] := by first | (simp [entryFrame, mkF, argsToLocals, Value.category]; done) | rfl
  refine Fin.start (Q := Q_rec Z a h0 n0) ef ?_
  show Fin _ _ _ _ _ _ _ (s₁.setTop (mkF m 0 #[.val (.ref a)] []))
  refine Fin.by (fun t k => XS.aloadN X0.here hx rfl (hb hby d_jdk_30_method_1_0) rfl rfl k) ?_
  show Fin _ _ _ _ _ _ _ (s₁.setTop (mkF m 1 #[.val (.ref a)] [(.ref a)]))
  obtain ⟨T101, X101, e101, st101⟩ := initO X0 hx hZ hown (hw _ (List.mem_of_getElem? (i := 37) rfl)) (hw _ (List.mem_of_getElem? (i := 23) rfl)) (hw _ (List.mem_of_getElem? (i := 24) rfl)) e0 (g := (mkF m 1 #[.val (.ref a)] [(.ref a)])) rfl (by rw [hml]; rfl) rfl (hb hby d_jdk_30_method_1_1) (by decide) (W := 0) (by show 2 * 0 + _ ≤ _; exact Nat.le_of_eq rfl) (by decide)
  refine Fin.by (fun t k => st101 t k) ?_
  show Fin _ _ _ _ _ _ _ (T101.setTop (mkF m 4 #[.val (.ref a)] []))
  exact Fin.ret (v := none) X101 (fun _ => rfl) Bd.notSynchronized (by rw [e101]; exact ⟨rfl, N0, rfl⟩) (by decide) (by decide) (fun fs hr => X101.returnOut hx Bd.returns (hb hby d_jdk_30_method_1_4) hr)
theorem d_prog_25_method_1_0 : decode prog_25_method_1_code 0 = .ok (.aload_n 0, 1) := by decide +kernel
theorem pd_45 : parseMethodDescriptor "()V" = some ⟨[], none⟩ := by decide +kernel
theorem d_prog_25_method_1_1 : decode prog_25_method_1_code 1 = .ok (.invokespecial 1, 3) := by decide +kernel
theorem d_prog_25_method_1_4 : decode prog_25_method_1_code 4 = .ok (.aload_n 0, 1) := by decide +kernel
theorem d_prog_25_method_1_5 : decode prog_25_method_1_code 5 = .ok (.aload_n 1, 1) := by decide +kernel
theorem d_prog_25_method_1_6 : decode prog_25_method_1_code 6 = .ok (.putfield 7, 3) := by decide +kernel
theorem d_prog_25_method_1_9 : decode prog_25_method_1_code 9 = .ok (.aload_n 0, 1) := by decide +kernel
theorem d_prog_25_method_1_10 : decode prog_25_method_1_code 10 = .ok (.aload_n 2, 1) := by decide +kernel
theorem d_prog_25_method_1_11 : decode prog_25_method_1_code 11 = .ok (.putfield 13, 3) := by decide +kernel
theorem d_prog_25_method_1_14 : decode prog_25_method_1_code 14 = .ok (.return_, 1) := by decide +kernel
theorem pn_com_example_portcullis_portcullis_ResourceName : plainName "com/example/portcullis/portcullis/ResourceName" = true := by first | (simp [plainName, overriddenIn]; done) | decide +kernel
def Q_rni (Z : State) (a : Addr) (b1 : Addr) (b2 : Addr) (h0 : Heap) (n0 : Nat) (vv_ : Option Value) (hh_ : Heap) (LL_ : List Loc) : Prop := vv_ = none ∧ Fr n0 LL_ ∧ Keep h0 hh_ [a] ∧ Exa Z hh_ a "com/example/portcullis/portcullis/ResourceName"
set_option maxRecDepth 65536 in
set_option maxHeartbeats 40000000 in
theorem rm_rni (l : Launch) (Z : State) (a0 : Array Value) (hw : ∀ d ∈ tables_1, d.before a0 Z = true) (ws : List Jvm.Cond) (a : Addr) (b1 : Addr) (b2 : Addr) (h0 : Heap) (n0 : Nat) (Z0 : n0 ≤ h0.size) (E0 : Exa Z h0 a "com/example/portcullis/portcullis/ResourceName") (F1 : Fld Z h0 a "com/example/portcullis/portcullis/ResourceName" "type" "Ljava/lang/String;" .null) (F2 : Fld Z h0 a "com/example/portcullis/portcullis/ResourceName" "id" "Ljava/lang/String;" .null) (ga : n0 ≤ a) :
    MetFree l (⟨"com/example/portcullis/portcullis/ResourceName", "<init>", "(Ljava/lang/String;Ljava/lang/String;)V"⟩ : MethodName) (head1 (Jvm.Cond.code (⟨"com/example/portcullis/portcullis/ResourceName", "<init>", "(Ljava/lang/String;Ljava/lang/String;)V"⟩ : MethodName) prog_25_method_1_code 3 none :: ws) ({ frames := 2, cells := 0, slots := 0, locals := 24 } : Room)) (fun aa_ U => aa_ = #[(.ref a), (.ref b1), (.ref b2)] ∧ Z.Warmed39 U.vm ∧ U.heap = h0) (fun _ _ _ _ _ => True) (fun _ U o U' => ∃ vv_ LL_, o = .returned vv_ ∧ Q_rni Z a b1 b2 h0 n0 vv_ U'.heap LL_ ∧ FrameEnd U o U' LL_ 0 0) := by
  refine MetFree.of_bodySF (plainFor_of_name pn_com_example_portcullis_portcullis_ResourceName) hisR ?_
  intro p e s m args below meth c s₁ Bd hml0 hP hK
  obtain ⟨rfl, hZ, hh⟩ := hP
  have hx := Bd.exec
  have hby := Bd.bytes
  have hml : c.maxLocals = 3 := hml0
  have hown : s.vm.findClass "com/example/portcullis/portcullis/ResourceName" = some m.cls := findClass_of_methodNamed Bd.named
  have hnm := (name_of_methodNamed Bd.named Bd.method).1
  have X0 : Stand p l e ({ frames := 2, cells := 0, slots := 0, locals := 24 } : Room) s m #[(.ref a), (.ref b1), (.ref b2)] below meth c s₁ [] 0 0 := Stand.of_body Bd
  have e0 : s₁.heap = h0 := by rw [← hh, Bd.state]; rfl
  have N0 := Fr.nil n0
  have ef : entryFrame m #[(.ref a), (.ref b1), (.ref b2)] 3 = mkF m 0 #[.val (.ref a), .val (.ref b1), .val (.ref b2)] [] := by first | (simp [entryFrame, mkF, argsToLocals, Value.category]; done) | rfl
  refine Fin.start (Q := Q_rni Z a b1 b2 h0 n0) ef ?_
  show Fin _ _ _ _ _ _ _ (s₁.setTop (mkF m 0 #[.val (.ref a), .val (.ref b1), .val (.ref b2)] []))
  refine Fin.by (fun t k => XS.aloadN X0.here hx rfl (hb hby d_prog_25_method_1_0) rfl rfl k) ?_
  show Fin _ _ _ _ _ _ _ (s₁.setTop (mkF m 1 #[.val (.ref a), .val (.ref b1), .val (.ref b2)] [(.ref a)]))
  obtain ⟨v101, _, ⟨T101, L101, k101, n101⟩, -, X101, ⟨Lc101, hQ101, l101, y101, z101⟩, st101⟩ := X0.specialBack hx (y := (⟨"java/lang/Record", "<init>", "()V"⟩ : MethodName)) rfl hown (mvT hZ (hw _ (List.mem_of_getElem? (i := 32) rfl))) (mvT hZ (hw _ (List.mem_of_getElem? (i := 33) rfl))) (mvT hZ (hw _ (List.mem_of_getElem? (i := 36) rfl))) (by decide) (backOf (W := 0) (rm_rec l Z a0 hw [] a h0 n0 Z0 ) hZ (hw _ (List.mem_of_getElem? (i := 36) rfl)) (hw _ (List.mem_of_getElem? (i := 35) rfl)) (by decide) (by decide)) (g := (mkF m 1 #[.val (.ref a), .val (.ref b1), .val (.ref b2)] [(.ref a)])) rfl (by rw [hml]; rfl) (Steps.refl _) (a := a) (argsL := []) (rest := []) (lenOf pd_45 rfl) rfl (by show 2 * 0 + _ ≤ _; exact Nat.le_of_eq rfl) (hb hby d_prog_25_method_1_1) (fun _ _ => ⟨rfl, e0, (by decide : 0 + 0 ≤ _), (by decide : 0 + 0 ≤ _)⟩)
  dsimp only [Pt.U, Pt.locs, Pt.cells, Pt.slots] at X101 l101 y101 z101 st101 hQ101
  subst l101 y101 z101
  obtain ⟨rfl, Nq101, e101_⟩ := hQ101
  have N101_ := Fr.app N0 Nq101
  refine Fin.byS st101 ?_
  have e101 := e101_
  show Fin _ _ _ _ _ _ _ (T101.setTop (mkF m 4 #[.val (.ref a), .val (.ref b1), .val (.ref b2)] []))
  refine Fin.by (fun t k => XS.aloadN X101.here hx rfl (hb hby d_prog_25_method_1_4) rfl rfl k) ?_
  show Fin _ _ _ _ _ _ _ (T101.setTop (mkF m 5 #[.val (.ref a), .val (.ref b1), .val (.ref b2)] [(.ref a)]))
  refine Fin.by (fun t k => XS.aloadN X101.here hx rfl (hb hby d_prog_25_method_1_5) rfl rfl k) ?_
  show Fin _ _ _ _ _ _ _ (T101.setTop (mkF m 6 #[.val (.ref a), .val (.ref b1), .val (.ref b2)] [(.ref b1), (.ref a)]))
  obtain ⟨T102, h102, X102, e102, W102, st102⟩ := putF X101 hx hZ hown (host := "") (Or.inl (hw _ (List.mem_of_getElem? (i := 38) rfl))) Via.refl e101 F1 E0 (Or.inr ⟨(hw _ (List.mem_of_getElem? (i := 39) rfl)), rfl, hnm⟩) (hw _ (List.mem_of_getElem? (i := 1) rfl)) (ty := (.object "java/lang/String")) (by decide) rfl rfl (g := (mkF m 6 #[.val (.ref a), .val (.ref b1), .val (.ref b2)] [(.ref b1), (.ref a)])) rfl rfl (hb hby d_prog_25_method_1_6)
  refine Fin.by (fun t k => st102 t k) ?_
  have N102_ := Fr.snoc X102 N101_ ga
  show Fin _ _ _ _ _ _ _ (T102.setTop (mkF m 9 #[.val (.ref a), .val (.ref b1), .val (.ref b2)] []))
  refine Fin.by (fun t k => XS.aloadN X102.here hx rfl (hb hby d_prog_25_method_1_9) rfl rfl k) ?_
  show Fin _ _ _ _ _ _ _ (T102.setTop (mkF m 10 #[.val (.ref a), .val (.ref b1), .val (.ref b2)] [(.ref a)]))
  refine Fin.by (fun t k => XS.aloadN X102.here hx rfl (hb hby d_prog_25_method_1_10) rfl rfl k) ?_
  show Fin _ _ _ _ _ _ _ (T102.setTop (mkF m 11 #[.val (.ref a), .val (.ref b1), .val (.ref b2)] [(.ref b2), (.ref a)]))
  have F103 : Fld Z h102 a "com/example/portcullis/portcullis/ResourceName" "id" "Ljava/lang/String;" .null := (F2.other W102 (Or.inr (slot_ne (Or.inr (hw _ (List.mem_of_getElem? (i := 41) rfl))) (Or.inr (hw _ (List.mem_of_getElem? (i := 39) rfl))) (by decide) (t := (.object "java/lang/String")) (t' := (.object "java/lang/String")) (by decide) (by decide))))
  have E104 : Exa Z h102 a "com/example/portcullis/portcullis/ResourceName" := (E0.wr W102)
  obtain ⟨T105, h105, X105, e105, W105, st105⟩ := putF X102 hx hZ hown (host := "") (Or.inl (hw _ (List.mem_of_getElem? (i := 40) rfl))) Via.refl e102 F103 E104 (Or.inr ⟨(hw _ (List.mem_of_getElem? (i := 41) rfl)), rfl, hnm⟩) (hw _ (List.mem_of_getElem? (i := 1) rfl)) (ty := (.object "java/lang/String")) (by decide) rfl rfl (g := (mkF m 11 #[.val (.ref a), .val (.ref b1), .val (.ref b2)] [(.ref b2), (.ref a)])) rfl rfl (hb hby d_prog_25_method_1_11)
  refine Fin.by (fun t k => st105 t k) ?_
  have N105_ := Fr.snoc X105 N102_ ga
  show Fin _ _ _ _ _ _ _ (T105.setTop (mkF m 14 #[.val (.ref a), .val (.ref b1), .val (.ref b2)] []))
  have kp106 : Keep h0 h102 [a] := (Keep.refl h0 [a]).wr W102 (Or.inl (List.mem_of_getElem? (i := 0) rfl))
  have kp107 : Keep h0 h105 [a] := kp106.wr W105 (Or.inl (List.mem_of_getElem? (i := 0) rfl))
  have E108 : Exa Z h105 a "com/example/portcullis/portcullis/ResourceName" := (E104.wr W105)
  exact Fin.ret (v := none) X105 (fun _ => rfl) Bd.notSynchronized (by rw [e105]; exact ⟨rfl, N105_, kp107, E108⟩) (by decide) (by decide) (fun fs hr => X105.returnOut hx Bd.returns (hb hby d_prog_25_method_1_14) hr)
theorem d_prog_17_method_1_0 : decode prog_17_method_1_code 0 = .ok (.aload_n 0, 1) := by decide +kernel
theorem d_prog_17_method_1_1 : decode prog_17_method_1_code 1 = .ok (.invokespecial 1, 3) := by decide +kernel
theorem d_prog_17_method_1_4 : decode prog_17_method_1_code 4 = .ok (.aload_n 0, 1) := by decide +kernel
theorem d_prog_17_method_1_5 : decode prog_17_method_1_code 5 = .ok (.aload_n 1, 1) := by decide +kernel
theorem d_prog_17_method_1_6 : decode prog_17_method_1_code 6 = .ok (.putfield 7, 3) := by decide +kernel
theorem d_prog_17_method_1_9 : decode prog_17_method_1_code 9 = .ok (.aload_n 0, 1) := by decide +kernel
theorem d_prog_17_method_1_10 : decode prog_17_method_1_code 10 = .ok (.aload_n 2, 1) := by decide +kernel
theorem d_prog_17_method_1_11 : decode prog_17_method_1_code 11 = .ok (.putfield 13, 3) := by decide +kernel
theorem d_prog_17_method_1_14 : decode prog_17_method_1_code 14 = .ok (.return_, 1) := by decide +kernel
theorem pn_com_example_portcullis_portcullis_Principal : plainName "com/example/portcullis/portcullis/Principal" = true := by first | (simp [plainName, overriddenIn]; done) | decide +kernel
def Q_pri (Z : State) (a : Addr) (v1 : Value) (b2 : Addr) (h0 : Heap) (n0 : Nat) (vv_ : Option Value) (hh_ : Heap) (LL_ : List Loc) : Prop := vv_ = none ∧ Fr n0 LL_ ∧ Keep h0 hh_ [a] ∧ Exa Z hh_ a "com/example/portcullis/portcullis/Principal"
set_option maxRecDepth 65536 in
set_option maxHeartbeats 40000000 in
theorem rm_pri (l : Launch) (Z : State) (a0 : Array Value) (hw : ∀ d ∈ tables_1, d.before a0 Z = true) (ws : List Jvm.Cond) (a : Addr) (v1 : Value) (b2 : Addr) (h0 : Heap) (n0 : Nat) (Z0 : n0 ≤ h0.size) (E0 : Exa Z h0 a "com/example/portcullis/portcullis/Principal") (F1 : Fld Z h0 a "com/example/portcullis/portcullis/Principal" "type" "Lcom/example/portcullis/portcullis/Principal$Type;" .null) (F2 : Fld Z h0 a "com/example/portcullis/portcullis/Principal" "id" "Ljava/lang/String;" .null) (ga : n0 ≤ a) (r1 : v1.isRef = true) :
    MetFree l (⟨"com/example/portcullis/portcullis/Principal", "<init>", "(Lcom/example/portcullis/portcullis/Principal$Type;Ljava/lang/String;)V"⟩ : MethodName) (head1 (Jvm.Cond.code (⟨"com/example/portcullis/portcullis/Principal", "<init>", "(Lcom/example/portcullis/portcullis/Principal$Type;Ljava/lang/String;)V"⟩ : MethodName) prog_17_method_1_code 3 none :: ws) ({ frames := 2, cells := 0, slots := 0, locals := 24 } : Room)) (fun aa_ U => aa_ = #[(.ref a), v1, (.ref b2)] ∧ Z.Warmed39 U.vm ∧ U.heap = h0) (fun _ _ _ _ _ => True) (fun _ U o U' => ∃ vv_ LL_, o = .returned vv_ ∧ Q_pri Z a v1 b2 h0 n0 vv_ U'.heap LL_ ∧ FrameEnd U o U' LL_ 0 0) := by
  refine MetFree.of_bodySF (plainFor_of_name pn_com_example_portcullis_portcullis_Principal) hisR ?_
  intro p e s m args below meth c s₁ Bd hml0 hP hK
  obtain ⟨rfl, hZ, hh⟩ := hP
  have hx := Bd.exec
  have hby := Bd.bytes
  have hml : c.maxLocals = 3 := hml0
  have hown : s.vm.findClass "com/example/portcullis/portcullis/Principal" = some m.cls := findClass_of_methodNamed Bd.named
  have hnm := (name_of_methodNamed Bd.named Bd.method).1
  have X0 : Stand p l e ({ frames := 2, cells := 0, slots := 0, locals := 24 } : Room) s m #[(.ref a), v1, (.ref b2)] below meth c s₁ [] 0 0 := Stand.of_body Bd
  have e0 : s₁.heap = h0 := by rw [← hh, Bd.state]; rfl
  have N0 := Fr.nil n0
  have ef : entryFrame m #[(.ref a), v1, (.ref b2)] 3 = mkF m 0 #[.val (.ref a), .val v1, .val (.ref b2)] [] := by first | (simp [entryFrame, mkF, argsToLocals, Value.category]; done) | rfl | (rcases ref_cases r1 with rfl | ⟨_, rfl⟩ <;> simp [entryFrame, mkF, argsToLocals, Value.category])
  refine Fin.start (Q := Q_pri Z a v1 b2 h0 n0) ef ?_
  show Fin _ _ _ _ _ _ _ (s₁.setTop (mkF m 0 #[.val (.ref a), .val v1, .val (.ref b2)] []))
  refine Fin.by (fun t k => XS.aloadN X0.here hx rfl (hb hby d_prog_17_method_1_0) rfl rfl k) ?_
  show Fin _ _ _ _ _ _ _ (s₁.setTop (mkF m 1 #[.val (.ref a), .val v1, .val (.ref b2)] [(.ref a)]))
  obtain ⟨v101, _, ⟨T101, L101, k101, n101⟩, -, X101, ⟨Lc101, hQ101, l101, y101, z101⟩, st101⟩ := X0.specialBack hx (y := (⟨"java/lang/Record", "<init>", "()V"⟩ : MethodName)) rfl hown (mvT hZ (hw _ (List.mem_of_getElem? (i := 51) rfl))) (mvT hZ (hw _ (List.mem_of_getElem? (i := 33) rfl))) (mvT hZ (hw _ (List.mem_of_getElem? (i := 36) rfl))) (by decide) (backOf (W := 0) (rm_rec l Z a0 hw [] a h0 n0 Z0 ) hZ (hw _ (List.mem_of_getElem? (i := 36) rfl)) (hw _ (List.mem_of_getElem? (i := 35) rfl)) (by decide) (by decide)) (g := (mkF m 1 #[.val (.ref a), .val v1, .val (.ref b2)] [(.ref a)])) rfl (by rw [hml]; rfl) (Steps.refl _) (a := a) (argsL := []) (rest := []) (lenOf pd_45 rfl) rfl (by show 2 * 0 + _ ≤ _; exact Nat.le_of_eq rfl) (hb hby d_prog_17_method_1_1) (fun _ _ => ⟨rfl, e0, (by decide : 0 + 0 ≤ _), (by decide : 0 + 0 ≤ _)⟩)
  dsimp only [Pt.U, Pt.locs, Pt.cells, Pt.slots] at X101 l101 y101 z101 st101 hQ101
  subst l101 y101 z101
  obtain ⟨rfl, Nq101, e101_⟩ := hQ101
  have N101_ := Fr.app N0 Nq101
  refine Fin.byS st101 ?_
  have e101 := e101_
  show Fin _ _ _ _ _ _ _ (T101.setTop (mkF m 4 #[.val (.ref a), .val v1, .val (.ref b2)] []))
  refine Fin.by (fun t k => XS.aloadN X101.here hx rfl (hb hby d_prog_17_method_1_4) rfl rfl k) ?_
  show Fin _ _ _ _ _ _ _ (T101.setTop (mkF m 5 #[.val (.ref a), .val v1, .val (.ref b2)] [(.ref a)]))
  refine Fin.by (fun t k => XS.aloadN X101.here hx rfl (hb hby d_prog_17_method_1_5) rfl r1 k) ?_
  show Fin _ _ _ _ _ _ _ (T101.setTop (mkF m 6 #[.val (.ref a), .val v1, .val (.ref b2)] [v1, (.ref a)]))
  obtain ⟨T102, h102, X102, e102, W102, st102⟩ := putF X101 hx hZ hown (host := "") (Or.inl (hw _ (List.mem_of_getElem? (i := 52) rfl))) Via.refl e101 F1 E0 (Or.inr ⟨(hw _ (List.mem_of_getElem? (i := 53) rfl)), rfl, hnm⟩) (hw _ (List.mem_of_getElem? (i := 43) rfl)) (ty := (.object "com/example/portcullis/portcullis/Principal$Type")) (by decide) (nar_ref _ r1) (fits_obj r1) (g := (mkF m 6 #[.val (.ref a), .val v1, .val (.ref b2)] [v1, (.ref a)])) rfl rfl (hb hby d_prog_17_method_1_6)
  refine Fin.by (fun t k => st102 t k) ?_
  have N102_ := Fr.snoc X102 N101_ ga
  show Fin _ _ _ _ _ _ _ (T102.setTop (mkF m 9 #[.val (.ref a), .val v1, .val (.ref b2)] []))
  refine Fin.by (fun t k => XS.aloadN X102.here hx rfl (hb hby d_prog_17_method_1_9) rfl rfl k) ?_
  show Fin _ _ _ _ _ _ _ (T102.setTop (mkF m 10 #[.val (.ref a), .val v1, .val (.ref b2)] [(.ref a)]))
  refine Fin.by (fun t k => XS.aloadN X102.here hx rfl (hb hby d_prog_17_method_1_10) rfl rfl k) ?_
  show Fin _ _ _ _ _ _ _ (T102.setTop (mkF m 11 #[.val (.ref a), .val v1, .val (.ref b2)] [(.ref b2), (.ref a)]))
  have F103 : Fld Z h102 a "com/example/portcullis/portcullis/Principal" "id" "Ljava/lang/String;" .null := (F2.other W102 (Or.inr (slot_ne (Or.inr (hw _ (List.mem_of_getElem? (i := 55) rfl))) (Or.inr (hw _ (List.mem_of_getElem? (i := 53) rfl))) (by decide) (t := (.object "java/lang/String")) (t' := (.object "com/example/portcullis/portcullis/Principal$Type")) (by decide) (by decide))))
  have E104 : Exa Z h102 a "com/example/portcullis/portcullis/Principal" := (E0.wr W102)
  obtain ⟨T105, h105, X105, e105, W105, st105⟩ := putF X102 hx hZ hown (host := "") (Or.inl (hw _ (List.mem_of_getElem? (i := 54) rfl))) Via.refl e102 F103 E104 (Or.inr ⟨(hw _ (List.mem_of_getElem? (i := 55) rfl)), rfl, hnm⟩) (hw _ (List.mem_of_getElem? (i := 43) rfl)) (ty := (.object "java/lang/String")) (by decide) rfl rfl (g := (mkF m 11 #[.val (.ref a), .val v1, .val (.ref b2)] [(.ref b2), (.ref a)])) rfl rfl (hb hby d_prog_17_method_1_11)
  refine Fin.by (fun t k => st105 t k) ?_
  have N105_ := Fr.snoc X105 N102_ ga
  show Fin _ _ _ _ _ _ _ (T105.setTop (mkF m 14 #[.val (.ref a), .val v1, .val (.ref b2)] []))
  have kp106 : Keep h0 h102 [a] := (Keep.refl h0 [a]).wr W102 (Or.inl (List.mem_of_getElem? (i := 0) rfl))
  have kp107 : Keep h0 h105 [a] := kp106.wr W105 (Or.inl (List.mem_of_getElem? (i := 0) rfl))
  have E108 : Exa Z h105 a "com/example/portcullis/portcullis/Principal" := (E104.wr W105)
  exact Fin.ret (v := none) X105 (fun _ => rfl) Bd.notSynchronized (by rw [e105]; exact ⟨rfl, N105_, kp107, E108⟩) (by decide) (by decide) (fun fs hr => X105.returnOut hx Bd.returns (hb hby d_prog_17_method_1_14) hr)
theorem d_jdk_22_method_1_0 : decode jdk_22_method_1_code 0 = .ok (.aload_n 0, 1) := by decide +kernel
theorem d_jdk_22_method_1_1 : decode jdk_22_method_1_code 1 = .ok (.invokespecial 1, 3) := by decide +kernel
theorem d_jdk_22_method_1_4 : decode jdk_22_method_1_code 4 = .ok (.return_, 1) := by decide +kernel
theorem pn_java_util_AbstractCollection : plainName "java/util/AbstractCollection" = true := by first | (simp [plainName, overriddenIn]; done) | decide +kernel
def Q_aci (Z : State) (a : Addr) (h0 : Heap) (n0 : Nat) (vv_ : Option Value) (hh_ : Heap) (LL_ : List Loc) : Prop := vv_ = none ∧ Fr n0 LL_ ∧ hh_ = h0
set_option maxRecDepth 65536 in
set_option maxHeartbeats 40000000 in
theorem rm_aci (l : Launch) (Z : State) (a0 : Array Value) (hw : ∀ d ∈ tables_1, d.before a0 Z = true) (ws : List Jvm.Cond) (a : Addr) (h0 : Heap) (n0 : Nat) (Z0 : n0 ≤ h0.size) :
    MetFree l (⟨"java/util/AbstractCollection", "<init>", "()V"⟩ : MethodName) (head1 (Jvm.Cond.code (⟨"java/util/AbstractCollection", "<init>", "()V"⟩ : MethodName) jdk_22_method_1_code 1 none :: ws) ({ frames := 1, cells := 0, slots := 0, locals := 12 } : Room)) (fun aa_ U => aa_ = #[(.ref a)] ∧ Z.Warmed39 U.vm ∧ U.heap = h0) (fun _ _ _ _ _ => True) (fun _ U o U' => ∃ vv_ LL_, o = .returned vv_ ∧ Q_aci Z a h0 n0 vv_ U'.heap LL_ ∧ FrameEnd U o U' LL_ 0 0) := by
  refine MetFree.of_bodySF (plainFor_of_name pn_java_util_AbstractCollection) hisR ?_
  intro p e s m args below meth c s₁ Bd hml0 hP hK
  obtain ⟨rfl, hZ, hh⟩ := hP
  have hx := Bd.exec
  have hby := Bd.bytes
  have hml : c.maxLocals = 1 := hml0
  have hown : s.vm.findClass "java/util/AbstractCollection" = some m.cls := findClass_of_methodNamed Bd.named
  have hnm := (name_of_methodNamed Bd.named Bd.method).1
  have X0 : Stand p l e ({ frames := 1, cells := 0, slots := 0, locals := 12 } : Room) s m #[(.ref a)] below meth c s₁ [] 0 0 := Stand.of_body Bd
  have e0 : s₁.heap = h0 := by rw [← hh, Bd.state]; rfl
  have N0 := Fr.nil n0
  have ef : entryFrame m #[(.ref a)] 1 = mkF m 0 #[.val (.ref a)] [] := by first | (simp [entryFrame, mkF, argsToLocals, Value.category]; done) | rfl
  refine Fin.start (Q := Q_aci Z a h0 n0) ef ?_
  show Fin _ _ _ _ _ _ _ (s₁.setTop (mkF m 0 #[.val (.ref a)] []))
  refine Fin.by (fun t k => XS.aloadN X0.here hx rfl (hb hby d_jdk_22_method_1_0) rfl rfl k) ?_
  show Fin _ _ _ _ _ _ _ (s₁.setTop (mkF m 1 #[.val (.ref a)] [(.ref a)]))
  obtain ⟨T101, X101, e101, st101⟩ := initO X0 hx hZ hown (hw _ (List.mem_of_getElem? (i := 88) rfl)) (hw _ (List.mem_of_getElem? (i := 23) rfl)) (hw _ (List.mem_of_getElem? (i := 24) rfl)) e0 (g := (mkF m 1 #[.val (.ref a)] [(.ref a)])) rfl (by rw [hml]; rfl) rfl (hb hby d_jdk_22_method_1_1) (by decide) (W := 0) (by show 2 * 0 + _ ≤ _; exact Nat.le_of_eq rfl) (by decide)
  refine Fin.by (fun t k => st101 t k) ?_
  show Fin _ _ _ _ _ _ _ (T101.setTop (mkF m 4 #[.val (.ref a)] []))
  exact Fin.ret (v := none) X101 (fun _ => rfl) Bd.notSynchronized (by rw [e101]; exact ⟨rfl, N0, rfl⟩) (by decide) (by decide) (fun fs hr => X101.returnOut hx Bd.returns (hb hby d_jdk_22_method_1_4) hr)
theorem d_jdk_39_method_1_0 : decode jdk_39_method_1_code 0 = .ok (.aload_n 0, 1) := by decide +kernel
theorem d_jdk_39_method_1_1 : decode jdk_39_method_1_code 1 = .ok (.invokespecial 1, 3) := by decide +kernel
theorem d_jdk_39_method_1_4 : decode jdk_39_method_1_code 4 = .ok (.aload_n 0, 1) := by decide +kernel
theorem d_jdk_39_method_1_5 : decode jdk_39_method_1_code 5 = .ok (.iconst 0, 1) := by decide +kernel
theorem d_jdk_39_method_1_6 : decode jdk_39_method_1_code 6 = .ok (.putfield 7, 3) := by decide +kernel
theorem d_jdk_39_method_1_9 : decode jdk_39_method_1_code 9 = .ok (.return_, 1) := by decide +kernel
theorem pn_java_util_AbstractList : plainName "java/util/AbstractList" = true := by first | (simp [plainName, overriddenIn]; done) | decide +kernel
def Q_ali (Z : State) (a : Addr) (h0 : Heap) (n0 : Nat) (vv_ : Option Value) (hh_ : Heap) (LL_ : List Loc) : Prop := vv_ = none ∧ Fr n0 LL_ ∧ Keep h0 hh_ [a] ∧ Exa Z hh_ a "com/example/portcullis/portcullis/Grants" ∧ Fld Z hh_ a "com/example/portcullis/portcullis/Grants" "grants" "Ljava/util/List;" .null
set_option maxRecDepth 65536 in
set_option maxHeartbeats 40000000 in
theorem rm_ali (l : Launch) (Z : State) (a0 : Array Value) (hw : ∀ d ∈ tables_1, d.before a0 Z = true) (ws : List Jvm.Cond) (a : Addr) (h0 : Heap) (n0 : Nat) (Z0 : n0 ≤ h0.size) (E0 : Exa Z h0 a "com/example/portcullis/portcullis/Grants") (F1 : Fld Z h0 a "java/util/AbstractList" "modCount" "I" (.int (0 : Int32))) (F2 : Fld Z h0 a "com/example/portcullis/portcullis/Grants" "grants" "Ljava/util/List;" .null) (ga : n0 ≤ a) :
    MetFree l (⟨"java/util/AbstractList", "<init>", "()V"⟩ : MethodName) (head1 (Jvm.Cond.code (⟨"java/util/AbstractList", "<init>", "()V"⟩ : MethodName) jdk_39_method_1_code 1 none :: ws) ({ frames := 2, cells := 0, slots := 0, locals := 24 } : Room)) (fun aa_ U => aa_ = #[(.ref a)] ∧ Z.Warmed39 U.vm ∧ U.heap = h0) (fun _ _ _ _ _ => True) (fun _ U o U' => ∃ vv_ LL_, o = .returned vv_ ∧ Q_ali Z a h0 n0 vv_ U'.heap LL_ ∧ FrameEnd U o U' LL_ 0 0) := by
  refine MetFree.of_bodySF (plainFor_of_name pn_java_util_AbstractList) hisR ?_
  intro p e s m args below meth c s₁ Bd hml0 hP hK
  obtain ⟨rfl, hZ, hh⟩ := hP
  have hx := Bd.exec
  have hby := Bd.bytes
  have hml : c.maxLocals = 1 := hml0
  have hown : s.vm.findClass "java/util/AbstractList" = some m.cls := findClass_of_methodNamed Bd.named
  have hnm := (name_of_methodNamed Bd.named Bd.method).1
  have X0 : Stand p l e ({ frames := 2, cells := 0, slots := 0, locals := 24 } : Room) s m #[(.ref a)] below meth c s₁ [] 0 0 := Stand.of_body Bd
  have e0 : s₁.heap = h0 := by rw [← hh, Bd.state]; rfl
  have N0 := Fr.nil n0
  have ef : entryFrame m #[(.ref a)] 1 = mkF m 0 #[.val (.ref a)] [] := by first | (simp [entryFrame, mkF, argsToLocals, Value.category]; done) | rfl
  refine Fin.start (Q := Q_ali Z a h0 n0) ef ?_
  show Fin _ _ _ _ _ _ _ (s₁.setTop (mkF m 0 #[.val (.ref a)] []))
  refine Fin.by (fun t k => XS.aloadN X0.here hx rfl (hb hby d_jdk_39_method_1_0) rfl rfl k) ?_
  show Fin _ _ _ _ _ _ _ (s₁.setTop (mkF m 1 #[.val (.ref a)] [(.ref a)]))
  obtain ⟨v101, _, ⟨T101, L101, k101, n101⟩, -, X101, ⟨Lc101, hQ101, l101, y101, z101⟩, st101⟩ := X0.specialBack hx (y := (⟨"java/util/AbstractCollection", "<init>", "()V"⟩ : MethodName)) rfl hown (mvT hZ (hw _ (List.mem_of_getElem? (i := 82) rfl))) (mvT hZ (hw _ (List.mem_of_getElem? (i := 83) rfl))) (mvT hZ (hw _ (List.mem_of_getElem? (i := 87) rfl))) (by decide) (backOf (W := 0) (rm_aci l Z a0 hw [] a h0 n0 Z0 ) hZ (hw _ (List.mem_of_getElem? (i := 87) rfl)) (hw _ (List.mem_of_getElem? (i := 86) rfl)) (by decide) (by decide)) (g := (mkF m 1 #[.val (.ref a)] [(.ref a)])) rfl (by rw [hml]; rfl) (Steps.refl _) (a := a) (argsL := []) (rest := []) (lenOf pd_45 rfl) rfl (by show 2 * 0 + _ ≤ _; exact Nat.le_of_eq rfl) (hb hby d_jdk_39_method_1_1) (fun _ _ => ⟨rfl, e0, (by decide : 0 + 0 ≤ _), (by decide : 0 + 0 ≤ _)⟩)
  dsimp only [Pt.U, Pt.locs, Pt.cells, Pt.slots] at X101 l101 y101 z101 st101 hQ101
  subst l101 y101 z101
  obtain ⟨rfl, Nq101, e101_⟩ := hQ101
  have N101_ := Fr.app N0 Nq101
  refine Fin.byS st101 ?_
  have e101 := e101_
  show Fin _ _ _ _ _ _ _ (T101.setTop (mkF m 4 #[.val (.ref a)] []))
  refine Fin.by (fun t k => XS.aloadN X101.here hx rfl (hb hby d_jdk_39_method_1_4) rfl rfl k) ?_
  show Fin _ _ _ _ _ _ _ (T101.setTop (mkF m 5 #[.val (.ref a)] [(.ref a)]))
  refine Fin.by (fun t k => XS.iconst X101.here hx rfl (hb hby d_jdk_39_method_1_5) k) ?_
  show Fin _ _ _ _ _ _ _ (T101.setTop (mkF m 6 #[.val (.ref a)] [(.int (0 : Int32)), (.ref a)]))
  obtain ⟨T102, h102, X102, e102, W102, st102⟩ := putF X101 hx hZ hown (host := "") (Or.inl (hw _ (List.mem_of_getElem? (i := 89) rfl))) Via.refl e101 F1 E0 (Or.inl (hw _ (List.mem_of_getElem? (i := 90) rfl))) (hw _ (List.mem_of_getElem? (i := 67) rfl)) (ty := .int) (by decide) rfl rfl (g := (mkF m 6 #[.val (.ref a)] [(.int (0 : Int32)), (.ref a)])) rfl rfl (hb hby d_jdk_39_method_1_6)
  refine Fin.by (fun t k => st102 t k) ?_
  have N102_ := Fr.snoc X102 N101_ ga
  show Fin _ _ _ _ _ _ _ (T102.setTop (mkF m 9 #[.val (.ref a)] []))
  have kp103 : Keep h0 h102 [a] := (Keep.refl h0 [a]).wr W102 (Or.inl (List.mem_of_getElem? (i := 0) rfl))
  have E104 : Exa Z h102 a "com/example/portcullis/portcullis/Grants" := (E0.wr W102)
  have F105 : Fld Z h102 a "com/example/portcullis/portcullis/Grants" "grants" "Ljava/util/List;" .null := (F2.other W102 (Or.inr (slot_ne (Or.inr (hw _ (List.mem_of_getElem? (i := 92) rfl))) (Or.inl (hw _ (List.mem_of_getElem? (i := 90) rfl))) (by decide) (t := (.object "java/util/List")) (t' := .int) (by decide) (by decide))))
  exact Fin.ret (v := none) X102 (fun _ => rfl) Bd.notSynchronized (by rw [e102]; exact ⟨rfl, N102_, kp103, E104, F105⟩) (by decide) (by decide) (fun fs hr => X102.returnOut hx Bd.returns (hb hby d_jdk_39_method_1_9) hr)
theorem d_prog_13_method_1_0 : decode prog_13_method_1_code 0 = .ok (.aload_n 0, 1) := by decide +kernel
theorem d_prog_13_method_1_1 : decode prog_13_method_1_code 1 = .ok (.invokespecial 1, 3) := by decide +kernel
theorem d_prog_13_method_1_4 : decode prog_13_method_1_code 4 = .ok (.aload_n 0, 1) := by decide +kernel
theorem d_prog_13_method_1_5 : decode prog_13_method_1_code 5 = .ok (.aload_n 1, 1) := by decide +kernel
theorem d_prog_13_method_1_6 : decode prog_13_method_1_code 6 = .ok (.putfield 7, 3) := by decide +kernel
theorem d_prog_13_method_1_9 : decode prog_13_method_1_code 9 = .ok (.return_, 1) := by decide +kernel
theorem pn_com_example_portcullis_portcullis_Grants : plainName "com/example/portcullis/portcullis/Grants" = true := by first | (simp [plainName, overriddenIn]; done) | decide +kernel
def Q_gri (Z : State) (a : Addr) (b : Addr) (h0 : Heap) (n0 : Nat) (vv_ : Option Value) (hh_ : Heap) (LL_ : List Loc) : Prop := vv_ = none ∧ Fr n0 LL_ ∧ Keep h0 hh_ [a] ∧ Exa Z hh_ a "com/example/portcullis/portcullis/Grants" ∧ Fld Z hh_ a "com/example/portcullis/portcullis/Grants" "grants" "Ljava/util/List;" (.ref b)
set_option maxRecDepth 65536 in
set_option maxHeartbeats 40000000 in
theorem rm_gri (l : Launch) (Z : State) (a0 : Array Value) (hw : ∀ d ∈ tables_1, d.before a0 Z = true) (ws : List Jvm.Cond) (a : Addr) (b : Addr) (h0 : Heap) (n0 : Nat) (Z0 : n0 ≤ h0.size) (E0 : Exa Z h0 a "com/example/portcullis/portcullis/Grants") (F1 : Fld Z h0 a "java/util/AbstractList" "modCount" "I" (.int (0 : Int32))) (F2 : Fld Z h0 a "com/example/portcullis/portcullis/Grants" "grants" "Ljava/util/List;" .null) (ga : n0 ≤ a) :
    MetFree l (⟨"com/example/portcullis/portcullis/Grants", "<init>", "(Ljava/util/List;)V"⟩ : MethodName) (head1 (Jvm.Cond.code (⟨"com/example/portcullis/portcullis/Grants", "<init>", "(Ljava/util/List;)V"⟩ : MethodName) prog_13_method_1_code 2 none :: ws) ({ frames := 3, cells := 0, slots := 0, locals := 36 } : Room)) (fun aa_ U => aa_ = #[(.ref a), (.ref b)] ∧ Z.Warmed39 U.vm ∧ U.heap = h0) (fun _ _ _ _ _ => True) (fun _ U o U' => ∃ vv_ LL_, o = .returned vv_ ∧ Q_gri Z a b h0 n0 vv_ U'.heap LL_ ∧ FrameEnd U o U' LL_ 0 0) := by
  refine MetFree.of_bodySF (plainFor_of_name pn_com_example_portcullis_portcullis_Grants) hisR ?_
  intro p e s m args below meth c s₁ Bd hml0 hP hK
  obtain ⟨rfl, hZ, hh⟩ := hP
  have hx := Bd.exec
  have hby := Bd.bytes
  have hml : c.maxLocals = 2 := hml0
  have hown : s.vm.findClass "com/example/portcullis/portcullis/Grants" = some m.cls := findClass_of_methodNamed Bd.named
  have hnm := (name_of_methodNamed Bd.named Bd.method).1
  have X0 : Stand p l e ({ frames := 3, cells := 0, slots := 0, locals := 36 } : Room) s m #[(.ref a), (.ref b)] below meth c s₁ [] 0 0 := Stand.of_body Bd
  have e0 : s₁.heap = h0 := by rw [← hh, Bd.state]; rfl
  have N0 := Fr.nil n0
  have ef : entryFrame m #[(.ref a), (.ref b)] 2 = mkF m 0 #[.val (.ref a), .val (.ref b)] [] := by first | (simp [entryFrame, mkF, argsToLocals, Value.category]; done) | rfl
  refine Fin.start (Q := Q_gri Z a b h0 n0) ef ?_
  show Fin _ _ _ _ _ _ _ (s₁.setTop (mkF m 0 #[.val (.ref a), .val (.ref b)] []))
  refine Fin.by (fun t k => XS.aloadN X0.here hx rfl (hb hby d_prog_13_method_1_0) rfl rfl k) ?_
  show Fin _ _ _ _ _ _ _ (s₁.setTop (mkF m 1 #[.val (.ref a), .val (.ref b)] [(.ref a)]))
  obtain ⟨v101, _, ⟨T101, L101, k101, n101⟩, -, X101, ⟨Lc101, hQ101, l101, y101, z101⟩, st101⟩ := X0.specialBack hx (y := (⟨"java/util/AbstractList", "<init>", "()V"⟩ : MethodName)) rfl hown (mvT hZ (hw _ (List.mem_of_getElem? (i := 77) rfl))) (mvT hZ (hw _ (List.mem_of_getElem? (i := 78) rfl))) (mvT hZ (hw _ (List.mem_of_getElem? (i := 81) rfl))) (by decide) (backOf (W := 0) (rm_ali l Z a0 hw [] a h0 n0 Z0 E0 F1 F2 ga) hZ (hw _ (List.mem_of_getElem? (i := 81) rfl)) (hw _ (List.mem_of_getElem? (i := 80) rfl)) (by decide) (by decide)) (g := (mkF m 1 #[.val (.ref a), .val (.ref b)] [(.ref a)])) rfl (by rw [hml]; rfl) (Steps.refl _) (a := a) (argsL := []) (rest := []) (lenOf pd_45 rfl) rfl (by show 2 * 0 + _ ≤ _; exact Nat.le_of_eq rfl) (hb hby d_prog_13_method_1_1) (fun _ _ => ⟨rfl, e0, (by decide : 0 + 0 ≤ _), (by decide : 0 + 0 ≤ _)⟩)
  dsimp only [Pt.U, Pt.locs, Pt.cells, Pt.slots] at X101 l101 y101 z101 st101 hQ101
  subst l101 y101 z101
  obtain ⟨rfl, Nq101, p101_0, p101_1, p101_2⟩ := hQ101
  have N101_ := Fr.app N0 Nq101
  refine Fin.byS st101 ?_
  show Fin _ _ _ _ _ _ _ (T101.setTop (mkF m 4 #[.val (.ref a), .val (.ref b)] []))
  refine Fin.by (fun t k => XS.aloadN X101.here hx rfl (hb hby d_prog_13_method_1_4) rfl rfl k) ?_
  show Fin _ _ _ _ _ _ _ (T101.setTop (mkF m 5 #[.val (.ref a), .val (.ref b)] [(.ref a)]))
  refine Fin.by (fun t k => XS.aloadN X101.here hx rfl (hb hby d_prog_13_method_1_5) rfl rfl k) ?_
  show Fin _ _ _ _ _ _ _ (T101.setTop (mkF m 6 #[.val (.ref a), .val (.ref b)] [(.ref b), (.ref a)]))
  obtain ⟨T102, h102, X102, e102, W102, st102⟩ := putF X101 hx hZ hown (host := "") (Or.inl (hw _ (List.mem_of_getElem? (i := 91) rfl))) Via.refl rfl p101_2 p101_1 (Or.inr ⟨(hw _ (List.mem_of_getElem? (i := 92) rfl)), rfl, hnm⟩) (hw _ (List.mem_of_getElem? (i := 67) rfl)) (ty := (.object "java/util/List")) (by decide) rfl rfl (g := (mkF m 6 #[.val (.ref a), .val (.ref b)] [(.ref b), (.ref a)])) rfl rfl (hb hby d_prog_13_method_1_6)
  refine Fin.by (fun t k => st102 t k) ?_
  have N102_ := Fr.snoc X102 N101_ ga
  show Fin _ _ _ _ _ _ _ (T102.setTop (mkF m 9 #[.val (.ref a), .val (.ref b)] []))
  have kp103 : Keep h0 T101.heap [a] := (Keep.refl h0 [a]).trans p101_0 (allS (Or.inl (List.mem_of_getElem? (i := 0) rfl)) all0)
  have kp104 : Keep h0 h102 [a] := kp103.wr W102 (Or.inl (List.mem_of_getElem? (i := 0) rfl))
  have E105 : Exa Z h102 a "com/example/portcullis/portcullis/Grants" := (p101_1.wr W102)
  exact Fin.ret (v := none) X102 (fun _ => rfl) Bd.notSynchronized (by rw [e102]; exact ⟨rfl, N102_, kp104, E105, (p101_2.same W102)⟩) (by decide) (by decide) (fun fs hr => X102.returnOut hx Bd.returns (hb hby d_prog_13_method_1_9) hr)
theorem d_jdk_40_method_36_0 : decode jdk_40_method_36_code 0 = .ok (.getstatic 90, 3) := by decide +kernel
theorem d_jdk_40_method_36_3 : decode jdk_40_method_36_code 3 = .ok (.areturn, 1) := by decide +kernel
theorem pn_java_util_List : plainName "java/util/List" = true := by first | (simp [plainName, overriddenIn]; done) | decide +kernel
def Q_lof (Z : State) (aE : Addr) (h0 : Heap) (n0 : Nat) (vv_ : Option Value) (hh_ : Heap) (LL_ : List Loc) : Prop := vv_ = some (.ref aE) ∧ Fr n0 LL_ ∧ hh_ = h0
set_option maxRecDepth 65536 in
set_option maxHeartbeats 40000000 in
theorem rm_lof (l : Launch) (Z : State) (a0 : Array Value) (hw : ∀ d ∈ tables_1, d.before a0 Z = true) (ws : List Jvm.Cond) (aE : Addr) (h0 : Heap) (n0 : Nat) (Z0 : n0 ≤ h0.size) (S2 : Sta Z Z.heap "java/util/ImmutableCollections" "EMPTY_LIST" "Ljava/util/ImmutableCollections$ListN;" (.ref aE)) (OL : Old Z n0 h0) :
    MetFree l (⟨"java/util/List", "of", "()Ljava/util/List;"⟩ : MethodName) (head1 (Jvm.Cond.code (⟨"java/util/List", "of", "()Ljava/util/List;"⟩ : MethodName) jdk_40_method_36_code 0 (some (.object "java/util/List")) :: ws) ({ frames := 0, cells := 0, slots := 0, locals := 0 } : Room)) (fun aa_ U => aa_ = #[] ∧ Z.Warmed39 U.vm ∧ U.heap = h0) (fun _ _ _ _ _ => True) (fun _ U o U' => ∃ vv_ LL_, o = .returned vv_ ∧ Q_lof Z aE h0 n0 vv_ U'.heap LL_ ∧ FrameEnd U o U' LL_ 0 0) := by
  refine MetFree.of_bodySF (plainFor_of_name pn_java_util_List) hisR ?_
  intro p e s m args below meth c s₁ Bd hml0 hP hK
  obtain ⟨rfl, hZ, hh⟩ := hP
  have hx := Bd.exec
  have hby := Bd.bytes
  have hml : c.maxLocals = 0 := hml0
  have hown : s.vm.findClass "java/util/List" = some m.cls := findClass_of_methodNamed Bd.named
  have hnm := (name_of_methodNamed Bd.named Bd.method).1
  have X0 : Stand p l e ({ frames := 0, cells := 0, slots := 0, locals := 0 } : Room) s m #[] below meth c s₁ [] 0 0 := Stand.of_body Bd
  have e0 : s₁.heap = h0 := by rw [← hh, Bd.state]; rfl
  have N0 := Fr.nil n0
  have ef : entryFrame m #[] 0 = mkF m 0 #[] [] := by first | (simp [entryFrame, mkF, argsToLocals, Value.category]; done) | rfl
  refine Fin.start (Q := Q_lof Z aE h0 n0) ef ?_
  show Fin _ _ _ _ _ _ _ (s₁.setTop (mkF m 0 #[] []))
  obtain ⟨T101, X101, e101, st101⟩ := getS X0 hx hZ (host := "") hown (hw _ (List.mem_of_getElem? (i := 72) rfl)) Via.refl e0 (S2.ext OL.2) (g := (mkF m 0 #[] [])) rfl (hb hby d_jdk_40_method_36_0)
  refine Fin.by (fun t k => st101 t k) ?_
  show Fin _ _ _ _ _ _ _ (T101.setTop (mkF m 3 #[] [(.ref aE)]))
  exact Fin.ret (v := some (.ref aE)) X101 (fun h => by rw [Bd.returns] at h; cases h) Bd.notSynchronized (by rw [e101]; exact ⟨rfl, N0, rfl⟩) (by decide) (by decide) (fun fs hr => retA X101 hx Bd.returns rfl rfl (hb hby d_jdk_40_method_36_3) hr)
theorem d_prog_13_method_2_0 : decode prog_13_method_2_code 0 = .ok (.new 8, 3) := by decide +kernel
theorem d_prog_13_method_2_3 : decode prog_13_method_2_code 3 = .ok (.dup, 1) := by decide +kernel
theorem pd_88 : parseMethodDescriptor "()Ljava/util/List;" = some ⟨[], some (.object "java/util/List")⟩ := by decide +kernel
theorem d_prog_13_method_2_4 : decode prog_13_method_2_code 4 = .ok (.invokestatic 13, 3) := by decide +kernel
theorem pd_90 : parseMethodDescriptor "(Ljava/util/List;)V" = some ⟨[(.object "java/util/List")], none⟩ := by decide +kernel
theorem d_prog_13_method_2_7 : decode prog_13_method_2_code 7 = .ok (.invokespecial 19, 3) := by decide +kernel
theorem d_prog_13_method_2_10 : decode prog_13_method_2_code 10 = .ok (.areturn, 1) := by decide +kernel
def Q_non (Z : State) (aE : Addr) (h0 : Heap) (n0 : Nat) (vv_ : Option Value) (hh_ : Heap) (LL_ : List Loc) : Prop := ∃ (t : Addr), vv_ = some (.ref t) ∧ Fr n0 LL_ ∧ Keep h0 hh_ [] ∧ h0.size ≤ t ∧ Exa Z hh_ t "com/example/portcullis/portcullis/Grants" ∧ Fld Z hh_ t "com/example/portcullis/portcullis/Grants" "grants" "Ljava/util/List;" (.ref aE)
set_option maxRecDepth 65536 in
set_option maxHeartbeats 40000000 in
theorem rm_non (l : Launch) (Z : State) (a0 : Array Value) (hw : ∀ d ∈ tables_1, d.before a0 Z = true) (ws : List Jvm.Cond) (aE : Addr) (h0 : Heap) (n0 : Nat) (Z0 : n0 ≤ h0.size) (S2 : Sta Z Z.heap "java/util/ImmutableCollections" "EMPTY_LIST" "Ljava/util/ImmutableCollections$ListN;" (.ref aE)) (OL : Old Z n0 h0) :
    MetFree l (⟨"com/example/portcullis/portcullis/Grants", "none", "()Lcom/example/portcullis/portcullis/Grants;"⟩ : MethodName) (head1 (Jvm.Cond.code (⟨"com/example/portcullis/portcullis/Grants", "none", "()Lcom/example/portcullis/portcullis/Grants;"⟩ : MethodName) prog_13_method_2_code 0 (some (.object "com/example/portcullis/portcullis/Grants")) :: ws) ({ frames := 4, cells := 1, slots := 3, locals := 50 } : Room)) (fun aa_ U => aa_ = #[] ∧ Z.Warmed39 U.vm ∧ U.heap = h0) (fun _ _ _ _ _ => True) (fun _ U o U' => ∃ vv_ LL_, o = .returned vv_ ∧ Q_non Z aE h0 n0 vv_ U'.heap LL_ ∧ FrameEnd U o U' LL_ 1 3) := by
  refine MetFree.of_bodySF (plainFor_of_name pn_com_example_portcullis_portcullis_Grants) hisR ?_
  intro p e s m args below meth c s₁ Bd hml0 hP hK
  obtain ⟨rfl, hZ, hh⟩ := hP
  have hx := Bd.exec
  have hby := Bd.bytes
  have hml : c.maxLocals = 0 := hml0
  have hown : s.vm.findClass "com/example/portcullis/portcullis/Grants" = some m.cls := findClass_of_methodNamed Bd.named
  have hnm := (name_of_methodNamed Bd.named Bd.method).1
  have X0 : Stand p l e ({ frames := 4, cells := 1, slots := 3, locals := 50 } : Room) s m #[] below meth c s₁ [] 0 0 := Stand.of_body Bd
  have e0 : s₁.heap = h0 := by rw [← hh, Bd.state]; rfl
  have N0 := Fr.nil n0
  have ef : entryFrame m #[] 0 = mkF m 0 #[] [] := by first | (simp [entryFrame, mkF, argsToLocals, Value.category]; done) | rfl
  refine Fin.start (Q := Q_non Z aE h0 n0) ef ?_
  show Fin _ _ _ _ _ _ _ (s₁.setTop (mkF m 0 #[] []))
  obtain ⟨T101, h101, X101, e101, E101, A101, D101, -, st101⟩ := newO X0 hx hZ hown (hw _ (List.mem_of_getElem? (i := 66) rfl)) (hw _ (List.mem_of_getElem? (i := 67) rfl)) (hw _ (List.mem_of_getElem? (i := 64) rfl)) e0 (g := (mkF m 0 #[] [])) rfl (hb hby d_prog_13_method_2_0) (by decide) (by decide)
  obtain ⟨a101, g101⟩ : ∃ z, z = h0.size := ⟨_, rfl⟩
  rw [← g101] at A101 D101 st101
  refine Fin.by (fun t k => st101 t k) ?_
  show Fin _ _ _ _ _ _ _ (T101.setTop (mkF m 3 #[] [(.ref a101)]))
  refine Fin.by (fun t k => XS.dup X101.here hx rfl (hb hby d_prog_13_method_2_3) rfl rfl k) ?_
  show Fin _ _ _ _ _ _ _ (T101.setTop (mkF m 4 #[] [(.ref a101), (.ref a101)]))
  have O102 : Old Z n0 h101 := (OL.ext E101)
  have z103 : n0 ≤ h101.size := Nat.le_trans Z0 E101.1
  obtain ⟨v104, _, ⟨T104, L104, k104, n104⟩, -, X104, ⟨Lc104, hQ104, l104, y104, z104⟩, st104⟩ := Jvm.LawKit.callS X101 hx (y := (⟨"java/util/List", "of", "()Ljava/util/List;"⟩ : MethodName)) hown (mvT hZ (hw _ (List.mem_of_getElem? (i := 68) rfl))) (mvT hZ (hw _ (List.mem_of_getElem? (i := 69) rfl))) (mvT hZ (hw _ (List.mem_of_getElem? (i := 70) rfl))) (mvT hZ (hw _ (List.mem_of_getElem? (i := 71) rfl))) (by decide) (backOf (W := 2) (rm_lof l Z a0 hw [] aE h101 n0 z103 S2 O102) hZ (hw _ (List.mem_of_getElem? (i := 71) rfl)) (hw _ (List.mem_of_getElem? (i := 70) rfl)) (by decide) (by decide)) (g := (mkF m 4 #[] [(.ref a101), (.ref a101)])) rfl (by rw [hml]; rfl) (argsL := []) (rest := [(.ref a101), (.ref a101)]) (lenOf pd_88 rfl) rfl (by show 2 * 0 + _ ≤ _; exact Nat.le_of_eq rfl) (hb hby d_prog_13_method_2_4) (fun _ _ => ⟨rfl, e101, (by decide : 1 + 0 ≤ _), (by decide : 3 + 0 ≤ _)⟩)
  dsimp only [Pt.U, Pt.locs, Pt.cells, Pt.slots] at X104 l104 y104 z104 st104 hQ104
  subst l104 y104 z104
  obtain ⟨rfl, Nq104, e104_⟩ := hQ104
  have N104_ := Fr.app N0 Nq104
  refine Fin.by (fun t k => st104 t k) ?_
  have e104 := e104_
  show Fin _ _ _ _ _ _ _ (T104.setTop (mkF m 7 #[] [(.ref aE), (.ref a101), (.ref a101)]))
  have g105 : n0 ≤ a101 := Nat.le_trans Z0 (Nat.le_of_eq g101.symm)
  obtain ⟨v106, _, ⟨T106, L106, k106, n106⟩, -, X106, ⟨Lc106, hQ106, l106, y106, z106⟩, st106⟩ := X104.specialBack hx (y := (⟨"com/example/portcullis/portcullis/Grants", "<init>", "(Ljava/util/List;)V"⟩ : MethodName)) rfl hown (mvT hZ (hw _ (List.mem_of_getElem? (i := 74) rfl))) (mvT hZ (hw _ (List.mem_of_getElem? (i := 75) rfl))) (mvT hZ (hw _ (List.mem_of_getElem? (i := 76) rfl))) (by decide) (backOf (W := 1) (rm_gri l Z a0 hw [] a101 aE h101 n0 z103 A101 (D101 (Or.inl (hw _ (List.mem_of_getElem? (i := 90) rfl))) (ty := .int) (by decide) : Fld Z h101 a101 "java/util/AbstractList" "modCount" "I" (.int (0 : Int32))) (D101 (Or.inr (hw _ (List.mem_of_getElem? (i := 92) rfl))) (ty := (.object "java/util/List")) (by decide) : Fld Z h101 a101 "com/example/portcullis/portcullis/Grants" "grants" "Ljava/util/List;" .null) g105) hZ (hw _ (List.mem_of_getElem? (i := 76) rfl)) (hw _ (List.mem_of_getElem? (i := 64) rfl)) (by decide) (by decide)) (g := (mkF m 7 #[] [(.ref aE), (.ref a101), (.ref a101)])) rfl (by rw [hml]; rfl) (Steps.refl _) (a := a101) (argsL := [(.ref aE)]) (rest := [(.ref a101)]) (lenOf pd_90 rfl) rfl (by show 2 * 0 + _ ≤ _; exact Nat.le_of_eq rfl) (hb hby d_prog_13_method_2_7) (fun _ _ => ⟨rfl, e104, (by decide : 1 + 0 ≤ _), (by decide : 3 + 0 ≤ _)⟩)
  dsimp only [Pt.U, Pt.locs, Pt.cells, Pt.slots] at X106 l106 y106 z106 st106 hQ106
  subst l106 y106 z106
  obtain ⟨rfl, Nq106, p106_0, p106_1, p106_2⟩ := hQ106
  have N106_ := Fr.app N104_ Nq106
  refine Fin.byS st106 ?_
  show Fin _ _ _ _ _ _ _ (T106.setTop (mkF m 10 #[] [(.ref a101)]))
  have kp107 : Keep h0 h101 [] := (Keep.refl h0 []).ext E101
  have kp108 : Keep h0 T106.heap [] := kp107.trans p106_0 (allS (Or.inr (Nat.le_trans (Nat.le_refl _) (Nat.le_of_eq g101.symm))) all0)
  exact Fin.ret (v := some (.ref a101)) X106 (fun h => by rw [Bd.returns] at h; cases h) Bd.notSynchronized (⟨a101, rfl, N106_, kp108, (Nat.le_trans (Nat.le_refl _) (Nat.le_of_eq g101.symm)), p106_1, p106_2⟩) (by decide) (by decide) (fun fs hr => retA X106 hx Bd.returns rfl rfl (hb hby d_prog_13_method_2_10) hr)
theorem d_prog_23_method_1_0 : decode prog_23_method_1_code 0 = .ok (.aload_n 0, 1) := by decide +kernel
theorem d_prog_23_method_1_1 : decode prog_23_method_1_code 1 = .ok (.invokespecial 1, 3) := by decide +kernel
theorem d_prog_23_method_1_4 : decode prog_23_method_1_code 4 = .ok (.aload_n 0, 1) := by decide +kernel
theorem d_prog_23_method_1_5 : decode prog_23_method_1_code 5 = .ok (.aload_n 1, 1) := by decide +kernel
theorem d_prog_23_method_1_6 : decode prog_23_method_1_code 6 = .ok (.putfield 7, 3) := by decide +kernel
theorem d_prog_23_method_1_9 : decode prog_23_method_1_code 9 = .ok (.aload_n 0, 1) := by decide +kernel
theorem d_prog_23_method_1_10 : decode prog_23_method_1_code 10 = .ok (.aload_n 2, 1) := by decide +kernel
theorem d_prog_23_method_1_11 : decode prog_23_method_1_code 11 = .ok (.putfield 13, 3) := by decide +kernel
theorem d_prog_23_method_1_14 : decode prog_23_method_1_code 14 = .ok (.aload_n 0, 1) := by decide +kernel
theorem d_prog_23_method_1_15 : decode prog_23_method_1_code 15 = .ok (.aload_n 3, 1) := by decide +kernel
theorem d_prog_23_method_1_16 : decode prog_23_method_1_code 16 = .ok (.putfield 17, 3) := by decide +kernel
theorem d_prog_23_method_1_19 : decode prog_23_method_1_code 19 = .ok (.aload_n 0, 1) := by decide +kernel
theorem d_prog_23_method_1_20 : decode prog_23_method_1_code 20 = .ok (.iload 4, 2) := by decide +kernel
theorem d_prog_23_method_1_22 : decode prog_23_method_1_code 22 = .ok (.putfield 20, 3) := by decide +kernel
theorem d_prog_23_method_1_25 : decode prog_23_method_1_code 25 = .ok (.aload_n 0, 1) := by decide +kernel
theorem d_prog_23_method_1_26 : decode prog_23_method_1_code 26 = .ok (.aload 5, 2) := by decide +kernel
theorem d_prog_23_method_1_28 : decode prog_23_method_1_code 28 = .ok (.putfield 24, 3) := by decide +kernel
theorem d_prog_23_method_1_31 : decode prog_23_method_1_code 31 = .ok (.aload_n 0, 1) := by decide +kernel
theorem d_prog_23_method_1_32 : decode prog_23_method_1_code 32 = .ok (.aload 6, 2) := by decide +kernel
theorem d_prog_23_method_1_34 : decode prog_23_method_1_code 34 = .ok (.putfield 28, 3) := by decide +kernel
theorem d_prog_23_method_1_37 : decode prog_23_method_1_code 37 = .ok (.return_, 1) := by decide +kernel
theorem pn_com_example_portcullis_portcullis_Resource : plainName "com/example/portcullis/portcullis/Resource" = true := by first | (simp [plainName, overriddenIn]; done) | decide +kernel
def Q_rsi (Z : State) (a : Addr) (v1 : Value) (v2 : Value) (v3 : Value) (b : Int32) (g1 : Addr) (g2 : Addr) (h0 : Heap) (n0 : Nat) (vv_ : Option Value) (hh_ : Heap) (LL_ : List Loc) : Prop := vv_ = none ∧ Fr n0 LL_ ∧ Keep h0 hh_ [a] ∧ Exa Z hh_ a "com/example/portcullis/portcullis/Resource" ∧ Fld Z hh_ a "com/example/portcullis/portcullis/Resource" "name" "Lcom/example/portcullis/portcullis/ResourceName;" v1 ∧ Fld Z hh_ a "com/example/portcullis/portcullis/Resource" "owner" "Lcom/example/portcullis/portcullis/Principal;" v2 ∧ Fld Z hh_ a "com/example/portcullis/portcullis/Resource" "parent" "Lcom/example/portcullis/portcullis/ResourceName;" v3 ∧ Fld Z hh_ a "com/example/portcullis/portcullis/Resource" "managed" "Z" (.int (nar .boolean b)) ∧ Fld Z hh_ a "com/example/portcullis/portcullis/Resource" "roles" "Lcom/example/portcullis/portcullis/Grants;" (.ref g1) ∧ Fld Z hh_ a "com/example/portcullis/portcullis/Resource" "access" "Lcom/example/portcullis/portcullis/Grants;" (.ref g2)
set_option maxRecDepth 65536 in
set_option maxHeartbeats 40000000 in
theorem rm_rsi (l : Launch) (Z : State) (a0 : Array Value) (hw : ∀ d ∈ tables_1, d.before a0 Z = true) (ws : List Jvm.Cond) (a : Addr) (v1 : Value) (v2 : Value) (v3 : Value) (b : Int32) (g1 : Addr) (g2 : Addr) (h0 : Heap) (n0 : Nat) (Z0 : n0 ≤ h0.size) (E0 : Exa Z h0 a "com/example/portcullis/portcullis/Resource") (Fname : Fld Z h0 a "com/example/portcullis/portcullis/Resource" "name" "Lcom/example/portcullis/portcullis/ResourceName;" .null) (Fowner : Fld Z h0 a "com/example/portcullis/portcullis/Resource" "owner" "Lcom/example/portcullis/portcullis/Principal;" .null) (Fparent : Fld Z h0 a "com/example/portcullis/portcullis/Resource" "parent" "Lcom/example/portcullis/portcullis/ResourceName;" .null) (Fmanaged : Fld Z h0 a "com/example/portcullis/portcullis/Resource" "managed" "Z" (.int (0 : Int32))) (Froles : Fld Z h0 a "com/example/portcullis/portcullis/Resource" "roles" "Lcom/example/portcullis/portcullis/Grants;" .null) (Faccess : Fld Z h0 a "com/example/portcullis/portcullis/Resource" "access" "Lcom/example/portcullis/portcullis/Grants;" .null) (ga : n0 ≤ a) (r1 : v1.isRef = true) (r2 : v2.isRef = true) (r3 : v3.isRef = true) :
    MetFree l (⟨"com/example/portcullis/portcullis/Resource", "<init>", "(Lcom/example/portcullis/portcullis/ResourceName;Lcom/example/portcullis/portcullis/Principal;Lcom/example/portcullis/portcullis/ResourceName;ZLcom/example/portcullis/portcullis/Grants;Lcom/example/portcullis/portcullis/Grants;)V"⟩ : MethodName) (head1 (Jvm.Cond.code (⟨"com/example/portcullis/portcullis/Resource", "<init>", "(Lcom/example/portcullis/portcullis/ResourceName;Lcom/example/portcullis/portcullis/Principal;Lcom/example/portcullis/portcullis/ResourceName;ZLcom/example/portcullis/portcullis/Grants;Lcom/example/portcullis/portcullis/Grants;)V"⟩ : MethodName) prog_23_method_1_code 7 none :: ws) ({ frames := 2, cells := 0, slots := 0, locals := 24 } : Room)) (fun aa_ U => aa_ = #[(.ref a), v1, v2, v3, (.int b), (.ref g1), (.ref g2)] ∧ Z.Warmed39 U.vm ∧ U.heap = h0) (fun _ _ _ _ _ => True) (fun _ U o U' => ∃ vv_ LL_, o = .returned vv_ ∧ Q_rsi Z a v1 v2 v3 b g1 g2 h0 n0 vv_ U'.heap LL_ ∧ FrameEnd U o U' LL_ 0 0) := by
  refine MetFree.of_bodySF (plainFor_of_name pn_com_example_portcullis_portcullis_Resource) hisR ?_
  intro p e s m args below meth c s₁ Bd hml0 hP hK
  obtain ⟨rfl, hZ, hh⟩ := hP
  have hx := Bd.exec
  have hby := Bd.bytes
  have hml : c.maxLocals = 7 := hml0
  have hown : s.vm.findClass "com/example/portcullis/portcullis/Resource" = some m.cls := findClass_of_methodNamed Bd.named
  have hnm := (name_of_methodNamed Bd.named Bd.method).1
  have X0 : Stand p l e ({ frames := 2, cells := 0, slots := 0, locals := 24 } : Room) s m #[(.ref a), v1, v2, v3, (.int b), (.ref g1), (.ref g2)] below meth c s₁ [] 0 0 := Stand.of_body Bd
  have e0 : s₁.heap = h0 := by rw [← hh, Bd.state]; rfl
  have N0 := Fr.nil n0
  have ef : entryFrame m #[(.ref a), v1, v2, v3, (.int b), (.ref g1), (.ref g2)] 7 = mkF m 0 #[.val (.ref a), .val v1, .val v2, .val v3, .val (.int b), .val (.ref g1), .val (.ref g2)] [] := by first | (simp [entryFrame, mkF, argsToLocals, Value.category]; done) | rfl | (rcases ref_cases r1 with rfl | ⟨_, rfl⟩ <;> rcases ref_cases r2 with rfl | ⟨_, rfl⟩ <;> rcases ref_cases r3 with rfl | ⟨_, rfl⟩ <;> simp [entryFrame, mkF, argsToLocals, Value.category])
  refine Fin.start (Q := Q_rsi Z a v1 v2 v3 b g1 g2 h0 n0) ef ?_
  show Fin _ _ _ _ _ _ _ (s₁.setTop (mkF m 0 #[.val (.ref a), .val v1, .val v2, .val v3, .val (.int b), .val (.ref g1), .val (.ref g2)] []))
  refine Fin.by (fun t k => XS.aloadN X0.here hx rfl (hb hby d_prog_23_method_1_0) rfl rfl k) ?_
  show Fin _ _ _ _ _ _ _ (s₁.setTop (mkF m 1 #[.val (.ref a), .val v1, .val v2, .val v3, .val (.int b), .val (.ref g1), .val (.ref g2)] [(.ref a)]))
  obtain ⟨v101, _, ⟨T101, L101, k101, n101⟩, -, X101, ⟨Lc101, hQ101, l101, y101, z101⟩, st101⟩ := X0.specialBack hx (y := (⟨"java/lang/Record", "<init>", "()V"⟩ : MethodName)) rfl hown (mvT hZ (hw _ (List.mem_of_getElem? (i := 96) rfl))) (mvT hZ (hw _ (List.mem_of_getElem? (i := 33) rfl))) (mvT hZ (hw _ (List.mem_of_getElem? (i := 36) rfl))) (by decide) (backOf (W := 0) (rm_rec l Z a0 hw [] a h0 n0 Z0 ) hZ (hw _ (List.mem_of_getElem? (i := 36) rfl)) (hw _ (List.mem_of_getElem? (i := 35) rfl)) (by decide) (by decide)) (g := (mkF m 1 #[.val (.ref a), .val v1, .val v2, .val v3, .val (.int b), .val (.ref g1), .val (.ref g2)] [(.ref a)])) rfl (by rw [hml]; rfl) (Steps.refl _) (a := a) (argsL := []) (rest := []) (lenOf pd_45 rfl) rfl (by show 2 * 0 + _ ≤ _; exact Nat.le_of_eq rfl) (hb hby d_prog_23_method_1_1) (fun _ _ => ⟨rfl, e0, (by decide : 0 + 0 ≤ _), (by decide : 0 + 0 ≤ _)⟩)
  dsimp only [Pt.U, Pt.locs, Pt.cells, Pt.slots] at X101 l101 y101 z101 st101 hQ101
  subst l101 y101 z101
  obtain ⟨rfl, Nq101, e101_⟩ := hQ101
  have N101_ := Fr.app N0 Nq101
  refine Fin.byS st101 ?_
  have e101 := e101_
  show Fin _ _ _ _ _ _ _ (T101.setTop (mkF m 4 #[.val (.ref a), .val v1, .val v2, .val v3, .val (.int b), .val (.ref g1), .val (.ref g2)] []))
  refine Fin.by (fun t k => XS.aloadN X101.here hx rfl (hb hby d_prog_23_method_1_4) rfl rfl k) ?_
  show Fin _ _ _ _ _ _ _ (T101.setTop (mkF m 5 #[.val (.ref a), .val v1, .val v2, .val v3, .val (.int b), .val (.ref g1), .val (.ref g2)] [(.ref a)]))
  refine Fin.by (fun t k => XS.aloadN X101.here hx rfl (hb hby d_prog_23_method_1_5) rfl r1 k) ?_
  show Fin _ _ _ _ _ _ _ (T101.setTop (mkF m 6 #[.val (.ref a), .val v1, .val v2, .val v3, .val (.int b), .val (.ref g1), .val (.ref g2)] [v1, (.ref a)]))
  obtain ⟨T102, h102, X102, e102, W102, st102⟩ := putF X101 hx hZ hown (host := "") (Or.inl (hw _ (List.mem_of_getElem? (i := 97) rfl))) Via.refl e101 Fname E0 (Or.inr ⟨(hw _ (List.mem_of_getElem? (i := 98) rfl)), rfl, hnm⟩) (hw _ (List.mem_of_getElem? (i := 61) rfl)) (ty := (.object "com/example/portcullis/portcullis/ResourceName")) (by decide) (nar_ref _ r1) (fits_obj r1) (g := (mkF m 6 #[.val (.ref a), .val v1, .val v2, .val v3, .val (.int b), .val (.ref g1), .val (.ref g2)] [v1, (.ref a)])) rfl rfl (hb hby d_prog_23_method_1_6)
  refine Fin.by (fun t k => st102 t k) ?_
  have N102_ := Fr.snoc X102 N101_ ga
  show Fin _ _ _ _ _ _ _ (T102.setTop (mkF m 9 #[.val (.ref a), .val v1, .val v2, .val v3, .val (.int b), .val (.ref g1), .val (.ref g2)] []))
  refine Fin.by (fun t k => XS.aloadN X102.here hx rfl (hb hby d_prog_23_method_1_9) rfl rfl k) ?_
  show Fin _ _ _ _ _ _ _ (T102.setTop (mkF m 10 #[.val (.ref a), .val v1, .val v2, .val v3, .val (.int b), .val (.ref g1), .val (.ref g2)] [(.ref a)]))
  refine Fin.by (fun t k => XS.aloadN X102.here hx rfl (hb hby d_prog_23_method_1_10) rfl r2 k) ?_
  show Fin _ _ _ _ _ _ _ (T102.setTop (mkF m 11 #[.val (.ref a), .val v1, .val v2, .val v3, .val (.int b), .val (.ref g1), .val (.ref g2)] [v2, (.ref a)]))
  have F103 : Fld Z h102 a "com/example/portcullis/portcullis/Resource" "owner" "Lcom/example/portcullis/portcullis/Principal;" .null := (Fowner.other W102 (Or.inr (slot_ne (Or.inr (hw _ (List.mem_of_getElem? (i := 100) rfl))) (Or.inr (hw _ (List.mem_of_getElem? (i := 98) rfl))) (by decide) (t := (.object "com/example/portcullis/portcullis/Principal")) (t' := (.object "com/example/portcullis/portcullis/ResourceName")) (by decide) (by decide))))
  have E104 : Exa Z h102 a "com/example/portcullis/portcullis/Resource" := (E0.wr W102)
  obtain ⟨T105, h105, X105, e105, W105, st105⟩ := putF X102 hx hZ hown (host := "") (Or.inl (hw _ (List.mem_of_getElem? (i := 99) rfl))) Via.refl e102 F103 E104 (Or.inr ⟨(hw _ (List.mem_of_getElem? (i := 100) rfl)), rfl, hnm⟩) (hw _ (List.mem_of_getElem? (i := 61) rfl)) (ty := (.object "com/example/portcullis/portcullis/Principal")) (by decide) (nar_ref _ r2) (fits_obj r2) (g := (mkF m 11 #[.val (.ref a), .val v1, .val v2, .val v3, .val (.int b), .val (.ref g1), .val (.ref g2)] [v2, (.ref a)])) rfl rfl (hb hby d_prog_23_method_1_11)
  refine Fin.by (fun t k => st105 t k) ?_
  have N105_ := Fr.snoc X105 N102_ ga
  show Fin _ _ _ _ _ _ _ (T105.setTop (mkF m 14 #[.val (.ref a), .val v1, .val v2, .val v3, .val (.int b), .val (.ref g1), .val (.ref g2)] []))
  refine Fin.by (fun t k => XS.aloadN X105.here hx rfl (hb hby d_prog_23_method_1_14) rfl rfl k) ?_
  show Fin _ _ _ _ _ _ _ (T105.setTop (mkF m 15 #[.val (.ref a), .val v1, .val v2, .val v3, .val (.int b), .val (.ref g1), .val (.ref g2)] [(.ref a)]))
  refine Fin.by (fun t k => XS.aloadN X105.here hx rfl (hb hby d_prog_23_method_1_15) rfl r3 k) ?_
  show Fin _ _ _ _ _ _ _ (T105.setTop (mkF m 16 #[.val (.ref a), .val v1, .val v2, .val v3, .val (.int b), .val (.ref g1), .val (.ref g2)] [v3, (.ref a)]))
  have F106 : Fld Z h105 a "com/example/portcullis/portcullis/Resource" "parent" "Lcom/example/portcullis/portcullis/ResourceName;" .null := ((Fparent.other W102 (Or.inr (slot_ne (Or.inr (hw _ (List.mem_of_getElem? (i := 102) rfl))) (Or.inr (hw _ (List.mem_of_getElem? (i := 98) rfl))) (by decide) (t := (.object "com/example/portcullis/portcullis/ResourceName")) (t' := (.object "com/example/portcullis/portcullis/ResourceName")) (by decide) (by decide)))).other W105 (Or.inr (slot_ne (Or.inr (hw _ (List.mem_of_getElem? (i := 102) rfl))) (Or.inr (hw _ (List.mem_of_getElem? (i := 100) rfl))) (by decide) (t := (.object "com/example/portcullis/portcullis/ResourceName")) (t' := (.object "com/example/portcullis/portcullis/Principal")) (by decide) (by decide))))
  have E107 : Exa Z h105 a "com/example/portcullis/portcullis/Resource" := (E104.wr W105)
  obtain ⟨T108, h108, X108, e108, W108, st108⟩ := putF X105 hx hZ hown (host := "") (Or.inl (hw _ (List.mem_of_getElem? (i := 101) rfl))) Via.refl e105 F106 E107 (Or.inr ⟨(hw _ (List.mem_of_getElem? (i := 102) rfl)), rfl, hnm⟩) (hw _ (List.mem_of_getElem? (i := 61) rfl)) (ty := (.object "com/example/portcullis/portcullis/ResourceName")) (by decide) (nar_ref _ r3) (fits_obj r3) (g := (mkF m 16 #[.val (.ref a), .val v1, .val v2, .val v3, .val (.int b), .val (.ref g1), .val (.ref g2)] [v3, (.ref a)])) rfl rfl (hb hby d_prog_23_method_1_16)
  refine Fin.by (fun t k => st108 t k) ?_
  have N108_ := Fr.snoc X108 N105_ ga
  show Fin _ _ _ _ _ _ _ (T108.setTop (mkF m 19 #[.val (.ref a), .val v1, .val v2, .val v3, .val (.int b), .val (.ref g1), .val (.ref g2)] []))
  refine Fin.by (fun t k => XS.aloadN X108.here hx rfl (hb hby d_prog_23_method_1_19) rfl rfl k) ?_
  show Fin _ _ _ _ _ _ _ (T108.setTop (mkF m 20 #[.val (.ref a), .val v1, .val v2, .val v3, .val (.int b), .val (.ref g1), .val (.ref g2)] [(.ref a)]))
  refine Fin.by (fun t k => XS.iload X108.here hx rfl (hb hby d_prog_23_method_1_20) rfl k) ?_
  show Fin _ _ _ _ _ _ _ (T108.setTop (mkF m 22 #[.val (.ref a), .val v1, .val v2, .val v3, .val (.int b), .val (.ref g1), .val (.ref g2)] [(.int b), (.ref a)]))
  have F109 : Fld Z h108 a "com/example/portcullis/portcullis/Resource" "managed" "Z" (.int (0 : Int32)) := (((Fmanaged.other W102 (Or.inr (slot_ne (Or.inr (hw _ (List.mem_of_getElem? (i := 104) rfl))) (Or.inr (hw _ (List.mem_of_getElem? (i := 98) rfl))) (by decide) (t := .boolean) (t' := (.object "com/example/portcullis/portcullis/ResourceName")) (by decide) (by decide)))).other W105 (Or.inr (slot_ne (Or.inr (hw _ (List.mem_of_getElem? (i := 104) rfl))) (Or.inr (hw _ (List.mem_of_getElem? (i := 100) rfl))) (by decide) (t := .boolean) (t' := (.object "com/example/portcullis/portcullis/Principal")) (by decide) (by decide)))).other W108 (Or.inr (slot_ne (Or.inr (hw _ (List.mem_of_getElem? (i := 104) rfl))) (Or.inr (hw _ (List.mem_of_getElem? (i := 102) rfl))) (by decide) (t := .boolean) (t' := (.object "com/example/portcullis/portcullis/ResourceName")) (by decide) (by decide))))
  have E110 : Exa Z h108 a "com/example/portcullis/portcullis/Resource" := (E107.wr W108)
  obtain ⟨T111, h111, X111, e111, W111, st111⟩ := putFN X108 hx hZ hown (hw _ (List.mem_of_getElem? (i := 103) rfl)) Via.refl e108 F109 E110 (Or.inr ⟨(hw _ (List.mem_of_getElem? (i := 104) rfl)), rfl, hnm⟩) (hw _ (List.mem_of_getElem? (i := 61) rfl)) (ty := .boolean) (v' := .int (nar .boolean b)) (by decide) rfl (fits_nar_bool _) (g := (mkF m 22 #[.val (.ref a), .val v1, .val v2, .val v3, .val (.int b), .val (.ref g1), .val (.ref g2)] [(.int b), (.ref a)])) rfl rfl (hb hby d_prog_23_method_1_22)
  refine Fin.by (fun t k => st111 t k) ?_
  have N111_ := Fr.snoc X111 N108_ ga
  show Fin _ _ _ _ _ _ _ (T111.setTop (mkF m 25 #[.val (.ref a), .val v1, .val v2, .val v3, .val (.int b), .val (.ref g1), .val (.ref g2)] []))
  refine Fin.by (fun t k => XS.aloadN X111.here hx rfl (hb hby d_prog_23_method_1_25) rfl rfl k) ?_
  show Fin _ _ _ _ _ _ _ (T111.setTop (mkF m 26 #[.val (.ref a), .val v1, .val v2, .val v3, .val (.int b), .val (.ref g1), .val (.ref g2)] [(.ref a)]))
  refine Fin.by (fun t k => XS.aload X111.here hx rfl (hb hby d_prog_23_method_1_26) rfl rfl k) ?_
  show Fin _ _ _ _ _ _ _ (T111.setTop (mkF m 28 #[.val (.ref a), .val v1, .val v2, .val v3, .val (.int b), .val (.ref g1), .val (.ref g2)] [(.ref g1), (.ref a)]))
  have F112 : Fld Z h111 a "com/example/portcullis/portcullis/Resource" "roles" "Lcom/example/portcullis/portcullis/Grants;" .null := ((((Froles.other W102 (Or.inr (slot_ne (Or.inr (hw _ (List.mem_of_getElem? (i := 106) rfl))) (Or.inr (hw _ (List.mem_of_getElem? (i := 98) rfl))) (by decide) (t := (.object "com/example/portcullis/portcullis/Grants")) (t' := (.object "com/example/portcullis/portcullis/ResourceName")) (by decide) (by decide)))).other W105 (Or.inr (slot_ne (Or.inr (hw _ (List.mem_of_getElem? (i := 106) rfl))) (Or.inr (hw _ (List.mem_of_getElem? (i := 100) rfl))) (by decide) (t := (.object "com/example/portcullis/portcullis/Grants")) (t' := (.object "com/example/portcullis/portcullis/Principal")) (by decide) (by decide)))).other W108 (Or.inr (slot_ne (Or.inr (hw _ (List.mem_of_getElem? (i := 106) rfl))) (Or.inr (hw _ (List.mem_of_getElem? (i := 102) rfl))) (by decide) (t := (.object "com/example/portcullis/portcullis/Grants")) (t' := (.object "com/example/portcullis/portcullis/ResourceName")) (by decide) (by decide)))).other W111 (Or.inr (slot_ne (Or.inr (hw _ (List.mem_of_getElem? (i := 106) rfl))) (Or.inr (hw _ (List.mem_of_getElem? (i := 104) rfl))) (by decide) (t := (.object "com/example/portcullis/portcullis/Grants")) (t' := .boolean) (by decide) (by decide))))
  have E113 : Exa Z h111 a "com/example/portcullis/portcullis/Resource" := (E110.wr W111)
  obtain ⟨T114, h114, X114, e114, W114, st114⟩ := putF X111 hx hZ hown (host := "") (Or.inl (hw _ (List.mem_of_getElem? (i := 105) rfl))) Via.refl e111 F112 E113 (Or.inr ⟨(hw _ (List.mem_of_getElem? (i := 106) rfl)), rfl, hnm⟩) (hw _ (List.mem_of_getElem? (i := 61) rfl)) (ty := (.object "com/example/portcullis/portcullis/Grants")) (by decide) rfl rfl (g := (mkF m 28 #[.val (.ref a), .val v1, .val v2, .val v3, .val (.int b), .val (.ref g1), .val (.ref g2)] [(.ref g1), (.ref a)])) rfl rfl (hb hby d_prog_23_method_1_28)
  refine Fin.by (fun t k => st114 t k) ?_
  have N114_ := Fr.snoc X114 N111_ ga
  show Fin _ _ _ _ _ _ _ (T114.setTop (mkF m 31 #[.val (.ref a), .val v1, .val v2, .val v3, .val (.int b), .val (.ref g1), .val (.ref g2)] []))
  refine Fin.by (fun t k => XS.aloadN X114.here hx rfl (hb hby d_prog_23_method_1_31) rfl rfl k) ?_
  show Fin _ _ _ _ _ _ _ (T114.setTop (mkF m 32 #[.val (.ref a), .val v1, .val v2, .val v3, .val (.int b), .val (.ref g1), .val (.ref g2)] [(.ref a)]))
  refine Fin.by (fun t k => XS.aload X114.here hx rfl (hb hby d_prog_23_method_1_32) rfl rfl k) ?_
  show Fin _ _ _ _ _ _ _ (T114.setTop (mkF m 34 #[.val (.ref a), .val v1, .val v2, .val v3, .val (.int b), .val (.ref g1), .val (.ref g2)] [(.ref g2), (.ref a)]))
  have F115 : Fld Z h114 a "com/example/portcullis/portcullis/Resource" "access" "Lcom/example/portcullis/portcullis/Grants;" .null := (((((Faccess.other W102 (Or.inr (slot_ne (Or.inr (hw _ (List.mem_of_getElem? (i := 108) rfl))) (Or.inr (hw _ (List.mem_of_getElem? (i := 98) rfl))) (by decide) (t := (.object "com/example/portcullis/portcullis/Grants")) (t' := (.object "com/example/portcullis/portcullis/ResourceName")) (by decide) (by decide)))).other W105 (Or.inr (slot_ne (Or.inr (hw _ (List.mem_of_getElem? (i := 108) rfl))) (Or.inr (hw _ (List.mem_of_getElem? (i := 100) rfl))) (by decide) (t := (.object "com/example/portcullis/portcullis/Grants")) (t' := (.object "com/example/portcullis/portcullis/Principal")) (by decide) (by decide)))).other W108 (Or.inr (slot_ne (Or.inr (hw _ (List.mem_of_getElem? (i := 108) rfl))) (Or.inr (hw _ (List.mem_of_getElem? (i := 102) rfl))) (by decide) (t := (.object "com/example/portcullis/portcullis/Grants")) (t' := (.object "com/example/portcullis/portcullis/ResourceName")) (by decide) (by decide)))).other W111 (Or.inr (slot_ne (Or.inr (hw _ (List.mem_of_getElem? (i := 108) rfl))) (Or.inr (hw _ (List.mem_of_getElem? (i := 104) rfl))) (by decide) (t := (.object "com/example/portcullis/portcullis/Grants")) (t' := .boolean) (by decide) (by decide)))).other W114 (Or.inr (slot_ne (Or.inr (hw _ (List.mem_of_getElem? (i := 108) rfl))) (Or.inr (hw _ (List.mem_of_getElem? (i := 106) rfl))) (by decide) (t := (.object "com/example/portcullis/portcullis/Grants")) (t' := (.object "com/example/portcullis/portcullis/Grants")) (by decide) (by decide))))
  have E116 : Exa Z h114 a "com/example/portcullis/portcullis/Resource" := (E113.wr W114)
  obtain ⟨T117, h117, X117, e117, W117, st117⟩ := putF X114 hx hZ hown (host := "") (Or.inl (hw _ (List.mem_of_getElem? (i := 107) rfl))) Via.refl e114 F115 E116 (Or.inr ⟨(hw _ (List.mem_of_getElem? (i := 108) rfl)), rfl, hnm⟩) (hw _ (List.mem_of_getElem? (i := 61) rfl)) (ty := (.object "com/example/portcullis/portcullis/Grants")) (by decide) rfl rfl (g := (mkF m 34 #[.val (.ref a), .val v1, .val v2, .val v3, .val (.int b), .val (.ref g1), .val (.ref g2)] [(.ref g2), (.ref a)])) rfl rfl (hb hby d_prog_23_method_1_34)
  refine Fin.by (fun t k => st117 t k) ?_
  have N117_ := Fr.snoc X117 N114_ ga
  show Fin _ _ _ _ _ _ _ (T117.setTop (mkF m 37 #[.val (.ref a), .val v1, .val v2, .val v3, .val (.int b), .val (.ref g1), .val (.ref g2)] []))
  have kp118 : Keep h0 h102 [a] := (Keep.refl h0 [a]).wr W102 (Or.inl (List.mem_of_getElem? (i := 0) rfl))
  have kp119 : Keep h0 h105 [a] := kp118.wr W105 (Or.inl (List.mem_of_getElem? (i := 0) rfl))
  have kp120 : Keep h0 h108 [a] := kp119.wr W108 (Or.inl (List.mem_of_getElem? (i := 0) rfl))
  have kp121 : Keep h0 h111 [a] := kp120.wr W111 (Or.inl (List.mem_of_getElem? (i := 0) rfl))
  have kp122 : Keep h0 h114 [a] := kp121.wr W114 (Or.inl (List.mem_of_getElem? (i := 0) rfl))
  have kp123 : Keep h0 h117 [a] := kp122.wr W117 (Or.inl (List.mem_of_getElem? (i := 0) rfl))
  have E124 : Exa Z h117 a "com/example/portcullis/portcullis/Resource" := (E116.wr W117)
  have F125 : Fld Z h117 a "com/example/portcullis/portcullis/Resource" "name" "Lcom/example/portcullis/portcullis/ResourceName;" v1 := ((((((Fname.same W102).other W105 (Or.inr (slot_ne (Or.inr (hw _ (List.mem_of_getElem? (i := 98) rfl))) (Or.inr (hw _ (List.mem_of_getElem? (i := 100) rfl))) (by decide) (t := (.object "com/example/portcullis/portcullis/ResourceName")) (t' := (.object "com/example/portcullis/portcullis/Principal")) (by decide) (by decide)))).other W108 (Or.inr (slot_ne (Or.inr (hw _ (List.mem_of_getElem? (i := 98) rfl))) (Or.inr (hw _ (List.mem_of_getElem? (i := 102) rfl))) (by decide) (t := (.object "com/example/portcullis/portcullis/ResourceName")) (t' := (.object "com/example/portcullis/portcullis/ResourceName")) (by decide) (by decide)))).other W111 (Or.inr (slot_ne (Or.inr (hw _ (List.mem_of_getElem? (i := 98) rfl))) (Or.inr (hw _ (List.mem_of_getElem? (i := 104) rfl))) (by decide) (t := (.object "com/example/portcullis/portcullis/ResourceName")) (t' := .boolean) (by decide) (by decide)))).other W114 (Or.inr (slot_ne (Or.inr (hw _ (List.mem_of_getElem? (i := 98) rfl))) (Or.inr (hw _ (List.mem_of_getElem? (i := 106) rfl))) (by decide) (t := (.object "com/example/portcullis/portcullis/ResourceName")) (t' := (.object "com/example/portcullis/portcullis/Grants")) (by decide) (by decide)))).other W117 (Or.inr (slot_ne (Or.inr (hw _ (List.mem_of_getElem? (i := 98) rfl))) (Or.inr (hw _ (List.mem_of_getElem? (i := 108) rfl))) (by decide) (t := (.object "com/example/portcullis/portcullis/ResourceName")) (t' := (.object "com/example/portcullis/portcullis/Grants")) (by decide) (by decide))))
  have F126 : Fld Z h117 a "com/example/portcullis/portcullis/Resource" "owner" "Lcom/example/portcullis/portcullis/Principal;" v2 := (((((F103.same W105).other W108 (Or.inr (slot_ne (Or.inr (hw _ (List.mem_of_getElem? (i := 100) rfl))) (Or.inr (hw _ (List.mem_of_getElem? (i := 102) rfl))) (by decide) (t := (.object "com/example/portcullis/portcullis/Principal")) (t' := (.object "com/example/portcullis/portcullis/ResourceName")) (by decide) (by decide)))).other W111 (Or.inr (slot_ne (Or.inr (hw _ (List.mem_of_getElem? (i := 100) rfl))) (Or.inr (hw _ (List.mem_of_getElem? (i := 104) rfl))) (by decide) (t := (.object "com/example/portcullis/portcullis/Principal")) (t' := .boolean) (by decide) (by decide)))).other W114 (Or.inr (slot_ne (Or.inr (hw _ (List.mem_of_getElem? (i := 100) rfl))) (Or.inr (hw _ (List.mem_of_getElem? (i := 106) rfl))) (by decide) (t := (.object "com/example/portcullis/portcullis/Principal")) (t' := (.object "com/example/portcullis/portcullis/Grants")) (by decide) (by decide)))).other W117 (Or.inr (slot_ne (Or.inr (hw _ (List.mem_of_getElem? (i := 100) rfl))) (Or.inr (hw _ (List.mem_of_getElem? (i := 108) rfl))) (by decide) (t := (.object "com/example/portcullis/portcullis/Principal")) (t' := (.object "com/example/portcullis/portcullis/Grants")) (by decide) (by decide))))
  have F127 : Fld Z h117 a "com/example/portcullis/portcullis/Resource" "parent" "Lcom/example/portcullis/portcullis/ResourceName;" v3 := ((((F106.same W108).other W111 (Or.inr (slot_ne (Or.inr (hw _ (List.mem_of_getElem? (i := 102) rfl))) (Or.inr (hw _ (List.mem_of_getElem? (i := 104) rfl))) (by decide) (t := (.object "com/example/portcullis/portcullis/ResourceName")) (t' := .boolean) (by decide) (by decide)))).other W114 (Or.inr (slot_ne (Or.inr (hw _ (List.mem_of_getElem? (i := 102) rfl))) (Or.inr (hw _ (List.mem_of_getElem? (i := 106) rfl))) (by decide) (t := (.object "com/example/portcullis/portcullis/ResourceName")) (t' := (.object "com/example/portcullis/portcullis/Grants")) (by decide) (by decide)))).other W117 (Or.inr (slot_ne (Or.inr (hw _ (List.mem_of_getElem? (i := 102) rfl))) (Or.inr (hw _ (List.mem_of_getElem? (i := 108) rfl))) (by decide) (t := (.object "com/example/portcullis/portcullis/ResourceName")) (t' := (.object "com/example/portcullis/portcullis/Grants")) (by decide) (by decide))))
  have F128 : Fld Z h117 a "com/example/portcullis/portcullis/Resource" "managed" "Z" (.int (nar .boolean b)) := (((F109.same W111).other W114 (Or.inr (slot_ne (Or.inr (hw _ (List.mem_of_getElem? (i := 104) rfl))) (Or.inr (hw _ (List.mem_of_getElem? (i := 106) rfl))) (by decide) (t := .boolean) (t' := (.object "com/example/portcullis/portcullis/Grants")) (by decide) (by decide)))).other W117 (Or.inr (slot_ne (Or.inr (hw _ (List.mem_of_getElem? (i := 104) rfl))) (Or.inr (hw _ (List.mem_of_getElem? (i := 108) rfl))) (by decide) (t := .boolean) (t' := (.object "com/example/portcullis/portcullis/Grants")) (by decide) (by decide))))
  have F129 : Fld Z h117 a "com/example/portcullis/portcullis/Resource" "roles" "Lcom/example/portcullis/portcullis/Grants;" (.ref g1) := ((F112.same W114).other W117 (Or.inr (slot_ne (Or.inr (hw _ (List.mem_of_getElem? (i := 106) rfl))) (Or.inr (hw _ (List.mem_of_getElem? (i := 108) rfl))) (by decide) (t := (.object "com/example/portcullis/portcullis/Grants")) (t' := (.object "com/example/portcullis/portcullis/Grants")) (by decide) (by decide))))
  exact Fin.ret (v := none) X117 (fun _ => rfl) Bd.notSynchronized (by rw [e117]; exact ⟨rfl, N117_, kp123, E124, F125, F126, F127, F128, F129, (F115.same W117)⟩) (by decide) (by decide) (fun fs hr => X117.returnOut hx Bd.returns (hb hby d_prog_23_method_1_37) hr)
theorem d_prog_23_method_2_0 : decode prog_23_method_2_code 0 = .ok (.new 8, 3) := by decide +kernel
theorem d_prog_23_method_2_3 : decode prog_23_method_2_code 3 = .ok (.dup, 1) := by decide +kernel
theorem d_prog_23_method_2_4 : decode prog_23_method_2_code 4 = .ok (.aload_n 0, 1) := by decide +kernel
theorem d_prog_23_method_2_5 : decode prog_23_method_2_code 5 = .ok (.aload_n 1, 1) := by decide +kernel
theorem d_prog_23_method_2_6 : decode prog_23_method_2_code 6 = .ok (.aload_n 2, 1) := by decide +kernel
theorem d_prog_23_method_2_7 : decode prog_23_method_2_code 7 = .ok (.iload_n 3, 1) := by decide +kernel
theorem pd_121 : parseMethodDescriptor "()Lcom/example/portcullis/portcullis/Grants;" = some ⟨[], some (.object "com/example/portcullis/portcullis/Grants")⟩ := by decide +kernel
theorem d_prog_23_method_2_8 : decode prog_23_method_2_code 8 = .ok (.invokestatic 31, 3) := by decide +kernel
theorem d_prog_23_method_2_11 : decode prog_23_method_2_code 11 = .ok (.invokestatic 31, 3) := by decide +kernel
theorem pd_124 : parseMethodDescriptor "(Lcom/example/portcullis/portcullis/ResourceName;Lcom/example/portcullis/portcullis/Principal;Lcom/example/portcullis/portcullis/ResourceName;ZLcom/example/portcullis/portcullis/Grants;Lcom/example/portcullis/portcullis/Grants;)V" = some ⟨[(.object "com/example/portcullis/portcullis/ResourceName"), (.object "com/example/portcullis/portcullis/Principal"), (.object "com/example/portcullis/portcullis/ResourceName"), .boolean, (.object "com/example/portcullis/portcullis/Grants"), (.object "com/example/portcullis/portcullis/Grants")], none⟩ := by decide +kernel
theorem d_prog_23_method_2_14 : decode prog_23_method_2_code 14 = .ok (.invokespecial 37, 3) := by decide +kernel
theorem d_prog_23_method_2_17 : decode prog_23_method_2_code 17 = .ok (.areturn, 1) := by decide +kernel
def Q_cre (Z : State) (v1 : Value) (v2 : Value) (v3 : Value) (b : Int32) (aE : Addr) (h0 : Heap) (n0 : Nat) (vv_ : Option Value) (hh_ : Heap) (LL_ : List Loc) : Prop := ∃ (t : Addr), ∃ (g1 : Addr), ∃ (g2 : Addr), vv_ = some (.ref t) ∧ Fr n0 LL_ ∧ Keep h0 hh_ [] ∧ h0.size ≤ t ∧ h0.size ≤ g1 ∧ h0.size ≤ g2 ∧ Exa Z hh_ t "com/example/portcullis/portcullis/Resource" ∧ Fld Z hh_ t "com/example/portcullis/portcullis/Resource" "name" "Lcom/example/portcullis/portcullis/ResourceName;" v1 ∧ Fld Z hh_ t "com/example/portcullis/portcullis/Resource" "owner" "Lcom/example/portcullis/portcullis/Principal;" v2 ∧ Fld Z hh_ t "com/example/portcullis/portcullis/Resource" "parent" "Lcom/example/portcullis/portcullis/ResourceName;" v3 ∧ Fld Z hh_ t "com/example/portcullis/portcullis/Resource" "managed" "Z" (.int (nar .boolean b)) ∧ Fld Z hh_ t "com/example/portcullis/portcullis/Resource" "roles" "Lcom/example/portcullis/portcullis/Grants;" (.ref g1) ∧ Fld Z hh_ t "com/example/portcullis/portcullis/Resource" "access" "Lcom/example/portcullis/portcullis/Grants;" (.ref g2) ∧ Exa Z hh_ g1 "com/example/portcullis/portcullis/Grants" ∧ Fld Z hh_ g1 "com/example/portcullis/portcullis/Grants" "grants" "Ljava/util/List;" (.ref aE) ∧ Exa Z hh_ g2 "com/example/portcullis/portcullis/Grants" ∧ Fld Z hh_ g2 "com/example/portcullis/portcullis/Grants" "grants" "Ljava/util/List;" (.ref aE)
set_option maxRecDepth 65536 in
set_option maxHeartbeats 40000000 in
theorem rm_cre (l : Launch) (Z : State) (a0 : Array Value) (hw : ∀ d ∈ tables_1, d.before a0 Z = true) (ws : List Jvm.Cond) (v1 : Value) (v2 : Value) (v3 : Value) (b : Int32) (aE : Addr) (h0 : Heap) (n0 : Nat) (Z0 : n0 ≤ h0.size) (S2 : Sta Z Z.heap "java/util/ImmutableCollections" "EMPTY_LIST" "Ljava/util/ImmutableCollections$ListN;" (.ref aE)) (OL : Old Z n0 h0) (r1 : v1.isRef = true) (r2 : v2.isRef = true) (r3 : v3.isRef = true) :
    MetFree l (⟨"com/example/portcullis/portcullis/Resource", "created", "(Lcom/example/portcullis/portcullis/ResourceName;Lcom/example/portcullis/portcullis/Principal;Lcom/example/portcullis/portcullis/ResourceName;Z)Lcom/example/portcullis/portcullis/Resource;"⟩ : MethodName) (head1 (Jvm.Cond.code (⟨"com/example/portcullis/portcullis/Resource", "created", "(Lcom/example/portcullis/portcullis/ResourceName;Lcom/example/portcullis/portcullis/Principal;Lcom/example/portcullis/portcullis/ResourceName;Z)Lcom/example/portcullis/portcullis/Resource;"⟩ : MethodName) prog_23_method_2_code 4 (some (.object "com/example/portcullis/portcullis/Resource")) :: ws) ({ frames := 5, cells := 3, slots := 12, locals := 68 } : Room)) (fun aa_ U => aa_ = #[v1, v2, v3, (.int b)] ∧ Z.Warmed39 U.vm ∧ U.heap = h0) (fun _ _ _ _ _ => True) (fun _ U o U' => ∃ vv_ LL_, o = .returned vv_ ∧ Q_cre Z v1 v2 v3 b aE h0 n0 vv_ U'.heap LL_ ∧ FrameEnd U o U' LL_ 3 12) := by
  refine MetFree.of_bodySF (plainFor_of_name pn_com_example_portcullis_portcullis_Resource) hisR ?_
  intro p e s m args below meth c s₁ Bd hml0 hP hK
  obtain ⟨rfl, hZ, hh⟩ := hP
  have hx := Bd.exec
  have hby := Bd.bytes
  have hml : c.maxLocals = 4 := hml0
  have hown : s.vm.findClass "com/example/portcullis/portcullis/Resource" = some m.cls := findClass_of_methodNamed Bd.named
  have hnm := (name_of_methodNamed Bd.named Bd.method).1
  have X0 : Stand p l e ({ frames := 5, cells := 3, slots := 12, locals := 68 } : Room) s m #[v1, v2, v3, (.int b)] below meth c s₁ [] 0 0 := Stand.of_body Bd
  have e0 : s₁.heap = h0 := by rw [← hh, Bd.state]; rfl
  have N0 := Fr.nil n0
  have ef : entryFrame m #[v1, v2, v3, (.int b)] 4 = mkF m 0 #[.val v1, .val v2, .val v3, .val (.int b)] [] := by first | (simp [entryFrame, mkF, argsToLocals, Value.category]; done) | rfl | (rcases ref_cases r1 with rfl | ⟨_, rfl⟩ <;> rcases ref_cases r2 with rfl | ⟨_, rfl⟩ <;> rcases ref_cases r3 with rfl | ⟨_, rfl⟩ <;> simp [entryFrame, mkF, argsToLocals, Value.category])
  refine Fin.start (Q := Q_cre Z v1 v2 v3 b aE h0 n0) ef ?_
  show Fin _ _ _ _ _ _ _ (s₁.setTop (mkF m 0 #[.val v1, .val v2, .val v3, .val (.int b)] []))
  obtain ⟨T101, h101, X101, e101, E101, A101, D101, -, st101⟩ := newO X0 hx hZ hown (hw _ (List.mem_of_getElem? (i := 60) rfl)) (hw _ (List.mem_of_getElem? (i := 61) rfl)) (hw _ (List.mem_of_getElem? (i := 58) rfl)) e0 (g := (mkF m 0 #[.val v1, .val v2, .val v3, .val (.int b)] [])) rfl (hb hby d_prog_23_method_2_0) (by decide) (by decide)
  obtain ⟨a101, g101⟩ : ∃ z, z = h0.size := ⟨_, rfl⟩
  rw [← g101] at A101 D101 st101
  refine Fin.by (fun t k => st101 t k) ?_
  show Fin _ _ _ _ _ _ _ (T101.setTop (mkF m 3 #[.val v1, .val v2, .val v3, .val (.int b)] [(.ref a101)]))
  refine Fin.by (fun t k => XS.dup X101.here hx rfl (hb hby d_prog_23_method_2_3) rfl rfl k) ?_
  show Fin _ _ _ _ _ _ _ (T101.setTop (mkF m 4 #[.val v1, .val v2, .val v3, .val (.int b)] [(.ref a101), (.ref a101)]))
  refine Fin.by (fun t k => XS.aloadN X101.here hx rfl (hb hby d_prog_23_method_2_4) rfl r1 k) ?_
  show Fin _ _ _ _ _ _ _ (T101.setTop (mkF m 5 #[.val v1, .val v2, .val v3, .val (.int b)] [v1, (.ref a101), (.ref a101)]))
  refine Fin.by (fun t k => XS.aloadN X101.here hx rfl (hb hby d_prog_23_method_2_5) rfl r2 k) ?_
  show Fin _ _ _ _ _ _ _ (T101.setTop (mkF m 6 #[.val v1, .val v2, .val v3, .val (.int b)] [v2, v1, (.ref a101), (.ref a101)]))
  refine Fin.by (fun t k => XS.aloadN X101.here hx rfl (hb hby d_prog_23_method_2_6) rfl r3 k) ?_
  show Fin _ _ _ _ _ _ _ (T101.setTop (mkF m 7 #[.val v1, .val v2, .val v3, .val (.int b)] [v3, v2, v1, (.ref a101), (.ref a101)]))
  refine Fin.by (fun t k => XS.iloadN X101.here hx rfl (hb hby d_prog_23_method_2_7) rfl k) ?_
  show Fin _ _ _ _ _ _ _ (T101.setTop (mkF m 8 #[.val v1, .val v2, .val v3, .val (.int b)] [(.int b), v3, v2, v1, (.ref a101), (.ref a101)]))
  have O102 : Old Z n0 h101 := (OL.ext E101)
  have z103 : n0 ≤ h101.size := Nat.le_trans Z0 E101.1
  obtain ⟨v104, _, ⟨T104, L104, k104, n104⟩, -, X104, ⟨Lc104, hQ104, l104, y104, z104⟩, st104⟩ := Jvm.LawKit.callS X101 hx (y := (⟨"com/example/portcullis/portcullis/Grants", "none", "()Lcom/example/portcullis/portcullis/Grants;"⟩ : MethodName)) hown (mvT hZ (hw _ (List.mem_of_getElem? (i := 62) rfl))) (mvT hZ (hw _ (List.mem_of_getElem? (i := 63) rfl))) (mvT hZ (hw _ (List.mem_of_getElem? (i := 64) rfl))) (mvT hZ (hw _ (List.mem_of_getElem? (i := 65) rfl))) (by decide) (backOf (W := 6) (rm_non l Z a0 hw [] aE h101 n0 z103 S2 O102) hZ (hw _ (List.mem_of_getElem? (i := 65) rfl)) (hw _ (List.mem_of_getElem? (i := 64) rfl)) (by decide) (by decide)) (g := (mkF m 8 #[.val v1, .val v2, .val v3, .val (.int b)] [(.int b), v3, v2, v1, (.ref a101), (.ref a101)])) rfl (by rw [hml]; rfl) (argsL := []) (rest := [(.int b), v3, v2, v1, (.ref a101), (.ref a101)]) (lenOf pd_121 rfl) rfl (by show 2 * 0 + _ ≤ _; simp only [List.map_cons, List.map_nil, cat_ref r3, cat_ref r2, cat_ref r1]; exact Nat.le_of_eq rfl) (hb hby d_prog_23_method_2_8) (fun _ _ => ⟨rfl, e101, (by decide : 1 + 1 ≤ _), (by decide : 6 + 3 ≤ _)⟩)
  dsimp only [Pt.U, Pt.locs, Pt.cells, Pt.slots] at X104 l104 y104 z104 st104 hQ104
  subst l104 y104 z104
  obtain ⟨t105, rfl, Nq104, p104_0, p104_1, p104_2, p104_3⟩ := hQ104
  have N104_ := Fr.app N0 Nq104
  refine Fin.by (fun t k => st104 t k) ?_
  show Fin _ _ _ _ _ _ _ (T104.setTop (mkF m 11 #[.val v1, .val v2, .val v3, .val (.int b)] [(.ref t105), (.int b), v3, v2, v1, (.ref a101), (.ref a101)]))
  have O106 : Old Z n0 T104.heap := (O102.keep p104_0 all0)
  have z107 : n0 ≤ T104.heap.size := Nat.le_trans z103 p104_0.1
  obtain ⟨v108, _, ⟨T108, L108, k108, n108⟩, -, X108, ⟨Lc108, hQ108, l108, y108, z108⟩, st108⟩ := Jvm.LawKit.callS X104 hx (y := (⟨"com/example/portcullis/portcullis/Grants", "none", "()Lcom/example/portcullis/portcullis/Grants;"⟩ : MethodName)) hown (mvT hZ (hw _ (List.mem_of_getElem? (i := 62) rfl))) (mvT hZ (hw _ (List.mem_of_getElem? (i := 63) rfl))) (mvT hZ (hw _ (List.mem_of_getElem? (i := 64) rfl))) (mvT hZ (hw _ (List.mem_of_getElem? (i := 65) rfl))) (by decide) (backOf (W := 7) (rm_non l Z a0 hw [] aE T104.heap n0 z107 S2 O106) hZ (hw _ (List.mem_of_getElem? (i := 65) rfl)) (hw _ (List.mem_of_getElem? (i := 64) rfl)) (by decide) (by decide)) (g := (mkF m 11 #[.val v1, .val v2, .val v3, .val (.int b)] [(.ref t105), (.int b), v3, v2, v1, (.ref a101), (.ref a101)])) rfl (by rw [hml]; rfl) (argsL := []) (rest := [(.ref t105), (.int b), v3, v2, v1, (.ref a101), (.ref a101)]) (lenOf pd_121 rfl) rfl (by show 2 * 0 + _ ≤ _; simp only [List.map_cons, List.map_nil, cat_ref r3, cat_ref r2, cat_ref r1]; exact Nat.le_of_eq rfl) (hb hby d_prog_23_method_2_11) (fun _ _ => ⟨rfl, rfl, (by decide : 2 + 1 ≤ _), (by decide : 9 + 3 ≤ _)⟩)
  dsimp only [Pt.U, Pt.locs, Pt.cells, Pt.slots] at X108 l108 y108 z108 st108 hQ108
  subst l108 y108 z108
  obtain ⟨t109, rfl, Nq108, p108_0, p108_1, p108_2, p108_3⟩ := hQ108
  have N108_ := Fr.app N104_ Nq108
  refine Fin.by (fun t k => st108 t k) ?_
  show Fin _ _ _ _ _ _ _ (T108.setTop (mkF m 14 #[.val v1, .val v2, .val v3, .val (.int b)] [(.ref t109), (.ref t105), (.int b), v3, v2, v1, (.ref a101), (.ref a101)]))
  have E110 : Exa Z T108.heap a101 "com/example/portcullis/portcullis/Resource" := ((A101.keep p104_0).keep p108_0)
  have F111 : Fld Z T108.heap a101 "com/example/portcullis/portcullis/Resource" "name" "Lcom/example/portcullis/portcullis/ResourceName;" .null := (((D101 (Or.inr (hw _ (List.mem_of_getElem? (i := 98) rfl))) (ty := (.object "com/example/portcullis/portcullis/ResourceName")) (by decide) : Fld Z h101 a101 "com/example/portcullis/portcullis/Resource" "name" "Lcom/example/portcullis/portcullis/ResourceName;" .null).keep p104_0 nin0).keep p108_0 nin0)
  have F112 : Fld Z T108.heap a101 "com/example/portcullis/portcullis/Resource" "owner" "Lcom/example/portcullis/portcullis/Principal;" .null := (((D101 (Or.inr (hw _ (List.mem_of_getElem? (i := 100) rfl))) (ty := (.object "com/example/portcullis/portcullis/Principal")) (by decide) : Fld Z h101 a101 "com/example/portcullis/portcullis/Resource" "owner" "Lcom/example/portcullis/portcullis/Principal;" .null).keep p104_0 nin0).keep p108_0 nin0)
  have F113 : Fld Z T108.heap a101 "com/example/portcullis/portcullis/Resource" "parent" "Lcom/example/portcullis/portcullis/ResourceName;" .null := (((D101 (Or.inr (hw _ (List.mem_of_getElem? (i := 102) rfl))) (ty := (.object "com/example/portcullis/portcullis/ResourceName")) (by decide) : Fld Z h101 a101 "com/example/portcullis/portcullis/Resource" "parent" "Lcom/example/portcullis/portcullis/ResourceName;" .null).keep p104_0 nin0).keep p108_0 nin0)
  have F114 : Fld Z T108.heap a101 "com/example/portcullis/portcullis/Resource" "managed" "Z" (.int (0 : Int32)) := (((D101 (Or.inr (hw _ (List.mem_of_getElem? (i := 104) rfl))) (ty := .boolean) (by decide) : Fld Z h101 a101 "com/example/portcullis/portcullis/Resource" "managed" "Z" (.int (0 : Int32))).keep p104_0 nin0).keep p108_0 nin0)
  have F115 : Fld Z T108.heap a101 "com/example/portcullis/portcullis/Resource" "roles" "Lcom/example/portcullis/portcullis/Grants;" .null := (((D101 (Or.inr (hw _ (List.mem_of_getElem? (i := 106) rfl))) (ty := (.object "com/example/portcullis/portcullis/Grants")) (by decide) : Fld Z h101 a101 "com/example/portcullis/portcullis/Resource" "roles" "Lcom/example/portcullis/portcullis/Grants;" .null).keep p104_0 nin0).keep p108_0 nin0)
  have F116 : Fld Z T108.heap a101 "com/example/portcullis/portcullis/Resource" "access" "Lcom/example/portcullis/portcullis/Grants;" .null := (((D101 (Or.inr (hw _ (List.mem_of_getElem? (i := 108) rfl))) (ty := (.object "com/example/portcullis/portcullis/Grants")) (by decide) : Fld Z h101 a101 "com/example/portcullis/portcullis/Resource" "access" "Lcom/example/portcullis/portcullis/Grants;" .null).keep p104_0 nin0).keep p108_0 nin0)
  have g117 : n0 ≤ a101 := Nat.le_trans Z0 (Nat.le_of_eq g101.symm)
  have z118 : n0 ≤ T108.heap.size := Nat.le_trans z107 p108_0.1
  obtain ⟨v119, _, ⟨T119, L119, k119, n119⟩, -, X119, ⟨Lc119, hQ119, l119, y119, z119⟩, st119⟩ := X108.specialBack hx (y := (⟨"com/example/portcullis/portcullis/Resource", "<init>", "(Lcom/example/portcullis/portcullis/ResourceName;Lcom/example/portcullis/portcullis/Principal;Lcom/example/portcullis/portcullis/ResourceName;ZLcom/example/portcullis/portcullis/Grants;Lcom/example/portcullis/portcullis/Grants;)V"⟩ : MethodName)) rfl hown (mvT hZ (hw _ (List.mem_of_getElem? (i := 93) rfl))) (mvT hZ (hw _ (List.mem_of_getElem? (i := 94) rfl))) (mvT hZ (hw _ (List.mem_of_getElem? (i := 95) rfl))) (by decide) (backOf (W := 1) (rm_rsi l Z a0 hw [] a101 v1 v2 v3 b t105 t109 T108.heap n0 z118 E110 F111 F112 F113 F114 F115 F116 g117 r1 r2 r3) hZ (hw _ (List.mem_of_getElem? (i := 95) rfl)) (hw _ (List.mem_of_getElem? (i := 58) rfl)) (by decide) (by decide)) (g := (mkF m 14 #[.val v1, .val v2, .val v3, .val (.int b)] [(.ref t109), (.ref t105), (.int b), v3, v2, v1, (.ref a101), (.ref a101)])) rfl (by rw [hml]; rfl) (Steps.refl _) (a := a101) (argsL := [v1, v2, v3, (.int b), (.ref t105), (.ref t109)]) (rest := [(.ref a101)]) (lenOf pd_124 rfl) rfl (by show 2 * 0 + _ ≤ _; exact Nat.le_of_eq rfl) (hb hby d_prog_23_method_2_14) (fun _ _ => ⟨rfl, rfl, (by decide : 3 + 0 ≤ _), (by decide : 12 + 0 ≤ _)⟩)
  dsimp only [Pt.U, Pt.locs, Pt.cells, Pt.slots] at X119 l119 y119 z119 st119 hQ119
  subst l119 y119 z119
  obtain ⟨rfl, Nq119, p119_0, p119_1, p119_2, p119_3, p119_4, p119_5, p119_6, p119_7⟩ := hQ119
  have N119_ := Fr.app N108_ Nq119
  refine Fin.byS st119 ?_
  show Fin _ _ _ _ _ _ _ (T119.setTop (mkF m 17 #[.val v1, .val v2, .val v3, .val (.int b)] [(.ref a101)]))
  have kp120 : Keep h0 h101 [] := (Keep.refl h0 []).ext E101
  have kp121 : Keep h0 T104.heap [] := kp120.trans p104_0 all0
  have kp122 : Keep h0 T108.heap [] := kp121.trans p108_0 all0
  have kp123 : Keep h0 T119.heap [] := kp122.trans p119_0 (allS (Or.inr (Nat.le_trans (Nat.le_refl _) (Nat.le_of_eq g101.symm))) all0)
  have E124 : Exa Z T119.heap t105 "com/example/portcullis/portcullis/Grants" := ((p104_2.keep p108_0).keep p119_0)
  have ne125 : a101 ≠ t105 := Nat.ne_of_lt (Nat.lt_of_lt_of_le A101.lt p104_1)
  have F126 : Fld Z T119.heap t105 "com/example/portcullis/portcullis/Grants" "grants" "Ljava/util/List;" (.ref aE) := ((p104_3.keep p108_0 nin0).keep p119_0 (ninS (Ne.symm ne125) nin0))
  have E127 : Exa Z T119.heap t109 "com/example/portcullis/portcullis/Grants" := (p108_2.keep p119_0)
  have lt129 : a101 < T104.heap.size := Nat.lt_of_lt_of_le A101.lt p104_0.1
  have ne128 : a101 ≠ t109 := Nat.ne_of_lt (Nat.lt_of_lt_of_le lt129 p108_1)
  have F130 : Fld Z T119.heap t109 "com/example/portcullis/portcullis/Grants" "grants" "Ljava/util/List;" (.ref aE) := (p108_3.keep p119_0 (ninS (Ne.symm ne128) nin0))
  exact Fin.ret (v := some (.ref a101)) X119 (fun h => by rw [Bd.returns] at h; cases h) Bd.notSynchronized (⟨a101, t105, t109, rfl, N119_, kp123, (Nat.le_trans (Nat.le_refl _) (Nat.le_of_eq g101.symm)), (Nat.le_trans E101.1 p104_1), (Nat.le_trans (Nat.le_trans E101.1 p104_0.1) p108_1), p119_1, p119_2, p119_3, p119_4, p119_5, p119_6, p119_7, E124, F126, E127, F130⟩) (by decide) (by decide) (fun fs hr => retA X119 hx Bd.returns rfl rfl (hb hby d_prog_23_method_2_17) hr)
theorem d_prog_23_method_15_0 : decode prog_23_method_15_code 0 = .ok (.aload_n 0, 1) := by decide +kernel
theorem d_prog_23_method_15_1 : decode prog_23_method_15_code 1 = .ok (.getfield 7, 3) := by decide +kernel
theorem d_prog_23_method_15_4 : decode prog_23_method_15_code 4 = .ok (.areturn, 1) := by decide +kernel
def Q_get_name (Z : State) (a : Addr) (v : Value) (h0 : Heap) (n0 : Nat) (vv_ : Option Value) (hh_ : Heap) (LL_ : List Loc) : Prop := vv_ = some v ∧ Fr n0 LL_ ∧ hh_ = h0
set_option maxRecDepth 65536 in
set_option maxHeartbeats 40000000 in
theorem rm_get_name (l : Launch) (Z : State) (a0 : Array Value) (hw : ∀ d ∈ tables_1, d.before a0 Z = true) (ws : List Jvm.Cond) (a : Addr) (v : Value) (h0 : Heap) (n0 : Nat) (Z0 : n0 ≤ h0.size) (F0 : Fld Z h0 a "com/example/portcullis/portcullis/Resource" "name" "Lcom/example/portcullis/portcullis/ResourceName;" v) (r0 : v.isRef = true) :
    MetFree l (⟨"com/example/portcullis/portcullis/Resource", "name", "()Lcom/example/portcullis/portcullis/ResourceName;"⟩ : MethodName) (head1 (Jvm.Cond.code (⟨"com/example/portcullis/portcullis/Resource", "name", "()Lcom/example/portcullis/portcullis/ResourceName;"⟩ : MethodName) prog_23_method_15_code 1 (some (.object "com/example/portcullis/portcullis/ResourceName")) :: ws) ({ frames := 0, cells := 0, slots := 0, locals := 0 } : Room)) (fun aa_ U => aa_ = #[(.ref a)] ∧ Z.Warmed39 U.vm ∧ U.heap = h0) (fun _ _ _ _ _ => True) (fun _ U o U' => ∃ vv_ LL_, o = .returned vv_ ∧ Q_get_name Z a v h0 n0 vv_ U'.heap LL_ ∧ FrameEnd U o U' LL_ 0 0) := by
  refine MetFree.of_bodySF (plainFor_of_name pn_com_example_portcullis_portcullis_Resource) hisR ?_
  intro p e s m args below meth c s₁ Bd hml0 hP hK
  obtain ⟨rfl, hZ, hh⟩ := hP
  have hx := Bd.exec
  have hby := Bd.bytes
  have hml : c.maxLocals = 1 := hml0
  have hown : s.vm.findClass "com/example/portcullis/portcullis/Resource" = some m.cls := findClass_of_methodNamed Bd.named
  have hnm := (name_of_methodNamed Bd.named Bd.method).1
  have X0 : Stand p l e ({ frames := 0, cells := 0, slots := 0, locals := 0 } : Room) s m #[(.ref a)] below meth c s₁ [] 0 0 := Stand.of_body Bd
  have e0 : s₁.heap = h0 := by rw [← hh, Bd.state]; rfl
  have N0 := Fr.nil n0
  have ef : entryFrame m #[(.ref a)] 1 = mkF m 0 #[.val (.ref a)] [] := by first | (simp [entryFrame, mkF, argsToLocals, Value.category]; done) | rfl
  refine Fin.start (Q := Q_get_name Z a v h0 n0) ef ?_
  show Fin _ _ _ _ _ _ _ (s₁.setTop (mkF m 0 #[.val (.ref a)] []))
  refine Fin.by (fun t k => XS.aloadN X0.here hx rfl (hb hby d_prog_23_method_15_0) rfl rfl k) ?_
  show Fin _ _ _ _ _ _ _ (s₁.setTop (mkF m 1 #[.val (.ref a)] [(.ref a)]))
  obtain ⟨T101, X101, e101, st101⟩ := getF X0 hx hZ hown (host := "") (Or.inl (hw _ (List.mem_of_getElem? (i := 97) rfl))) Via.refl e0 F0 (g := (mkF m 1 #[.val (.ref a)] [(.ref a)])) rfl rfl (hb hby d_prog_23_method_15_1)
  refine Fin.by (fun t k => st101 t k) ?_
  show Fin _ _ _ _ _ _ _ (T101.setTop (mkF m 4 #[.val (.ref a)] [v]))
  exact Fin.ret (v := some v) X101 (fun h => by rw [Bd.returns] at h; cases h) Bd.notSynchronized (by rw [e101]; exact ⟨rfl, N0, rfl⟩) (by decide) (by decide) (fun fs hr => retA X101 hx Bd.returns rfl r0 (hb hby d_prog_23_method_15_4) hr)
theorem d_prog_23_method_16_0 : decode prog_23_method_16_code 0 = .ok (.aload_n 0, 1) := by decide +kernel
theorem d_prog_23_method_16_1 : decode prog_23_method_16_code 1 = .ok (.getfield 13, 3) := by decide +kernel
theorem d_prog_23_method_16_4 : decode prog_23_method_16_code 4 = .ok (.areturn, 1) := by decide +kernel
def Q_get_owner (Z : State) (a : Addr) (v : Value) (h0 : Heap) (n0 : Nat) (vv_ : Option Value) (hh_ : Heap) (LL_ : List Loc) : Prop := vv_ = some v ∧ Fr n0 LL_ ∧ hh_ = h0
set_option maxRecDepth 65536 in
set_option maxHeartbeats 40000000 in
theorem rm_get_owner (l : Launch) (Z : State) (a0 : Array Value) (hw : ∀ d ∈ tables_1, d.before a0 Z = true) (ws : List Jvm.Cond) (a : Addr) (v : Value) (h0 : Heap) (n0 : Nat) (Z0 : n0 ≤ h0.size) (F0 : Fld Z h0 a "com/example/portcullis/portcullis/Resource" "owner" "Lcom/example/portcullis/portcullis/Principal;" v) (r0 : v.isRef = true) :
    MetFree l (⟨"com/example/portcullis/portcullis/Resource", "owner", "()Lcom/example/portcullis/portcullis/Principal;"⟩ : MethodName) (head1 (Jvm.Cond.code (⟨"com/example/portcullis/portcullis/Resource", "owner", "()Lcom/example/portcullis/portcullis/Principal;"⟩ : MethodName) prog_23_method_16_code 1 (some (.object "com/example/portcullis/portcullis/Principal")) :: ws) ({ frames := 0, cells := 0, slots := 0, locals := 0 } : Room)) (fun aa_ U => aa_ = #[(.ref a)] ∧ Z.Warmed39 U.vm ∧ U.heap = h0) (fun _ _ _ _ _ => True) (fun _ U o U' => ∃ vv_ LL_, o = .returned vv_ ∧ Q_get_owner Z a v h0 n0 vv_ U'.heap LL_ ∧ FrameEnd U o U' LL_ 0 0) := by
  refine MetFree.of_bodySF (plainFor_of_name pn_com_example_portcullis_portcullis_Resource) hisR ?_
  intro p e s m args below meth c s₁ Bd hml0 hP hK
  obtain ⟨rfl, hZ, hh⟩ := hP
  have hx := Bd.exec
  have hby := Bd.bytes
  have hml : c.maxLocals = 1 := hml0
  have hown : s.vm.findClass "com/example/portcullis/portcullis/Resource" = some m.cls := findClass_of_methodNamed Bd.named
  have hnm := (name_of_methodNamed Bd.named Bd.method).1
  have X0 : Stand p l e ({ frames := 0, cells := 0, slots := 0, locals := 0 } : Room) s m #[(.ref a)] below meth c s₁ [] 0 0 := Stand.of_body Bd
  have e0 : s₁.heap = h0 := by rw [← hh, Bd.state]; rfl
  have N0 := Fr.nil n0
  have ef : entryFrame m #[(.ref a)] 1 = mkF m 0 #[.val (.ref a)] [] := by first | (simp [entryFrame, mkF, argsToLocals, Value.category]; done) | rfl
  refine Fin.start (Q := Q_get_owner Z a v h0 n0) ef ?_
  show Fin _ _ _ _ _ _ _ (s₁.setTop (mkF m 0 #[.val (.ref a)] []))
  refine Fin.by (fun t k => XS.aloadN X0.here hx rfl (hb hby d_prog_23_method_16_0) rfl rfl k) ?_
  show Fin _ _ _ _ _ _ _ (s₁.setTop (mkF m 1 #[.val (.ref a)] [(.ref a)]))
  obtain ⟨T101, X101, e101, st101⟩ := getF X0 hx hZ hown (host := "") (Or.inl (hw _ (List.mem_of_getElem? (i := 99) rfl))) Via.refl e0 F0 (g := (mkF m 1 #[.val (.ref a)] [(.ref a)])) rfl rfl (hb hby d_prog_23_method_16_1)
  refine Fin.by (fun t k => st101 t k) ?_
  show Fin _ _ _ _ _ _ _ (T101.setTop (mkF m 4 #[.val (.ref a)] [v]))
  exact Fin.ret (v := some v) X101 (fun h => by rw [Bd.returns] at h; cases h) Bd.notSynchronized (by rw [e101]; exact ⟨rfl, N0, rfl⟩) (by decide) (by decide) (fun fs hr => retA X101 hx Bd.returns rfl r0 (hb hby d_prog_23_method_16_4) hr)
theorem d_prog_23_method_17_0 : decode prog_23_method_17_code 0 = .ok (.aload_n 0, 1) := by decide +kernel
theorem d_prog_23_method_17_1 : decode prog_23_method_17_code 1 = .ok (.getfield 17, 3) := by decide +kernel
theorem d_prog_23_method_17_4 : decode prog_23_method_17_code 4 = .ok (.areturn, 1) := by decide +kernel
def Q_get_parent (Z : State) (a : Addr) (v : Value) (h0 : Heap) (n0 : Nat) (vv_ : Option Value) (hh_ : Heap) (LL_ : List Loc) : Prop := vv_ = some v ∧ Fr n0 LL_ ∧ hh_ = h0
set_option maxRecDepth 65536 in
set_option maxHeartbeats 40000000 in
theorem rm_get_parent (l : Launch) (Z : State) (a0 : Array Value) (hw : ∀ d ∈ tables_1, d.before a0 Z = true) (ws : List Jvm.Cond) (a : Addr) (v : Value) (h0 : Heap) (n0 : Nat) (Z0 : n0 ≤ h0.size) (F0 : Fld Z h0 a "com/example/portcullis/portcullis/Resource" "parent" "Lcom/example/portcullis/portcullis/ResourceName;" v) (r0 : v.isRef = true) :
    MetFree l (⟨"com/example/portcullis/portcullis/Resource", "parent", "()Lcom/example/portcullis/portcullis/ResourceName;"⟩ : MethodName) (head1 (Jvm.Cond.code (⟨"com/example/portcullis/portcullis/Resource", "parent", "()Lcom/example/portcullis/portcullis/ResourceName;"⟩ : MethodName) prog_23_method_17_code 1 (some (.object "com/example/portcullis/portcullis/ResourceName")) :: ws) ({ frames := 0, cells := 0, slots := 0, locals := 0 } : Room)) (fun aa_ U => aa_ = #[(.ref a)] ∧ Z.Warmed39 U.vm ∧ U.heap = h0) (fun _ _ _ _ _ => True) (fun _ U o U' => ∃ vv_ LL_, o = .returned vv_ ∧ Q_get_parent Z a v h0 n0 vv_ U'.heap LL_ ∧ FrameEnd U o U' LL_ 0 0) := by
  refine MetFree.of_bodySF (plainFor_of_name pn_com_example_portcullis_portcullis_Resource) hisR ?_
  intro p e s m args below meth c s₁ Bd hml0 hP hK
  obtain ⟨rfl, hZ, hh⟩ := hP
  have hx := Bd.exec
  have hby := Bd.bytes
  have hml : c.maxLocals = 1 := hml0
  have hown : s.vm.findClass "com/example/portcullis/portcullis/Resource" = some m.cls := findClass_of_methodNamed Bd.named
  have hnm := (name_of_methodNamed Bd.named Bd.method).1
  have X0 : Stand p l e ({ frames := 0, cells := 0, slots := 0, locals := 0 } : Room) s m #[(.ref a)] below meth c s₁ [] 0 0 := Stand.of_body Bd
  have e0 : s₁.heap = h0 := by rw [← hh, Bd.state]; rfl
  have N0 := Fr.nil n0
  have ef : entryFrame m #[(.ref a)] 1 = mkF m 0 #[.val (.ref a)] [] := by first | (simp [entryFrame, mkF, argsToLocals, Value.category]; done) | rfl
  refine Fin.start (Q := Q_get_parent Z a v h0 n0) ef ?_
  show Fin _ _ _ _ _ _ _ (s₁.setTop (mkF m 0 #[.val (.ref a)] []))
  refine Fin.by (fun t k => XS.aloadN X0.here hx rfl (hb hby d_prog_23_method_17_0) rfl rfl k) ?_
  show Fin _ _ _ _ _ _ _ (s₁.setTop (mkF m 1 #[.val (.ref a)] [(.ref a)]))
  obtain ⟨T101, X101, e101, st101⟩ := getF X0 hx hZ hown (host := "") (Or.inl (hw _ (List.mem_of_getElem? (i := 101) rfl))) Via.refl e0 F0 (g := (mkF m 1 #[.val (.ref a)] [(.ref a)])) rfl rfl (hb hby d_prog_23_method_17_1)
  refine Fin.by (fun t k => st101 t k) ?_
  show Fin _ _ _ _ _ _ _ (T101.setTop (mkF m 4 #[.val (.ref a)] [v]))
  exact Fin.ret (v := some v) X101 (fun h => by rw [Bd.returns] at h; cases h) Bd.notSynchronized (by rw [e101]; exact ⟨rfl, N0, rfl⟩) (by decide) (by decide) (fun fs hr => retA X101 hx Bd.returns rfl r0 (hb hby d_prog_23_method_17_4) hr)
theorem d_prog_23_method_18_0 : decode prog_23_method_18_code 0 = .ok (.aload_n 0, 1) := by decide +kernel
theorem d_prog_23_method_18_1 : decode prog_23_method_18_code 1 = .ok (.getfield 20, 3) := by decide +kernel
theorem d_prog_23_method_18_4 : decode prog_23_method_18_code 4 = .ok (.ireturn, 1) := by decide +kernel
def Q_get_managed (Z : State) (a : Addr) (x : Int32) (h0 : Heap) (n0 : Nat) (vv_ : Option Value) (hh_ : Heap) (LL_ : List Loc) : Prop := vv_ = some (.int (nar .boolean x)) ∧ Fr n0 LL_ ∧ hh_ = h0
set_option maxRecDepth 65536 in
set_option maxHeartbeats 40000000 in
theorem rm_get_managed (l : Launch) (Z : State) (a0 : Array Value) (hw : ∀ d ∈ tables_1, d.before a0 Z = true) (ws : List Jvm.Cond) (a : Addr) (x : Int32) (h0 : Heap) (n0 : Nat) (Z0 : n0 ≤ h0.size) (F0 : Fld Z h0 a "com/example/portcullis/portcullis/Resource" "managed" "Z" (.int x)) :
    MetFree l (⟨"com/example/portcullis/portcullis/Resource", "managed", "()Z"⟩ : MethodName) (head1 (Jvm.Cond.code (⟨"com/example/portcullis/portcullis/Resource", "managed", "()Z"⟩ : MethodName) prog_23_method_18_code 1 (some .boolean) :: ws) ({ frames := 0, cells := 0, slots := 0, locals := 0 } : Room)) (fun aa_ U => aa_ = #[(.ref a)] ∧ Z.Warmed39 U.vm ∧ U.heap = h0) (fun _ _ _ _ _ => True) (fun _ U o U' => ∃ vv_ LL_, o = .returned vv_ ∧ Q_get_managed Z a x h0 n0 vv_ U'.heap LL_ ∧ FrameEnd U o U' LL_ 0 0) := by
  refine MetFree.of_bodySF (plainFor_of_name pn_com_example_portcullis_portcullis_Resource) hisR ?_
  intro p e s m args below meth c s₁ Bd hml0 hP hK
  obtain ⟨rfl, hZ, hh⟩ := hP
  have hx := Bd.exec
  have hby := Bd.bytes
  have hml : c.maxLocals = 1 := hml0
  have hown : s.vm.findClass "com/example/portcullis/portcullis/Resource" = some m.cls := findClass_of_methodNamed Bd.named
  have hnm := (name_of_methodNamed Bd.named Bd.method).1
  have X0 : Stand p l e ({ frames := 0, cells := 0, slots := 0, locals := 0 } : Room) s m #[(.ref a)] below meth c s₁ [] 0 0 := Stand.of_body Bd
  have e0 : s₁.heap = h0 := by rw [← hh, Bd.state]; rfl
  have N0 := Fr.nil n0
  have ef : entryFrame m #[(.ref a)] 1 = mkF m 0 #[.val (.ref a)] [] := by first | (simp [entryFrame, mkF, argsToLocals, Value.category]; done) | rfl
  refine Fin.start (Q := Q_get_managed Z a x h0 n0) ef ?_
  show Fin _ _ _ _ _ _ _ (s₁.setTop (mkF m 0 #[.val (.ref a)] []))
  refine Fin.by (fun t k => XS.aloadN X0.here hx rfl (hb hby d_prog_23_method_18_0) rfl rfl k) ?_
  show Fin _ _ _ _ _ _ _ (s₁.setTop (mkF m 1 #[.val (.ref a)] [(.ref a)]))
  obtain ⟨T101, X101, e101, st101⟩ := getF X0 hx hZ hown (host := "") (Or.inl (hw _ (List.mem_of_getElem? (i := 103) rfl))) Via.refl e0 F0 (g := (mkF m 1 #[.val (.ref a)] [(.ref a)])) rfl rfl (hb hby d_prog_23_method_18_1)
  refine Fin.by (fun t k => st101 t k) ?_
  show Fin _ _ _ _ _ _ _ (T101.setTop (mkF m 4 #[.val (.ref a)] [(.int x)]))
  exact Fin.ret (v := some (.int (nar .boolean x))) X101 (fun h => by rw [Bd.returns] at h; cases h) Bd.notSynchronized (by rw [e101]; exact ⟨rfl, N0, rfl⟩) (by decide) (by decide) (fun fs hr => retN X101 hx (t := .boolean) Bd.returns (by simp) (hb hby d_prog_23_method_18_4) hr)
theorem d_prog_23_method_19_0 : decode prog_23_method_19_code 0 = .ok (.aload_n 0, 1) := by decide +kernel
theorem d_prog_23_method_19_1 : decode prog_23_method_19_code 1 = .ok (.getfield 24, 3) := by decide +kernel
theorem d_prog_23_method_19_4 : decode prog_23_method_19_code 4 = .ok (.areturn, 1) := by decide +kernel
def Q_get_roles (Z : State) (a : Addr) (b : Addr) (h0 : Heap) (n0 : Nat) (vv_ : Option Value) (hh_ : Heap) (LL_ : List Loc) : Prop := vv_ = some (.ref b) ∧ Fr n0 LL_ ∧ hh_ = h0
set_option maxRecDepth 65536 in
set_option maxHeartbeats 40000000 in
theorem rm_get_roles (l : Launch) (Z : State) (a0 : Array Value) (hw : ∀ d ∈ tables_1, d.before a0 Z = true) (ws : List Jvm.Cond) (a : Addr) (b : Addr) (h0 : Heap) (n0 : Nat) (Z0 : n0 ≤ h0.size) (F0 : Fld Z h0 a "com/example/portcullis/portcullis/Resource" "roles" "Lcom/example/portcullis/portcullis/Grants;" (.ref b)) :
    MetFree l (⟨"com/example/portcullis/portcullis/Resource", "roles", "()Lcom/example/portcullis/portcullis/Grants;"⟩ : MethodName) (head1 (Jvm.Cond.code (⟨"com/example/portcullis/portcullis/Resource", "roles", "()Lcom/example/portcullis/portcullis/Grants;"⟩ : MethodName) prog_23_method_19_code 1 (some (.object "com/example/portcullis/portcullis/Grants")) :: ws) ({ frames := 0, cells := 0, slots := 0, locals := 0 } : Room)) (fun aa_ U => aa_ = #[(.ref a)] ∧ Z.Warmed39 U.vm ∧ U.heap = h0) (fun _ _ _ _ _ => True) (fun _ U o U' => ∃ vv_ LL_, o = .returned vv_ ∧ Q_get_roles Z a b h0 n0 vv_ U'.heap LL_ ∧ FrameEnd U o U' LL_ 0 0) := by
  refine MetFree.of_bodySF (plainFor_of_name pn_com_example_portcullis_portcullis_Resource) hisR ?_
  intro p e s m args below meth c s₁ Bd hml0 hP hK
  obtain ⟨rfl, hZ, hh⟩ := hP
  have hx := Bd.exec
  have hby := Bd.bytes
  have hml : c.maxLocals = 1 := hml0
  have hown : s.vm.findClass "com/example/portcullis/portcullis/Resource" = some m.cls := findClass_of_methodNamed Bd.named
  have hnm := (name_of_methodNamed Bd.named Bd.method).1
  have X0 : Stand p l e ({ frames := 0, cells := 0, slots := 0, locals := 0 } : Room) s m #[(.ref a)] below meth c s₁ [] 0 0 := Stand.of_body Bd
  have e0 : s₁.heap = h0 := by rw [← hh, Bd.state]; rfl
  have N0 := Fr.nil n0
  have ef : entryFrame m #[(.ref a)] 1 = mkF m 0 #[.val (.ref a)] [] := by first | (simp [entryFrame, mkF, argsToLocals, Value.category]; done) | rfl
  refine Fin.start (Q := Q_get_roles Z a b h0 n0) ef ?_
  show Fin _ _ _ _ _ _ _ (s₁.setTop (mkF m 0 #[.val (.ref a)] []))
  refine Fin.by (fun t k => XS.aloadN X0.here hx rfl (hb hby d_prog_23_method_19_0) rfl rfl k) ?_
  show Fin _ _ _ _ _ _ _ (s₁.setTop (mkF m 1 #[.val (.ref a)] [(.ref a)]))
  obtain ⟨T101, X101, e101, st101⟩ := getF X0 hx hZ hown (host := "") (Or.inl (hw _ (List.mem_of_getElem? (i := 105) rfl))) Via.refl e0 F0 (g := (mkF m 1 #[.val (.ref a)] [(.ref a)])) rfl rfl (hb hby d_prog_23_method_19_1)
  refine Fin.by (fun t k => st101 t k) ?_
  show Fin _ _ _ _ _ _ _ (T101.setTop (mkF m 4 #[.val (.ref a)] [(.ref b)]))
  exact Fin.ret (v := some (.ref b)) X101 (fun h => by rw [Bd.returns] at h; cases h) Bd.notSynchronized (by rw [e101]; exact ⟨rfl, N0, rfl⟩) (by decide) (by decide) (fun fs hr => retA X101 hx Bd.returns rfl rfl (hb hby d_prog_23_method_19_4) hr)
theorem d_prog_23_method_20_0 : decode prog_23_method_20_code 0 = .ok (.aload_n 0, 1) := by decide +kernel
theorem d_prog_23_method_20_1 : decode prog_23_method_20_code 1 = .ok (.getfield 28, 3) := by decide +kernel
theorem d_prog_23_method_20_4 : decode prog_23_method_20_code 4 = .ok (.areturn, 1) := by decide +kernel
def Q_get_access (Z : State) (a : Addr) (b : Addr) (h0 : Heap) (n0 : Nat) (vv_ : Option Value) (hh_ : Heap) (LL_ : List Loc) : Prop := vv_ = some (.ref b) ∧ Fr n0 LL_ ∧ hh_ = h0
set_option maxRecDepth 65536 in
set_option maxHeartbeats 40000000 in
theorem rm_get_access (l : Launch) (Z : State) (a0 : Array Value) (hw : ∀ d ∈ tables_1, d.before a0 Z = true) (ws : List Jvm.Cond) (a : Addr) (b : Addr) (h0 : Heap) (n0 : Nat) (Z0 : n0 ≤ h0.size) (F0 : Fld Z h0 a "com/example/portcullis/portcullis/Resource" "access" "Lcom/example/portcullis/portcullis/Grants;" (.ref b)) :
    MetFree l (⟨"com/example/portcullis/portcullis/Resource", "access", "()Lcom/example/portcullis/portcullis/Grants;"⟩ : MethodName) (head1 (Jvm.Cond.code (⟨"com/example/portcullis/portcullis/Resource", "access", "()Lcom/example/portcullis/portcullis/Grants;"⟩ : MethodName) prog_23_method_20_code 1 (some (.object "com/example/portcullis/portcullis/Grants")) :: ws) ({ frames := 0, cells := 0, slots := 0, locals := 0 } : Room)) (fun aa_ U => aa_ = #[(.ref a)] ∧ Z.Warmed39 U.vm ∧ U.heap = h0) (fun _ _ _ _ _ => True) (fun _ U o U' => ∃ vv_ LL_, o = .returned vv_ ∧ Q_get_access Z a b h0 n0 vv_ U'.heap LL_ ∧ FrameEnd U o U' LL_ 0 0) := by
  refine MetFree.of_bodySF (plainFor_of_name pn_com_example_portcullis_portcullis_Resource) hisR ?_
  intro p e s m args below meth c s₁ Bd hml0 hP hK
  obtain ⟨rfl, hZ, hh⟩ := hP
  have hx := Bd.exec
  have hby := Bd.bytes
  have hml : c.maxLocals = 1 := hml0
  have hown : s.vm.findClass "com/example/portcullis/portcullis/Resource" = some m.cls := findClass_of_methodNamed Bd.named
  have hnm := (name_of_methodNamed Bd.named Bd.method).1
  have X0 : Stand p l e ({ frames := 0, cells := 0, slots := 0, locals := 0 } : Room) s m #[(.ref a)] below meth c s₁ [] 0 0 := Stand.of_body Bd
  have e0 : s₁.heap = h0 := by rw [← hh, Bd.state]; rfl
  have N0 := Fr.nil n0
  have ef : entryFrame m #[(.ref a)] 1 = mkF m 0 #[.val (.ref a)] [] := by first | (simp [entryFrame, mkF, argsToLocals, Value.category]; done) | rfl
  refine Fin.start (Q := Q_get_access Z a b h0 n0) ef ?_
  show Fin _ _ _ _ _ _ _ (s₁.setTop (mkF m 0 #[.val (.ref a)] []))
  refine Fin.by (fun t k => XS.aloadN X0.here hx rfl (hb hby d_prog_23_method_20_0) rfl rfl k) ?_
  show Fin _ _ _ _ _ _ _ (s₁.setTop (mkF m 1 #[.val (.ref a)] [(.ref a)]))
  obtain ⟨T101, X101, e101, st101⟩ := getF X0 hx hZ hown (host := "") (Or.inl (hw _ (List.mem_of_getElem? (i := 107) rfl))) Via.refl e0 F0 (g := (mkF m 1 #[.val (.ref a)] [(.ref a)])) rfl rfl (hb hby d_prog_23_method_20_1)
  refine Fin.by (fun t k => st101 t k) ?_
  show Fin _ _ _ _ _ _ _ (T101.setTop (mkF m 4 #[.val (.ref a)] [(.ref b)]))
  exact Fin.ret (v := some (.ref b)) X101 (fun h => by rw [Bd.returns] at h; cases h) Bd.notSynchronized (by rw [e101]; exact ⟨rfl, N0, rfl⟩) (by decide) (by decide) (fun fs hr => retA X101 hx Bd.returns rfl rfl (hb hby d_prog_23_method_20_4) hr)
theorem d_jdk_45_method_3_0 : decode jdk_45_method_3_code 0 = .ok (.aload_n 0, 1) := by decide +kernel
theorem d_jdk_45_method_3_1 : decode jdk_45_method_3_code 1 = .ok (.getfield 7, 3) := by decide +kernel
theorem d_jdk_45_method_3_4 : decode jdk_45_method_3_code 4 = .ok (.arraylength, 1) := by decide +kernel
theorem d_jdk_45_method_3_5 : decode jdk_45_method_3_code 5 = .ok (.ireturn, 1) := by decide +kernel
theorem pn_java_util_ImmutableCollections_ListN : plainName "java/util/ImmutableCollections$ListN" = true := by first | (simp [plainName, overriddenIn]; done) | decide +kernel
def Q_lsz (Z : State) (aE : Addr) (bE : Addr) (kE : ClassId) (h0 : Heap) (n0 : Nat) (vv_ : Option Value) (hh_ : Heap) (LL_ : List Loc) : Prop := vv_ = some (.int (0 : Int32)) ∧ Fr n0 LL_ ∧ hh_ = h0
set_option maxRecDepth 65536 in
set_option maxHeartbeats 40000000 in
theorem rm_lsz (l : Launch) (Z : State) (a0 : Array Value) (hw : ∀ d ∈ tables_1, d.before a0 Z = true) (ws : List Jvm.Cond) (aE : Addr) (bE : Addr) (kE : ClassId) (h0 : Heap) (n0 : Nat) (Z0 : n0 ≤ h0.size) (F0 : Fld Z h0 aE "java/util/ImmutableCollections$ListN" "elements" "[Ljava/lang/Object;" (.ref bE)) (A0 : Arv Z h0 bE kE (.object "java/lang/Object") (0 : Int32) [] .null) :
    MetFree l (⟨"java/util/ImmutableCollections$ListN", "size", "()I"⟩ : MethodName) (head1 (Jvm.Cond.code (⟨"java/util/ImmutableCollections$ListN", "size", "()I"⟩ : MethodName) jdk_45_method_3_code 1 (some .int) :: ws) ({ frames := 0, cells := 0, slots := 0, locals := 0 } : Room)) (fun aa_ U => aa_ = #[(.ref aE)] ∧ Z.Warmed39 U.vm ∧ U.heap = h0) (fun _ _ _ _ _ => True) (fun _ U o U' => ∃ vv_ LL_, o = .returned vv_ ∧ Q_lsz Z aE bE kE h0 n0 vv_ U'.heap LL_ ∧ FrameEnd U o U' LL_ 0 0) := by
  refine MetFree.of_bodySF (plainFor_of_name pn_java_util_ImmutableCollections_ListN) hisR ?_
  intro p e s m args below meth c s₁ Bd hml0 hP hK
  obtain ⟨rfl, hZ, hh⟩ := hP
  have hx := Bd.exec
  have hby := Bd.bytes
  have hml : c.maxLocals = 1 := hml0
  have hown : s.vm.findClass "java/util/ImmutableCollections$ListN" = some m.cls := findClass_of_methodNamed Bd.named
  have hnm := (name_of_methodNamed Bd.named Bd.method).1
  have X0 : Stand p l e ({ frames := 0, cells := 0, slots := 0, locals := 0 } : Room) s m #[(.ref aE)] below meth c s₁ [] 0 0 := Stand.of_body Bd
  have e0 : s₁.heap = h0 := by rw [← hh, Bd.state]; rfl
  have N0 := Fr.nil n0
  have ef : entryFrame m #[(.ref aE)] 1 = mkF m 0 #[.val (.ref aE)] [] := by first | (simp [entryFrame, mkF, argsToLocals, Value.category]; done) | rfl
  refine Fin.start (Q := Q_lsz Z aE bE kE h0 n0) ef ?_
  show Fin _ _ _ _ _ _ _ (s₁.setTop (mkF m 0 #[.val (.ref aE)] []))
  refine Fin.by (fun t k => XS.aloadN X0.here hx rfl (hb hby d_jdk_45_method_3_0) rfl rfl k) ?_
  show Fin _ _ _ _ _ _ _ (s₁.setTop (mkF m 1 #[.val (.ref aE)] [(.ref aE)]))
  obtain ⟨T101, X101, e101, st101⟩ := getF X0 hx hZ hown (host := "") (Or.inl (hw _ (List.mem_of_getElem? (i := 149) rfl))) Via.refl e0 F0 (g := (mkF m 1 #[.val (.ref aE)] [(.ref aE)])) rfl rfl (hb hby d_jdk_45_method_3_1)
  refine Fin.by (fun t k => st101 t k) ?_
  show Fin _ _ _ _ _ _ _ (T101.setTop (mkF m 4 #[.val (.ref aE)] [(.ref bE)]))
  obtain ⟨cl102, Ar102, q102, S102, N102, H102, G102⟩ := id A0
  refine Fin.by (fun t k => X101.arraylength hx (by rw [e101]; exact Ar102.1) (State.isArrayOf_alike hZ.alike Ar102.2.1) (g := (mkF m 4 #[.val (.ref aE)] [(.ref bE)])) rfl rfl (hb hby d_jdk_45_method_3_4) _ k) ?_
  rw [len_of S102 N102]
  show Fin _ _ _ _ _ _ _ (T101.setTop (mkF m 5 #[.val (.ref aE)] [(.int (0 : Int32))]))
  exact Fin.ret (v := some (.int (0 : Int32))) X101 (fun h => by rw [Bd.returns] at h; cases h) Bd.notSynchronized (by rw [e101]; exact ⟨rfl, N0, rfl⟩) (by decide) (by decide) (fun fs hr => retI X101 hx Bd.returns (hb hby d_jdk_45_method_3_5) hr)
theorem d_prog_13_method_4_0 : decode prog_13_method_4_code 0 = .ok (.aload_n 0, 1) := by decide +kernel
theorem d_prog_13_method_4_1 : decode prog_13_method_4_code 1 = .ok (.getfield 7, 3) := by decide +kernel
theorem pd_152 : parseMethodDescriptor "()I" = some ⟨[], some .int⟩ := by decide +kernel
theorem d_prog_13_method_4_4 : decode prog_13_method_4_code 4 = .ok (.invokeinterface 28 1, 5) := by decide +kernel
theorem d_prog_13_method_4_9 : decode prog_13_method_4_code 9 = .ok (.ireturn, 1) := by decide +kernel
def Q_gsz (Z : State) (a : Addr) (aE : Addr) (bE : Addr) (kE : ClassId) (h0 : Heap) (n0 : Nat) (vv_ : Option Value) (hh_ : Heap) (LL_ : List Loc) : Prop := vv_ = some (.int (0 : Int32)) ∧ Fr n0 LL_ ∧ hh_ = h0
set_option maxRecDepth 65536 in
set_option maxHeartbeats 40000000 in
theorem rm_gsz (l : Launch) (Z : State) (a0 : Array Value) (hw : ∀ d ∈ tables_1, d.before a0 Z = true) (ws : List Jvm.Cond) (a : Addr) (aE : Addr) (bE : Addr) (kE : ClassId) (h0 : Heap) (n0 : Nat) (Z0 : n0 ≤ h0.size) (OL : Old Z n0 h0) (EE : Exa Z Z.heap aE "java/util/ImmutableCollections$ListN") (EF : Fld Z Z.heap aE "java/util/ImmutableCollections$ListN" "elements" "[Ljava/lang/Object;" (.ref bE)) (EV : Arv Z Z.heap bE kE (.object "java/lang/Object") (0 : Int32) [] .null) (F0 : Fld Z h0 a "com/example/portcullis/portcullis/Grants" "grants" "Ljava/util/List;" (.ref aE)) :
    MetFree l (⟨"com/example/portcullis/portcullis/Grants", "size", "()I"⟩ : MethodName) (head1 (Jvm.Cond.code (⟨"com/example/portcullis/portcullis/Grants", "size", "()I"⟩ : MethodName) prog_13_method_4_code 1 (some .int) :: ws) ({ frames := 1, cells := 0, slots := 0, locals := 12 } : Room)) (fun aa_ U => aa_ = #[(.ref a)] ∧ Z.Warmed39 U.vm ∧ U.heap = h0) (fun _ _ _ _ _ => True) (fun _ U o U' => ∃ vv_ LL_, o = .returned vv_ ∧ Q_gsz Z a aE bE kE h0 n0 vv_ U'.heap LL_ ∧ FrameEnd U o U' LL_ 0 0) := by
  refine MetFree.of_bodySF (plainFor_of_name pn_com_example_portcullis_portcullis_Grants) hisR ?_
  intro p e s m args below meth c s₁ Bd hml0 hP hK
  obtain ⟨rfl, hZ, hh⟩ := hP
  have hx := Bd.exec
  have hby := Bd.bytes
  have hml : c.maxLocals = 1 := hml0
  have hown : s.vm.findClass "com/example/portcullis/portcullis/Grants" = some m.cls := findClass_of_methodNamed Bd.named
  have hnm := (name_of_methodNamed Bd.named Bd.method).1
  have X0 : Stand p l e ({ frames := 1, cells := 0, slots := 0, locals := 12 } : Room) s m #[(.ref a)] below meth c s₁ [] 0 0 := Stand.of_body Bd
  have e0 : s₁.heap = h0 := by rw [← hh, Bd.state]; rfl
  have N0 := Fr.nil n0
  have ef : entryFrame m #[(.ref a)] 1 = mkF m 0 #[.val (.ref a)] [] := by first | (simp [entryFrame, mkF, argsToLocals, Value.category]; done) | rfl
  refine Fin.start (Q := Q_gsz Z a aE bE kE h0 n0) ef ?_
  show Fin _ _ _ _ _ _ _ (s₁.setTop (mkF m 0 #[.val (.ref a)] []))
  refine Fin.by (fun t k => XS.aloadN X0.here hx rfl (hb hby d_prog_13_method_4_0) rfl rfl k) ?_
  show Fin _ _ _ _ _ _ _ (s₁.setTop (mkF m 1 #[.val (.ref a)] [(.ref a)]))
  obtain ⟨T101, X101, e101, st101⟩ := getF X0 hx hZ hown (host := "") (Or.inl (hw _ (List.mem_of_getElem? (i := 91) rfl))) Via.refl e0 F0 (g := (mkF m 1 #[.val (.ref a)] [(.ref a)])) rfl rfl (hb hby d_prog_13_method_4_1)
  refine Fin.by (fun t k => st101 t k) ?_
  show Fin _ _ _ _ _ _ _ (T101.setTop (mkF m 4 #[.val (.ref a)] [(.ref aE)]))
  have F102 : Fld Z h0 aE "java/util/ImmutableCollections$ListN" "elements" "[Ljava/lang/Object;" (.ref bE) := EF.ext OL.2
  have A103 : Arv Z h0 bE kE (.object "java/lang/Object") (0 : Int32) [] .null := EV.ext OL.2
  have E105 : Exa Z h0 aE "java/util/ImmutableCollections$ListN" := EE.ext OL.2
  obtain ⟨cq104, kq104, qa104, qb104, qc104⟩ := isOf hZ e101 E105
  obtain ⟨v104, _, ⟨T104, L104, k104, n104⟩, -, X104, ⟨Lc104, hQ104, l104, y104, z104⟩, st104⟩ := X101.interfaceBack hx (xi := (⟨"java/util/List", "size", "()I"⟩ : MethodName)) (y := (⟨"java/util/ImmutableCollections$ListN", "size", "()I"⟩ : MethodName)) hown (mvT hZ (hw _ (List.mem_of_getElem? (i := 139) rfl))) (mvT hZ (hw _ (List.mem_of_getElem? (i := 140) rfl))) (mvT hZ (hw _ (List.mem_of_getElem? (i := 141) rfl))) (mvT hZ (hw _ (List.mem_of_getElem? (i := 142) rfl))) (mvT hZ (hw _ (List.mem_of_getElem? (i := 143) rfl))) (mvT hZ (hw _ (List.mem_of_getElem? (i := 144) rfl))) (mvT hZ (hw _ (List.mem_of_getElem? (i := 145) rfl))) (mvT hZ (hw _ (List.mem_of_getElem? (i := 146) rfl))) (by decide) (backOf (W := 0) (rm_lsz l Z a0 hw [] aE bE kE h0 n0 Z0 F102 A103) hZ (hw _ (List.mem_of_getElem? (i := 148) rfl)) (hw _ (List.mem_of_getElem? (i := 147) rfl)) (by decide) (by decide)) qa104 qb104 qc104 (g := (mkF m 4 #[.val (.ref a)] [(.ref aE)])) rfl (by rw [hml]; rfl) (Steps.refl _) (argsL := []) (rest := []) (lenOf pd_152 rfl) rfl (by show 2 * 0 + _ ≤ _; exact Nat.le_of_eq rfl) (hb hby d_prog_13_method_4_4) (fun _ _ => ⟨rfl, e101, (by decide : 0 + 0 ≤ _), (by decide : 0 + 0 ≤ _)⟩)
  dsimp only [Pt.U, Pt.locs, Pt.cells, Pt.slots] at X104 l104 y104 z104 st104 hQ104
  subst l104 y104 z104
  obtain ⟨rfl, Nq104, e104_⟩ := hQ104
  have N104_ := Fr.app N0 Nq104
  refine Fin.byS st104 ?_
  have e104 := e104_
  show Fin _ _ _ _ _ _ _ (T104.setTop (mkF m 9 #[.val (.ref a)] [(.int (0 : Int32))]))
  exact Fin.ret (v := some (.int (0 : Int32))) X104 (fun h => by rw [Bd.returns] at h; cases h) Bd.notSynchronized (by rw [e104]; exact ⟨rfl, N104_, rfl⟩) (by decide) (by decide) (fun fs hr => retI X104 hx Bd.returns (hb hby d_prog_13_method_4_9) hr)
theorem pd_155 : parseMethodDescriptor "(C)Ljava/lang/String;" = some ⟨[.char], some (.object "java/lang/String")⟩ := by decide +kernel
theorem pd_156 : parseMethodDescriptor "(Ljava/lang/String;Ljava/lang/String;)V" = some ⟨[(.object "java/lang/String"), (.object "java/lang/String")], none⟩ := by decide +kernel
theorem pd_157 : parseMethodDescriptor "(Lcom/example/portcullis/portcullis/Principal$Type;Ljava/lang/String;)V" = some ⟨[(.object "com/example/portcullis/portcullis/Principal$Type"), (.object "java/lang/String")], none⟩ := by decide +kernel
theorem pd_158 : parseMethodDescriptor "(Lcom/example/portcullis/portcullis/ResourceName;Lcom/example/portcullis/portcullis/Principal;Lcom/example/portcullis/portcullis/ResourceName;Z)Lcom/example/portcullis/portcullis/Resource;" = some ⟨[(.object "com/example/portcullis/portcullis/ResourceName"), (.object "com/example/portcullis/portcullis/Principal"), (.object "com/example/portcullis/portcullis/ResourceName"), .boolean], some (.object "com/example/portcullis/portcullis/Resource")⟩ := by decide +kernel
theorem pd_159 : parseMethodDescriptor "()Lcom/example/portcullis/portcullis/ResourceName;" = some ⟨[], some (.object "com/example/portcullis/portcullis/ResourceName")⟩ := by decide +kernel
theorem pd_160 : parseMethodDescriptor "()Lcom/example/portcullis/portcullis/Principal;" = some ⟨[], some (.object "com/example/portcullis/portcullis/Principal")⟩ := by decide +kernel
theorem pd_161 : parseMethodDescriptor "()Z" = some ⟨[], some .boolean⟩ := by decide +kernel
theorem pn_com_example_portcullis_portcullis_ResourceCreatedPinLaw : plainName "com/example/portcullis/portcullis/ResourceCreatedPinLaw" = true := by first | (simp [plainName, overriddenIn]; done) | decide +kernel
def Q_law (Z : State) (p1 : Int32) (p2 : Int32) (p3 : Int32) (G1 : Int32) (G5 : Value) (aE : Addr) (bE : Addr) (kE : ClassId) (h0 : Heap) (n0 : Nat) (vv_ : Option Value) (hh_ : Heap) (LL_ : List Loc) : Prop := vv_ = some (.int (1 : Int32)) ∧ Fr n0 LL_
set_option maxRecDepth 65536 in
set_option maxHeartbeats 40000000 in
theorem rm_law (l : Launch) (Z : State) (a0 : Array Value) (hw : ∀ d ∈ tables_1, d.before a0 Z = true) (ws : List Jvm.Cond) (p1 : Int32) (p2 : Int32) (p3 : Int32) (G1 : Int32) (G5 : Value) (aE : Addr) (bE : Addr) (kE : ClassId) (h0 : Heap) (n0 : Nat) (Z0 : n0 ≤ h0.size) (S1 : Sta Z Z.heap "java/lang/String" "COMPACT_STRINGS" "Z" (.int G1)) (P1 : ¬ G1 = 0) (S2 : Sta Z Z.heap "java/util/ImmutableCollections" "EMPTY_LIST" "Ljava/util/ImmutableCollections$ListN;" (.ref aE)) (S5 : Sta Z Z.heap "com/example/portcullis/portcullis/Principal$Type" "IDENTITY" "Lcom/example/portcullis/portcullis/Principal$Type;" G5) (r5 : G5.isRef = true) (OL : Old Z n0 h0) (EE : Exa Z Z.heap aE "java/util/ImmutableCollections$ListN") (EF : Fld Z Z.heap aE "java/util/ImmutableCollections$ListN" "elements" "[Ljava/lang/Object;" (.ref bE)) (EV : Arv Z Z.heap bE kE (.object "java/lang/Object") (0 : Int32) [] .null) :
    MetFree l x (head1 (Jvm.Cond.code x code maxLocals ret :: ws) room_1) (fun aa_ U => aa_ = #[(.int p1), (.int p2), (.int p3)] ∧ Z.Warmed39 U.vm ∧ U.heap = h0) (fun _ _ _ _ _ => True) (fun _ U o U' => ∃ vv_ LL_, o = .returned vv_ ∧ Q_law Z p1 p2 p3 G1 G5 aE bE kE h0 n0 vv_ U'.heap LL_ ∧ FrameEnd U o U' LL_ 40 192) := by
  refine MetFree.of_bodySF (plainFor_of_name pn_com_example_portcullis_portcullis_ResourceCreatedPinLaw) hisR ?_
  intro p e s m args below meth c s₁ Bd hml0 hP hK
  obtain ⟨rfl, hZ, hh⟩ := hP
  have hx := Bd.exec
  have hby := Bd.bytes
  have hml : c.maxLocals = 10 := hml0
  have hown : s.vm.findClass "com/example/portcullis/portcullis/ResourceCreatedPinLaw" = some m.cls := findClass_of_methodNamed Bd.named
  have hnm := (name_of_methodNamed Bd.named Bd.method).1
  have X0 : Stand p l e room_1 s m #[(.int p1), (.int p2), (.int p3)] below meth c s₁ [] 0 0 := Stand.of_body Bd
  have e0 : s₁.heap = h0 := by rw [← hh, Bd.state]; rfl
  have N0 := Fr.nil n0
  have ef : entryFrame m #[(.int p1), (.int p2), (.int p3)] maxLocals = mkF m 0 #[.val (.int p1), .val (.int p2), .val (.int p3), .unset, .unset, .unset, .unset, .unset, .unset, .unset] [] := by first | (simp [entryFrame, mkF, argsToLocals, Value.category, maxLocals]; done) | rfl
  refine Fin.start (Q := Q_law Z p1 p2 p3 G1 G5 aE bE kE h0 n0) ef ?_
  show Fin _ _ _ _ _ _ _ (s₁.setTop (mkF m 0 #[.val (.int p1), .val (.int p2), .val (.int p3), .unset, .unset, .unset, .unset, .unset, .unset, .unset] []))
  refine Fin.by (fun t k => XS.iloadN X0.here hx rfl (hb hby at_0) rfl k) ?_
  show Fin _ _ _ _ _ _ _ (s₁.setTop (mkF m 1 #[.val (.int p1), .val (.int p2), .val (.int p3), .unset, .unset, .unset, .unset, .unset, .unset, .unset] [(.int p3)]))
  refine Fin.by (fun t k => XS.iconst X0.here hx rfl (hb hby at_1) k) ?_
  show Fin _ _ _ _ _ _ _ (s₁.setTop (mkF m 2 #[.val (.int p1), .val (.int p2), .val (.int p3), .unset, .unset, .unset, .unset, .unset, .unset, .unset] [(.int (1 : Int32)), (.int p3)]))
  refine Fin.by (fun t k => XS.iand X0.here hx rfl (hb hby at_2) rfl k) ?_
  show Fin _ _ _ _ _ _ _ (s₁.setTop (mkF m 3 #[.val (.int p1), .val (.int p2), .val (.int p3), .unset, .unset, .unset, .unset, .unset, .unset, .unset] [(.int (p3 &&& (1 : Int32)))]))
  have J11 : ∀ (f3 : Int32), f3 = 0 ∨ f3 = 1 → Fin p e below s (Q_law Z p1 p2 p3 G1 G5 aE bE kE h0 n0) 40 192 (s₁.setTop (mkF m 11 #[.val (.int p1), .val (.int p2), .val (.int p3), .unset, .unset, .unset, .unset, .unset, .unset, .unset] [(.int f3)])) := by
    intro f3 hf3
    refine Fin.by (fun t k => XS.istoreN X0.here hx rfl (hb hby at_11) rfl (l' := #[.val (.int p1), .val (.int p2), .val (.int p3), .val (.int f3), .unset, .unset, .unset, .unset, .unset, .unset]) rfl k) ?_
    show Fin _ _ _ _ _ _ _ (s₁.setTop (mkF m 12 #[.val (.int p1), .val (.int p2), .val (.int p3), .val (.int f3), .unset, .unset, .unset, .unset, .unset, .unset] []))
    refine Fin.by (fun t k => XS.iloadN X0.here hx rfl (hb hby at_12) rfl k) ?_
    show Fin _ _ _ _ _ _ _ (s₁.setTop (mkF m 13 #[.val (.int p1), .val (.int p2), .val (.int p3), .val (.int f3), .unset, .unset, .unset, .unset, .unset, .unset] [(.int p3)]))
    refine Fin.by (fun t k => XS.iconst X0.here hx rfl (hb hby at_13) k) ?_
    show Fin _ _ _ _ _ _ _ (s₁.setTop (mkF m 14 #[.val (.int p1), .val (.int p2), .val (.int p3), .val (.int f3), .unset, .unset, .unset, .unset, .unset, .unset] [(.int (2 : Int32)), (.int p3)]))
    refine Fin.by (fun t k => XS.iand X0.here hx rfl (hb hby at_14) rfl k) ?_
    show Fin _ _ _ _ _ _ _ (s₁.setTop (mkF m 15 #[.val (.int p1), .val (.int p2), .val (.int p3), .val (.int f3), .unset, .unset, .unset, .unset, .unset, .unset] [(.int (p3 &&& (2 : Int32)))]))
    have J23 : ∀ (f4 : Int32), Fin p e below s (Q_law Z p1 p2 p3 G1 G5 aE bE kE h0 n0) 40 192 (s₁.setTop (mkF m 23 #[.val (.int p1), .val (.int p2), .val (.int p3), .val (.int f3), .unset, .unset, .unset, .unset, .unset, .unset] [(.int f4)])) := by
      intro f4
      refine Fin.by (fun t k => XS.istore X0.here hx rfl (hb hby at_23) rfl (l' := #[.val (.int p1), .val (.int p2), .val (.int p3), .val (.int f3), .val (.int f4), .unset, .unset, .unset, .unset, .unset]) rfl k) ?_
      show Fin _ _ _ _ _ _ _ (s₁.setTop (mkF m 25 #[.val (.int p1), .val (.int p2), .val (.int p3), .val (.int f3), .val (.int f4), .unset, .unset, .unset, .unset, .unset] []))
      refine Fin.by (fun t k => XS.iloadN X0.here hx rfl (hb hby at_25) rfl k) ?_
      show Fin _ _ _ _ _ _ _ (s₁.setTop (mkF m 26 #[.val (.int p1), .val (.int p2), .val (.int p3), .val (.int f3), .val (.int f4), .unset, .unset, .unset, .unset, .unset] [(.int p3)]))
      refine Fin.by (fun t k => XS.iconst X0.here hx rfl (hb hby at_26) k) ?_
      show Fin _ _ _ _ _ _ _ (s₁.setTop (mkF m 27 #[.val (.int p1), .val (.int p2), .val (.int p3), .val (.int f3), .val (.int f4), .unset, .unset, .unset, .unset, .unset] [(.int (4 : Int32)), (.int p3)]))
      refine Fin.by (fun t k => XS.iand X0.here hx rfl (hb hby at_27) rfl k) ?_
      show Fin _ _ _ _ _ _ _ (s₁.setTop (mkF m 28 #[.val (.int p1), .val (.int p2), .val (.int p3), .val (.int f3), .val (.int f4), .unset, .unset, .unset, .unset, .unset] [(.int (p3 &&& (4 : Int32)))]))
      have J36 : ∀ (f5 : Int32), Fin p e below s (Q_law Z p1 p2 p3 G1 G5 aE bE kE h0 n0) 40 192 (s₁.setTop (mkF m 36 #[.val (.int p1), .val (.int p2), .val (.int p3), .val (.int f3), .val (.int f4), .unset, .unset, .unset, .unset, .unset] [(.int f5)])) := by
        intro f5
        refine Fin.by (fun t k => XS.istore X0.here hx rfl (hb hby at_36) rfl (l' := #[.val (.int p1), .val (.int p2), .val (.int p3), .val (.int f3), .val (.int f4), .val (.int f5), .unset, .unset, .unset, .unset]) rfl k) ?_
        show Fin _ _ _ _ _ _ _ (s₁.setTop (mkF m 38 #[.val (.int p1), .val (.int p2), .val (.int p3), .val (.int f3), .val (.int f4), .val (.int f5), .unset, .unset, .unset, .unset] []))
        obtain ⟨T101, h101, X101, e101, E101, A101, D101, -, st101⟩ := newO X0 hx hZ hown (hw _ (List.mem_of_getElem? (i := 0) rfl)) (hw _ (List.mem_of_getElem? (i := 1) rfl)) (hw _ (List.mem_of_getElem? (i := 2) rfl)) e0 (g := (mkF m 38 #[.val (.int p1), .val (.int p2), .val (.int p3), .val (.int f3), .val (.int f4), .val (.int f5), .unset, .unset, .unset, .unset] [])) rfl (hb hby at_38) (by decide) (by decide)
        obtain ⟨a101, g101⟩ : ∃ z, z = h0.size := ⟨_, rfl⟩
        rw [← g101] at A101 D101 st101
        refine Fin.by (fun t k => st101 t k) ?_
        show Fin _ _ _ _ _ _ _ (T101.setTop (mkF m 41 #[.val (.int p1), .val (.int p2), .val (.int p3), .val (.int f3), .val (.int f4), .val (.int f5), .unset, .unset, .unset, .unset] [(.ref a101)]))
        refine Fin.by (fun t k => XS.dup X101.here hx rfl (hb hby at_41) rfl rfl k) ?_
        show Fin _ _ _ _ _ _ _ (T101.setTop (mkF m 42 #[.val (.int p1), .val (.int p2), .val (.int p3), .val (.int f3), .val (.int f4), .val (.int f5), .unset, .unset, .unset, .unset] [(.ref a101), (.ref a101)]))
        refine Fin.by (fun t k => XS.iloadN X101.here hx rfl (hb hby at_42) rfl k) ?_
        show Fin _ _ _ _ _ _ _ (T101.setTop (mkF m 43 #[.val (.int p1), .val (.int p2), .val (.int p3), .val (.int f3), .val (.int f4), .val (.int f5), .unset, .unset, .unset, .unset] [(.int p1), (.ref a101), (.ref a101)]))
        refine Fin.by (fun t k => XS.sipush X101.here hx rfl (hb hby at_43) k) ?_
        show Fin _ _ _ _ _ _ _ (T101.setTop (mkF m 46 #[.val (.int p1), .val (.int p2), .val (.int p3), .val (.int f3), .val (.int f4), .val (.int f5), .unset, .unset, .unset, .unset] [(.int (255 : Int32)), (.int p1), (.ref a101), (.ref a101)]))
        refine Fin.by (fun t k => XS.iand X101.here hx rfl (hb hby at_46) rfl k) ?_
        show Fin _ _ _ _ _ _ _ (T101.setTop (mkF m 47 #[.val (.int p1), .val (.int p2), .val (.int p3), .val (.int f3), .val (.int f4), .val (.int f5), .unset, .unset, .unset, .unset] [(.int (p1 &&& (255 : Int32))), (.ref a101), (.ref a101)]))
        refine Fin.by (fun t k => XS.i2c X101.here hx rfl (hb hby at_47) rfl k) ?_
        show Fin _ _ _ _ _ _ _ (T101.setTop (mkF m 48 #[.val (.int p1), .val (.int p2), .val (.int p3), .val (.int f3), .val (.int f4), .val (.int f5), .unset, .unset, .unset, .unset] [(.int ((p1 &&& (255 : Int32)).toUInt32.toUInt16.toUInt32.toInt32)), (.ref a101), (.ref a101)]))
        have O102 : Old Z n0 h101 := (OL.ext E101)
        have z103 : n0 ≤ h101.size := Nat.le_trans Z0 E101.1
        obtain ⟨v104, _, ⟨T104, L104, k104, n104⟩, -, X104, ⟨Lc104, hQ104, l104, y104, z104⟩, st104⟩ := Jvm.LawKit.callS X101 hx (y := (⟨"java/lang/String", "valueOf", "(C)Ljava/lang/String;"⟩ : MethodName)) hown (mvT hZ (hw _ (List.mem_of_getElem? (i := 3) rfl))) (mvT hZ (hw _ (List.mem_of_getElem? (i := 4) rfl))) (mvT hZ (hw _ (List.mem_of_getElem? (i := 5) rfl))) (mvT hZ (hw _ (List.mem_of_getElem? (i := 6) rfl))) (by decide) (backOf (W := 2) (rm_vof l Z a0 hw [] ((p1 &&& (255 : Int32)).toUInt32.toUInt16.toUInt32.toInt32) G1 h101 n0 z103 (own_i2c255 _) S1 P1 O102) hZ (hw _ (List.mem_of_getElem? (i := 6) rfl)) (hw _ (List.mem_of_getElem? (i := 5) rfl)) (by decide) (by decide)) (g := (mkF m 48 #[.val (.int p1), .val (.int p2), .val (.int p3), .val (.int f3), .val (.int f4), .val (.int f5), .unset, .unset, .unset, .unset] [(.int ((p1 &&& (255 : Int32)).toUInt32.toUInt16.toUInt32.toInt32)), (.ref a101), (.ref a101)])) rfl (by rw [hml]; rfl) (argsL := [(.int ((p1 &&& (255 : Int32)).toUInt32.toUInt16.toUInt32.toInt32))]) (rest := [(.ref a101), (.ref a101)]) (lenOf pd_155 rfl) rfl (by show 2 * 0 + _ ≤ _; exact Nat.le_of_eq rfl) (hb hby at_48) (fun _ _ => ⟨rfl, e101, (by decide : 1 + 2 ≤ _), (by decide : 2 + 5 ≤ _)⟩)
        dsimp only [Pt.U, Pt.locs, Pt.cells, Pt.slots] at X104 l104 y104 z104 st104 hQ104
        subst l104 y104 z104
        obtain ⟨t105, b106, k107, rfl, Nq104, p104_0, p104_1, p104_2, p104_3, p104_4, p104_5, p104_6, p104_7⟩ := hQ104
        have N104_ := Fr.app N0 Nq104
        refine Fin.by (fun t k => st104 t k) ?_
        show Fin _ _ _ _ _ _ _ (T104.setTop (mkF m 51 #[.val (.int p1), .val (.int p2), .val (.int p3), .val (.int f3), .val (.int f4), .val (.int f5), .unset, .unset, .unset, .unset] [(.ref t105), (.ref a101), (.ref a101)]))
        refine Fin.by (fun t k => XS.iloadN X104.here hx rfl (hb hby at_51) rfl k) ?_
        show Fin _ _ _ _ _ _ _ (T104.setTop (mkF m 52 #[.val (.int p1), .val (.int p2), .val (.int p3), .val (.int f3), .val (.int f4), .val (.int f5), .unset, .unset, .unset, .unset] [(.int p1), (.ref t105), (.ref a101), (.ref a101)]))
        refine Fin.by (fun t k => XS.bipush X104.here hx rfl (hb hby at_52) k) ?_
        show Fin _ _ _ _ _ _ _ (T104.setTop (mkF m 54 #[.val (.int p1), .val (.int p2), .val (.int p3), .val (.int f3), .val (.int f4), .val (.int f5), .unset, .unset, .unset, .unset] [(.int (8 : Int32)), (.int p1), (.ref t105), (.ref a101), (.ref a101)]))
        refine Fin.by (fun t k => XS.iushr X104.here hx rfl (hb hby at_54) rfl k) ?_
        show Fin _ _ _ _ _ _ _ (T104.setTop (mkF m 55 #[.val (.int p1), .val (.int p2), .val (.int p3), .val (.int f3), .val (.int f4), .val (.int f5), .unset, .unset, .unset, .unset] [(.int ((p1.toUInt32 >>> ((8 : Int32) &&& 31).toUInt32).toInt32)), (.ref t105), (.ref a101), (.ref a101)]))
        refine Fin.by (fun t k => XS.sipush X104.here hx rfl (hb hby at_55) k) ?_
        show Fin _ _ _ _ _ _ _ (T104.setTop (mkF m 58 #[.val (.int p1), .val (.int p2), .val (.int p3), .val (.int f3), .val (.int f4), .val (.int f5), .unset, .unset, .unset, .unset] [(.int (255 : Int32)), (.int ((p1.toUInt32 >>> ((8 : Int32) &&& 31).toUInt32).toInt32)), (.ref t105), (.ref a101), (.ref a101)]))
        refine Fin.by (fun t k => XS.iand X104.here hx rfl (hb hby at_58) rfl k) ?_
        show Fin _ _ _ _ _ _ _ (T104.setTop (mkF m 59 #[.val (.int p1), .val (.int p2), .val (.int p3), .val (.int f3), .val (.int f4), .val (.int f5), .unset, .unset, .unset, .unset] [(.int (((p1.toUInt32 >>> ((8 : Int32) &&& 31).toUInt32).toInt32) &&& (255 : Int32))), (.ref t105), (.ref a101), (.ref a101)]))
        refine Fin.by (fun t k => XS.i2c X104.here hx rfl (hb hby at_59) rfl k) ?_
        show Fin _ _ _ _ _ _ _ (T104.setTop (mkF m 60 #[.val (.int p1), .val (.int p2), .val (.int p3), .val (.int f3), .val (.int f4), .val (.int f5), .unset, .unset, .unset, .unset] [(.int ((((p1.toUInt32 >>> ((8 : Int32) &&& 31).toUInt32).toInt32) &&& (255 : Int32)).toUInt32.toUInt16.toUInt32.toInt32)), (.ref t105), (.ref a101), (.ref a101)]))
        have O108 : Old Z n0 T104.heap := (O102.keep p104_0 all0)
        have z109 : n0 ≤ T104.heap.size := Nat.le_trans z103 p104_0.1
        obtain ⟨v110, _, ⟨T110, L110, k110, n110⟩, -, X110, ⟨Lc110, hQ110, l110, y110, z110⟩, st110⟩ := Jvm.LawKit.callS X104 hx (y := (⟨"java/lang/String", "valueOf", "(C)Ljava/lang/String;"⟩ : MethodName)) hown (mvT hZ (hw _ (List.mem_of_getElem? (i := 3) rfl))) (mvT hZ (hw _ (List.mem_of_getElem? (i := 4) rfl))) (mvT hZ (hw _ (List.mem_of_getElem? (i := 5) rfl))) (mvT hZ (hw _ (List.mem_of_getElem? (i := 6) rfl))) (by decide) (backOf (W := 3) (rm_vof l Z a0 hw [] ((((p1.toUInt32 >>> ((8 : Int32) &&& 31).toUInt32).toInt32) &&& (255 : Int32)).toUInt32.toUInt16.toUInt32.toInt32) G1 T104.heap n0 z109 (own_i2c255 _) S1 P1 O108) hZ (hw _ (List.mem_of_getElem? (i := 6) rfl)) (hw _ (List.mem_of_getElem? (i := 5) rfl)) (by decide) (by decide)) (g := (mkF m 60 #[.val (.int p1), .val (.int p2), .val (.int p3), .val (.int f3), .val (.int f4), .val (.int f5), .unset, .unset, .unset, .unset] [(.int ((((p1.toUInt32 >>> ((8 : Int32) &&& 31).toUInt32).toInt32) &&& (255 : Int32)).toUInt32.toUInt16.toUInt32.toInt32)), (.ref t105), (.ref a101), (.ref a101)])) rfl (by rw [hml]; rfl) (argsL := [(.int ((((p1.toUInt32 >>> ((8 : Int32) &&& 31).toUInt32).toInt32) &&& (255 : Int32)).toUInt32.toUInt16.toUInt32.toInt32))]) (rest := [(.ref t105), (.ref a101), (.ref a101)]) (lenOf pd_155 rfl) rfl (by show 2 * 0 + _ ≤ _; exact Nat.le_of_eq rfl) (hb hby at_60) (fun _ _ => ⟨rfl, rfl, (by decide : 3 + 2 ≤ _), (by decide : 7 + 5 ≤ _)⟩)
        dsimp only [Pt.U, Pt.locs, Pt.cells, Pt.slots] at X110 l110 y110 z110 st110 hQ110
        subst l110 y110 z110
        obtain ⟨t111, b112, k113, rfl, Nq110, p110_0, p110_1, p110_2, p110_3, p110_4, p110_5, p110_6, p110_7⟩ := hQ110
        have N110_ := Fr.app N104_ Nq110
        refine Fin.by (fun t k => st110 t k) ?_
        show Fin _ _ _ _ _ _ _ (T110.setTop (mkF m 63 #[.val (.int p1), .val (.int p2), .val (.int p3), .val (.int f3), .val (.int f4), .val (.int f5), .unset, .unset, .unset, .unset] [(.ref t111), (.ref t105), (.ref a101), (.ref a101)]))
        have E114 : Exa Z T110.heap a101 "com/example/portcullis/portcullis/ResourceName" := ((A101.keep p104_0).keep p110_0)
        have F115 : Fld Z T110.heap a101 "com/example/portcullis/portcullis/ResourceName" "type" "Ljava/lang/String;" .null := (((D101 (Or.inr (hw _ (List.mem_of_getElem? (i := 39) rfl))) (ty := (.object "java/lang/String")) (by decide) : Fld Z h101 a101 "com/example/portcullis/portcullis/ResourceName" "type" "Ljava/lang/String;" .null).keep p104_0 nin0).keep p110_0 nin0)
        have F116 : Fld Z T110.heap a101 "com/example/portcullis/portcullis/ResourceName" "id" "Ljava/lang/String;" .null := (((D101 (Or.inr (hw _ (List.mem_of_getElem? (i := 41) rfl))) (ty := (.object "java/lang/String")) (by decide) : Fld Z h101 a101 "com/example/portcullis/portcullis/ResourceName" "id" "Ljava/lang/String;" .null).keep p104_0 nin0).keep p110_0 nin0)
        have g117 : n0 ≤ a101 := Nat.le_trans Z0 (Nat.le_of_eq g101.symm)
        have z118 : n0 ≤ T110.heap.size := Nat.le_trans z109 p110_0.1
        obtain ⟨v119, _, ⟨T119, L119, k119, n119⟩, -, X119, ⟨Lc119, hQ119, l119, y119, z119⟩, st119⟩ := X110.specialBack hx (y := (⟨"com/example/portcullis/portcullis/ResourceName", "<init>", "(Ljava/lang/String;Ljava/lang/String;)V"⟩ : MethodName)) rfl hown (mvT hZ (hw _ (List.mem_of_getElem? (i := 29) rfl))) (mvT hZ (hw _ (List.mem_of_getElem? (i := 30) rfl))) (mvT hZ (hw _ (List.mem_of_getElem? (i := 31) rfl))) (by decide) (backOf (W := 1) (rm_rni l Z a0 hw [] a101 t105 t111 T110.heap n0 z118 E114 F115 F116 g117) hZ (hw _ (List.mem_of_getElem? (i := 31) rfl)) (hw _ (List.mem_of_getElem? (i := 2) rfl)) (by decide) (by decide)) (g := (mkF m 63 #[.val (.int p1), .val (.int p2), .val (.int p3), .val (.int f3), .val (.int f4), .val (.int f5), .unset, .unset, .unset, .unset] [(.ref t111), (.ref t105), (.ref a101), (.ref a101)])) rfl (by rw [hml]; rfl) (Steps.refl _) (a := a101) (argsL := [(.ref t105), (.ref t111)]) (rest := [(.ref a101)]) (lenOf pd_156 rfl) rfl (by show 2 * 0 + _ ≤ _; exact Nat.le_of_eq rfl) (hb hby at_63) (fun _ _ => ⟨rfl, rfl, (by decide : 5 + 0 ≤ _), (by decide : 12 + 0 ≤ _)⟩)
        dsimp only [Pt.U, Pt.locs, Pt.cells, Pt.slots] at X119 l119 y119 z119 st119 hQ119
        subst l119 y119 z119
        obtain ⟨rfl, Nq119, p119_0, p119_1⟩ := hQ119
        have N119_ := Fr.app N110_ Nq119
        refine Fin.byS st119 ?_
        show Fin _ _ _ _ _ _ _ (T119.setTop (mkF m 66 #[.val (.int p1), .val (.int p2), .val (.int p3), .val (.int f3), .val (.int f4), .val (.int f5), .unset, .unset, .unset, .unset] [(.ref a101)]))
        refine Fin.by (fun t k => XS.astore X119.here hx rfl (hb hby at_66) rfl rfl (l' := #[.val (.int p1), .val (.int p2), .val (.int p3), .val (.int f3), .val (.int f4), .val (.int f5), .val (.ref a101), .unset, .unset, .unset]) rfl k) ?_
        show Fin _ _ _ _ _ _ _ (T119.setTop (mkF m 68 #[.val (.int p1), .val (.int p2), .val (.int p3), .val (.int f3), .val (.int f4), .val (.int f5), .val (.ref a101), .unset, .unset, .unset] []))
        refine Fin.by (fun t k => XS.aconstNull X119.here hx rfl (hb hby at_68) k) ?_
        show Fin _ _ _ _ _ _ _ (T119.setTop (mkF m 69 #[.val (.int p1), .val (.int p2), .val (.int p3), .val (.int f3), .val (.int f4), .val (.int f5), .val (.ref a101), .unset, .unset, .unset] [.null]))
        refine Fin.by (fun t k => XS.astore X119.here hx rfl (hb hby at_69) rfl rfl (l' := #[.val (.int p1), .val (.int p2), .val (.int p3), .val (.int f3), .val (.int f4), .val (.int f5), .val (.ref a101), .val .null, .unset, .unset]) rfl k) ?_
        show Fin _ _ _ _ _ _ _ (T119.setTop (mkF m 71 #[.val (.int p1), .val (.int p2), .val (.int p3), .val (.int f3), .val (.int f4), .val (.int f5), .val (.ref a101), .val .null, .unset, .unset] []))
        refine Fin.by (fun t k => XS.iload X119.here hx rfl (hb hby at_71) rfl k) ?_
        show Fin _ _ _ _ _ _ _ (T119.setTop (mkF m 73 #[.val (.int p1), .val (.int p2), .val (.int p3), .val (.int f3), .val (.int f4), .val (.int f5), .val (.ref a101), .val .null, .unset, .unset] [(.int f4)]))
        have J97 : ∀ (T120 : State) (h121 : Heap) (lc122 : List Loc) (v7 : Value), Stand p l e room_1 s m #[(.int p1), (.int p2), (.int p3)] below meth c T120 lc122 8 19 → T120.heap = h121 → Fr n0 lc122 → Keep T119.heap h121 [] → v7.isRef = true → Fin p e below s (Q_law Z p1 p2 p3 G1 G5 aE bE kE h0 n0) 40 192 (T120.setTop (mkF m 97 #[.val (.int p1), .val (.int p2), .val (.int p3), .val (.int f3), .val (.int f4), .val (.int f5), .val (.ref a101), .val v7, .unset, .unset] [])) := by
          intro T120 h121 lc122 v7 X123 e124 N125 K126 r7
          refine Fin.by (fun t k => XS.aconstNull X123.here hx rfl (hb hby at_97) k) ?_
          show Fin _ _ _ _ _ _ _ (T120.setTop (mkF m 98 #[.val (.int p1), .val (.int p2), .val (.int p3), .val (.int f3), .val (.int f4), .val (.int f5), .val (.ref a101), .val v7, .unset, .unset] [.null]))
          refine Fin.by (fun t k => XS.astore X123.here hx rfl (hb hby at_98) rfl rfl (l' := #[.val (.int p1), .val (.int p2), .val (.int p3), .val (.int f3), .val (.int f4), .val (.int f5), .val (.ref a101), .val v7, .val .null, .unset]) rfl k) ?_
          show Fin _ _ _ _ _ _ _ (T120.setTop (mkF m 100 #[.val (.int p1), .val (.int p2), .val (.int p3), .val (.int f3), .val (.int f4), .val (.int f5), .val (.ref a101), .val v7, .val .null, .unset] []))
          refine Fin.by (fun t k => XS.iload X123.here hx rfl (hb hby at_100) rfl k) ?_
          show Fin _ _ _ _ _ _ _ (T120.setTop (mkF m 102 #[.val (.int p1), .val (.int p2), .val (.int p3), .val (.int f3), .val (.int f4), .val (.int f5), .val (.ref a101), .val v7, .val .null, .unset] [(.int f5)]))
          have J138 : ∀ (T145 : State) (h146 : Heap) (lc147 : List Loc) (v8 : Value), Stand p l e room_1 s m #[(.int p1), (.int p2), (.int p3)] below meth c T145 lc147 13 31 → T145.heap = h146 → Fr n0 lc147 → Keep h121 h146 [] → v8.isRef = true → Fin p e below s (Q_law Z p1 p2 p3 G1 G5 aE bE kE h0 n0) 40 192 (T145.setTop (mkF m 138 #[.val (.int p1), .val (.int p2), .val (.int p3), .val (.int f3), .val (.int f4), .val (.int f5), .val (.ref a101), .val v7, .val v8, .unset] [])) := by
            intro T145 h146 lc147 v8 X148 e149 N150 K151 r8
            refine Fin.by (fun t k => XS.aload X148.here hx rfl (hb hby at_138) rfl rfl k) ?_
            show Fin _ _ _ _ _ _ _ (T145.setTop (mkF m 140 #[.val (.int p1), .val (.int p2), .val (.int p3), .val (.int f3), .val (.int f4), .val (.int f5), .val (.ref a101), .val v7, .val v8, .unset] [(.ref a101)]))
            refine Fin.by (fun t k => XS.aload X148.here hx rfl (hb hby at_140) rfl r7 k) ?_
            show Fin _ _ _ _ _ _ _ (T145.setTop (mkF m 142 #[.val (.int p1), .val (.int p2), .val (.int p3), .val (.int f3), .val (.int f4), .val (.int f5), .val (.ref a101), .val v7, .val v8, .unset] [v7, (.ref a101)]))
            refine Fin.by (fun t k => XS.aload X148.here hx rfl (hb hby at_142) rfl r8 k) ?_
            show Fin _ _ _ _ _ _ _ (T145.setTop (mkF m 144 #[.val (.int p1), .val (.int p2), .val (.int p3), .val (.int f3), .val (.int f4), .val (.int f5), .val (.ref a101), .val v7, .val v8, .unset] [v8, v7, (.ref a101)]))
            refine Fin.by (fun t k => XS.iloadN X148.here hx rfl (hb hby at_144) rfl k) ?_
            show Fin _ _ _ _ _ _ _ (T145.setTop (mkF m 145 #[.val (.int p1), .val (.int p2), .val (.int p3), .val (.int f3), .val (.int f4), .val (.int f5), .val (.ref a101), .val v7, .val v8, .unset] [(.int f3), v8, v7, (.ref a101)]))
            have O176 : Old Z n0 h146 := ((((O108.keep p110_0 all0).keep p119_0 (allS g117 all0)).keep K126 all0).keep K151 all0)
            have z177 : n0 ≤ h146.size := Nat.le_trans z118 (Nat.le_trans (Nat.le_trans p119_0.1 K126.1) K151.1)
            obtain ⟨v178, _, ⟨T178, L178, k178, n178⟩, -, X178, ⟨Lc178, hQ178, l178, y178, z178⟩, st178⟩ := Jvm.LawKit.callS X148 hx (y := (⟨"com/example/portcullis/portcullis/Resource", "created", "(Lcom/example/portcullis/portcullis/ResourceName;Lcom/example/portcullis/portcullis/Principal;Lcom/example/portcullis/portcullis/ResourceName;Z)Lcom/example/portcullis/portcullis/Resource;"⟩ : MethodName)) hown (mvT hZ (hw _ (List.mem_of_getElem? (i := 56) rfl))) (mvT hZ (hw _ (List.mem_of_getElem? (i := 57) rfl))) (mvT hZ (hw _ (List.mem_of_getElem? (i := 58) rfl))) (mvT hZ (hw _ (List.mem_of_getElem? (i := 59) rfl))) (by decide) (backOf (W := 0) (rm_cre l Z a0 hw [] (Value.ref a101) v7 v8 f3 aE h146 n0 z177 S2 O176 rfl r7 r8) hZ (hw _ (List.mem_of_getElem? (i := 59) rfl)) (hw _ (List.mem_of_getElem? (i := 58) rfl)) (by decide) (by decide)) (g := (mkF m 145 #[.val (.int p1), .val (.int p2), .val (.int p3), .val (.int f3), .val (.int f4), .val (.int f5), .val (.ref a101), .val v7, .val v8, .unset] [(.int f3), v8, v7, (.ref a101)])) rfl (by rw [hml]; rfl) (argsL := [(.ref a101), v7, v8, (.int f3)]) (rest := []) (lenOf pd_158 rfl) rfl (by show 2 * 0 + _ ≤ _; exact Nat.le_of_eq rfl) (hb hby at_145) (fun _ _ => ⟨rfl, e149, (by decide : 13 + 3 ≤ _), (by decide : 31 + 12 ≤ _)⟩)
            dsimp only [Pt.U, Pt.locs, Pt.cells, Pt.slots] at X178 l178 y178 z178 st178 hQ178
            subst l178 y178 z178
            obtain ⟨t179, g180, g181, rfl, Nq178, p178_0, p178_1, p178_2, p178_3, p178_4, p178_5, p178_6, p178_7, p178_8, p178_9, p178_10, p178_11, p178_12, p178_13, p178_14⟩ := hQ178
            have N178_ := Fr.app N150 Nq178
            refine Fin.by (fun t k => st178 t k) ?_
            show Fin _ _ _ _ _ _ _ (T178.setTop (mkF m 148 #[.val (.int p1), .val (.int p2), .val (.int p3), .val (.int f3), .val (.int f4), .val (.int f5), .val (.ref a101), .val v7, .val v8, .unset] [(.ref t179)]))
            refine Fin.by (fun t k => XS.astore X178.here hx rfl (hb hby at_148) rfl rfl (l' := #[.val (.int p1), .val (.int p2), .val (.int p3), .val (.int f3), .val (.int f4), .val (.int f5), .val (.ref a101), .val v7, .val v8, .val (.ref t179)]) rfl k) ?_
            show Fin _ _ _ _ _ _ _ (T178.setTop (mkF m 150 #[.val (.int p1), .val (.int p2), .val (.int p3), .val (.int f3), .val (.int f4), .val (.int f5), .val (.ref a101), .val v7, .val v8, .val (.ref t179)] []))
            refine Fin.by (fun t k => XS.aload X178.here hx rfl (hb hby at_150) rfl rfl k) ?_
            show Fin _ _ _ _ _ _ _ (T178.setTop (mkF m 152 #[.val (.int p1), .val (.int p2), .val (.int p3), .val (.int f3), .val (.int f4), .val (.int f5), .val (.ref a101), .val v7, .val v8, .val (.ref t179)] [(.ref t179)]))
            have z182 : n0 ≤ T178.heap.size := Nat.le_trans z177 p178_0.1
            obtain ⟨cq183, kq183, qa183, qb183, qc183⟩ := isOf hZ rfl p178_4
            obtain ⟨v183, _, ⟨T183, L183, k183, n183⟩, -, X183, ⟨Lc183, hQ183, l183, y183, z183⟩, st183⟩ := X178.virtualBack hx (y := (⟨"com/example/portcullis/portcullis/Resource", "name", "()Lcom/example/portcullis/portcullis/ResourceName;"⟩ : MethodName)) (z := (⟨"com/example/portcullis/portcullis/Resource", "name", "()Lcom/example/portcullis/portcullis/ResourceName;"⟩ : MethodName)) hown (mvT hZ (hw _ (List.mem_of_getElem? (i := 109) rfl))) (mvT hZ (hw _ (List.mem_of_getElem? (i := 110) rfl))) (notFace_of_selects (args := #[]) (mvT hZ (hw _ (List.mem_of_getElem? (i := 112) rfl)))) (mvT hZ (hw _ (List.mem_of_getElem? (i := 112) rfl))) (mvT hZ (hw _ (List.mem_of_getElem? (i := 111) rfl))) (by decide) (backOf (W := 0) (rm_get_name l Z a0 hw [] t179 (Value.ref a101) T178.heap n0 z182 p178_5 rfl) hZ (hw _ (List.mem_of_getElem? (i := 113) rfl)) (hw _ (List.mem_of_getElem? (i := 58) rfl)) (by decide) (by decide)) qa183 qc183 (g := (mkF m 152 #[.val (.int p1), .val (.int p2), .val (.int p3), .val (.int f3), .val (.int f4), .val (.int f5), .val (.ref a101), .val v7, .val v8, .val (.ref t179)] [(.ref t179)])) rfl (by rw [hml]; rfl) (Steps.refl _) (argsL := []) (rest := []) (lenOf pd_159 rfl) rfl (by show 2 * 0 + _ ≤ _; exact Nat.le_of_eq rfl) (hb hby at_152) (fun _ _ => ⟨rfl, rfl, (by decide : 16 + 0 ≤ _), (by decide : 43 + 0 ≤ _)⟩)
            dsimp only [Pt.U, Pt.locs, Pt.cells, Pt.slots] at X183 l183 y183 z183 st183 hQ183
            subst l183 y183 z183
            obtain ⟨rfl, Nq183, e183_⟩ := hQ183
            have N183_ := Fr.app N178_ Nq183
            refine Fin.byS st183 ?_
            have e183 := e183_
            show Fin _ _ _ _ _ _ _ (T183.setTop (mkF m 155 #[.val (.int p1), .val (.int p2), .val (.int p3), .val (.int f3), .val (.int f4), .val (.int f5), .val (.ref a101), .val v7, .val v8, .val (.ref t179)] [(.ref a101)]))
            refine Fin.by (fun t k => XS.aload X183.here hx rfl (hb hby at_155) rfl rfl k) ?_
            show Fin _ _ _ _ _ _ _ (T183.setTop (mkF m 157 #[.val (.int p1), .val (.int p2), .val (.int p3), .val (.int f3), .val (.int f4), .val (.int f5), .val (.ref a101), .val v7, .val v8, .val (.ref t179)] [(.ref a101), (.ref a101)]))
            refine Fin.by (fun t k => Jvm.RoadKit.acmp (g := (mkF m 157 #[.val (.int p1), .val (.int p2), .val (.int p3), .val (.int f3), .val (.int f4), .val (.int f5), .val (.ref a101), .val v7, .val v8, .val (.ref t179)] [(.ref a101), (.ref a101)])) X183 hx rfl rfl rfl (pc0 := 157) (pc' := 160) (same := true) rfl (hb hby at_157) rfl (decide_eq_true rfl) (by decide) (by decide) k) ?_
            show Fin _ _ _ _ _ _ _ (T183.setTop (mkF m 160 #[.val (.int p1), .val (.int p2), .val (.int p3), .val (.int f3), .val (.int f4), .val (.int f5), .val (.ref a101), .val v7, .val v8, .val (.ref t179)] []))
            refine Fin.by (fun t k => XS.aload X183.here hx rfl (hb hby at_160) rfl rfl k) ?_
            show Fin _ _ _ _ _ _ _ (T183.setTop (mkF m 162 #[.val (.int p1), .val (.int p2), .val (.int p3), .val (.int f3), .val (.int f4), .val (.int f5), .val (.ref a101), .val v7, .val v8, .val (.ref t179)] [(.ref t179)]))
            obtain ⟨cq184, kq184, qa184, qb184, qc184⟩ := isOf hZ e183 p178_4
            obtain ⟨v184, _, ⟨T184, L184, k184, n184⟩, -, X184, ⟨Lc184, hQ184, l184, y184, z184⟩, st184⟩ := X183.virtualBack hx (y := (⟨"com/example/portcullis/portcullis/Resource", "owner", "()Lcom/example/portcullis/portcullis/Principal;"⟩ : MethodName)) (z := (⟨"com/example/portcullis/portcullis/Resource", "owner", "()Lcom/example/portcullis/portcullis/Principal;"⟩ : MethodName)) hown (mvT hZ (hw _ (List.mem_of_getElem? (i := 114) rfl))) (mvT hZ (hw _ (List.mem_of_getElem? (i := 115) rfl))) (notFace_of_selects (args := #[]) (mvT hZ (hw _ (List.mem_of_getElem? (i := 117) rfl)))) (mvT hZ (hw _ (List.mem_of_getElem? (i := 117) rfl))) (mvT hZ (hw _ (List.mem_of_getElem? (i := 116) rfl))) (by decide) (backOf (W := 0) (rm_get_owner l Z a0 hw [] t179 v7 T178.heap n0 z182 p178_6 r7) hZ (hw _ (List.mem_of_getElem? (i := 118) rfl)) (hw _ (List.mem_of_getElem? (i := 58) rfl)) (by decide) (by decide)) qa184 qc184 (g := (mkF m 162 #[.val (.int p1), .val (.int p2), .val (.int p3), .val (.int f3), .val (.int f4), .val (.int f5), .val (.ref a101), .val v7, .val v8, .val (.ref t179)] [(.ref t179)])) rfl (by rw [hml]; rfl) (Steps.refl _) (argsL := []) (rest := []) (lenOf pd_160 rfl) rfl (by show 2 * 0 + _ ≤ _; exact Nat.le_of_eq rfl) (hb hby at_162) (fun _ _ => ⟨rfl, e183, (by decide : 16 + 0 ≤ _), (by decide : 43 + 0 ≤ _)⟩)
            dsimp only [Pt.U, Pt.locs, Pt.cells, Pt.slots] at X184 l184 y184 z184 st184 hQ184
            subst l184 y184 z184
            obtain ⟨rfl, Nq184, e184_⟩ := hQ184
            have N184_ := Fr.app N183_ Nq184
            refine Fin.byS st184 ?_
            have e184 := e184_
            show Fin _ _ _ _ _ _ _ (T184.setTop (mkF m 165 #[.val (.int p1), .val (.int p2), .val (.int p3), .val (.int f3), .val (.int f4), .val (.int f5), .val (.ref a101), .val v7, .val v8, .val (.ref t179)] [v7]))
            refine Fin.by (fun t k => XS.aload X184.here hx rfl (hb hby at_165) rfl r7 k) ?_
            show Fin _ _ _ _ _ _ _ (T184.setTop (mkF m 167 #[.val (.int p1), .val (.int p2), .val (.int p3), .val (.int f3), .val (.int f4), .val (.int f5), .val (.ref a101), .val v7, .val v8, .val (.ref t179)] [v7, v7]))
            refine Fin.by (fun t k => Jvm.RoadKit.acmp (g := (mkF m 167 #[.val (.int p1), .val (.int p2), .val (.int p3), .val (.int f3), .val (.int f4), .val (.int f5), .val (.ref a101), .val v7, .val v8, .val (.ref t179)] [v7, v7])) X184 hx rfl r7 r7 (pc0 := 167) (pc' := 170) (same := true) rfl (hb hby at_167) rfl (decide_eq_true rfl) (by decide) (by decide) k) ?_
            show Fin _ _ _ _ _ _ _ (T184.setTop (mkF m 170 #[.val (.int p1), .val (.int p2), .val (.int p3), .val (.int f3), .val (.int f4), .val (.int f5), .val (.ref a101), .val v7, .val v8, .val (.ref t179)] []))
            refine Fin.by (fun t k => XS.aload X184.here hx rfl (hb hby at_170) rfl rfl k) ?_
            show Fin _ _ _ _ _ _ _ (T184.setTop (mkF m 172 #[.val (.int p1), .val (.int p2), .val (.int p3), .val (.int f3), .val (.int f4), .val (.int f5), .val (.ref a101), .val v7, .val v8, .val (.ref t179)] [(.ref t179)]))
            obtain ⟨cq185, kq185, qa185, qb185, qc185⟩ := isOf hZ e184 p178_4
            obtain ⟨v185, _, ⟨T185, L185, k185, n185⟩, -, X185, ⟨Lc185, hQ185, l185, y185, z185⟩, st185⟩ := X184.virtualBack hx (y := (⟨"com/example/portcullis/portcullis/Resource", "parent", "()Lcom/example/portcullis/portcullis/ResourceName;"⟩ : MethodName)) (z := (⟨"com/example/portcullis/portcullis/Resource", "parent", "()Lcom/example/portcullis/portcullis/ResourceName;"⟩ : MethodName)) hown (mvT hZ (hw _ (List.mem_of_getElem? (i := 119) rfl))) (mvT hZ (hw _ (List.mem_of_getElem? (i := 120) rfl))) (notFace_of_selects (args := #[]) (mvT hZ (hw _ (List.mem_of_getElem? (i := 122) rfl)))) (mvT hZ (hw _ (List.mem_of_getElem? (i := 122) rfl))) (mvT hZ (hw _ (List.mem_of_getElem? (i := 121) rfl))) (by decide) (backOf (W := 0) (rm_get_parent l Z a0 hw [] t179 v8 T178.heap n0 z182 p178_7 r8) hZ (hw _ (List.mem_of_getElem? (i := 123) rfl)) (hw _ (List.mem_of_getElem? (i := 58) rfl)) (by decide) (by decide)) qa185 qc185 (g := (mkF m 172 #[.val (.int p1), .val (.int p2), .val (.int p3), .val (.int f3), .val (.int f4), .val (.int f5), .val (.ref a101), .val v7, .val v8, .val (.ref t179)] [(.ref t179)])) rfl (by rw [hml]; rfl) (Steps.refl _) (argsL := []) (rest := []) (lenOf pd_159 rfl) rfl (by show 2 * 0 + _ ≤ _; exact Nat.le_of_eq rfl) (hb hby at_172) (fun _ _ => ⟨rfl, e184, (by decide : 16 + 0 ≤ _), (by decide : 43 + 0 ≤ _)⟩)
            dsimp only [Pt.U, Pt.locs, Pt.cells, Pt.slots] at X185 l185 y185 z185 st185 hQ185
            subst l185 y185 z185
            obtain ⟨rfl, Nq185, e185_⟩ := hQ185
            have N185_ := Fr.app N184_ Nq185
            refine Fin.byS st185 ?_
            have e185 := e185_
            show Fin _ _ _ _ _ _ _ (T185.setTop (mkF m 175 #[.val (.int p1), .val (.int p2), .val (.int p3), .val (.int f3), .val (.int f4), .val (.int f5), .val (.ref a101), .val v7, .val v8, .val (.ref t179)] [v8]))
            refine Fin.by (fun t k => XS.aload X185.here hx rfl (hb hby at_175) rfl r8 k) ?_
            show Fin _ _ _ _ _ _ _ (T185.setTop (mkF m 177 #[.val (.int p1), .val (.int p2), .val (.int p3), .val (.int f3), .val (.int f4), .val (.int f5), .val (.ref a101), .val v7, .val v8, .val (.ref t179)] [v8, v8]))
            refine Fin.by (fun t k => Jvm.RoadKit.acmp (g := (mkF m 177 #[.val (.int p1), .val (.int p2), .val (.int p3), .val (.int f3), .val (.int f4), .val (.int f5), .val (.ref a101), .val v7, .val v8, .val (.ref t179)] [v8, v8])) X185 hx rfl r8 r8 (pc0 := 177) (pc' := 180) (same := true) rfl (hb hby at_177) rfl (decide_eq_true rfl) (by decide) (by decide) k) ?_
            show Fin _ _ _ _ _ _ _ (T185.setTop (mkF m 180 #[.val (.int p1), .val (.int p2), .val (.int p3), .val (.int f3), .val (.int f4), .val (.int f5), .val (.ref a101), .val v7, .val v8, .val (.ref t179)] []))
            refine Fin.by (fun t k => XS.aload X185.here hx rfl (hb hby at_180) rfl rfl k) ?_
            show Fin _ _ _ _ _ _ _ (T185.setTop (mkF m 182 #[.val (.int p1), .val (.int p2), .val (.int p3), .val (.int f3), .val (.int f4), .val (.int f5), .val (.ref a101), .val v7, .val v8, .val (.ref t179)] [(.ref t179)]))
            obtain ⟨cq186, kq186, qa186, qb186, qc186⟩ := isOf hZ e185 p178_4
            obtain ⟨v186, _, ⟨T186, L186, k186, n186⟩, -, X186, ⟨Lc186, hQ186, l186, y186, z186⟩, st186⟩ := X185.virtualBack hx (y := (⟨"com/example/portcullis/portcullis/Resource", "managed", "()Z"⟩ : MethodName)) (z := (⟨"com/example/portcullis/portcullis/Resource", "managed", "()Z"⟩ : MethodName)) hown (mvT hZ (hw _ (List.mem_of_getElem? (i := 124) rfl))) (mvT hZ (hw _ (List.mem_of_getElem? (i := 125) rfl))) (notFace_of_selects (args := #[]) (mvT hZ (hw _ (List.mem_of_getElem? (i := 127) rfl)))) (mvT hZ (hw _ (List.mem_of_getElem? (i := 127) rfl))) (mvT hZ (hw _ (List.mem_of_getElem? (i := 126) rfl))) (by decide) (backOf (W := 0) (rm_get_managed l Z a0 hw [] t179 (nar .boolean f3) T178.heap n0 z182 p178_8) hZ (hw _ (List.mem_of_getElem? (i := 128) rfl)) (hw _ (List.mem_of_getElem? (i := 58) rfl)) (by decide) (by decide)) qa186 qc186 (g := (mkF m 182 #[.val (.int p1), .val (.int p2), .val (.int p3), .val (.int f3), .val (.int f4), .val (.int f5), .val (.ref a101), .val v7, .val v8, .val (.ref t179)] [(.ref t179)])) rfl (by rw [hml]; rfl) (Steps.refl _) (argsL := []) (rest := []) (lenOf pd_161 rfl) rfl (by show 2 * 0 + _ ≤ _; exact Nat.le_of_eq rfl) (hb hby at_182) (fun _ _ => ⟨rfl, e185, (by decide : 16 + 0 ≤ _), (by decide : 43 + 0 ≤ _)⟩)
            dsimp only [Pt.U, Pt.locs, Pt.cells, Pt.slots] at X186 l186 y186 z186 st186 hQ186
            subst l186 y186 z186
            obtain ⟨rfl, Nq186, e186_⟩ := hQ186
            have N186_ := Fr.app N185_ Nq186
            refine Fin.byS st186 ?_
            have e186 := e186_
            show Fin _ _ _ _ _ _ _ (T186.setTop (mkF m 185 #[.val (.int p1), .val (.int p2), .val (.int p3), .val (.int f3), .val (.int f4), .val (.int f5), .val (.ref a101), .val v7, .val v8, .val (.ref t179)] [(.int (nar .boolean (nar .boolean f3)))]))
            refine Fin.by (fun t k => XS.iloadN X186.here hx rfl (hb hby at_185) rfl k) ?_
            show Fin _ _ _ _ _ _ _ (T186.setTop (mkF m 186 #[.val (.int p1), .val (.int p2), .val (.int p3), .val (.int f3), .val (.int f4), .val (.int f5), .val (.ref a101), .val v7, .val v8, .val (.ref t179)] [(.int f3), (.int (nar .boolean (nar .boolean f3)))]))
            refine Fin.by (fun t k => XS.icmpNo X186.here hx rfl (hb hby at_186) rfl (teq (by rcases hf3 with rfl | rfl <;> decide : (nar .boolean (nar .boolean f3)) = f3)).2 k) ?_
            show Fin _ _ _ _ _ _ _ (T186.setTop (mkF m 189 #[.val (.int p1), .val (.int p2), .val (.int p3), .val (.int f3), .val (.int f4), .val (.int f5), .val (.ref a101), .val v7, .val v8, .val (.ref t179)] []))
            refine Fin.by (fun t k => XS.aload X186.here hx rfl (hb hby at_189) rfl rfl k) ?_
            show Fin _ _ _ _ _ _ _ (T186.setTop (mkF m 191 #[.val (.int p1), .val (.int p2), .val (.int p3), .val (.int f3), .val (.int f4), .val (.int f5), .val (.ref a101), .val v7, .val v8, .val (.ref t179)] [(.ref t179)]))
            obtain ⟨cq187, kq187, qa187, qb187, qc187⟩ := isOf hZ e186 p178_4
            obtain ⟨v187, _, ⟨T187, L187, k187, n187⟩, -, X187, ⟨Lc187, hQ187, l187, y187, z187⟩, st187⟩ := X186.virtualBack hx (y := (⟨"com/example/portcullis/portcullis/Resource", "roles", "()Lcom/example/portcullis/portcullis/Grants;"⟩ : MethodName)) (z := (⟨"com/example/portcullis/portcullis/Resource", "roles", "()Lcom/example/portcullis/portcullis/Grants;"⟩ : MethodName)) hown (mvT hZ (hw _ (List.mem_of_getElem? (i := 129) rfl))) (mvT hZ (hw _ (List.mem_of_getElem? (i := 130) rfl))) (notFace_of_selects (args := #[]) (mvT hZ (hw _ (List.mem_of_getElem? (i := 132) rfl)))) (mvT hZ (hw _ (List.mem_of_getElem? (i := 132) rfl))) (mvT hZ (hw _ (List.mem_of_getElem? (i := 131) rfl))) (by decide) (backOf (W := 0) (rm_get_roles l Z a0 hw [] t179 g180 T178.heap n0 z182 p178_9) hZ (hw _ (List.mem_of_getElem? (i := 133) rfl)) (hw _ (List.mem_of_getElem? (i := 58) rfl)) (by decide) (by decide)) qa187 qc187 (g := (mkF m 191 #[.val (.int p1), .val (.int p2), .val (.int p3), .val (.int f3), .val (.int f4), .val (.int f5), .val (.ref a101), .val v7, .val v8, .val (.ref t179)] [(.ref t179)])) rfl (by rw [hml]; rfl) (Steps.refl _) (argsL := []) (rest := []) (lenOf pd_121 rfl) rfl (by show 2 * 0 + _ ≤ _; exact Nat.le_of_eq rfl) (hb hby at_191) (fun _ _ => ⟨rfl, e186, (by decide : 16 + 0 ≤ _), (by decide : 43 + 0 ≤ _)⟩)
            dsimp only [Pt.U, Pt.locs, Pt.cells, Pt.slots] at X187 l187 y187 z187 st187 hQ187
            subst l187 y187 z187
            obtain ⟨rfl, Nq187, e187_⟩ := hQ187
            have N187_ := Fr.app N186_ Nq187
            refine Fin.byS st187 ?_
            have e187 := e187_
            show Fin _ _ _ _ _ _ _ (T187.setTop (mkF m 194 #[.val (.int p1), .val (.int p2), .val (.int p3), .val (.int f3), .val (.int f4), .val (.int f5), .val (.ref a101), .val v7, .val v8, .val (.ref t179)] [(.ref g180)]))
            have O188 : Old Z n0 T178.heap := (O176.keep p178_0 all0)
            obtain ⟨cq189, kq189, qa189, qb189, qc189⟩ := isOf hZ e187 p178_11
            obtain ⟨v189, _, ⟨T189, L189, k189, n189⟩, -, X189, ⟨Lc189, hQ189, l189, y189, z189⟩, st189⟩ := X187.virtualBack hx (y := (⟨"com/example/portcullis/portcullis/Grants", "size", "()I"⟩ : MethodName)) (z := (⟨"com/example/portcullis/portcullis/Grants", "size", "()I"⟩ : MethodName)) hown (mvT hZ (hw _ (List.mem_of_getElem? (i := 134) rfl))) (mvT hZ (hw _ (List.mem_of_getElem? (i := 135) rfl))) (notFace_of_selects (args := #[]) (mvT hZ (hw _ (List.mem_of_getElem? (i := 137) rfl)))) (mvT hZ (hw _ (List.mem_of_getElem? (i := 137) rfl))) (mvT hZ (hw _ (List.mem_of_getElem? (i := 136) rfl))) (by decide) (backOf (W := 0) (rm_gsz l Z a0 hw [] g180 aE bE kE T178.heap n0 z182 O188 EE EF EV p178_12) hZ (hw _ (List.mem_of_getElem? (i := 138) rfl)) (hw _ (List.mem_of_getElem? (i := 64) rfl)) (by decide) (by decide)) qa189 qc189 (g := (mkF m 194 #[.val (.int p1), .val (.int p2), .val (.int p3), .val (.int f3), .val (.int f4), .val (.int f5), .val (.ref a101), .val v7, .val v8, .val (.ref t179)] [(.ref g180)])) rfl (by rw [hml]; rfl) (Steps.refl _) (argsL := []) (rest := []) (lenOf pd_152 rfl) rfl (by show 2 * 0 + _ ≤ _; exact Nat.le_of_eq rfl) (hb hby at_194) (fun _ _ => ⟨rfl, e187, (by decide : 16 + 0 ≤ _), (by decide : 43 + 0 ≤ _)⟩)
            dsimp only [Pt.U, Pt.locs, Pt.cells, Pt.slots] at X189 l189 y189 z189 st189 hQ189
            subst l189 y189 z189
            obtain ⟨rfl, Nq189, e189_⟩ := hQ189
            have N189_ := Fr.app N187_ Nq189
            refine Fin.byS st189 ?_
            have e189 := e189_
            show Fin _ _ _ _ _ _ _ (T189.setTop (mkF m 197 #[.val (.int p1), .val (.int p2), .val (.int p3), .val (.int f3), .val (.int f4), .val (.int f5), .val (.ref a101), .val v7, .val v8, .val (.ref t179)] [(.int (0 : Int32))]))
            refine Fin.by (fun t k => XS.ifNo X189.here hx rfl (hb hby at_197) rfl ((if0 _ _).trans (teq (rfl : (0 : Int32) = (0 : Int32))).2) k) ?_
            show Fin _ _ _ _ _ _ _ (T189.setTop (mkF m 200 #[.val (.int p1), .val (.int p2), .val (.int p3), .val (.int f3), .val (.int f4), .val (.int f5), .val (.ref a101), .val v7, .val v8, .val (.ref t179)] []))
            refine Fin.by (fun t k => XS.aload X189.here hx rfl (hb hby at_200) rfl rfl k) ?_
            show Fin _ _ _ _ _ _ _ (T189.setTop (mkF m 202 #[.val (.int p1), .val (.int p2), .val (.int p3), .val (.int f3), .val (.int f4), .val (.int f5), .val (.ref a101), .val v7, .val v8, .val (.ref t179)] [(.ref t179)]))
            obtain ⟨cq190, kq190, qa190, qb190, qc190⟩ := isOf hZ e189 p178_4
            obtain ⟨v190, _, ⟨T190, L190, k190, n190⟩, -, X190, ⟨Lc190, hQ190, l190, y190, z190⟩, st190⟩ := X189.virtualBack hx (y := (⟨"com/example/portcullis/portcullis/Resource", "access", "()Lcom/example/portcullis/portcullis/Grants;"⟩ : MethodName)) (z := (⟨"com/example/portcullis/portcullis/Resource", "access", "()Lcom/example/portcullis/portcullis/Grants;"⟩ : MethodName)) hown (mvT hZ (hw _ (List.mem_of_getElem? (i := 151) rfl))) (mvT hZ (hw _ (List.mem_of_getElem? (i := 152) rfl))) (notFace_of_selects (args := #[]) (mvT hZ (hw _ (List.mem_of_getElem? (i := 154) rfl)))) (mvT hZ (hw _ (List.mem_of_getElem? (i := 154) rfl))) (mvT hZ (hw _ (List.mem_of_getElem? (i := 153) rfl))) (by decide) (backOf (W := 0) (rm_get_access l Z a0 hw [] t179 g181 T178.heap n0 z182 p178_10) hZ (hw _ (List.mem_of_getElem? (i := 155) rfl)) (hw _ (List.mem_of_getElem? (i := 58) rfl)) (by decide) (by decide)) qa190 qc190 (g := (mkF m 202 #[.val (.int p1), .val (.int p2), .val (.int p3), .val (.int f3), .val (.int f4), .val (.int f5), .val (.ref a101), .val v7, .val v8, .val (.ref t179)] [(.ref t179)])) rfl (by rw [hml]; rfl) (Steps.refl _) (argsL := []) (rest := []) (lenOf pd_121 rfl) rfl (by show 2 * 0 + _ ≤ _; exact Nat.le_of_eq rfl) (hb hby at_202) (fun _ _ => ⟨rfl, e189, (by decide : 16 + 0 ≤ _), (by decide : 43 + 0 ≤ _)⟩)
            dsimp only [Pt.U, Pt.locs, Pt.cells, Pt.slots] at X190 l190 y190 z190 st190 hQ190
            subst l190 y190 z190
            obtain ⟨rfl, Nq190, e190_⟩ := hQ190
            have N190_ := Fr.app N189_ Nq190
            refine Fin.byS st190 ?_
            have e190 := e190_
            show Fin _ _ _ _ _ _ _ (T190.setTop (mkF m 205 #[.val (.int p1), .val (.int p2), .val (.int p3), .val (.int f3), .val (.int f4), .val (.int f5), .val (.ref a101), .val v7, .val v8, .val (.ref t179)] [(.ref g181)]))
            obtain ⟨cq191, kq191, qa191, qb191, qc191⟩ := isOf hZ e190 p178_13
            obtain ⟨v191, _, ⟨T191, L191, k191, n191⟩, -, X191, ⟨Lc191, hQ191, l191, y191, z191⟩, st191⟩ := X190.virtualBack hx (y := (⟨"com/example/portcullis/portcullis/Grants", "size", "()I"⟩ : MethodName)) (z := (⟨"com/example/portcullis/portcullis/Grants", "size", "()I"⟩ : MethodName)) hown (mvT hZ (hw _ (List.mem_of_getElem? (i := 134) rfl))) (mvT hZ (hw _ (List.mem_of_getElem? (i := 135) rfl))) (notFace_of_selects (args := #[]) (mvT hZ (hw _ (List.mem_of_getElem? (i := 137) rfl)))) (mvT hZ (hw _ (List.mem_of_getElem? (i := 137) rfl))) (mvT hZ (hw _ (List.mem_of_getElem? (i := 136) rfl))) (by decide) (backOf (W := 0) (rm_gsz l Z a0 hw [] g181 aE bE kE T178.heap n0 z182 O188 EE EF EV p178_14) hZ (hw _ (List.mem_of_getElem? (i := 138) rfl)) (hw _ (List.mem_of_getElem? (i := 64) rfl)) (by decide) (by decide)) qa191 qc191 (g := (mkF m 205 #[.val (.int p1), .val (.int p2), .val (.int p3), .val (.int f3), .val (.int f4), .val (.int f5), .val (.ref a101), .val v7, .val v8, .val (.ref t179)] [(.ref g181)])) rfl (by rw [hml]; rfl) (Steps.refl _) (argsL := []) (rest := []) (lenOf pd_152 rfl) rfl (by show 2 * 0 + _ ≤ _; exact Nat.le_of_eq rfl) (hb hby at_205) (fun _ _ => ⟨rfl, e190, (by decide : 16 + 0 ≤ _), (by decide : 43 + 0 ≤ _)⟩)
            dsimp only [Pt.U, Pt.locs, Pt.cells, Pt.slots] at X191 l191 y191 z191 st191 hQ191
            subst l191 y191 z191
            obtain ⟨rfl, Nq191, e191_⟩ := hQ191
            have N191_ := Fr.app N190_ Nq191
            refine Fin.byS st191 ?_
            have e191 := e191_
            show Fin _ _ _ _ _ _ _ (T191.setTop (mkF m 208 #[.val (.int p1), .val (.int p2), .val (.int p3), .val (.int f3), .val (.int f4), .val (.int f5), .val (.ref a101), .val v7, .val v8, .val (.ref t179)] [(.int (0 : Int32))]))
            refine Fin.by (fun t k => XS.ifNo X191.here hx rfl (hb hby at_208) rfl ((if0 _ _).trans (teq (rfl : (0 : Int32) = (0 : Int32))).2) k) ?_
            show Fin _ _ _ _ _ _ _ (T191.setTop (mkF m 211 #[.val (.int p1), .val (.int p2), .val (.int p3), .val (.int f3), .val (.int f4), .val (.int f5), .val (.ref a101), .val v7, .val v8, .val (.ref t179)] []))
            refine Fin.by (fun t k => XS.iconst X191.here hx rfl (hb hby at_211) k) ?_
            show Fin _ _ _ _ _ _ _ (T191.setTop (mkF m 212 #[.val (.int p1), .val (.int p2), .val (.int p3), .val (.int f3), .val (.int f4), .val (.int f5), .val (.ref a101), .val v7, .val v8, .val (.ref t179)] [(.int (1 : Int32))]))
            refine Fin.by (fun t k => XS.goto X191.here hx rfl (pc0 := 212) (pc' := 216) rfl (hb hby at_212) (by decide) (by decide) k) ?_
            show Fin _ _ _ _ _ _ _ (T191.setTop (mkF m 216 #[.val (.int p1), .val (.int p2), .val (.int p3), .val (.int f3), .val (.int f4), .val (.int f5), .val (.ref a101), .val v7, .val v8, .val (.ref t179)] [(.int (1 : Int32))]))
            exact Fin.ret (v := some (.int (nar .boolean (1 : Int32)))) X191 (fun h => by rw [Bd.returns] at h; cases h) Bd.notSynchronized (by rw [e191]; exact ⟨rfl, N191_⟩) (by decide) (by decide) (fun fs hr => retN X191 hx (t := .boolean) Bd.returns (by simp) (hb hby at_216) hr)
          by_cases hc102 : f5 = (0 : Int32)
          · refine Fin.by (fun t k => XS.ifYes X123.here hx rfl (pc0 := 102) (pc' := 138) rfl (hb hby at_102) rfl ((if0 _ _).trans (teq hc102).1) (by decide) (by decide) k) ?_
            show Fin _ _ _ _ _ _ _ (T120.setTop (mkF m 138 #[.val (.int p1), .val (.int p2), .val (.int p3), .val (.int f3), .val (.int f4), .val (.int f5), .val (.ref a101), .val v7, .val .null, .unset] []))
            exact J138 T120 h121 _ Value.null (X123.more (by decide) (by decide)) e124 N125 (Keep.refl h121 []) rfl
          · refine Fin.by (fun t k => XS.ifNo X123.here hx rfl (hb hby at_102) rfl ((if0 _ _).trans (feq hc102).1) k) ?_
            show Fin _ _ _ _ _ _ _ (T120.setTop (mkF m 105 #[.val (.int p1), .val (.int p2), .val (.int p3), .val (.int f3), .val (.int f4), .val (.int f5), .val (.ref a101), .val v7, .val .null, .unset] []))
            obtain ⟨T152, h152, X152, e152, E152, A152, D152, -, st152⟩ := newO X123 hx hZ hown (hw _ (List.mem_of_getElem? (i := 0) rfl)) (hw _ (List.mem_of_getElem? (i := 1) rfl)) (hw _ (List.mem_of_getElem? (i := 2) rfl)) e124 (g := (mkF m 105 #[.val (.int p1), .val (.int p2), .val (.int p3), .val (.int f3), .val (.int f4), .val (.int f5), .val (.ref a101), .val v7, .val .null, .unset] [])) rfl (hb hby at_105) (by decide) (by decide)
            obtain ⟨a152, g152⟩ : ∃ z, z = h121.size := ⟨_, rfl⟩
            rw [← g152] at A152 D152 st152
            refine Fin.by (fun t k => st152 t k) ?_
            show Fin _ _ _ _ _ _ _ (T152.setTop (mkF m 108 #[.val (.int p1), .val (.int p2), .val (.int p3), .val (.int f3), .val (.int f4), .val (.int f5), .val (.ref a101), .val v7, .val .null, .unset] [(.ref a152)]))
            refine Fin.by (fun t k => XS.dup X152.here hx rfl (hb hby at_108) rfl rfl k) ?_
            show Fin _ _ _ _ _ _ _ (T152.setTop (mkF m 109 #[.val (.int p1), .val (.int p2), .val (.int p3), .val (.int f3), .val (.int f4), .val (.int f5), .val (.ref a101), .val v7, .val .null, .unset] [(.ref a152), (.ref a152)]))
            refine Fin.by (fun t k => XS.iloadN X152.here hx rfl (hb hby at_109) rfl k) ?_
            show Fin _ _ _ _ _ _ _ (T152.setTop (mkF m 110 #[.val (.int p1), .val (.int p2), .val (.int p3), .val (.int f3), .val (.int f4), .val (.int f5), .val (.ref a101), .val v7, .val .null, .unset] [(.int p2), (.ref a152), (.ref a152)]))
            refine Fin.by (fun t k => XS.bipush X152.here hx rfl (hb hby at_110) k) ?_
            show Fin _ _ _ _ _ _ _ (T152.setTop (mkF m 112 #[.val (.int p1), .val (.int p2), .val (.int p3), .val (.int f3), .val (.int f4), .val (.int f5), .val (.ref a101), .val v7, .val .null, .unset] [(.int (8 : Int32)), (.int p2), (.ref a152), (.ref a152)]))
            refine Fin.by (fun t k => XS.iushr X152.here hx rfl (hb hby at_112) rfl k) ?_
            show Fin _ _ _ _ _ _ _ (T152.setTop (mkF m 113 #[.val (.int p1), .val (.int p2), .val (.int p3), .val (.int f3), .val (.int f4), .val (.int f5), .val (.ref a101), .val v7, .val .null, .unset] [(.int ((p2.toUInt32 >>> ((8 : Int32) &&& 31).toUInt32).toInt32)), (.ref a152), (.ref a152)]))
            refine Fin.by (fun t k => XS.sipush X152.here hx rfl (hb hby at_113) k) ?_
            show Fin _ _ _ _ _ _ _ (T152.setTop (mkF m 116 #[.val (.int p1), .val (.int p2), .val (.int p3), .val (.int f3), .val (.int f4), .val (.int f5), .val (.ref a101), .val v7, .val .null, .unset] [(.int (255 : Int32)), (.int ((p2.toUInt32 >>> ((8 : Int32) &&& 31).toUInt32).toInt32)), (.ref a152), (.ref a152)]))
            refine Fin.by (fun t k => XS.iand X152.here hx rfl (hb hby at_116) rfl k) ?_
            show Fin _ _ _ _ _ _ _ (T152.setTop (mkF m 117 #[.val (.int p1), .val (.int p2), .val (.int p3), .val (.int f3), .val (.int f4), .val (.int f5), .val (.ref a101), .val v7, .val .null, .unset] [(.int (((p2.toUInt32 >>> ((8 : Int32) &&& 31).toUInt32).toInt32) &&& (255 : Int32))), (.ref a152), (.ref a152)]))
            refine Fin.by (fun t k => XS.i2c X152.here hx rfl (hb hby at_117) rfl k) ?_
            show Fin _ _ _ _ _ _ _ (T152.setTop (mkF m 118 #[.val (.int p1), .val (.int p2), .val (.int p3), .val (.int f3), .val (.int f4), .val (.int f5), .val (.ref a101), .val v7, .val .null, .unset] [(.int ((((p2.toUInt32 >>> ((8 : Int32) &&& 31).toUInt32).toInt32) &&& (255 : Int32)).toUInt32.toUInt16.toUInt32.toInt32)), (.ref a152), (.ref a152)]))
            have O153 : Old Z n0 h152 := ((((O108.keep p110_0 all0).keep p119_0 (allS g117 all0)).keep K126 all0).ext E152)
            have z154 : n0 ≤ h152.size := Nat.le_trans z118 (Nat.le_trans (Nat.le_trans p119_0.1 K126.1) E152.1)
            obtain ⟨v155, _, ⟨T155, L155, k155, n155⟩, -, X155, ⟨Lc155, hQ155, l155, y155, z155⟩, st155⟩ := Jvm.LawKit.callS X152 hx (y := (⟨"java/lang/String", "valueOf", "(C)Ljava/lang/String;"⟩ : MethodName)) hown (mvT hZ (hw _ (List.mem_of_getElem? (i := 3) rfl))) (mvT hZ (hw _ (List.mem_of_getElem? (i := 4) rfl))) (mvT hZ (hw _ (List.mem_of_getElem? (i := 5) rfl))) (mvT hZ (hw _ (List.mem_of_getElem? (i := 6) rfl))) (by decide) (backOf (W := 2) (rm_vof l Z a0 hw [] ((((p2.toUInt32 >>> ((8 : Int32) &&& 31).toUInt32).toInt32) &&& (255 : Int32)).toUInt32.toUInt16.toUInt32.toInt32) G1 h152 n0 z154 (own_i2c255 _) S1 P1 O153) hZ (hw _ (List.mem_of_getElem? (i := 6) rfl)) (hw _ (List.mem_of_getElem? (i := 5) rfl)) (by decide) (by decide)) (g := (mkF m 118 #[.val (.int p1), .val (.int p2), .val (.int p3), .val (.int f3), .val (.int f4), .val (.int f5), .val (.ref a101), .val v7, .val .null, .unset] [(.int ((((p2.toUInt32 >>> ((8 : Int32) &&& 31).toUInt32).toInt32) &&& (255 : Int32)).toUInt32.toUInt16.toUInt32.toInt32)), (.ref a152), (.ref a152)])) rfl (by rw [hml]; rfl) (argsL := [(.int ((((p2.toUInt32 >>> ((8 : Int32) &&& 31).toUInt32).toInt32) &&& (255 : Int32)).toUInt32.toUInt16.toUInt32.toInt32))]) (rest := [(.ref a152), (.ref a152)]) (lenOf pd_155 rfl) rfl (by show 2 * 0 + _ ≤ _; exact Nat.le_of_eq rfl) (hb hby at_118) (fun _ _ => ⟨rfl, e152, (by decide : 9 + 2 ≤ _), (by decide : 21 + 5 ≤ _)⟩)
            dsimp only [Pt.U, Pt.locs, Pt.cells, Pt.slots] at X155 l155 y155 z155 st155 hQ155
            subst l155 y155 z155
            obtain ⟨t156, b157, k158, rfl, Nq155, p155_0, p155_1, p155_2, p155_3, p155_4, p155_5, p155_6, p155_7⟩ := hQ155
            have N155_ := Fr.app N125 Nq155
            refine Fin.by (fun t k => st155 t k) ?_
            show Fin _ _ _ _ _ _ _ (T155.setTop (mkF m 121 #[.val (.int p1), .val (.int p2), .val (.int p3), .val (.int f3), .val (.int f4), .val (.int f5), .val (.ref a101), .val v7, .val .null, .unset] [(.ref t156), (.ref a152), (.ref a152)]))
            refine Fin.by (fun t k => XS.iloadN X155.here hx rfl (hb hby at_121) rfl k) ?_
            show Fin _ _ _ _ _ _ _ (T155.setTop (mkF m 122 #[.val (.int p1), .val (.int p2), .val (.int p3), .val (.int f3), .val (.int f4), .val (.int f5), .val (.ref a101), .val v7, .val .null, .unset] [(.int p2), (.ref t156), (.ref a152), (.ref a152)]))
            refine Fin.by (fun t k => XS.bipush X155.here hx rfl (hb hby at_122) k) ?_
            show Fin _ _ _ _ _ _ _ (T155.setTop (mkF m 124 #[.val (.int p1), .val (.int p2), .val (.int p3), .val (.int f3), .val (.int f4), .val (.int f5), .val (.ref a101), .val v7, .val .null, .unset] [(.int (16 : Int32)), (.int p2), (.ref t156), (.ref a152), (.ref a152)]))
            refine Fin.by (fun t k => XS.iushr X155.here hx rfl (hb hby at_124) rfl k) ?_
            show Fin _ _ _ _ _ _ _ (T155.setTop (mkF m 125 #[.val (.int p1), .val (.int p2), .val (.int p3), .val (.int f3), .val (.int f4), .val (.int f5), .val (.ref a101), .val v7, .val .null, .unset] [(.int ((p2.toUInt32 >>> ((16 : Int32) &&& 31).toUInt32).toInt32)), (.ref t156), (.ref a152), (.ref a152)]))
            refine Fin.by (fun t k => XS.sipush X155.here hx rfl (hb hby at_125) k) ?_
            show Fin _ _ _ _ _ _ _ (T155.setTop (mkF m 128 #[.val (.int p1), .val (.int p2), .val (.int p3), .val (.int f3), .val (.int f4), .val (.int f5), .val (.ref a101), .val v7, .val .null, .unset] [(.int (255 : Int32)), (.int ((p2.toUInt32 >>> ((16 : Int32) &&& 31).toUInt32).toInt32)), (.ref t156), (.ref a152), (.ref a152)]))
            refine Fin.by (fun t k => XS.iand X155.here hx rfl (hb hby at_128) rfl k) ?_
            show Fin _ _ _ _ _ _ _ (T155.setTop (mkF m 129 #[.val (.int p1), .val (.int p2), .val (.int p3), .val (.int f3), .val (.int f4), .val (.int f5), .val (.ref a101), .val v7, .val .null, .unset] [(.int (((p2.toUInt32 >>> ((16 : Int32) &&& 31).toUInt32).toInt32) &&& (255 : Int32))), (.ref t156), (.ref a152), (.ref a152)]))
            refine Fin.by (fun t k => XS.i2c X155.here hx rfl (hb hby at_129) rfl k) ?_
            show Fin _ _ _ _ _ _ _ (T155.setTop (mkF m 130 #[.val (.int p1), .val (.int p2), .val (.int p3), .val (.int f3), .val (.int f4), .val (.int f5), .val (.ref a101), .val v7, .val .null, .unset] [(.int ((((p2.toUInt32 >>> ((16 : Int32) &&& 31).toUInt32).toInt32) &&& (255 : Int32)).toUInt32.toUInt16.toUInt32.toInt32)), (.ref t156), (.ref a152), (.ref a152)]))
            have O159 : Old Z n0 T155.heap := (O153.keep p155_0 all0)
            have z160 : n0 ≤ T155.heap.size := Nat.le_trans z154 p155_0.1
            obtain ⟨v161, _, ⟨T161, L161, k161, n161⟩, -, X161, ⟨Lc161, hQ161, l161, y161, z161⟩, st161⟩ := Jvm.LawKit.callS X155 hx (y := (⟨"java/lang/String", "valueOf", "(C)Ljava/lang/String;"⟩ : MethodName)) hown (mvT hZ (hw _ (List.mem_of_getElem? (i := 3) rfl))) (mvT hZ (hw _ (List.mem_of_getElem? (i := 4) rfl))) (mvT hZ (hw _ (List.mem_of_getElem? (i := 5) rfl))) (mvT hZ (hw _ (List.mem_of_getElem? (i := 6) rfl))) (by decide) (backOf (W := 3) (rm_vof l Z a0 hw [] ((((p2.toUInt32 >>> ((16 : Int32) &&& 31).toUInt32).toInt32) &&& (255 : Int32)).toUInt32.toUInt16.toUInt32.toInt32) G1 T155.heap n0 z160 (own_i2c255 _) S1 P1 O159) hZ (hw _ (List.mem_of_getElem? (i := 6) rfl)) (hw _ (List.mem_of_getElem? (i := 5) rfl)) (by decide) (by decide)) (g := (mkF m 130 #[.val (.int p1), .val (.int p2), .val (.int p3), .val (.int f3), .val (.int f4), .val (.int f5), .val (.ref a101), .val v7, .val .null, .unset] [(.int ((((p2.toUInt32 >>> ((16 : Int32) &&& 31).toUInt32).toInt32) &&& (255 : Int32)).toUInt32.toUInt16.toUInt32.toInt32)), (.ref t156), (.ref a152), (.ref a152)])) rfl (by rw [hml]; rfl) (argsL := [(.int ((((p2.toUInt32 >>> ((16 : Int32) &&& 31).toUInt32).toInt32) &&& (255 : Int32)).toUInt32.toUInt16.toUInt32.toInt32))]) (rest := [(.ref t156), (.ref a152), (.ref a152)]) (lenOf pd_155 rfl) rfl (by show 2 * 0 + _ ≤ _; exact Nat.le_of_eq rfl) (hb hby at_130) (fun _ _ => ⟨rfl, rfl, (by decide : 11 + 2 ≤ _), (by decide : 26 + 5 ≤ _)⟩)
            dsimp only [Pt.U, Pt.locs, Pt.cells, Pt.slots] at X161 l161 y161 z161 st161 hQ161
            subst l161 y161 z161
            obtain ⟨t162, b163, k164, rfl, Nq161, p161_0, p161_1, p161_2, p161_3, p161_4, p161_5, p161_6, p161_7⟩ := hQ161
            have N161_ := Fr.app N155_ Nq161
            refine Fin.by (fun t k => st161 t k) ?_
            show Fin _ _ _ _ _ _ _ (T161.setTop (mkF m 133 #[.val (.int p1), .val (.int p2), .val (.int p3), .val (.int f3), .val (.int f4), .val (.int f5), .val (.ref a101), .val v7, .val .null, .unset] [(.ref t162), (.ref t156), (.ref a152), (.ref a152)]))
            have E165 : Exa Z T161.heap a152 "com/example/portcullis/portcullis/ResourceName" := ((A152.keep p155_0).keep p161_0)
            have F166 : Fld Z T161.heap a152 "com/example/portcullis/portcullis/ResourceName" "type" "Ljava/lang/String;" .null := (((D152 (Or.inr (hw _ (List.mem_of_getElem? (i := 39) rfl))) (ty := (.object "java/lang/String")) (by decide) : Fld Z h152 a152 "com/example/portcullis/portcullis/ResourceName" "type" "Ljava/lang/String;" .null).keep p155_0 nin0).keep p161_0 nin0)
            have F167 : Fld Z T161.heap a152 "com/example/portcullis/portcullis/ResourceName" "id" "Ljava/lang/String;" .null := (((D152 (Or.inr (hw _ (List.mem_of_getElem? (i := 41) rfl))) (ty := (.object "java/lang/String")) (by decide) : Fld Z h152 a152 "com/example/portcullis/portcullis/ResourceName" "id" "Ljava/lang/String;" .null).keep p155_0 nin0).keep p161_0 nin0)
            have z169 : n0 ≤ h121.size := Nat.le_trans Z0 (Nat.le_trans (Nat.le_trans (Nat.le_trans (Nat.le_trans E101.1 p104_0.1) p110_0.1) p119_0.1) K126.1)
            have g168 : n0 ≤ a152 := Nat.le_trans z169 (Nat.le_of_eq g152.symm)
            have z170 : n0 ≤ T161.heap.size := Nat.le_trans z160 p161_0.1
            obtain ⟨v171, _, ⟨T171, L171, k171, n171⟩, -, X171, ⟨Lc171, hQ171, l171, y171, z171⟩, st171⟩ := X161.specialBack hx (y := (⟨"com/example/portcullis/portcullis/ResourceName", "<init>", "(Ljava/lang/String;Ljava/lang/String;)V"⟩ : MethodName)) rfl hown (mvT hZ (hw _ (List.mem_of_getElem? (i := 29) rfl))) (mvT hZ (hw _ (List.mem_of_getElem? (i := 30) rfl))) (mvT hZ (hw _ (List.mem_of_getElem? (i := 31) rfl))) (by decide) (backOf (W := 1) (rm_rni l Z a0 hw [] a152 t156 t162 T161.heap n0 z170 E165 F166 F167 g168) hZ (hw _ (List.mem_of_getElem? (i := 31) rfl)) (hw _ (List.mem_of_getElem? (i := 2) rfl)) (by decide) (by decide)) (g := (mkF m 133 #[.val (.int p1), .val (.int p2), .val (.int p3), .val (.int f3), .val (.int f4), .val (.int f5), .val (.ref a101), .val v7, .val .null, .unset] [(.ref t162), (.ref t156), (.ref a152), (.ref a152)])) rfl (by rw [hml]; rfl) (Steps.refl _) (a := a152) (argsL := [(.ref t156), (.ref t162)]) (rest := [(.ref a152)]) (lenOf pd_156 rfl) rfl (by show 2 * 0 + _ ≤ _; exact Nat.le_of_eq rfl) (hb hby at_133) (fun _ _ => ⟨rfl, rfl, (by decide : 13 + 0 ≤ _), (by decide : 31 + 0 ≤ _)⟩)
            dsimp only [Pt.U, Pt.locs, Pt.cells, Pt.slots] at X171 l171 y171 z171 st171 hQ171
            subst l171 y171 z171
            obtain ⟨rfl, Nq171, p171_0, p171_1⟩ := hQ171
            have N171_ := Fr.app N161_ Nq171
            refine Fin.byS st171 ?_
            show Fin _ _ _ _ _ _ _ (T171.setTop (mkF m 136 #[.val (.int p1), .val (.int p2), .val (.int p3), .val (.int f3), .val (.int f4), .val (.int f5), .val (.ref a101), .val v7, .val .null, .unset] [(.ref a152)]))
            refine Fin.by (fun t k => XS.astore X171.here hx rfl (hb hby at_136) rfl rfl (l' := #[.val (.int p1), .val (.int p2), .val (.int p3), .val (.int f3), .val (.int f4), .val (.int f5), .val (.ref a101), .val v7, .val (.ref a152), .unset]) rfl k) ?_
            show Fin _ _ _ _ _ _ _ (T171.setTop (mkF m 138 #[.val (.int p1), .val (.int p2), .val (.int p3), .val (.int f3), .val (.int f4), .val (.int f5), .val (.ref a101), .val v7, .val (.ref a152), .unset] []))
            have kp172 : Keep h121 h152 [] := (Keep.refl h121 []).ext E152
            have kp173 : Keep h121 T155.heap [] := kp172.trans p155_0 all0
            have kp174 : Keep h121 T161.heap [] := kp173.trans p161_0 all0
            have kp175 : Keep h121 T171.heap [] := kp174.trans p171_0 (allS (Or.inr (Nat.le_trans (Nat.le_refl _) (Nat.le_of_eq g152.symm))) all0)
            exact J138 T171 T171.heap _ (Value.ref a152) X171 rfl N171_ kp175 rfl
        by_cases hc73 : f4 = (0 : Int32)
        · refine Fin.by (fun t k => XS.ifYes X119.here hx rfl (pc0 := 73) (pc' := 97) rfl (hb hby at_73) rfl ((if0 _ _).trans (teq hc73).1) (by decide) (by decide) k) ?_
          show Fin _ _ _ _ _ _ _ (T119.setTop (mkF m 97 #[.val (.int p1), .val (.int p2), .val (.int p3), .val (.int f3), .val (.int f4), .val (.int f5), .val (.ref a101), .val .null, .unset, .unset] []))
          exact J97 T119 T119.heap _ Value.null (X119.more (by decide) (by decide)) rfl N119_ (Keep.refl T119.heap []) rfl
        · refine Fin.by (fun t k => XS.ifNo X119.here hx rfl (hb hby at_73) rfl ((if0 _ _).trans (feq hc73).1) k) ?_
          show Fin _ _ _ _ _ _ _ (T119.setTop (mkF m 76 #[.val (.int p1), .val (.int p2), .val (.int p3), .val (.int f3), .val (.int f4), .val (.int f5), .val (.ref a101), .val .null, .unset, .unset] []))
          obtain ⟨T127, h127, X127, e127, E127, A127, D127, -, st127⟩ := newO X119 hx hZ hown (hw _ (List.mem_of_getElem? (i := 42) rfl)) (hw _ (List.mem_of_getElem? (i := 43) rfl)) (hw _ (List.mem_of_getElem? (i := 44) rfl)) rfl (g := (mkF m 76 #[.val (.int p1), .val (.int p2), .val (.int p3), .val (.int f3), .val (.int f4), .val (.int f5), .val (.ref a101), .val .null, .unset, .unset] [])) rfl (hb hby at_76) (by decide) (by decide)
          obtain ⟨a127, g127⟩ : ∃ z, z = T119.heap.size := ⟨_, rfl⟩
          rw [← g127] at A127 D127 st127
          refine Fin.by (fun t k => st127 t k) ?_
          show Fin _ _ _ _ _ _ _ (T127.setTop (mkF m 79 #[.val (.int p1), .val (.int p2), .val (.int p3), .val (.int f3), .val (.int f4), .val (.int f5), .val (.ref a101), .val .null, .unset, .unset] [(.ref a127)]))
          refine Fin.by (fun t k => XS.dup X127.here hx rfl (hb hby at_79) rfl rfl k) ?_
          show Fin _ _ _ _ _ _ _ (T127.setTop (mkF m 80 #[.val (.int p1), .val (.int p2), .val (.int p3), .val (.int f3), .val (.int f4), .val (.int f5), .val (.ref a101), .val .null, .unset, .unset] [(.ref a127), (.ref a127)]))
          have O128 : Old Z n0 h127 := (((O108.keep p110_0 all0).keep p119_0 (allS g117 all0)).ext E127)
          obtain ⟨T129, X129, e129, st129⟩ := getS X127 hx hZ (host := "") hown (hw _ (List.mem_of_getElem? (i := 45) rfl)) Via.refl e127 (S5.ext O128.2) (g := (mkF m 80 #[.val (.int p1), .val (.int p2), .val (.int p3), .val (.int f3), .val (.int f4), .val (.int f5), .val (.ref a101), .val .null, .unset, .unset] [(.ref a127), (.ref a127)])) rfl (hb hby at_80)
          refine Fin.by (fun t k => st129 t k) ?_
          show Fin _ _ _ _ _ _ _ (T129.setTop (mkF m 83 #[.val (.int p1), .val (.int p2), .val (.int p3), .val (.int f3), .val (.int f4), .val (.int f5), .val (.ref a101), .val .null, .unset, .unset] [G5, (.ref a127), (.ref a127)]))
          refine Fin.by (fun t k => XS.iloadN X129.here hx rfl (hb hby at_83) rfl k) ?_
          show Fin _ _ _ _ _ _ _ (T129.setTop (mkF m 84 #[.val (.int p1), .val (.int p2), .val (.int p3), .val (.int f3), .val (.int f4), .val (.int f5), .val (.ref a101), .val .null, .unset, .unset] [(.int p2), G5, (.ref a127), (.ref a127)]))
          refine Fin.by (fun t k => XS.sipush X129.here hx rfl (hb hby at_84) k) ?_
          show Fin _ _ _ _ _ _ _ (T129.setTop (mkF m 87 #[.val (.int p1), .val (.int p2), .val (.int p3), .val (.int f3), .val (.int f4), .val (.int f5), .val (.ref a101), .val .null, .unset, .unset] [(.int (255 : Int32)), (.int p2), G5, (.ref a127), (.ref a127)]))
          refine Fin.by (fun t k => XS.iand X129.here hx rfl (hb hby at_87) rfl k) ?_
          show Fin _ _ _ _ _ _ _ (T129.setTop (mkF m 88 #[.val (.int p1), .val (.int p2), .val (.int p3), .val (.int f3), .val (.int f4), .val (.int f5), .val (.ref a101), .val .null, .unset, .unset] [(.int (p2 &&& (255 : Int32))), G5, (.ref a127), (.ref a127)]))
          refine Fin.by (fun t k => XS.i2c X129.here hx rfl (hb hby at_88) rfl k) ?_
          show Fin _ _ _ _ _ _ _ (T129.setTop (mkF m 89 #[.val (.int p1), .val (.int p2), .val (.int p3), .val (.int f3), .val (.int f4), .val (.int f5), .val (.ref a101), .val .null, .unset, .unset] [(.int ((p2 &&& (255 : Int32)).toUInt32.toUInt16.toUInt32.toInt32)), G5, (.ref a127), (.ref a127)]))
          have z130 : n0 ≤ h127.size := Nat.le_trans z118 (Nat.le_trans p119_0.1 E127.1)
          obtain ⟨v131, _, ⟨T131, L131, k131, n131⟩, -, X131, ⟨Lc131, hQ131, l131, y131, z131⟩, st131⟩ := Jvm.LawKit.callS X129 hx (y := (⟨"java/lang/String", "valueOf", "(C)Ljava/lang/String;"⟩ : MethodName)) hown (mvT hZ (hw _ (List.mem_of_getElem? (i := 3) rfl))) (mvT hZ (hw _ (List.mem_of_getElem? (i := 4) rfl))) (mvT hZ (hw _ (List.mem_of_getElem? (i := 5) rfl))) (mvT hZ (hw _ (List.mem_of_getElem? (i := 6) rfl))) (by decide) (backOf (W := 3) (rm_vof l Z a0 hw [] ((p2 &&& (255 : Int32)).toUInt32.toUInt16.toUInt32.toInt32) G1 h127 n0 z130 (own_i2c255 _) S1 P1 O128) hZ (hw _ (List.mem_of_getElem? (i := 6) rfl)) (hw _ (List.mem_of_getElem? (i := 5) rfl)) (by decide) (by decide)) (g := (mkF m 89 #[.val (.int p1), .val (.int p2), .val (.int p3), .val (.int f3), .val (.int f4), .val (.int f5), .val (.ref a101), .val .null, .unset, .unset] [(.int ((p2 &&& (255 : Int32)).toUInt32.toUInt16.toUInt32.toInt32)), G5, (.ref a127), (.ref a127)])) rfl (by rw [hml]; rfl) (argsL := [(.int ((p2 &&& (255 : Int32)).toUInt32.toUInt16.toUInt32.toInt32))]) (rest := [G5, (.ref a127), (.ref a127)]) (lenOf pd_155 rfl) rfl (by show 2 * 0 + _ ≤ _; simp only [List.map_cons, List.map_nil, cat_ref r5]; exact Nat.le_of_eq rfl) (hb hby at_89) (fun _ _ => ⟨rfl, e129, (by decide : 6 + 2 ≤ _), (by decide : 14 + 5 ≤ _)⟩)
          dsimp only [Pt.U, Pt.locs, Pt.cells, Pt.slots] at X131 l131 y131 z131 st131 hQ131
          subst l131 y131 z131
          obtain ⟨t132, b133, k134, rfl, Nq131, p131_0, p131_1, p131_2, p131_3, p131_4, p131_5, p131_6, p131_7⟩ := hQ131
          have N131_ := Fr.app N119_ Nq131
          refine Fin.by (fun t k => st131 t k) ?_
          show Fin _ _ _ _ _ _ _ (T131.setTop (mkF m 92 #[.val (.int p1), .val (.int p2), .val (.int p3), .val (.int f3), .val (.int f4), .val (.int f5), .val (.ref a101), .val .null, .unset, .unset] [(.ref t132), G5, (.ref a127), (.ref a127)]))
          have E135 : Exa Z T131.heap a127 "com/example/portcullis/portcullis/Principal" := (A127.keep p131_0)
          have F136 : Fld Z T131.heap a127 "com/example/portcullis/portcullis/Principal" "type" "Lcom/example/portcullis/portcullis/Principal$Type;" .null := ((D127 (Or.inr (hw _ (List.mem_of_getElem? (i := 53) rfl))) (ty := (.object "com/example/portcullis/portcullis/Principal$Type")) (by decide) : Fld Z h127 a127 "com/example/portcullis/portcullis/Principal" "type" "Lcom/example/portcullis/portcullis/Principal$Type;" .null).keep p131_0 nin0)
          have F137 : Fld Z T131.heap a127 "com/example/portcullis/portcullis/Principal" "id" "Ljava/lang/String;" .null := ((D127 (Or.inr (hw _ (List.mem_of_getElem? (i := 55) rfl))) (ty := (.object "java/lang/String")) (by decide) : Fld Z h127 a127 "com/example/portcullis/portcullis/Principal" "id" "Ljava/lang/String;" .null).keep p131_0 nin0)
          have z139 : n0 ≤ T119.heap.size := Nat.le_trans Z0 (Nat.le_trans (Nat.le_trans (Nat.le_trans E101.1 p104_0.1) p110_0.1) p119_0.1)
          have g138 : n0 ≤ a127 := Nat.le_trans z139 (Nat.le_of_eq g127.symm)
          have z140 : n0 ≤ T131.heap.size := Nat.le_trans z130 p131_0.1
          obtain ⟨v141, _, ⟨T141, L141, k141, n141⟩, -, X141, ⟨Lc141, hQ141, l141, y141, z141⟩, st141⟩ := X131.specialBack hx (y := (⟨"com/example/portcullis/portcullis/Principal", "<init>", "(Lcom/example/portcullis/portcullis/Principal$Type;Ljava/lang/String;)V"⟩ : MethodName)) rfl hown (mvT hZ (hw _ (List.mem_of_getElem? (i := 48) rfl))) (mvT hZ (hw _ (List.mem_of_getElem? (i := 49) rfl))) (mvT hZ (hw _ (List.mem_of_getElem? (i := 50) rfl))) (by decide) (backOf (W := 1) (rm_pri l Z a0 hw [] a127 G5 t132 T131.heap n0 z140 E135 F136 F137 g138 r5) hZ (hw _ (List.mem_of_getElem? (i := 50) rfl)) (hw _ (List.mem_of_getElem? (i := 44) rfl)) (by decide) (by decide)) (g := (mkF m 92 #[.val (.int p1), .val (.int p2), .val (.int p3), .val (.int f3), .val (.int f4), .val (.int f5), .val (.ref a101), .val .null, .unset, .unset] [(.ref t132), G5, (.ref a127), (.ref a127)])) rfl (by rw [hml]; rfl) (Steps.refl _) (a := a127) (argsL := [G5, (.ref t132)]) (rest := [(.ref a127)]) (lenOf pd_157 rfl) rfl (by show 2 * 0 + _ ≤ _; exact Nat.le_of_eq rfl) (hb hby at_92) (fun _ _ => ⟨rfl, rfl, (by decide : 8 + 0 ≤ _), (by decide : 19 + 0 ≤ _)⟩)
          dsimp only [Pt.U, Pt.locs, Pt.cells, Pt.slots] at X141 l141 y141 z141 st141 hQ141
          subst l141 y141 z141
          obtain ⟨rfl, Nq141, p141_0, p141_1⟩ := hQ141
          have N141_ := Fr.app N131_ Nq141
          refine Fin.byS st141 ?_
          show Fin _ _ _ _ _ _ _ (T141.setTop (mkF m 95 #[.val (.int p1), .val (.int p2), .val (.int p3), .val (.int f3), .val (.int f4), .val (.int f5), .val (.ref a101), .val .null, .unset, .unset] [(.ref a127)]))
          refine Fin.by (fun t k => XS.astore X141.here hx rfl (hb hby at_95) rfl rfl (l' := #[.val (.int p1), .val (.int p2), .val (.int p3), .val (.int f3), .val (.int f4), .val (.int f5), .val (.ref a101), .val (.ref a127), .unset, .unset]) rfl k) ?_
          show Fin _ _ _ _ _ _ _ (T141.setTop (mkF m 97 #[.val (.int p1), .val (.int p2), .val (.int p3), .val (.int f3), .val (.int f4), .val (.int f5), .val (.ref a101), .val (.ref a127), .unset, .unset] []))
          have kp142 : Keep T119.heap h127 [] := (Keep.refl T119.heap []).ext E127
          have kp143 : Keep T119.heap T131.heap [] := kp142.trans p131_0 all0
          have kp144 : Keep T119.heap T141.heap [] := kp143.trans p141_0 (allS (Or.inr (Nat.le_trans (Nat.le_refl _) (Nat.le_of_eq g127.symm))) all0)
          exact J97 T141 T141.heap _ (Value.ref a127) X141 rfl N141_ kp144 rfl
      by_cases hc36 : (p3 &&& (4 : Int32)) = (0 : Int32)
      · refine Fin.by (fun t k => XS.ifYes X0.here hx rfl (pc0 := 28) (pc' := 35) rfl (hb hby at_28) rfl ((if0 _ _).trans (teq hc36).1) (by decide) (by decide) k) ?_
        show Fin _ _ _ _ _ _ _ (s₁.setTop (mkF m 35 #[.val (.int p1), .val (.int p2), .val (.int p3), .val (.int f3), .val (.int f4), .unset, .unset, .unset, .unset, .unset] []))
        refine Fin.by (fun t k => XS.iconst X0.here hx rfl (hb hby at_35) k) ?_
        show Fin _ _ _ _ _ _ _ (s₁.setTop (mkF m 36 #[.val (.int p1), .val (.int p2), .val (.int p3), .val (.int f3), .val (.int f4), .unset, .unset, .unset, .unset, .unset] [(.int (0 : Int32))]))
        exact J36 (0 : Int32)
      · refine Fin.by (fun t k => XS.ifNo X0.here hx rfl (hb hby at_28) rfl ((if0 _ _).trans (feq hc36).1) k) ?_
        show Fin _ _ _ _ _ _ _ (s₁.setTop (mkF m 31 #[.val (.int p1), .val (.int p2), .val (.int p3), .val (.int f3), .val (.int f4), .unset, .unset, .unset, .unset, .unset] []))
        refine Fin.by (fun t k => XS.iconst X0.here hx rfl (hb hby at_31) k) ?_
        show Fin _ _ _ _ _ _ _ (s₁.setTop (mkF m 32 #[.val (.int p1), .val (.int p2), .val (.int p3), .val (.int f3), .val (.int f4), .unset, .unset, .unset, .unset, .unset] [(.int (1 : Int32))]))
        refine Fin.by (fun t k => XS.goto X0.here hx rfl (pc0 := 32) (pc' := 36) rfl (hb hby at_32) (by decide) (by decide) k) ?_
        show Fin _ _ _ _ _ _ _ (s₁.setTop (mkF m 36 #[.val (.int p1), .val (.int p2), .val (.int p3), .val (.int f3), .val (.int f4), .unset, .unset, .unset, .unset, .unset] [(.int (1 : Int32))]))
        exact J36 (1 : Int32)
    by_cases hc23 : (p3 &&& (2 : Int32)) = (0 : Int32)
    · refine Fin.by (fun t k => XS.ifYes X0.here hx rfl (pc0 := 15) (pc' := 22) rfl (hb hby at_15) rfl ((if0 _ _).trans (teq hc23).1) (by decide) (by decide) k) ?_
      show Fin _ _ _ _ _ _ _ (s₁.setTop (mkF m 22 #[.val (.int p1), .val (.int p2), .val (.int p3), .val (.int f3), .unset, .unset, .unset, .unset, .unset, .unset] []))
      refine Fin.by (fun t k => XS.iconst X0.here hx rfl (hb hby at_22) k) ?_
      show Fin _ _ _ _ _ _ _ (s₁.setTop (mkF m 23 #[.val (.int p1), .val (.int p2), .val (.int p3), .val (.int f3), .unset, .unset, .unset, .unset, .unset, .unset] [(.int (0 : Int32))]))
      exact J23 (0 : Int32)
    · refine Fin.by (fun t k => XS.ifNo X0.here hx rfl (hb hby at_15) rfl ((if0 _ _).trans (feq hc23).1) k) ?_
      show Fin _ _ _ _ _ _ _ (s₁.setTop (mkF m 18 #[.val (.int p1), .val (.int p2), .val (.int p3), .val (.int f3), .unset, .unset, .unset, .unset, .unset, .unset] []))
      refine Fin.by (fun t k => XS.iconst X0.here hx rfl (hb hby at_18) k) ?_
      show Fin _ _ _ _ _ _ _ (s₁.setTop (mkF m 19 #[.val (.int p1), .val (.int p2), .val (.int p3), .val (.int f3), .unset, .unset, .unset, .unset, .unset, .unset] [(.int (1 : Int32))]))
      refine Fin.by (fun t k => XS.goto X0.here hx rfl (pc0 := 19) (pc' := 23) rfl (hb hby at_19) (by decide) (by decide) k) ?_
      show Fin _ _ _ _ _ _ _ (s₁.setTop (mkF m 23 #[.val (.int p1), .val (.int p2), .val (.int p3), .val (.int f3), .unset, .unset, .unset, .unset, .unset, .unset] [(.int (1 : Int32))]))
      exact J23 (1 : Int32)
  by_cases hc11 : (p3 &&& (1 : Int32)) = (0 : Int32)
  · refine Fin.by (fun t k => XS.ifYes X0.here hx rfl (pc0 := 3) (pc' := 10) rfl (hb hby at_3) rfl ((if0 _ _).trans (teq hc11).1) (by decide) (by decide) k) ?_
    show Fin _ _ _ _ _ _ _ (s₁.setTop (mkF m 10 #[.val (.int p1), .val (.int p2), .val (.int p3), .unset, .unset, .unset, .unset, .unset, .unset, .unset] []))
    refine Fin.by (fun t k => XS.iconst X0.here hx rfl (hb hby at_10) k) ?_
    show Fin _ _ _ _ _ _ _ (s₁.setTop (mkF m 11 #[.val (.int p1), .val (.int p2), .val (.int p3), .unset, .unset, .unset, .unset, .unset, .unset, .unset] [(.int (0 : Int32))]))
    exact J11 (0 : Int32) (Or.inl rfl)
  · refine Fin.by (fun t k => XS.ifNo X0.here hx rfl (hb hby at_3) rfl ((if0 _ _).trans (feq hc11).1) k) ?_
    show Fin _ _ _ _ _ _ _ (s₁.setTop (mkF m 6 #[.val (.int p1), .val (.int p2), .val (.int p3), .unset, .unset, .unset, .unset, .unset, .unset, .unset] []))
    refine Fin.by (fun t k => XS.iconst X0.here hx rfl (hb hby at_6) k) ?_
    show Fin _ _ _ _ _ _ _ (s₁.setTop (mkF m 7 #[.val (.int p1), .val (.int p2), .val (.int p3), .unset, .unset, .unset, .unset, .unset, .unset, .unset] [(.int (1 : Int32))]))
    refine Fin.by (fun t k => XS.goto X0.here hx rfl (pc0 := 7) (pc' := 11) rfl (hb hby at_7) (by decide) (by decide) k) ?_
    show Fin _ _ _ _ _ _ _ (s₁.setTop (mkF m 11 #[.val (.int p1), .val (.int p2), .val (.int p3), .unset, .unset, .unset, .unset, .unset, .unset, .unset] [(.int (1 : Int32))]))
    exact J11 (1 : Int32) (Or.inr rfl)
set_option maxRecDepth 65536 in
set_option maxHeartbeats 40000000 in
theorem comes_1 {Post : Tables → Env → Array Value → State → Outcome → State → Prop} (hpost : ∀ tb e args s v u, (limb_1_1.after args s (.returned v) u = true ∧ limb_1_2.after args s (.returned v) u = true ∧ True) → FrameEnd s (.returned v) u (Jvm.fieldLocs frame_1_writes args s ++ Jvm.arrayLocs frame_1_arrays args s ++ Jvm.staticLocs frame_1_statics s) 40 192 → Post tb e args s (.returned v) u) :
    ArmFor flags0 classFile x code maxLocals ret World_1 tables_1 room_1 Calls_1 rest_1 Pre_1 Post := by
  intro l hfl _ _ p e ha hc hk s m args below hf hA hF happ hP
  obtain ⟨hcalls, hrest, hpre⟩ := hP
  obtain ⟨-, -, -, hnamed, -, -, -, hat⟩ := (Spec.applies_iff hf).mp happ
  obtain ⟨hg, hn⟩ := and_e (Cond.before_iff.mp (show (Jvm.Cond.and given_1 narrow_1).before args s = true from hpre))
  obtain ⟨q0, r0⟩ := and_e hg
  obtain ⟨q1, r1⟩ := and_e r0
  obtain ⟨q2, r2⟩ := and_e r1
  obtain ⟨w0, w1, w2, rfl⟩ : ∃ w0 w1 w2 : Value, args = #[w0, w1, w2] := by
    have hs : args.size = 3 := by simpa [Cond.value, given_1] using q0
    obtain ⟨L⟩ := args
    match L, hs with
    | [w0, w1, w2], _ => exact ⟨w0, w1, w2, rfl⟩
  have hw := fun d (hd : d ∈ tables_1) => atoms_spec (ws := Jvm.Cond.code x code maxLocals ret :: tables_1) hat d (List.mem_cons_of_mem _ hd)
  obtain ⟨hsets, hown0⟩ := atoms_of _ (rest_1_c_eq ▸ (show rest_1_c.before _ s = true from hrest))
  have hfit : Fit s := fun {y c} hc i hi => by
    obtain ⟨ha, rfl⟩ := Array.getElem?_eq_some_iff.mp hc
    have q := List.all_eq_true.mp ((Array.all_eq_true_iff_forall_mem.mp hF) _ (Array.getElem_mem ha)) i (List.mem_range.mpr hi)
    simpa [Array.getElem?_eq_getElem hi] using q
  obtain ⟨i0, e0⟩ := is_v q1
  obtain rfl : w0 = (.int i0) := Option.some.inj e0
  obtain ⟨i1, e1⟩ := is_v q2
  obtain rfl : w1 = (.int i1) := Option.some.inj e1
  obtain ⟨i2, e2⟩ := is_v r2
  obtain rfl : w2 = (.int i2) := Option.some.inj e2
  have nz_cs := not_v (Cond.before_iff.mp (hsets _ (List.mem_of_getElem? (i := 2) rfl)))
  obtain ⟨G1, ee_cs⟩ := is_v (Cond.before_iff.mp (hsets _ (List.mem_of_getElem? (i := 1) rfl)))
  have S1 : Sta s s.heap "java/lang/String" "COMPACT_STRINGS" "Z" (.int G1) := Sta.start ee_cs (Or.inl (hsets _ (List.mem_of_getElem? (i := 0) rfl)))
  have P1 : ¬ (G1 = (0 : Int32)) := gotF (Cond.eq_ints ee_cs (Term.int_eval (0))) nz_cs
  have hx1 := Cond.before_iff.mp (hsets _ (List.mem_of_getElem? (i := 11) rfl))
  obtain ⟨aE, evE⟩ := exa_v hx1
  have S2 : Sta s s.heap "java/util/ImmutableCollections" "EMPTY_LIST" "Ljava/util/ImmutableCollections$ListN;" (.ref aE) := Sta.start evE (Or.inl (hsets _ (List.mem_of_getElem? (i := 10) rfl)))
  have EE : Exa s s.heap aE "java/util/ImmutableCollections$ListN" := Exa.start evE hx1
  have hx2 := Cond.before_iff.mp (hsets _ (List.mem_of_getElem? (i := 12) rfl))
  obtain ⟨bE, evB⟩ := arr_v hx2
  have EF : Fld s s.heap aE "java/util/ImmutableCollections$ListN" "elements" "[Ljava/lang/Object;" (.ref bE) := Fld.start ((fld_at evE).symm.trans evB)
  obtain ⟨clE, AE⟩ := Arr.start evB hx2
  have hz0 : clE.slots.size = 0 := own_len0 evB AE (Cond.before_iff.mp (hsets _ (List.mem_of_getElem? (i := 14) rfl)))
  have EV : Arv s s.heap bE clE.cls (.object "java/lang/Object") (0 : Int32) [] .null := Arv.start hfit AE (by rw [hz0]; decide) (by rw [hz0]; rfl) (by decide) rfl trivial
  obtain ⟨G5, e5, f5⟩ := static_fit hfit (hw _ (List.mem_of_getElem? (i := 47) rfl)) (ty := .object "com/example/portcullis/portcullis/Principal$Type") (by decide)
  have r5 := fit_R f5 rfl
  have S5 : Sta s s.heap "com/example/portcullis/portcullis/Principal$Type" "IDENTITY" "Lcom/example/portcullis/portcullis/Principal$Type;" G5 := Sta.start e5 (Or.inr ⟨(hw _ (List.mem_of_getElem? (i := 46) rfl)), (hw _ (List.mem_of_getElem? (i := 47) rfl))⟩)
  obtain ⟨n, o, h1, h2, h3, _, L, rfl, ⟨rfl, N⟩, hq⟩ := rm_law l s _ hw tables_1 i0 i1 i2 G1 G5 aE bE clE.cls s.heap s.heap.size (Nat.le_refl _) S1 P1 S2 S5 r5 (Old.start s) EE EF EV p e ha hc hk s m _ below hf ((Spec.applies_iff_loose hf).mp happ).1 ⟨rfl, State.Warmed39.refl s, rfl⟩ trivial
  refine ⟨n, _, h1, h2, h3, hpost _ _ _ _ _ _ ⟨Cond.after_iff.mpr rfl, Cond.after_iff.mpr (eq_i res_at (Term.int_eval (1)) rfl), trivial⟩ ⟨hq.1, hq.2.1, (hq.2.2.sift fun y hy => Or.inr (N y hy)).mono (by decide) (by decide)⟩⟩
theorem main_1_1 : Claimed_1_1 := comes_1 fun _ _ _ _ _ _ h hF => ⟨h.1, hF⟩
theorem main_1_2 : Claimed_1_2 := comes_1 fun _ _ _ _ _ _ h hF => ⟨h.2.1, hF⟩
end Jvm.Pilot.@@N@@
namespace Jvm.Pilot.@@N@@
open Jvm Jvm.ClassFile Sem Op Lib Jvm.Free Jvm.Stand Jvm.Pilot.@@N@@.Jvm.D
/-! MADE BY PROGRAM (witnessworld.py) out of the Statement's table words and the real class files: 35 classes; the members and pool entries that the words name. The judged class is class 1, her method 1. -/
namespace start1
open Jvm.ClassFile
def u (s : String) : CpInfo := .utf8 (stringToUtf16 s)
/-- a pool by its gaps: so many unusable entries, then the entry; so many at the end -/
def gap : Nat → List CpInfo → List CpInfo
  | 0, r => r
  | n + 1, r => .unusable :: gap n r
def poolList (es : List (Nat × CpInfo)) (last : Nat) : List CpInfo := es.foldr (fun e r => gap e.1 (e.2 :: r)) (gap last [])
def pool (es : List (Nat × CpInfo)) (last : Nat) : Array CpInfo := ⟨poolList es last⟩
def fileOf (pool : Array CpInfo) (this : Nat) (attrs : Array Attribute := #[]) (ms : Array MethodInfo := #[]) (fl : Nat := 33) (sup : Nat := 0) (ifs : Array Nat := #[]) (fds : Array FieldInfo := #[]) : ClassFile where
  minorVersion := 0
  majorVersion := 65
  constantPool := pool
  accessFlags := fl
  thisClass := this
  superClass := sup
  interfaces := ifs
  fields := fds
  methods := ms
  attributes := attrs
def plain (name : String) (sup : Option ClassId) : Class where
  name := name
  kind := .ordinary
  loader := none
  accessFlags := 33
  super := sup
  interfaces := #[]
  cf := none
  fields := #[]
  methods := #[]
  instanceTypes := #[]
  staticTypes := #[]
  resolved := #[]
  callSites := []
  init := .initialized
  statics := none
  mirror := none

def pool0 : Array CpInfo := pool [(5, u "<init>"), (0, u "()V"), (1, .class_ 10), (1, u "java/lang/Object")] 113

def k0c0 : Code := { maxStack := 0, maxLocals := 1, code := object_method_1_code, exceptionTable := #[], attributes := #[] }
def k0m0 : Method := { name := "<init>", desc := "()V", sig := { parameters := [], returnType := none }, accessFlags := 1, code := some k0c0 }
/-- java/lang/Object -/
def k0 : Class := { plain "java/lang/Object" none with
  accessFlags := 33
  interfaces := #[]
  cf := some (fileOf pool0 8 #[] #[{ accessFlags := 1, nameIndex := 5, descriptorIndex := 6, attributes := #[] }] 33 0 #[] #[])
  fields := #[]
  methods := #[k0m0]
  instanceTypes := #[]
  staticTypes := #[]
  resolved := Array.replicate 124 none
  statics := none }

def pool1 : Array CpInfo := pool [(2, .class_ 4), (1, u "java/lang/Object"), (0, u "<init>"), (0, u "()V"), (0, .class_ 8), (0, u "com/example/portcullis/portcullis/ResourceName"), (0, .methodref 10 11), (0, .class_ 12), (0, .nameAndType 13 14), (0, u "java/lang/String"), (0, u "valueOf"), (0, u "(C)Ljava/lang/String;"), (0, .methodref 7 16), (0, .nameAndType 5 17), (0, u "(Ljava/lang/String;Ljava/lang/String;)V"), (0, .class_ 19), (0, u "com/example/portcullis/portcullis/Principal"), (0, .fieldref 21 22), (0, .class_ 23), (0, .nameAndType 24 25), (0, u "com/example/portcullis/portcullis/Principal$Type"), (0, u "IDENTITY"), (0, u "Lcom/example/portcullis/portcullis/Principal$Type;"), (0, .methodref 18 27), (0, .nameAndType 5 28), (0, u "(Lcom/example/portcullis/portcullis/Principal$Type;Ljava/lang/String;)V"), (0, .methodref 30 31), (0, .class_ 32), (0, .nameAndType 33 34), (0, u "com/example/portcullis/portcullis/Resource"), (0, u "created"), (0, u "(Lcom/example/portcullis/portcullis/ResourceName;Lcom/example/portcullis/portcullis/Principal;Lcom/example/portcullis/portcullis/ResourceName;Z)Lcom/example/portcullis/portcullis/Resource;"), (0, .methodref 30 36), (0, .nameAndType 37 38), (0, u "name"), (0, u "()Lcom/example/portcullis/portcullis/ResourceName;"), (0, .methodref 30 40), (0, .nameAndType 41 42), (0, u "owner"), (0, u "()Lcom/example/portcullis/portcullis/Principal;"), (0, .methodref 30 44), (0, .nameAndType 45 38), (0, u "parent"), (0, .methodref 30 47), (0, .nameAndType 48 49), (0, u "managed"), (0, u "()Z"), (0, .methodref 30 51), (0, .nameAndType 52 53), (0, u "roles"), (0, u "()Lcom/example/portcullis/portcullis/Grants;"), (0, .methodref 55 56), (0, .class_ 57), (0, .nameAndType 58 59), (0, u "com/example/portcullis/portcullis/Grants"), (0, u "size"), (0, u "()I"), (0, .methodref 30 61), (0, .nameAndType 62 53), (0, u "access"), (0, .class_ 64), (0, u "com/example/portcullis/portcullis/ResourceCreatedPinLaw"), (2, u "law"), (0, u "(III)Z")] 5

def k1m0 : Method := { name := "<init>", desc := "()V", sig := { parameters := [], returnType := none }, accessFlags := 1, code := none }
def k1c1 : Code := { maxStack := 5, maxLocals := 10, code := code, exceptionTable := #[], attributes := #[] }
def k1m1 : Method := { name := "law", desc := "(III)Z", sig := { parameters := [.int, .int, .int], returnType := some .boolean }, accessFlags := 9, code := some k1c1 }
/-- com/example/portcullis/portcullis/ResourceCreatedPinLaw -/
def k1 : Class := { plain "com/example/portcullis/portcullis/ResourceCreatedPinLaw" (some 0) with
  accessFlags := 49
  interfaces := #[]
  cf := some (fileOf pool1 63 #[] #[{ accessFlags := 1, nameIndex := 5, descriptorIndex := 6, attributes := #[] }, { accessFlags := 9, nameIndex := 67, descriptorIndex := 68, attributes := #[] }] 49 2 #[] #[])
  fields := #[]
  methods := #[k1m0, k1m1]
  instanceTypes := #[]
  staticTypes := #[]
  resolved := Array.replicate 74 none
  statics := none }

def pool2 : Array CpInfo := pool [(1, .methodref 2 3), (0, .class_ 4), (0, .nameAndType 5 6), (0, u "java/lang/Object"), (0, u "<init>"), (0, u "()V"), (0, .class_ 8), (0, u "java/lang/Record")] 13

def k2c0 : Code := { maxStack := 1, maxLocals := 1, code := jdk_30_method_1_code, exceptionTable := #[], attributes := #[] }
def k2m0 : Method := { name := "<init>", desc := "()V", sig := { parameters := [], returnType := none }, accessFlags := 4, code := some k2c0 }
/-- java/lang/Record -/
def k2 : Class := { plain "java/lang/Record" (some 0) with
  accessFlags := 1057
  interfaces := #[]
  cf := some (fileOf pool2 7 #[] #[{ accessFlags := 4, nameIndex := 5, descriptorIndex := 6, attributes := #[] }] 1057 2 #[] #[])
  fields := #[]
  methods := #[k2m0]
  instanceTypes := #[]
  staticTypes := #[]
  resolved := Array.replicate 22 none
  statics := none }

def pool3 : Array CpInfo := pool [(1, .methodref 2 3), (0, .class_ 4), (0, .nameAndType 5 6), (0, u "java/lang/Record"), (0, u "<init>"), (0, u "()V"), (0, .fieldref 8 9), (0, .class_ 10), (0, .nameAndType 11 12), (0, u "com/example/portcullis/portcullis/ResourceName"), (0, u "type"), (0, u "Ljava/lang/String;"), (0, .fieldref 8 14), (0, .nameAndType 15 12), (0, u "id"), (21, u "(Ljava/lang/String;Ljava/lang/String;)V")] 63

def k3c0 : Code := { maxStack := 2, maxLocals := 3, code := prog_25_method_1_code, exceptionTable := #[], attributes := #[] }
def k3m0 : Method := { name := "<init>", desc := "(Ljava/lang/String;Ljava/lang/String;)V", sig := { parameters := [(.object "java/lang/String"), (.object "java/lang/String")], returnType := none }, accessFlags := 0, code := some k3c0 }
/-- com/example/portcullis/portcullis/ResourceName -/
def k3 : Class := { plain "com/example/portcullis/portcullis/ResourceName" (some 2) with
  accessFlags := 48
  interfaces := #[]
  cf := some (fileOf pool3 8 #[] #[{ accessFlags := 0, nameIndex := 5, descriptorIndex := 37, attributes := #[] }] 48 2 #[] #[{ accessFlags := 18, nameIndex := 11, descriptorIndex := 12, attributes := #[] }, { accessFlags := 18, nameIndex := 15, descriptorIndex := 12, attributes := #[] }])
  fields := #[{ name := "type", type := (.object "java/lang/String"), accessFlags := 18, slot := 0, constantValue := 0 }, { name := "id", type := (.object "java/lang/String"), accessFlags := 18, slot := 1, constantValue := 0 }]
  methods := #[k3m0]
  instanceTypes := #[(.object "java/lang/String"), (.object "java/lang/String")]
  staticTypes := #[]
  resolved := Array.replicate 101 none
  statics := none }

def pool4 : Array CpInfo := pool [(1, .class_ 2), (0, u "java/io/Serializable"), (0, .class_ 4), (0, u "java/lang/Object")] 2

/-- java/io/Serializable -/
def k4 : Class := { plain "java/io/Serializable" (some 0) with
  accessFlags := 1537
  interfaces := #[]
  cf := some (fileOf pool4 1 #[] #[] 1537 3 #[] #[])
  fields := #[]
  methods := #[]
  instanceTypes := #[]
  staticTypes := #[]
  resolved := Array.replicate 7 none
  statics := none }

def pool5 : Array CpInfo := pool [(1, .class_ 2), (0, u "java/lang/Comparable"), (0, .class_ 4), (0, u "java/lang/Object")] 7

/-- java/lang/Comparable -/
def k5 : Class := { plain "java/lang/Comparable" (some 0) with
  accessFlags := 1537
  interfaces := #[]
  cf := some (fileOf pool5 1 #[] #[] 1537 3 #[] #[])
  fields := #[]
  methods := #[]
  instanceTypes := #[]
  staticTypes := #[]
  resolved := Array.replicate 12 none
  statics := none }

def pool6 : Array CpInfo := pool [(2, .class_ 4), (1, u "java/lang/CharSequence"), (42, .class_ 48), (0, u "java/lang/CharSequence$1CodePointIterator"), (10, .class_ 60), (0, u "java/lang/CharSequence$1CharIterator"), (5, .class_ 67), (0, u "java/lang/Object")] 63

/-- java/lang/CharSequence -/
def k6 : Class := { plain "java/lang/CharSequence" (some 0) with
  accessFlags := 1537
  interfaces := #[]
  cf := some (fileOf pool6 2 #[.nestMembers #[47, 59]] #[] 1537 66 #[] #[])
  fields := #[]
  methods := #[]
  instanceTypes := #[]
  staticTypes := #[]
  resolved := Array.replicate 131 none
  statics := none }

def pool7 : Array CpInfo := pool [(1, .class_ 2), (0, u "java/lang/constant/Constable"), (0, .class_ 4), (0, u "java/lang/Object")] 6

/-- java/lang/constant/Constable -/
def k7 : Class := { plain "java/lang/constant/Constable" (some 0) with
  accessFlags := 1537
  interfaces := #[]
  cf := some (fileOf pool7 1 #[] #[] 1537 3 #[] #[])
  fields := #[]
  methods := #[]
  instanceTypes := #[]
  staticTypes := #[]
  resolved := Array.replicate 11 none
  statics := none }

def pool8 : Array CpInfo := pool [(1, .class_ 2), (0, u "java/lang/constant/ConstantDesc"), (0, .class_ 4), (0, u "java/lang/Object")] 32

/-- java/lang/constant/ConstantDesc -/
def k8 : Class := { plain "java/lang/constant/ConstantDesc" (some 0) with
  accessFlags := 1537
  interfaces := #[]
  cf := some (fileOf pool8 1 #[] #[] 1537 3 #[] #[])
  fields := #[]
  methods := #[]
  instanceTypes := #[]
  staticTypes := #[]
  resolved := Array.replicate 37 none
  statics := none }

def pool9 : Array CpInfo := pool [(1, .methodref 2 3), (0, .class_ 4), (0, .nameAndType 5 6), (0, u "java/lang/Object"), (0, u "<init>"), (0, u "()V"), (2, .fieldref 10 11), (0, .class_ 12), (0, .nameAndType 13 14), (0, u "java/lang/String"), (0, u "value"), (0, u "[B"), (0, .fieldref 10 16), (0, .nameAndType 17 18), (0, u "coder"), (0, u "B"), (2, u "hash"), (0, u "I"), (2, u "hashIsZero"), (0, u "Z"), (11, .fieldref 10 39), (0, .nameAndType 40 26), (0, u "COMPACT_STRINGS"), (12, u "toBytes"), (53, .class_ 109), (1, u "java/lang/StringLatin1"), (99, .methodref 10 210), (0, .nameAndType 5 211), (0, u "([BB)V"), (157, u "(C)Z"), (205, .class_ 576), (0, u "java/lang/CharSequence"), (22, u "CASE_INSENSITIVE_ORDER"), (0, u "Ljava/util/Comparator;"), (181, u "valueOf"), (0, u "(C)Ljava/lang/String;"), (231, .methodref 107 1016), (0, .nameAndType 1017 369), (0, u "canEncode"), (0, .methodref 107 1019), (0, .nameAndType 53 1020), (0, u "(C)[B"), (80, u "serialPersistentFields"), (0, u "[Ljava/io/ObjectStreamField;"), (0, .class_ 1104), (0, u "java/lang/String$CaseInsensitiveComparator"), (1, .class_ 1107), (0, u "java/io/Serializable"), (0, .class_ 1109), (0, u "java/lang/Comparable"), (0, .class_ 1111), (0, u "java/lang/constant/Constable"), (0, .class_ 1113), (0, u "java/lang/constant/ConstantDesc"), (2, u "serialVersionUID"), (0, u "J"), (3, u "REPL"), (0, u "C"), (2, u "LATIN1"), (1, u "UTF16")] 323

def k9m0 : Method := { name := "<init>", desc := "()V", sig := { parameters := [], returnType := none }, accessFlags := 1, code := none }
def k9c1 : Code := { maxStack := 4, maxLocals := 1, code := jdk_42_method_139_code, exceptionTable := #[], attributes := #[] }
def k9m1 : Method := { name := "valueOf", desc := "(C)Ljava/lang/String;", sig := { parameters := [.char], returnType := some (.object "java/lang/String") }, accessFlags := 9, code := some k9c1 }
def k9c2 : Code := { maxStack := 2, maxLocals := 3, code := jdk_42_method_151_code, exceptionTable := #[], attributes := #[] }
def k9m2 : Method := { name := "<init>", desc := "([BB)V", sig := { parameters := [(.array .byte), .byte], returnType := none }, accessFlags := 0, code := some k9c2 }
/-- java/lang/String -/
def k9 : Class := { plain "java/lang/String" (some 0) with
  accessFlags := 49
  interfaces := #[4, 5, 6, 7, 8]
  cf := some (fileOf pool9 10 #[.nestMembers #[1103]] #[{ accessFlags := 1, nameIndex := 5, descriptorIndex := 6, attributes := #[] }, { accessFlags := 9, nameIndex := 782, descriptorIndex := 783, attributes := #[] }, { accessFlags := 0, nameIndex := 5, descriptorIndex := 211, attributes := #[] }] 49 2 #[1106, 1108, 575, 1110, 1112] #[{ accessFlags := 18, nameIndex := 13, descriptorIndex := 14, attributes := #[] }, { accessFlags := 18, nameIndex := 17, descriptorIndex := 18, attributes := #[] }, { accessFlags := 2, nameIndex := 21, descriptorIndex := 22, attributes := #[] }, { accessFlags := 2, nameIndex := 25, descriptorIndex := 26, attributes := #[] }, { accessFlags := 26, nameIndex := 1116, descriptorIndex := 1117, attributes := #[] }, { accessFlags := 24, nameIndex := 40, descriptorIndex := 26, attributes := #[] }, { accessFlags := 26, nameIndex := 1101, descriptorIndex := 1102, attributes := #[] }, { accessFlags := 26, nameIndex := 1121, descriptorIndex := 1122, attributes := #[] }, { accessFlags := 25, nameIndex := 599, descriptorIndex := 600, attributes := #[] }, { accessFlags := 24, nameIndex := 1125, descriptorIndex := 18, attributes := #[] }, { accessFlags := 24, nameIndex := 1127, descriptorIndex := 18, attributes := #[] }])
  fields := #[{ name := "value", type := (.array .byte), accessFlags := 18, slot := 0, constantValue := 0 }, { name := "coder", type := .byte, accessFlags := 18, slot := 1, constantValue := 0 }, { name := "hash", type := .int, accessFlags := 2, slot := 2, constantValue := 0 }, { name := "hashIsZero", type := .boolean, accessFlags := 2, slot := 3, constantValue := 0 }, { name := "serialVersionUID", type := .long, accessFlags := 26, slot := 0, constantValue := 0 }, { name := "COMPACT_STRINGS", type := .boolean, accessFlags := 24, slot := 1, constantValue := 0 }, { name := "serialPersistentFields", type := (.array (.object "java/io/ObjectStreamField")), accessFlags := 26, slot := 2, constantValue := 0 }, { name := "REPL", type := .char, accessFlags := 26, slot := 3, constantValue := 0 }, { name := "CASE_INSENSITIVE_ORDER", type := (.object "java/util/Comparator"), accessFlags := 25, slot := 4, constantValue := 0 }, { name := "LATIN1", type := .byte, accessFlags := 24, slot := 5, constantValue := 0 }, { name := "UTF16", type := .byte, accessFlags := 24, slot := 6, constantValue := 0 }]
  methods := #[k9m0, k9m1, k9m2]
  instanceTypes := #[(.array .byte), .byte, .int, .boolean]
  staticTypes := #[.long, .boolean, (.array (.object "java/io/ObjectStreamField")), .char, (.object "java/util/Comparator"), .byte, .byte]
  resolved := Array.replicate 1451 none
  statics := some 0 }

def pool10 : Array CpInfo := pool [(4, .class_ 6), (1, u "java/lang/Object"), (0, u "<init>"), (0, u "()V"), (5, .class_ 16), (1, u "java/lang/StringLatin1"), (73, u "canEncode"), (14, u "(C)Z"), (15, u "$assertionsDisabled"), (0, u "Z"), (98, .class_ 223), (1, u "java/lang/StringLatin1$LinesSpliterator"), (156, u "toBytes"), (1, u "(C)[B"), (7, .class_ 391), (0, u "java/lang/StringLatin1$CharsSpliterator")] 3

def k10m0 : Method := { name := "<init>", desc := "()V", sig := { parameters := [], returnType := none }, accessFlags := 0, code := none }
def k10c1 : Code := { maxStack := 2, maxLocals := 1, code := jdk_43_method_3_code, exceptionTable := #[], attributes := #[] }
def k10m1 : Method := { name := "canEncode", desc := "(C)Z", sig := { parameters := [.char], returnType := some .boolean }, accessFlags := 9, code := some k10c1 }
def k10c2 : Code := { maxStack := 4, maxLocals := 1, code := jdk_43_method_46_code, exceptionTable := #[], attributes := #[] }
def k10m2 : Method := { name := "toBytes", desc := "(C)[B", sig := { parameters := [.char], returnType := some (.array .byte) }, accessFlags := 9, code := some k10c2 }
/-- java/lang/StringLatin1 -/
def k10 : Class := { plain "java/lang/StringLatin1" (some 0) with
  accessFlags := 48
  interfaces := #[]
  cf := some (fileOf pool10 14 #[.nestMembers #[390, 221]] #[{ accessFlags := 0, nameIndex := 7, descriptorIndex := 8, attributes := #[] }, { accessFlags := 9, nameIndex := 90, descriptorIndex := 105, attributes := #[] }, { accessFlags := 9, nameIndex := 380, descriptorIndex := 382, attributes := #[] }] 48 4 #[] #[{ accessFlags := 4120, nameIndex := 121, descriptorIndex := 122, attributes := #[] }])
  fields := #[{ name := "$assertionsDisabled", type := .boolean, accessFlags := 4120, slot := 0, constantValue := 0 }]
  methods := #[k10m0, k10m1, k10m2]
  instanceTypes := #[]
  staticTypes := #[.boolean]
  resolved := Array.replicate 395 none
  statics := none }

def pool11 : Array CpInfo := pool [(1, .methodref 2 3), (0, .class_ 4), (0, .nameAndType 5 6), (0, u "java/lang/Record"), (0, u "<init>"), (0, u "()V"), (0, .fieldref 8 9), (0, .class_ 10), (0, .nameAndType 11 12), (0, u "com/example/portcullis/portcullis/Principal"), (0, u "type"), (0, u "Lcom/example/portcullis/portcullis/Principal$Type;"), (0, .fieldref 8 14), (0, .nameAndType 15 16), (0, u "id"), (0, u "Ljava/lang/String;"), (16, .class_ 35), (1, u "com/example/portcullis/portcullis/Principal$Type"), (21, u "(Lcom/example/portcullis/portcullis/Principal$Type;Ljava/lang/String;)V"), (33, u "ALL_AUTHENTICATED_USERS"), (0, u "Lcom/example/portcullis/portcullis/Principal;"), (2, u "ANONYMOUS")] 81

def k11c0 : Code := { maxStack := 2, maxLocals := 3, code := prog_17_method_1_code, exceptionTable := #[], attributes := #[] }
def k11m0 : Method := { name := "<init>", desc := "(Lcom/example/portcullis/portcullis/Principal$Type;Ljava/lang/String;)V", sig := { parameters := [(.object "com/example/portcullis/portcullis/Principal$Type"), (.object "java/lang/String")], returnType := none }, accessFlags := 0, code := some k11c0 }
/-- com/example/portcullis/portcullis/Principal -/
def k11 : Class := { plain "com/example/portcullis/portcullis/Principal" (some 2) with
  accessFlags := 48
  interfaces := #[]
  cf := some (fileOf pool11 8 #[.nestMembers #[33]] #[{ accessFlags := 0, nameIndex := 5, descriptorIndex := 57, attributes := #[] }] 48 2 #[] #[{ accessFlags := 18, nameIndex := 11, descriptorIndex := 12, attributes := #[] }, { accessFlags := 18, nameIndex := 15, descriptorIndex := 16, attributes := #[] }, { accessFlags := 24, nameIndex := 95, descriptorIndex := 92, attributes := #[] }, { accessFlags := 24, nameIndex := 91, descriptorIndex := 92, attributes := #[] }])
  fields := #[{ name := "type", type := (.object "com/example/portcullis/portcullis/Principal$Type"), accessFlags := 18, slot := 0, constantValue := 0 }, { name := "id", type := (.object "java/lang/String"), accessFlags := 18, slot := 1, constantValue := 0 }, { name := "ANONYMOUS", type := (.object "com/example/portcullis/portcullis/Principal"), accessFlags := 24, slot := 0, constantValue := 0 }, { name := "ALL_AUTHENTICATED_USERS", type := (.object "com/example/portcullis/portcullis/Principal"), accessFlags := 24, slot := 1, constantValue := 0 }]
  methods := #[k11m0]
  instanceTypes := #[(.object "com/example/portcullis/portcullis/Principal$Type"), (.object "java/lang/String")]
  staticTypes := #[(.object "com/example/portcullis/portcullis/Principal"), (.object "com/example/portcullis/portcullis/Principal")]
  resolved := Array.replicate 177 none
  statics := none }

def pool12 : Array CpInfo := pool [(2, .class_ 4), (1, u "java/lang/Enum"), (0, u "name"), (0, u "Ljava/lang/String;"), (2, u "ordinal"), (0, u "I"), (1, .class_ 14), (1, u "java/lang/Object"), (4, u "hash"), (86, .class_ 108), (1, u "java/lang/Enum$EnumDesc"), (2, .class_ 112), (0, u "java/lang/constant/Constable"), (0, .class_ 114), (0, u "java/lang/Comparable"), (0, .class_ 116), (0, u "java/io/Serializable")] 87

/-- java/lang/Enum -/
def k12 : Class := { plain "java/lang/Enum" (some 0) with
  accessFlags := 1057
  interfaces := #[7, 5, 4]
  cf := some (fileOf pool12 2 #[.nestMembers #[106]] #[] 1057 12 #[111, 113, 115] #[{ accessFlags := 18, nameIndex := 5, descriptorIndex := 6, attributes := #[] }, { accessFlags := 18, nameIndex := 9, descriptorIndex := 10, attributes := #[] }, { accessFlags := 2, nameIndex := 19, descriptorIndex := 10, attributes := #[] }])
  fields := #[{ name := "name", type := (.object "java/lang/String"), accessFlags := 18, slot := 0, constantValue := 0 }, { name := "ordinal", type := .int, accessFlags := 18, slot := 1, constantValue := 0 }, { name := "hash", type := .int, accessFlags := 2, slot := 2, constantValue := 0 }]
  methods := #[]
  instanceTypes := #[(.object "java/lang/String"), .int, .int]
  staticTypes := #[]
  resolved := Array.replicate 204 none
  statics := none }

def pool13 : Array CpInfo := pool [(1, .class_ 2), (0, u "com/example/portcullis/portcullis/Principal$Type"), (2, u "IDENTITY"), (0, u "Lcom/example/portcullis/portcullis/Principal$Type;"), (2, u "GROUP"), (2, u "ALL_AUTHENTICATED_USERS"), (2, u "ANONYMOUS"), (2, u "$VALUES"), (0, u "[Lcom/example/portcullis/portcullis/Principal$Type;"), (6, .class_ 28), (1, u "java/lang/Enum"), (8, u "word"), (0, u "Ljava/lang/String;"), (2, u "hasId"), (0, u "Z"), (32, .class_ 76), (0, u "com/example/portcullis/portcullis/Principal")] 2

/-- com/example/portcullis/portcullis/Principal$Type -/
def k13 : Class := { plain "com/example/portcullis/portcullis/Principal$Type" (some 12) with
  accessFlags := 16432
  interfaces := #[]
  cf := some (fileOf pool13 1 #[.nestHost 75] #[] 16432 26 #[] #[{ accessFlags := 16409, nameIndex := 5, descriptorIndex := 6, attributes := #[] }, { accessFlags := 16409, nameIndex := 9, descriptorIndex := 6, attributes := #[] }, { accessFlags := 16409, nameIndex := 12, descriptorIndex := 6, attributes := #[] }, { accessFlags := 16409, nameIndex := 15, descriptorIndex := 6, attributes := #[] }, { accessFlags := 16, nameIndex := 37, descriptorIndex := 38, attributes := #[] }, { accessFlags := 16, nameIndex := 41, descriptorIndex := 42, attributes := #[] }, { accessFlags := 4122, nameIndex := 18, descriptorIndex := 19, attributes := #[] }])
  fields := #[{ name := "IDENTITY", type := (.object "com/example/portcullis/portcullis/Principal$Type"), accessFlags := 16409, slot := 0, constantValue := 0 }, { name := "GROUP", type := (.object "com/example/portcullis/portcullis/Principal$Type"), accessFlags := 16409, slot := 1, constantValue := 0 }, { name := "ALL_AUTHENTICATED_USERS", type := (.object "com/example/portcullis/portcullis/Principal$Type"), accessFlags := 16409, slot := 2, constantValue := 0 }, { name := "ANONYMOUS", type := (.object "com/example/portcullis/portcullis/Principal$Type"), accessFlags := 16409, slot := 3, constantValue := 0 }, { name := "word", type := (.object "java/lang/String"), accessFlags := 16, slot := 3, constantValue := 0 }, { name := "hasId", type := .boolean, accessFlags := 16, slot := 4, constantValue := 0 }, { name := "$VALUES", type := (.array (.object "com/example/portcullis/portcullis/Principal$Type")), accessFlags := 4122, slot := 4, constantValue := 0 }]
  methods := #[]
  instanceTypes := #[(.object "java/lang/String"), .int, .int, (.object "java/lang/String"), .boolean]
  staticTypes := #[(.object "com/example/portcullis/portcullis/Principal$Type"), (.object "com/example/portcullis/portcullis/Principal$Type"), (.object "com/example/portcullis/portcullis/Principal$Type"), (.object "com/example/portcullis/portcullis/Principal$Type"), (.array (.object "com/example/portcullis/portcullis/Principal$Type"))]
  resolved := Array.replicate 79 none
  statics := some 1 }

def pool14 : Array CpInfo := pool [(1, .methodref 2 3), (0, .class_ 4), (0, .nameAndType 5 6), (0, u "java/lang/Record"), (0, u "<init>"), (0, u "()V"), (0, .fieldref 8 9), (0, .class_ 10), (0, .nameAndType 11 12), (0, u "com/example/portcullis/portcullis/Resource"), (0, u "name"), (0, u "Lcom/example/portcullis/portcullis/ResourceName;"), (0, .fieldref 8 14), (0, .nameAndType 15 16), (0, u "owner"), (0, u "Lcom/example/portcullis/portcullis/Principal;"), (0, .fieldref 8 18), (0, .nameAndType 19 12), (0, u "parent"), (0, .fieldref 8 21), (0, .nameAndType 22 23), (0, u "managed"), (0, u "Z"), (0, .fieldref 8 25), (0, .nameAndType 26 27), (0, u "roles"), (0, u "Lcom/example/portcullis/portcullis/Grants;"), (0, .fieldref 8 29), (0, .nameAndType 30 27), (0, u "access"), (0, .methodref 32 33), (0, .class_ 34), (0, .nameAndType 35 36), (0, u "com/example/portcullis/portcullis/Grants"), (0, u "none"), (0, u "()Lcom/example/portcullis/portcullis/Grants;"), (0, .methodref 8 38), (0, .nameAndType 5 39), (0, u "(Lcom/example/portcullis/portcullis/ResourceName;Lcom/example/portcullis/portcullis/Principal;Lcom/example/portcullis/portcullis/ResourceName;ZLcom/example/portcullis/portcullis/Grants;Lcom/example/portcullis/portcullis/Grants;)V"), (42, u "created"), (0, u "(Lcom/example/portcullis/portcullis/ResourceName;Lcom/example/portcullis/portcullis/Principal;Lcom/example/portcullis/portcullis/ResourceName;Z)Lcom/example/portcullis/portcullis/Resource;"), (19, u "()Lcom/example/portcullis/portcullis/ResourceName;"), (0, u "()Lcom/example/portcullis/portcullis/Principal;"), (0, u "()Z")] 27

def k14c0 : Code := { maxStack := 2, maxLocals := 7, code := prog_23_method_1_code, exceptionTable := #[], attributes := #[] }
def k14m0 : Method := { name := "<init>", desc := "(Lcom/example/portcullis/portcullis/ResourceName;Lcom/example/portcullis/portcullis/Principal;Lcom/example/portcullis/portcullis/ResourceName;ZLcom/example/portcullis/portcullis/Grants;Lcom/example/portcullis/portcullis/Grants;)V", sig := { parameters := [(.object "com/example/portcullis/portcullis/ResourceName"), (.object "com/example/portcullis/portcullis/Principal"), (.object "com/example/portcullis/portcullis/ResourceName"), .boolean, (.object "com/example/portcullis/portcullis/Grants"), (.object "com/example/portcullis/portcullis/Grants")], returnType := none }, accessFlags := 0, code := some k14c0 }
def k14c1 : Code := { maxStack := 8, maxLocals := 4, code := prog_23_method_2_code, exceptionTable := #[], attributes := #[] }
def k14m1 : Method := { name := "created", desc := "(Lcom/example/portcullis/portcullis/ResourceName;Lcom/example/portcullis/portcullis/Principal;Lcom/example/portcullis/portcullis/ResourceName;Z)Lcom/example/portcullis/portcullis/Resource;", sig := { parameters := [(.object "com/example/portcullis/portcullis/ResourceName"), (.object "com/example/portcullis/portcullis/Principal"), (.object "com/example/portcullis/portcullis/ResourceName"), .boolean], returnType := some (.object "com/example/portcullis/portcullis/Resource") }, accessFlags := 8, code := some k14c1 }
def k14c2 : Code := { maxStack := 1, maxLocals := 1, code := prog_23_method_15_code, exceptionTable := #[], attributes := #[] }
def k14m2 : Method := { name := "name", desc := "()Lcom/example/portcullis/portcullis/ResourceName;", sig := { parameters := [], returnType := some (.object "com/example/portcullis/portcullis/ResourceName") }, accessFlags := 1, code := some k14c2 }
def k14c3 : Code := { maxStack := 1, maxLocals := 1, code := prog_23_method_16_code, exceptionTable := #[], attributes := #[] }
def k14m3 : Method := { name := "owner", desc := "()Lcom/example/portcullis/portcullis/Principal;", sig := { parameters := [], returnType := some (.object "com/example/portcullis/portcullis/Principal") }, accessFlags := 1, code := some k14c3 }
def k14c4 : Code := { maxStack := 1, maxLocals := 1, code := prog_23_method_17_code, exceptionTable := #[], attributes := #[] }
def k14m4 : Method := { name := "parent", desc := "()Lcom/example/portcullis/portcullis/ResourceName;", sig := { parameters := [], returnType := some (.object "com/example/portcullis/portcullis/ResourceName") }, accessFlags := 1, code := some k14c4 }
def k14c5 : Code := { maxStack := 1, maxLocals := 1, code := prog_23_method_18_code, exceptionTable := #[], attributes := #[] }
def k14m5 : Method := { name := "managed", desc := "()Z", sig := { parameters := [], returnType := some .boolean }, accessFlags := 1, code := some k14c5 }
def k14c6 : Code := { maxStack := 1, maxLocals := 1, code := prog_23_method_19_code, exceptionTable := #[], attributes := #[] }
def k14m6 : Method := { name := "roles", desc := "()Lcom/example/portcullis/portcullis/Grants;", sig := { parameters := [], returnType := some (.object "com/example/portcullis/portcullis/Grants") }, accessFlags := 1, code := some k14c6 }
def k14c7 : Code := { maxStack := 1, maxLocals := 1, code := prog_23_method_20_code, exceptionTable := #[], attributes := #[] }
def k14m7 : Method := { name := "access", desc := "()Lcom/example/portcullis/portcullis/Grants;", sig := { parameters := [], returnType := some (.object "com/example/portcullis/portcullis/Grants") }, accessFlags := 1, code := some k14c7 }
/-- com/example/portcullis/portcullis/Resource -/
def k14 : Class := { plain "com/example/portcullis/portcullis/Resource" (some 2) with
  accessFlags := 48
  interfaces := #[]
  cf := some (fileOf pool14 8 #[] #[{ accessFlags := 0, nameIndex := 5, descriptorIndex := 39, attributes := #[] }, { accessFlags := 8, nameIndex := 82, descriptorIndex := 83, attributes := #[] }, { accessFlags := 1, nameIndex := 11, descriptorIndex := 103, attributes := #[] }, { accessFlags := 1, nameIndex := 15, descriptorIndex := 104, attributes := #[] }, { accessFlags := 1, nameIndex := 19, descriptorIndex := 103, attributes := #[] }, { accessFlags := 1, nameIndex := 22, descriptorIndex := 105, attributes := #[] }, { accessFlags := 1, nameIndex := 26, descriptorIndex := 36, attributes := #[] }, { accessFlags := 1, nameIndex := 30, descriptorIndex := 36, attributes := #[] }] 48 2 #[] #[{ accessFlags := 18, nameIndex := 11, descriptorIndex := 12, attributes := #[] }, { accessFlags := 18, nameIndex := 15, descriptorIndex := 16, attributes := #[] }, { accessFlags := 18, nameIndex := 19, descriptorIndex := 12, attributes := #[] }, { accessFlags := 18, nameIndex := 22, descriptorIndex := 23, attributes := #[] }, { accessFlags := 18, nameIndex := 26, descriptorIndex := 27, attributes := #[] }, { accessFlags := 18, nameIndex := 30, descriptorIndex := 27, attributes := #[] }])
  fields := #[{ name := "name", type := (.object "com/example/portcullis/portcullis/ResourceName"), accessFlags := 18, slot := 0, constantValue := 0 }, { name := "owner", type := (.object "com/example/portcullis/portcullis/Principal"), accessFlags := 18, slot := 1, constantValue := 0 }, { name := "parent", type := (.object "com/example/portcullis/portcullis/ResourceName"), accessFlags := 18, slot := 2, constantValue := 0 }, { name := "managed", type := .boolean, accessFlags := 18, slot := 3, constantValue := 0 }, { name := "roles", type := (.object "com/example/portcullis/portcullis/Grants"), accessFlags := 18, slot := 4, constantValue := 0 }, { name := "access", type := (.object "com/example/portcullis/portcullis/Grants"), accessFlags := 18, slot := 5, constantValue := 0 }]
  methods := #[k14m0, k14m1, k14m2, k14m3, k14m4, k14m5, k14m6, k14m7]
  instanceTypes := #[(.object "com/example/portcullis/portcullis/ResourceName"), (.object "com/example/portcullis/portcullis/Principal"), (.object "com/example/portcullis/portcullis/ResourceName"), .boolean, (.object "com/example/portcullis/portcullis/Grants"), (.object "com/example/portcullis/portcullis/Grants")]
  staticTypes := #[]
  resolved := Array.replicate 133 none
  statics := none }

def pool15 : Array CpInfo := pool [(8, .class_ 10), (1, u "java/lang/Iterable"), (24, .class_ 36), (0, u "java/lang/Object")] 25

/-- java/lang/Iterable -/
def k15 : Class := { plain "java/lang/Iterable" (some 0) with
  accessFlags := 1537
  interfaces := #[]
  cf := some (fileOf pool15 8 #[] #[] 1537 35 #[] #[])
  fields := #[]
  methods := #[]
  instanceTypes := #[]
  staticTypes := #[]
  resolved := Array.replicate 62 none
  statics := none }

def pool16 : Array CpInfo := pool [(10, .class_ 12), (1, u "java/util/Collection"), (47, .class_ 61), (0, u "java/lang/Object"), (0, .class_ 63), (0, u "java/lang/Iterable")] 51

/-- java/util/Collection -/
def k16 : Class := { plain "java/util/Collection" (some 0) with
  accessFlags := 1537
  interfaces := #[15]
  cf := some (fileOf pool16 10 #[] #[] 1537 60 #[62] #[])
  fields := #[]
  methods := #[]
  instanceTypes := #[]
  staticTypes := #[]
  resolved := Array.replicate 115 none
  statics := none }

def pool17 : Array CpInfo := pool [(1, .methodref 2 3), (0, .class_ 4), (0, .nameAndType 5 6), (0, u "java/lang/Object"), (0, u "<init>"), (0, u "()V"), (1, .class_ 10), (1, u "java/util/AbstractCollection"), (66, .class_ 78), (0, u "java/util/Collection")] 81

def k17c0 : Code := { maxStack := 1, maxLocals := 1, code := jdk_22_method_1_code, exceptionTable := #[], attributes := #[] }
def k17m0 : Method := { name := "<init>", desc := "()V", sig := { parameters := [], returnType := none }, accessFlags := 4, code := some k17c0 }
/-- java/util/AbstractCollection -/
def k17 : Class := { plain "java/util/AbstractCollection" (some 0) with
  accessFlags := 1057
  interfaces := #[16]
  cf := some (fileOf pool17 8 #[] #[{ accessFlags := 4, nameIndex := 5, descriptorIndex := 6, attributes := #[] }] 1057 2 #[77] #[])
  fields := #[]
  methods := #[k17m0]
  instanceTypes := #[]
  staticTypes := #[]
  resolved := Array.replicate 160 none
  statics := none }

def pool18 : Array CpInfo := pool [(8, .class_ 10), (1, u "java/util/SequencedCollection"), (15, .class_ 27), (0, u "java/lang/Object"), (0, .class_ 29), (0, u "java/util/Collection")] 27

/-- java/util/SequencedCollection -/
def k18 : Class := { plain "java/util/SequencedCollection" (some 0) with
  accessFlags := 1537
  interfaces := #[16]
  cf := some (fileOf pool18 8 #[] #[] 1537 26 #[28] #[])
  fields := #[]
  methods := #[]
  instanceTypes := #[]
  staticTypes := #[]
  resolved := Array.replicate 57 none
  statics := none }

def pool19 : Array CpInfo := pool [(8, .class_ 10), (1, u "java/util/List"), (68, u "size"), (0, u "()I"), (7, u "of"), (1, .fieldref 91 92), (0, .class_ 93), (0, .nameAndType 94 95), (0, u "java/util/ImmutableCollections"), (0, u "EMPTY_LIST"), (0, u "Ljava/util/ImmutableCollections$ListN;"), (7, .class_ 104), (0, u "java/lang/Object"), (14, u "()Ljava/util/List;"), (0, .class_ 121), (0, u "java/util/SequencedCollection")] 129

def k19m0 : Method := { name := "size", desc := "()I", sig := { parameters := [], returnType := some .int }, accessFlags := 1025, code := none }
def k19c1 : Code := { maxStack := 1, maxLocals := 0, code := jdk_40_method_36_code, exceptionTable := #[], attributes := #[] }
def k19m1 : Method := { name := "of", desc := "()Ljava/util/List;", sig := { parameters := [], returnType := some (.object "java/util/List") }, accessFlags := 9, code := some k19c1 }
/-- java/util/List -/
def k19 : Class := { plain "java/util/List" (some 0) with
  accessFlags := 1537
  interfaces := #[18]
  cf := some (fileOf pool19 8 #[] #[{ accessFlags := 1025, nameIndex := 79, descriptorIndex := 80, attributes := #[] }, { accessFlags := 9, nameIndex := 88, descriptorIndex := 119, attributes := #[] }] 1537 103 #[120] #[])
  fields := #[]
  methods := #[k19m0, k19m1]
  instanceTypes := #[]
  staticTypes := #[]
  resolved := Array.replicate 251 none
  statics := none }

def pool20 : Array CpInfo := pool [(1, .methodref 2 3), (0, .class_ 4), (0, .nameAndType 5 6), (0, u "java/util/AbstractCollection"), (0, u "<init>"), (0, u "()V"), (0, .fieldref 8 9), (0, .class_ 10), (0, .nameAndType 11 12), (0, u "java/util/AbstractList"), (0, u "modCount"), (0, u "I"), (64, .class_ 78), (0, u "java/util/AbstractList$Itr"), (3, .class_ 83), (0, u "java/util/AbstractList$ListItr"), (9, .class_ 94), (0, u "java/util/AbstractList$RandomAccessSubList"), (3, .class_ 99), (0, u "java/util/AbstractList$SubList"), (33, .class_ 134), (0, u "java/util/List"), (73, .class_ 209), (0, u "java/util/AbstractList$SubList$1"), (0, .class_ 211), (0, u "java/util/AbstractList$RandomAccessSpliterator")] 6

def k20c0 : Code := { maxStack := 2, maxLocals := 1, code := jdk_39_method_1_code, exceptionTable := #[], attributes := #[] }
def k20m0 : Method := { name := "<init>", desc := "()V", sig := { parameters := [], returnType := none }, accessFlags := 4, code := some k20c0 }
/-- java/util/AbstractList -/
def k20 : Class := { plain "java/util/AbstractList" (some 17) with
  accessFlags := 1057
  interfaces := #[19]
  cf := some (fileOf pool20 8 #[.nestMembers #[93, 98, 208, 210, 82, 77]] #[{ accessFlags := 4, nameIndex := 5, descriptorIndex := 6, attributes := #[] }] 1057 2 #[133] #[{ accessFlags := 132, nameIndex := 11, descriptorIndex := 12, attributes := #[] }])
  fields := #[{ name := "modCount", type := .int, accessFlags := 132, slot := 0, constantValue := 0 }]
  methods := #[k20m0]
  instanceTypes := #[.int]
  staticTypes := #[]
  resolved := Array.replicate 218 none
  statics := none }

def pool21 : Array CpInfo := pool [(1, .class_ 2), (0, u "java/util/RandomAccess"), (0, .class_ 4), (0, u "java/lang/Object")] 2

/-- java/util/RandomAccess -/
def k21 : Class := { plain "java/util/RandomAccess" (some 0) with
  accessFlags := 1537
  interfaces := #[]
  cf := some (fileOf pool21 1 #[] #[] 1537 3 #[] #[])
  fields := #[]
  methods := #[]
  instanceTypes := #[]
  staticTypes := #[]
  resolved := Array.replicate 7 none
  statics := none }

def pool22 : Array CpInfo := pool [(1, .methodref 2 3), (0, .class_ 4), (0, .nameAndType 5 6), (0, u "java/util/AbstractList"), (0, u "<init>"), (0, u "()V"), (0, .fieldref 8 9), (0, .class_ 10), (0, .nameAndType 11 12), (0, u "com/example/portcullis/portcullis/Grants"), (0, u "grants"), (0, u "Ljava/util/List;"), (0, .interfaceMethodref 14 15), (0, .class_ 16), (0, .nameAndType 17 18), (0, u "java/util/List"), (0, u "of"), (0, u "()Ljava/util/List;"), (0, .methodref 8 20), (0, .nameAndType 5 21), (0, u "(Ljava/util/List;)V"), (6, .interfaceMethodref 14 29), (0, .nameAndType 30 31), (0, u "size"), (0, u "()I"), (43, u "byHolder"), (28, u "Ljava/util/Map;"), (36, .class_ 142), (0, u "java/util/RandomAccess"), (6, u "none"), (0, u "()Lcom/example/portcullis/portcullis/Grants;")] 49

def k22c0 : Code := { maxStack := 2, maxLocals := 2, code := prog_13_method_1_code, exceptionTable := #[], attributes := #[] }
def k22m0 : Method := { name := "<init>", desc := "(Ljava/util/List;)V", sig := { parameters := [(.object "java/util/List")], returnType := none }, accessFlags := 2, code := some k22c0 }
def k22c1 : Code := { maxStack := 3, maxLocals := 0, code := prog_13_method_2_code, exceptionTable := #[], attributes := #[] }
def k22m1 : Method := { name := "none", desc := "()Lcom/example/portcullis/portcullis/Grants;", sig := { parameters := [], returnType := some (.object "com/example/portcullis/portcullis/Grants") }, accessFlags := 8, code := some k22c1 }
def k22c2 : Code := { maxStack := 1, maxLocals := 1, code := prog_13_method_4_code, exceptionTable := #[], attributes := #[] }
def k22m2 : Method := { name := "size", desc := "()I", sig := { parameters := [], returnType := some .int }, accessFlags := 1, code := some k22c2 }
/-- com/example/portcullis/portcullis/Grants -/
def k22 : Class := { plain "com/example/portcullis/portcullis/Grants" (some 20) with
  accessFlags := 48
  interfaces := #[21]
  cf := some (fileOf pool22 8 #[] #[{ accessFlags := 2, nameIndex := 5, descriptorIndex := 21, attributes := #[] }, { accessFlags := 8, nameIndex := 149, descriptorIndex := 150, attributes := #[] }, { accessFlags := 1, nameIndex := 30, descriptorIndex := 31, attributes := #[] }] 48 2 #[141] #[{ accessFlags := 18, nameIndex := 11, descriptorIndex := 12, attributes := #[] }, { accessFlags := 66, nameIndex := 75, descriptorIndex := 104, attributes := #[] }])
  fields := #[{ name := "grants", type := (.object "java/util/List"), accessFlags := 18, slot := 1, constantValue := 0 }, { name := "byHolder", type := (.object "java/util/Map"), accessFlags := 66, slot := 2, constantValue := 0 }]
  methods := #[k22m0, k22m1, k22m2]
  instanceTypes := #[.int, (.object "java/util/List"), (.object "java/util/Map")]
  staticTypes := #[]
  resolved := Array.replicate 200 none
  statics := none }

def pool23 : Array CpInfo := pool [(2, .class_ 4), (1, u "java/lang/Object"), (0, u "<init>"), (0, u "()V"), (3, .class_ 11), (0, u "java/util/ImmutableCollections$List12"), (0, .class_ 13), (0, u "java/util/ImmutableCollections$ListN"), (3, u "Z"), (29, .class_ 49), (1, u "java/util/ImmutableCollections"), (0, u "$assertionsDisabled"), (5, u "[Ljava/lang/Object;"), (5, u "EMPTY_LIST"), (0, u "Ljava/util/ImmutableCollections$ListN;"), (8, u "EMPTY_LIST_NULLS"), (22, u "SALT32L"), (0, u "J"), (2, u "REVERSE"), (6, u "archivedObjects"), (2, u "EMPTY"), (0, u "Ljava/lang/Object;"), (0, .class_ 112), (0, u "java/util/ImmutableCollections$SetN"), (5, u "EMPTY_SET"), (0, u "Ljava/util/ImmutableCollections$SetN;"), (0, .class_ 121), (0, u "java/util/ImmutableCollections$MapN"), (3, u "EMPTY_MAP"), (0, u "Ljava/util/ImmutableCollections$MapN;"), (4, u "EXPAND_FACTOR"), (0, u "I"), (36, .class_ 170), (0, u "java/util/ImmutableCollections$MapN$MapNIterator"), (0, .class_ 172), (0, u "java/util/ImmutableCollections$MapN$1"), (0, .class_ 174), (0, u "java/util/ImmutableCollections$Map1"), (0, .class_ 176), (0, u "java/util/ImmutableCollections$AbstractImmutableMap"), (0, .class_ 178), (0, u "java/util/ImmutableCollections$SetN$SetNIterator"), (0, .class_ 180), (0, u "java/util/ImmutableCollections$Set12"), (0, .class_ 182), (0, u "java/util/ImmutableCollections$Set12$1"), (0, .class_ 184), (0, u "java/util/ImmutableCollections$AbstractImmutableSet"), (0, .class_ 186), (0, u "java/util/ImmutableCollections$SubList"), (0, .class_ 188), (0, u "java/util/ImmutableCollections$ListItr"), (0, .class_ 190), (0, u "java/util/ImmutableCollections$AbstractImmutableList"), (0, .class_ 192), (0, u "java/util/ImmutableCollections$AbstractImmutableCollection"), (0, .class_ 194), (0, u "java/util/ImmutableCollections$Access"), (0, .class_ 196), (0, u "java/util/ImmutableCollections$Access$1")] 16

def k23m0 : Method := { name := "<init>", desc := "()V", sig := { parameters := [], returnType := none }, accessFlags := 2, code := none }
/-- java/util/ImmutableCollections -/
def k23 : Class := { plain "java/util/ImmutableCollections" (some 0) with
  accessFlags := 32
  interfaces := #[]
  cf := some (fileOf pool23 47 #[.nestMembers #[120, 169, 171, 173, 175, 111, 177, 179, 181, 183, 12, 10, 185, 187, 189, 191, 193, 195]] #[{ accessFlags := 2, nameIndex := 5, descriptorIndex := 6, attributes := #[] }] 32 2 #[] #[{ accessFlags := 26, nameIndex := 95, descriptorIndex := 96, attributes := #[] }, { accessFlags := 26, nameIndex := 99, descriptorIndex := 17, attributes := #[] }, { accessFlags := 10, nameIndex := 106, descriptorIndex := 56, attributes := #[] }, { accessFlags := 26, nameIndex := 109, descriptorIndex := 110, attributes := #[] }, { accessFlags := 24, nameIndex := 62, descriptorIndex := 63, attributes := #[] }, { accessFlags := 24, nameIndex := 72, descriptorIndex := 63, attributes := #[] }, { accessFlags := 24, nameIndex := 118, descriptorIndex := 119, attributes := #[] }, { accessFlags := 24, nameIndex := 125, descriptorIndex := 126, attributes := #[] }, { accessFlags := 24, nameIndex := 131, descriptorIndex := 132, attributes := #[] }, { accessFlags := 4120, nameIndex := 50, descriptorIndex := 17, attributes := #[] }])
  fields := #[{ name := "SALT32L", type := .long, accessFlags := 26, slot := 0, constantValue := 0 }, { name := "REVERSE", type := .boolean, accessFlags := 26, slot := 1, constantValue := 0 }, { name := "archivedObjects", type := (.array (.object "java/lang/Object")), accessFlags := 10, slot := 2, constantValue := 0 }, { name := "EMPTY", type := (.object "java/lang/Object"), accessFlags := 26, slot := 3, constantValue := 0 }, { name := "EMPTY_LIST", type := (.object "java/util/ImmutableCollections$ListN"), accessFlags := 24, slot := 4, constantValue := 0 }, { name := "EMPTY_LIST_NULLS", type := (.object "java/util/ImmutableCollections$ListN"), accessFlags := 24, slot := 5, constantValue := 0 }, { name := "EMPTY_SET", type := (.object "java/util/ImmutableCollections$SetN"), accessFlags := 24, slot := 6, constantValue := 0 }, { name := "EMPTY_MAP", type := (.object "java/util/ImmutableCollections$MapN"), accessFlags := 24, slot := 7, constantValue := 0 }, { name := "EXPAND_FACTOR", type := .int, accessFlags := 24, slot := 8, constantValue := 0 }, { name := "$assertionsDisabled", type := .boolean, accessFlags := 4120, slot := 9, constantValue := 0 }]
  methods := #[k23m0]
  instanceTypes := #[]
  staticTypes := #[.long, .boolean, (.array (.object "java/lang/Object")), (.object "java/lang/Object"), (.object "java/util/ImmutableCollections$ListN"), (.object "java/util/ImmutableCollections$ListN"), (.object "java/util/ImmutableCollections$SetN"), (.object "java/util/ImmutableCollections$MapN"), .int, .boolean]
  resolved := Array.replicate 213 none
  statics := some 2 }

def pool24 : Array CpInfo := pool [(2, .class_ 4), (1, u "java/util/AbstractCollection"), (0, u "<init>"), (0, u "()V"), (1, .class_ 10), (1, u "java/util/ImmutableCollections"), (2, .class_ 14), (0, u "java/util/ImmutableCollections$AbstractImmutableCollection")] 41

def k24m0 : Method := { name := "<init>", desc := "()V", sig := { parameters := [], returnType := none }, accessFlags := 0, code := none }
/-- java/util/ImmutableCollections$AbstractImmutableCollection -/
def k24 : Class := { plain "java/util/ImmutableCollections$AbstractImmutableCollection" (some 17) with
  accessFlags := 1056
  interfaces := #[]
  cf := some (fileOf pool24 13 #[.nestHost 8] #[{ accessFlags := 0, nameIndex := 5, descriptorIndex := 6, attributes := #[] }] 1056 2 #[] #[])
  fields := #[]
  methods := #[k24m0]
  instanceTypes := #[]
  staticTypes := #[]
  resolved := Array.replicate 56 none
  statics := none }

def pool25 : Array CpInfo := pool [(2, .class_ 4), (1, u "java/util/ImmutableCollections$AbstractImmutableCollection"), (0, u "<init>"), (0, u "()V"), (1, .class_ 10), (1, u "java/util/ImmutableCollections"), (3, .class_ 16), (1, u "java/util/ImmutableCollections$AbstractImmutableList"), (60, .class_ 78), (0, u "java/util/List"), (45, .class_ 125), (0, u "java/util/RandomAccess")] 70

def k25m0 : Method := { name := "<init>", desc := "()V", sig := { parameters := [], returnType := none }, accessFlags := 0, code := none }
/-- java/util/ImmutableCollections$AbstractImmutableList -/
def k25 : Class := { plain "java/util/ImmutableCollections$AbstractImmutableList" (some 24) with
  accessFlags := 1056
  interfaces := #[19, 21]
  cf := some (fileOf pool25 14 #[.nestHost 8] #[{ accessFlags := 0, nameIndex := 5, descriptorIndex := 6, attributes := #[] }] 1056 2 #[77, 124] #[])
  fields := #[]
  methods := #[k25m0]
  instanceTypes := #[]
  staticTypes := #[]
  resolved := Array.replicate 196 none
  statics := none }

def pool26 : Array CpInfo := pool [(2, .class_ 4), (1, u "java/util/ImmutableCollections$AbstractImmutableList"), (2, .fieldref 8 9), (0, .class_ 10), (0, .nameAndType 11 12), (0, u "java/util/ImmutableCollections$ListN"), (0, u "elements"), (0, u "[Ljava/lang/Object;"), (2, u "allowNulls"), (0, u "Z"), (42, .class_ 60), (0, u "java/io/Serializable"), (16, u "size"), (0, u "()I"), (35, .class_ 115), (0, u "java/util/ImmutableCollections")] 3

def k26c0 : Code := { maxStack := 1, maxLocals := 1, code := jdk_45_method_3_code, exceptionTable := #[], attributes := #[] }
def k26m0 : Method := { name := "size", desc := "()I", sig := { parameters := [], returnType := some .int }, accessFlags := 1, code := some k26c0 }
/-- java/util/ImmutableCollections$ListN -/
def k26 : Class := { plain "java/util/ImmutableCollections$ListN" (some 25) with
  accessFlags := 48
  interfaces := #[4]
  cf := some (fileOf pool26 8 #[.nestHost 114] #[{ accessFlags := 1, nameIndex := 77, descriptorIndex := 78, attributes := #[] }] 48 2 #[59] #[{ accessFlags := 18, nameIndex := 11, descriptorIndex := 12, attributes := #[] }, { accessFlags := 18, nameIndex := 15, descriptorIndex := 16, attributes := #[] }])
  fields := #[{ name := "elements", type := (.array (.object "java/lang/Object")), accessFlags := 18, slot := 0, constantValue := 0 }, { name := "allowNulls", type := .boolean, accessFlags := 18, slot := 1, constantValue := 0 }]
  methods := #[k26m0]
  instanceTypes := #[(.array (.object "java/lang/Object")), .boolean]
  staticTypes := #[]
  resolved := Array.replicate 119 none
  statics := none }

def pool27 : Array CpInfo := pool [(2, .class_ 4), (1, u "java/lang/Object"), (0, u "<init>"), (0, u "()V"), (17, .class_ 26), (1, u "jdk/internal/util/Preconditions"), (28, .class_ 56), (0, u "jdk/internal/util/Preconditions$4"), (57, .class_ 115), (0, u "jdk/internal/util/Preconditions$1"), (7, u "SIOOBE_FORMATTER"), (0, u "Ljava/util/function/BiFunction;"), (0, .class_ 126), (0, u "jdk/internal/util/Preconditions$2"), (3, u "AIOOBE_FORMATTER"), (0, .class_ 132), (0, u "jdk/internal/util/Preconditions$3"), (3, u "IOOBE_FORMATTER")] 57

def k27m0 : Method := { name := "<init>", desc := "()V", sig := { parameters := [], returnType := none }, accessFlags := 1, code := none }
/-- jdk/internal/util/Preconditions -/
def k27 : Class := { plain "jdk/internal/util/Preconditions" (some 0) with
  accessFlags := 33
  interfaces := #[]
  cf := some (fileOf pool27 24 #[.nestMembers #[55, 131, 125, 114]] #[{ accessFlags := 1, nameIndex := 5, descriptorIndex := 6, attributes := #[] }] 33 2 #[] #[{ accessFlags := 25, nameIndex := 123, descriptorIndex := 124, attributes := #[] }, { accessFlags := 25, nameIndex := 130, descriptorIndex := 124, attributes := #[] }, { accessFlags := 25, nameIndex := 136, descriptorIndex := 124, attributes := #[] }])
  fields := #[{ name := "SIOOBE_FORMATTER", type := (.object "java/util/function/BiFunction"), accessFlags := 25, slot := 0, constantValue := 0 }, { name := "AIOOBE_FORMATTER", type := (.object "java/util/function/BiFunction"), accessFlags := 25, slot := 1, constantValue := 0 }, { name := "IOOBE_FORMATTER", type := (.object "java/util/function/BiFunction"), accessFlags := 25, slot := 2, constantValue := 0 }]
  methods := #[k27m0]
  instanceTypes := #[]
  staticTypes := #[(.object "java/util/function/BiFunction"), (.object "java/util/function/BiFunction"), (.object "java/util/function/BiFunction")]
  resolved := Array.replicate 194 none
  statics := some 3 }

def pool28 : Array CpInfo := pool [(9, u "<init>"), (6, .class_ 18), (1, u "java/lang/Object"), (0, u "()V"), (1, .class_ 23), (1, u "jdk/internal/util/ArraysSupport"), (0, u "LOG2_ARRAY_LONG_INDEX_SCALE"), (0, u "I"), (2, u "U"), (0, u "Ljdk/internal/misc/Unsafe;"), (8, u "BIG_ENDIAN"), (0, u "Z"), (8, u "LOG2_BYTE_BIT_SIZE"), (4, u "LOG2_ARRAY_INT_INDEX_SCALE"), (54, u "JLA"), (0, u "Ljdk/internal/access/JavaLangAccess;"), (11, u "LOG2_ARRAY_BOOLEAN_INDEX_SCALE"), (9, u "LOG2_ARRAY_BYTE_INDEX_SCALE"), (5, u "LOG2_ARRAY_CHAR_INDEX_SCALE"), (5, u "LOG2_ARRAY_SHORT_INDEX_SCALE"), (18, u "LOG2_ARRAY_FLOAT_INDEX_SCALE"), (24, u "LOG2_ARRAY_DOUBLE_INDEX_SCALE"), (89, u "T_BOOLEAN"), (2, u "T_CHAR"), (1, u "T_FLOAT"), (1, u "T_DOUBLE"), (1, u "T_BYTE"), (1, u "T_SHORT"), (1, u "T_INT"), (1, u "T_LONG"), (1, u "SOFT_MAX_ARRAY_LENGTH")] 83

def k28m0 : Method := { name := "<init>", desc := "()V", sig := { parameters := [], returnType := none }, accessFlags := 2, code := none }
/-- jdk/internal/util/ArraysSupport -/
def k28 : Class := { plain "jdk/internal/util/ArraysSupport" (some 0) with
  accessFlags := 33
  interfaces := #[]
  cf := some (fileOf pool28 21 #[] #[{ accessFlags := 2, nameIndex := 9, descriptorIndex := 19, attributes := #[] }] 33 16 #[] #[{ accessFlags := 24, nameIndex := 28, descriptorIndex := 29, attributes := #[] }, { accessFlags := 26, nameIndex := 38, descriptorIndex := 39, attributes := #[] }, { accessFlags := 25, nameIndex := 121, descriptorIndex := 25, attributes := #[] }, { accessFlags := 25, nameIndex := 131, descriptorIndex := 25, attributes := #[] }, { accessFlags := 25, nameIndex := 137, descriptorIndex := 25, attributes := #[] }, { accessFlags := 25, nameIndex := 143, descriptorIndex := 25, attributes := #[] }, { accessFlags := 25, nameIndex := 53, descriptorIndex := 25, attributes := #[] }, { accessFlags := 25, nameIndex := 24, descriptorIndex := 25, attributes := #[] }, { accessFlags := 25, nameIndex := 162, descriptorIndex := 25, attributes := #[] }, { accessFlags := 25, nameIndex := 187, descriptorIndex := 25, attributes := #[] }, { accessFlags := 26, nameIndex := 48, descriptorIndex := 25, attributes := #[] }, { accessFlags := 25, nameIndex := 277, descriptorIndex := 25, attributes := #[] }, { accessFlags := 25, nameIndex := 280, descriptorIndex := 25, attributes := #[] }, { accessFlags := 25, nameIndex := 282, descriptorIndex := 25, attributes := #[] }, { accessFlags := 25, nameIndex := 284, descriptorIndex := 25, attributes := #[] }, { accessFlags := 25, nameIndex := 286, descriptorIndex := 25, attributes := #[] }, { accessFlags := 25, nameIndex := 288, descriptorIndex := 25, attributes := #[] }, { accessFlags := 25, nameIndex := 290, descriptorIndex := 25, attributes := #[] }, { accessFlags := 25, nameIndex := 292, descriptorIndex := 25, attributes := #[] }, { accessFlags := 26, nameIndex := 108, descriptorIndex := 109, attributes := #[] }, { accessFlags := 25, nameIndex := 294, descriptorIndex := 25, attributes := #[] }])
  fields := #[{ name := "U", type := (.object "jdk/internal/misc/Unsafe"), accessFlags := 24, slot := 0, constantValue := 0 }, { name := "BIG_ENDIAN", type := .boolean, accessFlags := 26, slot := 1, constantValue := 0 }, { name := "LOG2_ARRAY_BOOLEAN_INDEX_SCALE", type := .int, accessFlags := 25, slot := 2, constantValue := 0 }, { name := "LOG2_ARRAY_BYTE_INDEX_SCALE", type := .int, accessFlags := 25, slot := 3, constantValue := 0 }, { name := "LOG2_ARRAY_CHAR_INDEX_SCALE", type := .int, accessFlags := 25, slot := 4, constantValue := 0 }, { name := "LOG2_ARRAY_SHORT_INDEX_SCALE", type := .int, accessFlags := 25, slot := 5, constantValue := 0 }, { name := "LOG2_ARRAY_INT_INDEX_SCALE", type := .int, accessFlags := 25, slot := 6, constantValue := 0 }, { name := "LOG2_ARRAY_LONG_INDEX_SCALE", type := .int, accessFlags := 25, slot := 7, constantValue := 0 }, { name := "LOG2_ARRAY_FLOAT_INDEX_SCALE", type := .int, accessFlags := 25, slot := 8, constantValue := 0 }, { name := "LOG2_ARRAY_DOUBLE_INDEX_SCALE", type := .int, accessFlags := 25, slot := 9, constantValue := 0 }, { name := "LOG2_BYTE_BIT_SIZE", type := .int, accessFlags := 26, slot := 10, constantValue := 0 }, { name := "T_BOOLEAN", type := .int, accessFlags := 25, slot := 11, constantValue := 0 }, { name := "T_CHAR", type := .int, accessFlags := 25, slot := 12, constantValue := 0 }, { name := "T_FLOAT", type := .int, accessFlags := 25, slot := 13, constantValue := 0 }, { name := "T_DOUBLE", type := .int, accessFlags := 25, slot := 14, constantValue := 0 }, { name := "T_BYTE", type := .int, accessFlags := 25, slot := 15, constantValue := 0 }, { name := "T_SHORT", type := .int, accessFlags := 25, slot := 16, constantValue := 0 }, { name := "T_INT", type := .int, accessFlags := 25, slot := 17, constantValue := 0 }, { name := "T_LONG", type := .int, accessFlags := 25, slot := 18, constantValue := 0 }, { name := "JLA", type := (.object "jdk/internal/access/JavaLangAccess"), accessFlags := 26, slot := 19, constantValue := 0 }, { name := "SOFT_MAX_ARRAY_LENGTH", type := .int, accessFlags := 25, slot := 20, constantValue := 0 }]
  methods := #[k28m0]
  instanceTypes := #[]
  staticTypes := #[(.object "jdk/internal/misc/Unsafe"), .boolean, .int, .int, .int, .int, .int, .int, .int, .int, .int, .int, .int, .int, .int, .int, .int, .int, .int, (.object "jdk/internal/access/JavaLangAccess"), .int]
  resolved := Array.replicate 378 none
  statics := none }

def pool29 : Array CpInfo := pool [(1, u "java/lang/Cloneable"), (0, .class_ 1), (0, u "java/lang/Object"), (0, .class_ 3)] 3

/-- java/lang/Cloneable -/
def k29 : Class := { plain "java/lang/Cloneable" (some 0) with
  accessFlags := 1537
  interfaces := #[]
  cf := some (fileOf pool29 2 #[] #[] 1537 4 #[] #[])
  fields := #[]
  methods := #[]
  instanceTypes := #[]
  staticTypes := #[]
  resolved := Array.replicate 8 none
  statics := none }

/-- the primitive byte -/
def k30 : Class := { plain "byte" none with kind := .primitive 'B', accessFlags := 0x411 }
/-- [B -/
def k31 : Class := { plain "[B" (some 0) with kind := .array 30 .byte, interfaces := #[29, 4], accessFlags := 1041 }

/-- the primitive int -/
def k32 : Class := { plain "int" none with kind := .primitive 'I', accessFlags := 0x411 }
/-- [I -/
def k33 : Class := { plain "[I" (some 0) with kind := .array 32 .int, interfaces := #[29, 4], accessFlags := 1041 }

/-- [Ljava/lang/Object; -/
def k34 : Class := { plain "[Ljava/lang/Object;" (some 0) with kind := .array 0 (.object "java/lang/Object"), interfaces := #[29, 4], accessFlags := 1041 }

def heap : Heap := #[{ cls := 9, slots := #[.long 0, .int 1, .null, .int 0, .null, .int 0, .int 0], vm := .statics 9 },
  { cls := 13, slots := #[.ref 5, .null, .null, .null, .null], vm := .statics 13 },
  { cls := 23, slots := #[.long 0, .int 0, .null, .null, .ref 6, .null, .null, .null, .int 0, .int 0], vm := .statics 23 },
  { cls := 27, slots := #[.null, .null, .null], vm := .statics 27 },
  { cls := 34, slots := #[], vm := .none },
  { cls := 13, slots := #[.null, .int 0, .int 0, .null, .int 0], vm := .none },
  { cls := 26, slots := #[.ref 4, .int 0], vm := .none }]
def classes : Array Class := #[k0, k1, k2, k3, k4, k5, k6, k7, k8, k9, k10, k11, k12, k13, k14, k15, k16, k17, k18, k19, k20, k21, k22, k23, k24, k25, k26, k27, k28, k29, k30, k31, k32, k33, k34]
def interned : List (Array UInt16 × Addr) := []
def slotsUsed : Nat := 32
def theMethod : MethodId := ⟨1, 1⟩
def args0 : Array Value := #[.int 5, .int 5, .int 5]
def aboutOver (below : List Frame) : State where
  vm := { classes := classes, interned := interned.toArray }
  heap := heap
  slotsUsed := slotsUsed
  threads := #[{ frames := .invoking theMethod args0 :: below }]
def below0 : List Frame := [.native { method := ⟨0, 0⟩, args := #[] }]
def about1 : State := aboutOver below0
def p0 : Program := .bare "" "" ""
def e0 : Env := launch0.env 0 0 0
theorem w_frames : about1.frames = Frame.invoking theMethod args0 :: below0 := rfl
set_option maxRecDepth 65536 in
theorem w_args : argsFit about1.vm theMethod args0 = true := by decide +kernel
set_option maxRecDepth 65536 in
theorem w_heap : heapFits about1 = true := by decide +kernel
set_option maxRecDepth 65536 in
theorem w_runnable : about1.curStatus? = some .runnable := by decide +kernel
set_option maxRecDepth 65536 in
theorem w_alone : about1.alone = true := by decide +kernel
set_option maxRecDepth 65536 in
theorem w_named : about1.methodNamed? x = some theMethod := by decide +kernel
set_option maxRecDepth 65536 in
theorem w_hears : about1.hears theMethod below0 = true := by decide +kernel
set_option maxRecDepth 65536 in
theorem w_ripe : about1.ripe theMethod args0 below0 = true := by decide +kernel
theorem w_running : about1.status = .running := rfl
set_option maxRecDepth 65536 in
theorem w_room : about1.hasRoom e0.platform room_1 = true :=
  launch0.hasRoom_least _ room_1 (by decide +kernel) (by decide +kernel) (by decide +kernel) (by decide +kernel) (by decide +kernel) (by decide +kernel)
theorem allAtoms_all (ts : List Jvm.Cond) (a : Array Jvm.Value) (st : Jvm.State) : (allAtoms ts).before a st = ts.all (fun c => c.before a st) := by
  induction ts with
  | nil => rfl
  | cons c t ih =>
    show (Jvm.Cond.and c (allAtoms t)).before a st = _
    rw [Jvm.Cond.before_and, ih, List.all_cons]
def words1 : List Jvm.Cond := Jvm.Cond.code x code maxLocals ret :: tables_1
/-- a 'code' word, met by the world's own term for the bytes: nothing is compared byte by byte -/
theorem code_word {y : MethodName} {bytes : ByteArray} {mx : Nat} {rt : Option FieldType} {a : Array Value} {s : State} {m : MethodId} {meth : Method} {c : Code} (h1 : s.methodNamed? y = some m) (h2 : s.vm.method? m = some meth) (h3 : meth.code = some c) (h4 : c.code = bytes)
    (h5 : (c.maxLocals == mx && c.exceptionTable.isEmpty && decide (c.maxStack ≤ mostOperands) && decide (meth.sig.returnType = rt) && !meth.locks && decide (parseMethodDescriptor y.desc = some meth.sig)) = true) : (Jvm.Cond.code y bytes mx rt).before a s = true := by
  simp only [Bool.and_eq_true, beq_iff_eq, Bool.not_eq_true', decide_eq_true_eq] at h5
  obtain ⟨⟨⟨⟨⟨g1, g2⟩, g3⟩, g4⟩, g5⟩, g6⟩ := h5
  simp [Cond.before, Cond.holds, Cond.value, h1, h2, h3, h4, g1, g2, g3, g4, g5, g6]
def isCode : Jvm.Cond → Bool
  | .code _ _ _ _ => true
  | _ => false
theorem all_split {L : List Jvm.Cond} {P : Jvm.Cond → Bool} (h1 : L.all (fun c => isCode c || P c) = true) (h2 : ∀ c ∈ L.filter isCode, P c = true) : L.all P = true := by
  refine List.all_eq_true.mpr fun c hc => ?_
  have h := List.all_eq_true.mp h1 c hc
  rcases Bool.eq_false_or_eq_true (isCode c) with hi | hi
  · exact h2 c (List.mem_filter.mpr ⟨hc, hi⟩)
  · simpa [hi] using h
set_option maxRecDepth 65536 in
theorem w_c0 : (Jvm.Cond.code x code maxLocals ret).before args0 about1 = true := code_word (m := ⟨1, 1⟩) (meth := k1m1) (c := k1c1) (by decide +kernel) rfl rfl rfl (by decide +kernel)
set_option maxRecDepth 65536 in
theorem w_c1 : (Jvm.Cond.code ({ cls := "java/lang/String", name := "valueOf", desc := "(C)Ljava/lang/String;" } : Jvm.MethodName) jdk_42_method_139_code (1 : Nat) (Option.some (Jvm.ClassFile.FieldType.object "java/lang/String"))).before args0 about1 = true := code_word (m := ⟨9, 1⟩) (meth := k9m1) (c := k9c1) (by decide +kernel) rfl rfl rfl (by decide +kernel)
set_option maxRecDepth 65536 in
theorem w_c2 : (Jvm.Cond.code ({ cls := "java/lang/StringLatin1", name := "canEncode", desc := "(C)Z" } : Jvm.MethodName) jdk_43_method_3_code (1 : Nat) (Option.some Jvm.ClassFile.FieldType.boolean)).before args0 about1 = true := code_word (m := ⟨10, 1⟩) (meth := k10m1) (c := k10c1) (by decide +kernel) rfl rfl rfl (by decide +kernel)
set_option maxRecDepth 65536 in
theorem w_c3 : (Jvm.Cond.code ({ cls := "java/lang/StringLatin1", name := "toBytes", desc := "(C)[B" } : Jvm.MethodName) jdk_43_method_46_code (1 : Nat) (Option.some (Jvm.ClassFile.FieldType.array Jvm.ClassFile.FieldType.byte))).before args0 about1 = true := code_word (m := ⟨10, 2⟩) (meth := k10m2) (c := k10c2) (by decide +kernel) rfl rfl rfl (by decide +kernel)
set_option maxRecDepth 65536 in
theorem w_c4 : (Jvm.Cond.code ({ cls := "java/lang/String", name := "<init>", desc := "([BB)V" } : Jvm.MethodName) jdk_42_method_151_code (3 : Nat) (Option.none : Option Jvm.ClassFile.FieldType)).before args0 about1 = true := code_word (m := ⟨9, 2⟩) (meth := k9m2) (c := k9c2) (by decide +kernel) rfl rfl rfl (by decide +kernel)
set_option maxRecDepth 65536 in
theorem w_c5 : (Jvm.Cond.code ({ cls := "java/lang/Object", name := "<init>", desc := "()V" } : Jvm.MethodName) object_method_1_code (1 : Nat) (Option.none : Option Jvm.ClassFile.FieldType)).before args0 about1 = true := code_word (m := ⟨0, 0⟩) (meth := k0m0) (c := k0c0) (by decide +kernel) rfl rfl rfl (by decide +kernel)
set_option maxRecDepth 65536 in
theorem w_c6 : (Jvm.Cond.code ({ cls := "com/example/portcullis/portcullis/ResourceName", name := "<init>", desc := "(Ljava/lang/String;Ljava/lang/String;)V" } : Jvm.MethodName) prog_25_method_1_code (3 : Nat) (Option.none : Option Jvm.ClassFile.FieldType)).before args0 about1 = true := code_word (m := ⟨3, 0⟩) (meth := k3m0) (c := k3c0) (by decide +kernel) rfl rfl rfl (by decide +kernel)
set_option maxRecDepth 65536 in
theorem w_c7 : (Jvm.Cond.code ({ cls := "java/lang/Record", name := "<init>", desc := "()V" } : Jvm.MethodName) jdk_30_method_1_code (1 : Nat) (Option.none : Option Jvm.ClassFile.FieldType)).before args0 about1 = true := code_word (m := ⟨2, 0⟩) (meth := k2m0) (c := k2c0) (by decide +kernel) rfl rfl rfl (by decide +kernel)
set_option maxRecDepth 65536 in
theorem w_c8 : (Jvm.Cond.code ({ cls := "com/example/portcullis/portcullis/Principal", name := "<init>", desc := "(Lcom/example/portcullis/portcullis/Principal$Type;Ljava/lang/String;)V" } : Jvm.MethodName) prog_17_method_1_code (3 : Nat) (Option.none : Option Jvm.ClassFile.FieldType)).before args0 about1 = true := code_word (m := ⟨11, 0⟩) (meth := k11m0) (c := k11c0) (by decide +kernel) rfl rfl rfl (by decide +kernel)
set_option maxRecDepth 65536 in
theorem w_c9 : (Jvm.Cond.code ({ cls := "com/example/portcullis/portcullis/Resource", name := "created", desc := "(Lcom/example/portcullis/portcullis/ResourceName;Lcom/example/portcullis/portcullis/Principal;Lcom/example/portcullis/portcullis/ResourceName;Z)Lcom/example/portcullis/portcullis/Resource;" } : Jvm.MethodName) prog_23_method_2_code (4 : Nat) (Option.some (Jvm.ClassFile.FieldType.object "com/example/portcullis/portcullis/Resource"))).before args0 about1 = true := code_word (m := ⟨14, 1⟩) (meth := k14m1) (c := k14c1) (by decide +kernel) rfl rfl rfl (by decide +kernel)
set_option maxRecDepth 65536 in
theorem w_c10 : (Jvm.Cond.code ({ cls := "com/example/portcullis/portcullis/Grants", name := "none", desc := "()Lcom/example/portcullis/portcullis/Grants;" } : Jvm.MethodName) prog_13_method_2_code (0 : Nat) (Option.some (Jvm.ClassFile.FieldType.object "com/example/portcullis/portcullis/Grants"))).before args0 about1 = true := code_word (m := ⟨22, 1⟩) (meth := k22m1) (c := k22c1) (by decide +kernel) rfl rfl rfl (by decide +kernel)
set_option maxRecDepth 65536 in
theorem w_c11 : (Jvm.Cond.code ({ cls := "java/util/List", name := "of", desc := "()Ljava/util/List;" } : Jvm.MethodName) jdk_40_method_36_code (0 : Nat) (Option.some (Jvm.ClassFile.FieldType.object "java/util/List"))).before args0 about1 = true := code_word (m := ⟨19, 1⟩) (meth := k19m1) (c := k19c1) (by decide +kernel) rfl rfl rfl (by decide +kernel)
set_option maxRecDepth 65536 in
theorem w_c12 : (Jvm.Cond.code ({ cls := "com/example/portcullis/portcullis/Grants", name := "<init>", desc := "(Ljava/util/List;)V" } : Jvm.MethodName) prog_13_method_1_code (2 : Nat) (Option.none : Option Jvm.ClassFile.FieldType)).before args0 about1 = true := code_word (m := ⟨22, 0⟩) (meth := k22m0) (c := k22c0) (by decide +kernel) rfl rfl rfl (by decide +kernel)
set_option maxRecDepth 65536 in
theorem w_c13 : (Jvm.Cond.code ({ cls := "java/util/AbstractList", name := "<init>", desc := "()V" } : Jvm.MethodName) jdk_39_method_1_code (1 : Nat) (Option.none : Option Jvm.ClassFile.FieldType)).before args0 about1 = true := code_word (m := ⟨20, 0⟩) (meth := k20m0) (c := k20c0) (by decide +kernel) rfl rfl rfl (by decide +kernel)
set_option maxRecDepth 65536 in
theorem w_c14 : (Jvm.Cond.code ({ cls := "java/util/AbstractCollection", name := "<init>", desc := "()V" } : Jvm.MethodName) jdk_22_method_1_code (1 : Nat) (Option.none : Option Jvm.ClassFile.FieldType)).before args0 about1 = true := code_word (m := ⟨17, 0⟩) (meth := k17m0) (c := k17c0) (by decide +kernel) rfl rfl rfl (by decide +kernel)
set_option maxRecDepth 65536 in
theorem w_c15 : (Jvm.Cond.code ({ cls := "com/example/portcullis/portcullis/Resource", name := "<init>", desc := "(Lcom/example/portcullis/portcullis/ResourceName;Lcom/example/portcullis/portcullis/Principal;Lcom/example/portcullis/portcullis/ResourceName;ZLcom/example/portcullis/portcullis/Grants;Lcom/example/portcullis/portcullis/Grants;)V" } : Jvm.MethodName) prog_23_method_1_code (7 : Nat) (Option.none : Option Jvm.ClassFile.FieldType)).before args0 about1 = true := code_word (m := ⟨14, 0⟩) (meth := k14m0) (c := k14c0) (by decide +kernel) rfl rfl rfl (by decide +kernel)
set_option maxRecDepth 65536 in
theorem w_c16 : (Jvm.Cond.code ({ cls := "com/example/portcullis/portcullis/Resource", name := "name", desc := "()Lcom/example/portcullis/portcullis/ResourceName;" } : Jvm.MethodName) prog_23_method_15_code (1 : Nat) (Option.some (Jvm.ClassFile.FieldType.object "com/example/portcullis/portcullis/ResourceName"))).before args0 about1 = true := code_word (m := ⟨14, 2⟩) (meth := k14m2) (c := k14c2) (by decide +kernel) rfl rfl rfl (by decide +kernel)
set_option maxRecDepth 65536 in
theorem w_c17 : (Jvm.Cond.code ({ cls := "com/example/portcullis/portcullis/Resource", name := "owner", desc := "()Lcom/example/portcullis/portcullis/Principal;" } : Jvm.MethodName) prog_23_method_16_code (1 : Nat) (Option.some (Jvm.ClassFile.FieldType.object "com/example/portcullis/portcullis/Principal"))).before args0 about1 = true := code_word (m := ⟨14, 3⟩) (meth := k14m3) (c := k14c3) (by decide +kernel) rfl rfl rfl (by decide +kernel)
set_option maxRecDepth 65536 in
theorem w_c18 : (Jvm.Cond.code ({ cls := "com/example/portcullis/portcullis/Resource", name := "parent", desc := "()Lcom/example/portcullis/portcullis/ResourceName;" } : Jvm.MethodName) prog_23_method_17_code (1 : Nat) (Option.some (Jvm.ClassFile.FieldType.object "com/example/portcullis/portcullis/ResourceName"))).before args0 about1 = true := code_word (m := ⟨14, 4⟩) (meth := k14m4) (c := k14c4) (by decide +kernel) rfl rfl rfl (by decide +kernel)
set_option maxRecDepth 65536 in
theorem w_c19 : (Jvm.Cond.code ({ cls := "com/example/portcullis/portcullis/Resource", name := "managed", desc := "()Z" } : Jvm.MethodName) prog_23_method_18_code (1 : Nat) (Option.some Jvm.ClassFile.FieldType.boolean)).before args0 about1 = true := code_word (m := ⟨14, 5⟩) (meth := k14m5) (c := k14c5) (by decide +kernel) rfl rfl rfl (by decide +kernel)
set_option maxRecDepth 65536 in
theorem w_c20 : (Jvm.Cond.code ({ cls := "com/example/portcullis/portcullis/Resource", name := "roles", desc := "()Lcom/example/portcullis/portcullis/Grants;" } : Jvm.MethodName) prog_23_method_19_code (1 : Nat) (Option.some (Jvm.ClassFile.FieldType.object "com/example/portcullis/portcullis/Grants"))).before args0 about1 = true := code_word (m := ⟨14, 6⟩) (meth := k14m6) (c := k14c6) (by decide +kernel) rfl rfl rfl (by decide +kernel)
set_option maxRecDepth 65536 in
theorem w_c21 : (Jvm.Cond.code ({ cls := "com/example/portcullis/portcullis/Grants", name := "size", desc := "()I" } : Jvm.MethodName) prog_13_method_4_code (1 : Nat) (Option.some Jvm.ClassFile.FieldType.int)).before args0 about1 = true := code_word (m := ⟨22, 2⟩) (meth := k22m2) (c := k22c2) (by decide +kernel) rfl rfl rfl (by decide +kernel)
set_option maxRecDepth 65536 in
theorem w_c22 : (Jvm.Cond.code ({ cls := "java/util/ImmutableCollections$ListN", name := "size", desc := "()I" } : Jvm.MethodName) jdk_45_method_3_code (1 : Nat) (Option.some Jvm.ClassFile.FieldType.int)).before args0 about1 = true := code_word (m := ⟨26, 0⟩) (meth := k26m0) (c := k26c0) (by decide +kernel) rfl rfl rfl (by decide +kernel)
set_option maxRecDepth 65536 in
theorem w_c23 : (Jvm.Cond.code ({ cls := "com/example/portcullis/portcullis/Resource", name := "access", desc := "()Lcom/example/portcullis/portcullis/Grants;" } : Jvm.MethodName) prog_23_method_20_code (1 : Nat) (Option.some (Jvm.ClassFile.FieldType.object "com/example/portcullis/portcullis/Grants"))).before args0 about1 = true := code_word (m := ⟨14, 7⟩) (meth := k14m7) (c := k14c7) (by decide +kernel) rfl rfl rfl (by decide +kernel)
def codes1 : List Jvm.Cond := [Jvm.Cond.code x code maxLocals ret, Jvm.Cond.code ({ cls := "java/lang/String", name := "valueOf", desc := "(C)Ljava/lang/String;" } : Jvm.MethodName) jdk_42_method_139_code (1 : Nat) (Option.some (Jvm.ClassFile.FieldType.object "java/lang/String")), Jvm.Cond.code ({ cls := "java/lang/StringLatin1", name := "canEncode", desc := "(C)Z" } : Jvm.MethodName) jdk_43_method_3_code (1 : Nat) (Option.some Jvm.ClassFile.FieldType.boolean), Jvm.Cond.code ({ cls := "java/lang/StringLatin1", name := "toBytes", desc := "(C)[B" } : Jvm.MethodName) jdk_43_method_46_code (1 : Nat) (Option.some (Jvm.ClassFile.FieldType.array Jvm.ClassFile.FieldType.byte)), Jvm.Cond.code ({ cls := "java/lang/String", name := "<init>", desc := "([BB)V" } : Jvm.MethodName) jdk_42_method_151_code (3 : Nat) (Option.none : Option Jvm.ClassFile.FieldType), Jvm.Cond.code ({ cls := "java/lang/Object", name := "<init>", desc := "()V" } : Jvm.MethodName) object_method_1_code (1 : Nat) (Option.none : Option Jvm.ClassFile.FieldType), Jvm.Cond.code ({ cls := "com/example/portcullis/portcullis/ResourceName", name := "<init>", desc := "(Ljava/lang/String;Ljava/lang/String;)V" } : Jvm.MethodName) prog_25_method_1_code (3 : Nat) (Option.none : Option Jvm.ClassFile.FieldType), Jvm.Cond.code ({ cls := "java/lang/Record", name := "<init>", desc := "()V" } : Jvm.MethodName) jdk_30_method_1_code (1 : Nat) (Option.none : Option Jvm.ClassFile.FieldType), Jvm.Cond.code ({ cls := "com/example/portcullis/portcullis/Principal", name := "<init>", desc := "(Lcom/example/portcullis/portcullis/Principal$Type;Ljava/lang/String;)V" } : Jvm.MethodName) prog_17_method_1_code (3 : Nat) (Option.none : Option Jvm.ClassFile.FieldType), Jvm.Cond.code ({ cls := "com/example/portcullis/portcullis/Resource", name := "created", desc := "(Lcom/example/portcullis/portcullis/ResourceName;Lcom/example/portcullis/portcullis/Principal;Lcom/example/portcullis/portcullis/ResourceName;Z)Lcom/example/portcullis/portcullis/Resource;" } : Jvm.MethodName) prog_23_method_2_code (4 : Nat) (Option.some (Jvm.ClassFile.FieldType.object "com/example/portcullis/portcullis/Resource")), Jvm.Cond.code ({ cls := "com/example/portcullis/portcullis/Grants", name := "none", desc := "()Lcom/example/portcullis/portcullis/Grants;" } : Jvm.MethodName) prog_13_method_2_code (0 : Nat) (Option.some (Jvm.ClassFile.FieldType.object "com/example/portcullis/portcullis/Grants")), Jvm.Cond.code ({ cls := "java/util/List", name := "of", desc := "()Ljava/util/List;" } : Jvm.MethodName) jdk_40_method_36_code (0 : Nat) (Option.some (Jvm.ClassFile.FieldType.object "java/util/List")), Jvm.Cond.code ({ cls := "com/example/portcullis/portcullis/Grants", name := "<init>", desc := "(Ljava/util/List;)V" } : Jvm.MethodName) prog_13_method_1_code (2 : Nat) (Option.none : Option Jvm.ClassFile.FieldType), Jvm.Cond.code ({ cls := "java/util/AbstractList", name := "<init>", desc := "()V" } : Jvm.MethodName) jdk_39_method_1_code (1 : Nat) (Option.none : Option Jvm.ClassFile.FieldType), Jvm.Cond.code ({ cls := "java/util/AbstractCollection", name := "<init>", desc := "()V" } : Jvm.MethodName) jdk_22_method_1_code (1 : Nat) (Option.none : Option Jvm.ClassFile.FieldType), Jvm.Cond.code ({ cls := "com/example/portcullis/portcullis/Resource", name := "<init>", desc := "(Lcom/example/portcullis/portcullis/ResourceName;Lcom/example/portcullis/portcullis/Principal;Lcom/example/portcullis/portcullis/ResourceName;ZLcom/example/portcullis/portcullis/Grants;Lcom/example/portcullis/portcullis/Grants;)V" } : Jvm.MethodName) prog_23_method_1_code (7 : Nat) (Option.none : Option Jvm.ClassFile.FieldType), Jvm.Cond.code ({ cls := "com/example/portcullis/portcullis/Resource", name := "name", desc := "()Lcom/example/portcullis/portcullis/ResourceName;" } : Jvm.MethodName) prog_23_method_15_code (1 : Nat) (Option.some (Jvm.ClassFile.FieldType.object "com/example/portcullis/portcullis/ResourceName")), Jvm.Cond.code ({ cls := "com/example/portcullis/portcullis/Resource", name := "owner", desc := "()Lcom/example/portcullis/portcullis/Principal;" } : Jvm.MethodName) prog_23_method_16_code (1 : Nat) (Option.some (Jvm.ClassFile.FieldType.object "com/example/portcullis/portcullis/Principal")), Jvm.Cond.code ({ cls := "com/example/portcullis/portcullis/Resource", name := "parent", desc := "()Lcom/example/portcullis/portcullis/ResourceName;" } : Jvm.MethodName) prog_23_method_17_code (1 : Nat) (Option.some (Jvm.ClassFile.FieldType.object "com/example/portcullis/portcullis/ResourceName")), Jvm.Cond.code ({ cls := "com/example/portcullis/portcullis/Resource", name := "managed", desc := "()Z" } : Jvm.MethodName) prog_23_method_18_code (1 : Nat) (Option.some Jvm.ClassFile.FieldType.boolean), Jvm.Cond.code ({ cls := "com/example/portcullis/portcullis/Resource", name := "roles", desc := "()Lcom/example/portcullis/portcullis/Grants;" } : Jvm.MethodName) prog_23_method_19_code (1 : Nat) (Option.some (Jvm.ClassFile.FieldType.object "com/example/portcullis/portcullis/Grants")), Jvm.Cond.code ({ cls := "com/example/portcullis/portcullis/Grants", name := "size", desc := "()I" } : Jvm.MethodName) prog_13_method_4_code (1 : Nat) (Option.some Jvm.ClassFile.FieldType.int), Jvm.Cond.code ({ cls := "java/util/ImmutableCollections$ListN", name := "size", desc := "()I" } : Jvm.MethodName) jdk_45_method_3_code (1 : Nat) (Option.some Jvm.ClassFile.FieldType.int), Jvm.Cond.code ({ cls := "com/example/portcullis/portcullis/Resource", name := "access", desc := "()Lcom/example/portcullis/portcullis/Grants;" } : Jvm.MethodName) prog_23_method_20_code (1 : Nat) (Option.some (Jvm.ClassFile.FieldType.object "com/example/portcullis/portcullis/Grants"))]
set_option maxRecDepth 65536 in
theorem codes_eq : words1.filter isCode = codes1 := rfl
theorem w_codes : ∀ c ∈ words1.filter isCode, c.before args0 about1 = true := by
  rw [codes_eq]
  intro c hc
  simp only [codes1, List.mem_cons, List.not_mem_nil, or_false] at hc
  rcases hc with rfl | rfl | rfl | rfl | rfl | rfl | rfl | rfl | rfl | rfl | rfl | rfl | rfl | rfl | rfl | rfl | rfl | rfl | rfl | rfl | rfl | rfl | rfl | rfl
  · exact w_c0
  · exact w_c1
  · exact w_c2
  · exact w_c3
  · exact w_c4
  · exact w_c5
  · exact w_c6
  · exact w_c7
  · exact w_c8
  · exact w_c9
  · exact w_c10
  · exact w_c11
  · exact w_c12
  · exact w_c13
  · exact w_c14
  · exact w_c15
  · exact w_c16
  · exact w_c17
  · exact w_c18
  · exact w_c19
  · exact w_c20
  · exact w_c21
  · exact w_c22
  · exact w_c23
set_option maxRecDepth 65536 in
theorem w_t1 : (words1.take 24).all (fun c => isCode c || c.before args0 about1) = true := by decide +kernel
set_option maxRecDepth 65536 in
theorem w_t2 : ((words1.drop 24).take 24).all (fun c => isCode c || c.before args0 about1) = true := by decide +kernel
set_option maxRecDepth 65536 in
theorem w_t3 : (((words1.drop 24).drop 24).take 24).all (fun c => isCode c || c.before args0 about1) = true := by decide +kernel
set_option maxRecDepth 65536 in
theorem w_t4 : ((((words1.drop 24).drop 24).drop 24).take 24).all (fun c => isCode c || c.before args0 about1) = true := by decide +kernel
set_option maxRecDepth 65536 in
theorem w_t5 : (((((words1.drop 24).drop 24).drop 24).drop 24).take 24).all (fun c => isCode c || c.before args0 about1) = true := by decide +kernel
set_option maxRecDepth 65536 in
theorem w_t6 : ((((((words1.drop 24).drop 24).drop 24).drop 24).drop 24).take 24).all (fun c => isCode c || c.before args0 about1) = true := by decide +kernel
set_option maxRecDepth 65536 in
theorem w_t7 : ((((((words1.drop 24).drop 24).drop 24).drop 24).drop 24).drop 24).all (fun c => isCode c || c.before args0 about1) = true := by decide +kernel
theorem w_tables : (allAtoms (Jvm.Cond.code x code maxLocals ret :: tables_1)).before args0 about1 = true := by
  rw [allAtoms_all]
  show words1.all (fun c => c.before args0 about1) = true
  refine all_split ?_ w_codes
  rw [← List.take_append_drop 24 words1, List.all_append, w_t1, ← List.take_append_drop 24 (words1.drop 24), List.all_append, w_t2, ← List.take_append_drop 24 ((words1.drop 24).drop 24), List.all_append, w_t3, ← List.take_append_drop 24 (((words1.drop 24).drop 24).drop 24), List.all_append, w_t4, ← List.take_append_drop 24 ((((words1.drop 24).drop 24).drop 24).drop 24), List.all_append, w_t5, ← List.take_append_drop 24 (((((words1.drop 24).drop 24).drop 24).drop 24).drop 24), List.all_append, w_t6, w_t7]
  rfl
set_option maxRecDepth 65536 in
theorem w_rest : rest_1_c.before args0 about1 = true := by decide +kernel
set_option maxRecDepth 65536 in
theorem w_case : (Jvm.Cond.and given_1 narrow_1).before args0 about1 = true := by decide +kernel
theorem w_applies : (headSpec (Jvm.Cond.code x code maxLocals ret :: tables_1) room_1).applies x e0.platform about1 = true :=
  (Spec.applies_iff w_frames).mpr ⟨w_running, w_runnable, w_alone, w_named, w_hears, w_ripe, w_room, w_tables⟩
theorem atStart : AtStart classFile x code maxLocals ret World_1 tables_1 room_1 Calls_1 rest_1 Pre_1 launch0 p0 e0 about1 theMethod args0 below0 :=
  ⟨lists_1, trivial, launch0.admits_env _ _ _, launch0.least_env, fairChoices_fair.cas, fairChoices_fair.clock, w_frames, w_args, w_heap, w_applies, trivial, w_rest, w_case⟩
end start1
theorem witness_1 : WitnessClaimed_1 := ⟨start1.p0, start1.e0, start1.about1, start1.theMethod, start1.args0, start1.below0, start1.atStart⟩
end Jvm.Pilot.@@N@@
