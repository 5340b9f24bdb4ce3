import JvmDerived
import JvmDerived.Pilot.@@N@@Statement
import JvmDerived.Pilot.@@N@@Code
set_option linter.unusedVariables false
set_option linter.unusedSimpArgs false
namespace Jvm.Pilot.@@N@@
open Jvm Jvm.ClassFile Sem Op Lib Jvm.Free Jvm.Stand Jvm.LawKit Jvm.RoadKit Bundle Jvm.Pilot.@@N@@.Jvm.D
abbrev own_Go (tb : Tables) (e : Env) (below : List Frame) (P : State → Outcome → Prop) (st : State) : Prop := ∃ U o, Steps tb e below st U ∧ P U o
theorem own_go {tb : Tables} {e : Env} {below : List Frame} {P : State → Outcome → Prop} {st st' : State} (h : ∀ t, Steps tb e below st' t → Steps tb e below st t) (k : own_Go tb e below P st') : own_Go tb e below P st := by
  obtain ⟨U, o, h1, h2⟩ := k; exact ⟨U, o, h _ h1, h2⟩
theorem own_cat {v : Value} (h : v.isRef = true) : v.category = 1 := by rcases ref_cases h with rfl | ⟨a, rfl⟩ <;> rfl
theorem own_nar_ref {t : FieldType} {v : Value} (h : v.isRef = true) : narrow t v = v := by rcases ref_cases h with rfl | ⟨a, rfl⟩ <;> cases t <;> rfl
theorem own_fit_ref {t : FieldType} {v : Value} (h : v.isRef = true) (ht : t.isReference = true := by rfl) : fits t v = true := by rcases ref_cases h with rfl | ⟨a, rfl⟩ <;> cases t <;> first | rfl | (cases ht)
theorem own_widen {p : Program} {l : Launch} {e : Env} {R : Room} {s : State} {m : MethodId} {args : Array Value} {below : List Frame} {meth : Method} {c : Code} {T : State} {locs : List Loc} {cells slots cells' slots' : Nat} (X : Stand p l e R s m args below meth c T locs cells slots) (h1 : cells ≤ cells') (h2 : slots ≤ slots') : Stand p l e R s m args below meth c T locs cells' slots' :=
  { X with same := X.same.mono h1 h2 }
theorem own_sel_priv {s : State} {args : Array Value} {y : MethodName} {n : Nat} (wi : (Jvm.Cond.instantiable y.cls n).before args s = true) (hp : s.PrivateAt y) (hinst : (Jvm.Cond.instanceMethod y).before args s = true) (hy : y.cls ≠ "java/lang/invoke/MethodHandle" ∧ y.cls ≠ "java/lang/invoke/VarHandle") : (Jvm.Cond.selects y.cls y y).before args s = true := by
  obtain ⟨c, k, h1, h2, -, h4, -⟩ := Cond.instantiable_spec wi
  exact selects_self_of_private h1 h2 (Bool.or_eq_false_iff.mp h4).1 hp hinst hy
theorem own_sta_keep {Z : State} {h h' : Heap} {ws : List Addr} {C n d : String} {v : Value} (F : Sta Z h C n d v) (K : Keep h h' ws) (q : ∀ x ∈ ws, ∀ c : Cell, h[x]? = some c → c.vm.isStatics = false) : Sta Z h' C n d v := by
  obtain ⟨cf, i, k, f, st, cell, h1, h2, h3, h4, h5, h6, h7⟩ := F
  exact ⟨cf, i, k, f, st, cell, h1, h2, h3, h4, K.2.1 st cell h5 (fun z => by rw [q st z cell h5] at h6; cases h6), h6, h7⟩
theorem own_pl_exa {Z : State} {h : Heap} {a : Addr} {C : String} (F : Exa Z h a C) : ∀ c : Cell, h[a]? = some c → c.vm.isStatics = false := fun c hc => by
  obtain ⟨c1, k, h1, -, -, h4, -⟩ := F; cases h1.symm.trans hc; exact h4
theorem own_pl_fld {Z : State} {h : Heap} {a : Addr} {C n d : String} {v : Value} (F : Fld Z h a C n d v) : ∀ c : Cell, h[a]? = some c → c.vm.isStatics = false := old_plain F
theorem own_pl_arv {Z : State} {h : Heap} {a : Addr} {k : ClassId} {ty : FieldType} {n : Int32} {vs : List Value} {d : Value} (F : Arv Z h a k ty n vs d) : ∀ c : Cell, h[a]? = some c → c.vm.isStatics = false := fun c hc => by
  obtain ⟨c1, A, -⟩ := F; cases A.1.symm.trans hc; exact A.plain
def own_lmax (a b : Int64) : Int64 := if a < b then b else a
def own_lmin (a b : Int64) : Int64 := if b < a then b else a
def own_opt (a b : Int64) : Int32 := if a = b then 1 else 0
theorem own_irr (m : Int64) : ¬ m < m := by rw [Int64.lt_iff_toInt_lt]; omega
theorem own_min_le (b m : Int64) : ¬ m < own_lmin b m := by
  unfold own_lmin; split
  · exact own_irr m
  · assumption
theorem own_and3 (f : Int32) : f &&& 3 = 0 ∨ f &&& 3 = 1 ∨ f &&& 3 = 2 ∨ f &&& 3 = 3 := by
  have h := c_mask f 3 2 (by decide) (by decide)
  have h2 : (f &&& 3).toInt = 0 ∨ (f &&& 3).toInt = 1 ∨ (f &&& 3).toInt = 2 ∨ (f &&& 3).toInt = 3 := by
    have : ((2 ^ 2 : Nat) : Int) = 4 := rfl
    rw [this] at h; omega
  rcases h2 with h | h | h | h
  · exact Or.inl (Int32.toInt_inj.mp h)
  · exact Or.inr (Or.inl (Int32.toInt_inj.mp h))
  · exact Or.inr (Or.inr (Or.inl (Int32.toInt_inj.mp h)))
  · exact Or.inr (Or.inr (Or.inr (Int32.toInt_inj.mp h)))
theorem d1_0 : decode jdk_29_method_66_code 0 = .ok (.lload_n 0, 1) := by decide +kernel
theorem d1_1 : decode jdk_29_method_66_code 1 = .ok (.lload_n 2, 1) := by decide +kernel
theorem d1_2 : decode jdk_29_method_66_code 2 = .ok (.lcmp, 1) := by decide +kernel
theorem d1_3 : decode jdk_29_method_66_code 3 = .ok (.ifCond .lt 7, 3) := by decide +kernel
theorem d1_6 : decode jdk_29_method_66_code 6 = .ok (.lload_n 0, 1) := by decide +kernel
theorem d1_7 : decode jdk_29_method_66_code 7 = .ok (.goto 4, 3) := by decide +kernel
theorem d1_10 : decode jdk_29_method_66_code 10 = .ok (.lload_n 2, 1) := by decide +kernel
theorem d1_11 : decode jdk_29_method_66_code 11 = .ok (.lreturn, 1) := by decide +kernel
theorem pn_1 : plainFor (⟨"java/lang/Math", "max", "(JJ)J"⟩ : MethodName) = true := by decide +kernel
theorem ef_rm1 (m : MethodId) (x0 : Int64) (x1 : Int64) : entryFrame m #[(.long x0), (.long x1)] 4 = mkF m 0 #[.val (.long x0), .second, .val (.long x1), .second] [] := by first | (simp [entryFrame, mkF, argsToLocals, Value.category]; done) | rfl
def Qrm1 (Z : State) (q1 : Int64) (q2 : Int64) (h0 : Heap) (n0 : Nat) (v : Option Value) (h : Heap) (L : List Loc) : Prop := (v = some (.long (own_lmax q1 q2))) ∧ (Fr n0 L) ∧ (h = h0)
set_option maxRecDepth 65536 in
set_option maxHeartbeats 40000000 in
theorem rm1 (l : Launch) (Z : State) (a0 : Array Value) (hw : ∀ d ∈ tables_1, d.before a0 Z = true) (ws : List Jvm.Cond) (q1 : Int64) (q2 : Int64) (h0 : Heap) (n0 : Nat) (Z0 : n0 ≤ h0.size)  :
    MetFree l (⟨"java/lang/Math", "max", "(JJ)J"⟩ : MethodName) (head1 (Jvm.Cond.code (⟨"java/lang/Math", "max", "(JJ)J"⟩ : MethodName) jdk_29_method_66_code 4 (some .long) :: ws) ({ frames := 0, cells := 0, slots := 0, locals := 0 } : Room)) (fun a U => a = #[(.long q1), (.long q2)] ∧ Z.Warmed39 U.vm ∧ U.heap = h0) (fun _ _ _ _ _ => True) (fun _ U o U' => ∃ v L, o = .returned v ∧ Qrm1 Z q1 q2 h0 n0 v U'.heap L ∧ FrameEnd U o U' L ({ frames := 0, cells := 0, slots := 0, locals := 0 } : Room).cells ({ frames := 0, cells := 0, slots := 0, locals := 0 } : Room).slots) := by
  refine MetFree.of_bodySF pn_1 hisR ?_
  intro p e s m args below meth c s₁ Bd hml0 hP0 hK
  obtain ⟨rfl, hZ, hh⟩ := hP0
  have hx := Bd.exec
  have hby := Bd.bytes
  have hml : c.maxLocals = 4 := hml0
  have hown : s.vm.findClass "java/lang/Math" = some m.cls := findClass_of_methodNamed Bd.named
  have hnm := (name_of_methodNamed Bd.named Bd.method).1
  have X0 : Stand p l e ({ frames := 0, cells := 0, slots := 0, locals := 0 } : Room) s m #[(.long q1), (.long q2)] below meth c s₁ [] 0 0 := Stand.of_body Bd
  have e0 : s₁.heap = h0 := by rw [← hh, Bd.state]; rfl
  have N0 := Fr.nil n0
  suffices own_H : ∀ (P : State → Outcome → Prop), (∀ U o, U.status = .running → Ended U below o → (∃ v L, o = .returned v ∧ Qrm1 Z q1 q2 h0 n0 v U.heap L ∧ FrameEnd s o U L ({ frames := 0, cells := 0, slots := 0, locals := 0 } : Room).cells ({ frames := 0, cells := 0, slots := 0, locals := 0 } : Room).slots) → P U o) → own_Go p.tables e below P (s₁.setTop (mkF m 0 #[.val (.long q1), .second, .val (.long q2), .second] [])) from own_go (fun _ k => castTop (ef_rm1 m q1 q2) k) (own_H _ (fun U o h1 h2 h3 => ⟨h1, h2, h3⟩))
  intro P hP
  refine own_go (st' := s₁.setTop (mkF m 1 #[.val (.long q1), .second, .val (.long q2), .second] [(.long q1)])) (fun _ k => XS.lloadN X0.here hx rfl (hb hby d1_0) rfl k) ?_
  refine own_go (st' := s₁.setTop (mkF m 2 #[.val (.long q1), .second, .val (.long q2), .second] [(.long q2), (.long q1)])) (fun _ k => XS.lloadN X0.here hx rfl (hb hby d1_1) rfl k) ?_
  refine own_go (st' := s₁.setTop (mkF m 3 #[.val (.long q1), .second, .val (.long q2), .second] [(.int (lcmpW q1 q2))])) (fun _ k => XS.lcmp X0.here hx rfl (hb hby d1_2) rfl k) ?_
  by_cases hc1 : q1 < q2
  · --
    refine own_go (st' := s₁.setTop (mkF m 10 #[.val (.long q1), .second, .val (.long q2), .second] [])) (fun _ k => XS.ifYes X0.here hx rfl (pc0 := 3) (pc' := 10) rfl (hb hby d1_3) rfl ((if0 _ _).trans (tlt ((lw_lt q1 q2).mpr hc1)).1) (by decide) (by decide) k) ?_
    refine own_go (st' := s₁.setTop (mkF m 11 #[.val (.long q1), .second, .val (.long q2), .second] [(.long q2)])) (fun _ k => XS.lloadN X0.here hx rfl (hb hby d1_10) rfl k) ?_
    obtain ⟨fs, hr, hrun, hended, hW, hsame⟩ := X0.leave (v := some (.long q2)) (fun h => by rw [Bd.returns] at h; cases h)
    refine ⟨_, _, ?_, hP _ _ hrun hended ⟨_, _, rfl, ?_, ⟨_, rfl⟩, hW, hsame.mono (by decide) (by decide)⟩⟩
    · exact retOut X0 hx Bd.returns rfl (Or.inr (Or.inl ⟨rfl, rfl, _, rfl⟩)) (hb hby d1_11) hr
    · show Qrm1 Z q1 q2 h0 n0 _ s₁.heap _
      rw [e0]
      exact ⟨(by unfold own_lmax; rw [if_pos hc1]), N0, rfl⟩
  · --
    refine own_go (st' := s₁.setTop (mkF m 6 #[.val (.long q1), .second, .val (.long q2), .second] [])) (fun _ k => XS.ifNo X0.here hx rfl (hb hby d1_3) rfl ((if0 _ _).trans (flt (fun q_ => hc1 ((lw_lt q1 q2).mp q_))).1) k) ?_
    refine own_go (st' := s₁.setTop (mkF m 7 #[.val (.long q1), .second, .val (.long q2), .second] [(.long q1)])) (fun _ k => XS.lloadN X0.here hx rfl (hb hby d1_6) rfl k) ?_
    refine own_go (st' := s₁.setTop (mkF m 11 #[.val (.long q1), .second, .val (.long q2), .second] [(.long q1)])) (fun _ k => XS.goto X0.here hx rfl (pc0 := 7) (pc' := 11) rfl (hb hby d1_7) (by decide) (by decide) k) ?_
    obtain ⟨fs, hr, hrun, hended, hW, hsame⟩ := X0.leave (v := some (.long q1)) (fun h => by rw [Bd.returns] at h; cases h)
    refine ⟨_, _, ?_, hP _ _ hrun hended ⟨_, _, rfl, ?_, ⟨_, rfl⟩, hW, hsame.mono (by decide) (by decide)⟩⟩
    · exact retOut X0 hx Bd.returns rfl (Or.inr (Or.inl ⟨rfl, rfl, _, rfl⟩)) (hb hby d1_11) hr
    · show Qrm1 Z q1 q2 h0 n0 _ s₁.heap _
      rw [e0]
      exact ⟨(by unfold own_lmax; rw [if_neg hc1]), N0, rfl⟩
theorem d10_0 : decode jdk_29_method_70_code 0 = .ok (.lload_n 0, 1) := by decide +kernel
theorem d10_1 : decode jdk_29_method_70_code 1 = .ok (.lload_n 2, 1) := by decide +kernel
theorem d10_2 : decode jdk_29_method_70_code 2 = .ok (.lcmp, 1) := by decide +kernel
theorem d10_3 : decode jdk_29_method_70_code 3 = .ok (.ifCond .gt 7, 3) := by decide +kernel
theorem d10_6 : decode jdk_29_method_70_code 6 = .ok (.lload_n 0, 1) := by decide +kernel
theorem d10_7 : decode jdk_29_method_70_code 7 = .ok (.goto 4, 3) := by decide +kernel
theorem d10_10 : decode jdk_29_method_70_code 10 = .ok (.lload_n 2, 1) := by decide +kernel
theorem d10_11 : decode jdk_29_method_70_code 11 = .ok (.lreturn, 1) := by decide +kernel
theorem pn_10 : plainFor (⟨"java/lang/Math", "min", "(JJ)J"⟩ : MethodName) = true := by decide +kernel
theorem ef_rm10 (m : MethodId) (x0 : Int64) (x1 : Int64) : entryFrame m #[(.long x0), (.long x1)] 4 = mkF m 0 #[.val (.long x0), .second, .val (.long x1), .second] [] := by first | (simp [entryFrame, mkF, argsToLocals, Value.category]; done) | rfl
def Qrm10 (Z : State) (q1 : Int64) (q2 : Int64) (h0 : Heap) (n0 : Nat) (v : Option Value) (h : Heap) (L : List Loc) : Prop := (v = some (.long (own_lmin q1 q2))) ∧ (Fr n0 L) ∧ (h = h0)
set_option maxRecDepth 65536 in
set_option maxHeartbeats 40000000 in
theorem rm10 (l : Launch) (Z : State) (a0 : Array Value) (hw : ∀ d ∈ tables_1, d.before a0 Z = true) (ws : List Jvm.Cond) (q1 : Int64) (q2 : Int64) (h0 : Heap) (n0 : Nat) (Z0 : n0 ≤ h0.size)  :
    MetFree l (⟨"java/lang/Math", "min", "(JJ)J"⟩ : MethodName) (head1 (Jvm.Cond.code (⟨"java/lang/Math", "min", "(JJ)J"⟩ : MethodName) jdk_29_method_70_code 4 (some .long) :: ws) ({ frames := 0, cells := 0, slots := 0, locals := 0 } : Room)) (fun a U => a = #[(.long q1), (.long q2)] ∧ Z.Warmed39 U.vm ∧ U.heap = h0) (fun _ _ _ _ _ => True) (fun _ U o U' => ∃ v L, o = .returned v ∧ Qrm10 Z q1 q2 h0 n0 v U'.heap L ∧ FrameEnd U o U' L ({ frames := 0, cells := 0, slots := 0, locals := 0 } : Room).cells ({ frames := 0, cells := 0, slots := 0, locals := 0 } : Room).slots) := by
  refine MetFree.of_bodySF pn_10 hisR ?_
  intro p e s m args below meth c s₁ Bd hml0 hP0 hK
  obtain ⟨rfl, hZ, hh⟩ := hP0
  have hx := Bd.exec
  have hby := Bd.bytes
  have hml : c.maxLocals = 4 := hml0
  have hown : s.vm.findClass "java/lang/Math" = some m.cls := findClass_of_methodNamed Bd.named
  have hnm := (name_of_methodNamed Bd.named Bd.method).1
  have X0 : Stand p l e ({ frames := 0, cells := 0, slots := 0, locals := 0 } : Room) s m #[(.long q1), (.long q2)] below meth c s₁ [] 0 0 := Stand.of_body Bd
  have e0 : s₁.heap = h0 := by rw [← hh, Bd.state]; rfl
  have N0 := Fr.nil n0
  suffices own_H : ∀ (P : State → Outcome → Prop), (∀ U o, U.status = .running → Ended U below o → (∃ v L, o = .returned v ∧ Qrm10 Z q1 q2 h0 n0 v U.heap L ∧ FrameEnd s o U L ({ frames := 0, cells := 0, slots := 0, locals := 0 } : Room).cells ({ frames := 0, cells := 0, slots := 0, locals := 0 } : Room).slots) → P U o) → own_Go p.tables e below P (s₁.setTop (mkF m 0 #[.val (.long q1), .second, .val (.long q2), .second] [])) from own_go (fun _ k => castTop (ef_rm10 m q1 q2) k) (own_H _ (fun U o h1 h2 h3 => ⟨h1, h2, h3⟩))
  intro P hP
  refine own_go (st' := s₁.setTop (mkF m 1 #[.val (.long q1), .second, .val (.long q2), .second] [(.long q1)])) (fun _ k => XS.lloadN X0.here hx rfl (hb hby d10_0) rfl k) ?_
  refine own_go (st' := s₁.setTop (mkF m 2 #[.val (.long q1), .second, .val (.long q2), .second] [(.long q2), (.long q1)])) (fun _ k => XS.lloadN X0.here hx rfl (hb hby d10_1) rfl k) ?_
  refine own_go (st' := s₁.setTop (mkF m 3 #[.val (.long q1), .second, .val (.long q2), .second] [(.int (lcmpW q1 q2))])) (fun _ k => XS.lcmp X0.here hx rfl (hb hby d10_2) rfl k) ?_
  by_cases hc1 : q2 < q1
  · --
    refine own_go (st' := s₁.setTop (mkF m 10 #[.val (.long q1), .second, .val (.long q2), .second] [])) (fun _ k => XS.ifYes X0.here hx rfl (pc0 := 3) (pc' := 10) rfl (hb hby d10_3) rfl ((if0 _ _).trans (tlt ((lw_gt q1 q2).mpr hc1)).2.2.1) (by decide) (by decide) k) ?_
    refine own_go (st' := s₁.setTop (mkF m 11 #[.val (.long q1), .second, .val (.long q2), .second] [(.long q2)])) (fun _ k => XS.lloadN X0.here hx rfl (hb hby d10_10) rfl k) ?_
    obtain ⟨fs, hr, hrun, hended, hW, hsame⟩ := X0.leave (v := some (.long q2)) (fun h => by rw [Bd.returns] at h; cases h)
    refine ⟨_, _, ?_, hP _ _ hrun hended ⟨_, _, rfl, ?_, ⟨_, rfl⟩, hW, hsame.mono (by decide) (by decide)⟩⟩
    · exact retOut X0 hx Bd.returns rfl (Or.inr (Or.inl ⟨rfl, rfl, _, rfl⟩)) (hb hby d10_11) hr
    · show Qrm10 Z q1 q2 h0 n0 _ s₁.heap _
      rw [e0]
      exact ⟨(by unfold own_lmin; rw [if_pos hc1]), N0, rfl⟩
  · --
    refine own_go (st' := s₁.setTop (mkF m 6 #[.val (.long q1), .second, .val (.long q2), .second] [])) (fun _ k => XS.ifNo X0.here hx rfl (hb hby d10_3) rfl ((if0 _ _).trans (flt (fun q_ => hc1 ((lw_gt q1 q2).mp q_))).2.2.1) k) ?_
    refine own_go (st' := s₁.setTop (mkF m 7 #[.val (.long q1), .second, .val (.long q2), .second] [(.long q1)])) (fun _ k => XS.lloadN X0.here hx rfl (hb hby d10_6) rfl k) ?_
    refine own_go (st' := s₁.setTop (mkF m 11 #[.val (.long q1), .second, .val (.long q2), .second] [(.long q1)])) (fun _ k => XS.goto X0.here hx rfl (pc0 := 7) (pc' := 11) rfl (hb hby d10_7) (by decide) (by decide) k) ?_
    obtain ⟨fs, hr, hrun, hended, hW, hsame⟩ := X0.leave (v := some (.long q1)) (fun h => by rw [Bd.returns] at h; cases h)
    refine ⟨_, _, ?_, hP _ _ hrun hended ⟨_, _, rfl, ?_, ⟨_, rfl⟩, hW, hsame.mono (by decide) (by decide)⟩⟩
    · exact retOut X0 hx Bd.returns rfl (Or.inr (Or.inl ⟨rfl, rfl, _, rfl⟩)) (hb hby d10_11) hr
    · show Qrm10 Z q1 q2 h0 n0 _ s₁.heap _
      rw [e0]
      exact ⟨(by unfold own_lmin; rw [if_neg hc1]), N0, rfl⟩
theorem d2_0 : decode method_3_code 0 = .ok (.iload_n 0, 1) := by decide +kernel
theorem d2_1 : decode method_3_code 1 = .ok (.ifCond .ne 7, 3) := by decide +kernel
theorem d2_4 : decode method_3_code 4 = .ok (.iconst 0, 1) := by decide +kernel
theorem d2_5 : decode method_3_code 5 = .ok (.newarray .int, 2) := by decide +kernel
theorem d2_7 : decode method_3_code 7 = .ok (.areturn, 1) := by decide +kernel
theorem pn_2 : plainName "com/example/millwright/millwright/jobshop/JobShopSolutionOptimalPinLaw" = true := by first | (simp [plainName, overriddenIn]; done) | decide +kernel
theorem ef_rm2_0 (m : MethodId) (x0 : Int32) : entryFrame m #[(.int x0)] 1 = mkF m 0 #[.val (.int x0)] [] := by first | (simp [entryFrame, mkF, argsToLocals, Value.category]; done) | rfl
def Qrm2_0 (Z : State)  (h0 : Heap) (n0 : Nat) (v : Option Value) (h : Heap) (L : List Loc) : Prop := ∃ (r : Addr) (kr : ClassId), (v = some (.ref r)) ∧ (Fr n0 L) ∧ (Keep h0 h []) ∧ (Arv Z h r kr .int (0 : Int32) [] (.int (0 : Int32))) ∧ (h0.size ≤ r)
set_option maxRecDepth 65536 in
set_option maxHeartbeats 40000000 in
theorem rm2_0 (l : Launch) (Z : State) (a0 : Array Value) (hw : ∀ d ∈ tables_1, d.before a0 Z = true) (ws : List Jvm.Cond)  (h0 : Heap) (n0 : Nat) (Z0 : n0 ≤ h0.size)  :
    MetFree l (⟨"com/example/millwright/millwright/jobshop/JobShopSolutionOptimalPinLaw", "machines", "(I)[I"⟩ : MethodName) (head1 (Jvm.Cond.code (⟨"com/example/millwright/millwright/jobshop/JobShopSolutionOptimalPinLaw", "machines", "(I)[I"⟩ : MethodName) method_3_code 1 (some (.array .int)) :: ws) ({ frames := 0, cells := 1, slots := 0, locals := 0 } : Room)) (fun a U => a = #[(.int (0 : Int32))] ∧ Z.Warmed39 U.vm ∧ U.heap = h0) (fun _ _ _ _ _ => True) (fun _ U o U' => ∃ v L, o = .returned v ∧ Qrm2_0 Z  h0 n0 v U'.heap L ∧ FrameEnd U o U' L ({ frames := 0, cells := 1, slots := 0, locals := 0 } : Room).cells ({ frames := 0, cells := 1, slots := 0, locals := 0 } : Room).slots) := by
  refine MetFree.of_bodySF (plainFor_of_name pn_2) hisR ?_
  intro p e s m args below meth c s₁ Bd hml0 hP0 hK
  obtain ⟨rfl, hZ, hh⟩ := hP0
  have hx := Bd.exec
  have hby := Bd.bytes
  have hml : c.maxLocals = 1 := hml0
  have hown : s.vm.findClass "com/example/millwright/millwright/jobshop/JobShopSolutionOptimalPinLaw" = some m.cls := findClass_of_methodNamed Bd.named
  have hnm := (name_of_methodNamed Bd.named Bd.method).1
  have X0 : Stand p l e ({ frames := 0, cells := 1, slots := 0, locals := 0 } : Room) s m #[(.int (0 : Int32))] below meth c s₁ [] 0 0 := Stand.of_body Bd
  have e0 : s₁.heap = h0 := by rw [← hh, Bd.state]; rfl
  have N0 := Fr.nil n0
  suffices own_H : ∀ (P : State → Outcome → Prop), (∀ U o, U.status = .running → Ended U below o → (∃ v L, o = .returned v ∧ Qrm2_0 Z  h0 n0 v U.heap L ∧ FrameEnd s o U L ({ frames := 0, cells := 1, slots := 0, locals := 0 } : Room).cells ({ frames := 0, cells := 1, slots := 0, locals := 0 } : Room).slots) → P U o) → own_Go p.tables e below P (s₁.setTop (mkF m 0 #[.val (.int (0 : Int32))] [])) from own_go (fun _ k => castTop (ef_rm2_0 m (0 : Int32)) k) (own_H _ (fun U o h1 h2 h3 => ⟨h1, h2, h3⟩))
  intro P hP
  refine own_go (st' := s₁.setTop (mkF m 1 #[.val (.int (0 : Int32))] [(.int (0 : Int32))])) (fun _ k => XS.iloadN X0.here hx rfl (hb hby d2_0) rfl k) ?_
  have hc1 : (0 : Int32) = (0 : Int32) := by decide
  refine own_go (st' := s₁.setTop (mkF m 4 #[.val (.int (0 : Int32))] [])) (fun _ k => XS.ifNo X0.here hx rfl (hb hby d2_1) rfl ((if0 _ _).trans (teq hc1).2) k) ?_
  refine own_go (st' := s₁.setTop (mkF m 5 #[.val (.int (0 : Int32))] [(.int (0 : Int32))])) (fun _ k => XS.iconst X0.here hx rfl (hb hby d2_4) k) ?_
  obtain ⟨T2, h2, k2, X2, e2, E2, A2, st2⟩ := newP X0 hx hZ (hw _ (List.mem_of_getElem? (i := 11) rfl)) e0 (g := (mkF m 5 #[.val (.int (0 : Int32))] [(.int (0 : Int32))])) rfl (hb hby d2_5) rfl (by decide) (cap := 0) (by decide) (by decide) (by decide) (by decide)
  obtain ⟨b2, g2⟩ : ∃ z, z = h0.size := ⟨_, rfl⟩
  rw [← g2] at A2 st2
  have sz2 : h0.size ≤ h2.size := E2.1
  have lt2 : @LT.lt Nat _ b2 h2.size := A2.lt
  have v2 : Arv Z h2 b2 k2 .int (0 : Int32) [] (.int (0 : Int32)) := (Arv.new A2 (by decide)).pad (pad_rep [] (.int (0 : Int32)) 0)
  refine own_go (st' := T2.setTop (mkF m 7 #[.val (.int (0 : Int32))] [(.ref b2)])) (st2) ?_
  obtain ⟨fs, hr, hrun, hended, hW, hsame⟩ := X2.leave (v := some (.ref b2)) (fun h => by rw [Bd.returns] at h; cases h)
  refine ⟨_, _, ?_, hP _ _ hrun hended ⟨_, _, rfl, ?_, ⟨_, rfl⟩, hW, hsame.mono (by decide) (by decide)⟩⟩
  · exact retOut X2 hx Bd.returns rfl (Or.inr (Or.inr (Or.inr (Or.inr ⟨rfl, rfl, rfl⟩)))) (hb hby d2_7) hr
  · show Qrm2_0 Z  h0 n0 _ T2.heap _
    rw [e2]
    exact ⟨b2, k2, rfl, N0, ((Keep.refl h0 []).ext E2), v2, (by omega)⟩
theorem d3_0 : decode method_2_code 0 = .ok (.iload_n 0, 1) := by decide +kernel
theorem d3_1 : decode method_2_code 1 = .ok (.ifCond .ne 7, 3) := by decide +kernel
theorem d3_4 : decode method_2_code 4 = .ok (.iconst 0, 1) := by decide +kernel
theorem d3_5 : decode method_2_code 5 = .ok (.newarray .long, 2) := by decide +kernel
theorem d3_7 : decode method_2_code 7 = .ok (.areturn, 1) := by decide +kernel
theorem pn_3 : plainName "com/example/millwright/millwright/jobshop/JobShopSolutionOptimalPinLaw" = true := by first | (simp [plainName, overriddenIn]; done) | decide +kernel
theorem ef_rm3_0 (m : MethodId) (x0 : Int32) (x1 : Int64) (x2 : Int64) (x3 : Int64) : entryFrame m #[(.int x0), (.long x1), (.long x2), (.long x3)] 7 = mkF m 0 #[.val (.int x0), .val (.long x1), .second, .val (.long x2), .second, .val (.long x3), .second] [] := by first | (simp [entryFrame, mkF, argsToLocals, Value.category]; done) | rfl
def Qrm3_0 (Z : State) (q1 : Int64) (q2 : Int64) (q3 : Int64) (h0 : Heap) (n0 : Nat) (v : Option Value) (h : Heap) (L : List Loc) : Prop := ∃ (r : Addr) (kr : ClassId), (v = some (.ref r)) ∧ (Fr n0 L) ∧ (Keep h0 h []) ∧ (Arv Z h r kr .long (0 : Int32) [] (.long (0 : Int64))) ∧ (h0.size ≤ r)
set_option maxRecDepth 65536 in
set_option maxHeartbeats 40000000 in
theorem rm3_0 (l : Launch) (Z : State) (a0 : Array Value) (hw : ∀ d ∈ tables_1, d.before a0 Z = true) (ws : List Jvm.Cond) (q1 : Int64) (q2 : Int64) (q3 : Int64) (h0 : Heap) (n0 : Nat) (Z0 : n0 ≤ h0.size)  :
    MetFree l (⟨"com/example/millwright/millwright/jobshop/JobShopSolutionOptimalPinLaw", "longs", "(IJJJ)[J"⟩ : MethodName) (head1 (Jvm.Cond.code (⟨"com/example/millwright/millwright/jobshop/JobShopSolutionOptimalPinLaw", "longs", "(IJJJ)[J"⟩ : MethodName) method_2_code 7 (some (.array .long)) :: ws) ({ frames := 0, cells := 1, slots := 0, locals := 0 } : Room)) (fun a U => a = #[(.int (0 : Int32)), (.long q1), (.long q2), (.long q3)] ∧ Z.Warmed39 U.vm ∧ U.heap = h0) (fun _ _ _ _ _ => True) (fun _ U o U' => ∃ v L, o = .returned v ∧ Qrm3_0 Z q1 q2 q3 h0 n0 v U'.heap L ∧ FrameEnd U o U' L ({ frames := 0, cells := 1, slots := 0, locals := 0 } : Room).cells ({ frames := 0, cells := 1, slots := 0, locals := 0 } : Room).slots) := by
  refine MetFree.of_bodySF (plainFor_of_name pn_3) hisR ?_
  intro p e s m args below meth c s₁ Bd hml0 hP0 hK
  obtain ⟨rfl, hZ, hh⟩ := hP0
  have hx := Bd.exec
  have hby := Bd.bytes
  have hml : c.maxLocals = 7 := hml0
  have hown : s.vm.findClass "com/example/millwright/millwright/jobshop/JobShopSolutionOptimalPinLaw" = some m.cls := findClass_of_methodNamed Bd.named
  have hnm := (name_of_methodNamed Bd.named Bd.method).1
  have X0 : Stand p l e ({ frames := 0, cells := 1, slots := 0, locals := 0 } : Room) s m #[(.int (0 : Int32)), (.long q1), (.long q2), (.long q3)] below meth c s₁ [] 0 0 := Stand.of_body Bd
  have e0 : s₁.heap = h0 := by rw [← hh, Bd.state]; rfl
  have N0 := Fr.nil n0
  suffices own_H : ∀ (P : State → Outcome → Prop), (∀ U o, U.status = .running → Ended U below o → (∃ v L, o = .returned v ∧ Qrm3_0 Z q1 q2 q3 h0 n0 v U.heap L ∧ FrameEnd s o U L ({ frames := 0, cells := 1, slots := 0, locals := 0 } : Room).cells ({ frames := 0, cells := 1, slots := 0, locals := 0 } : Room).slots) → P U o) → own_Go p.tables e below P (s₁.setTop (mkF m 0 #[.val (.int (0 : Int32)), .val (.long q1), .second, .val (.long q2), .second, .val (.long q3), .second] [])) from own_go (fun _ k => castTop (ef_rm3_0 m (0 : Int32) q1 q2 q3) k) (own_H _ (fun U o h1 h2 h3 => ⟨h1, h2, h3⟩))
  intro P hP
  refine own_go (st' := s₁.setTop (mkF m 1 #[.val (.int (0 : Int32)), .val (.long q1), .second, .val (.long q2), .second, .val (.long q3), .second] [(.int (0 : Int32))])) (fun _ k => XS.iloadN X0.here hx rfl (hb hby d3_0) rfl k) ?_
  have hc1 : (0 : Int32) = (0 : Int32) := by decide
  refine own_go (st' := s₁.setTop (mkF m 4 #[.val (.int (0 : Int32)), .val (.long q1), .second, .val (.long q2), .second, .val (.long q3), .second] [])) (fun _ k => XS.ifNo X0.here hx rfl (hb hby d3_1) rfl ((if0 _ _).trans (teq hc1).2) k) ?_
  refine own_go (st' := s₁.setTop (mkF m 5 #[.val (.int (0 : Int32)), .val (.long q1), .second, .val (.long q2), .second, .val (.long q3), .second] [(.int (0 : Int32))])) (fun _ k => XS.iconst X0.here hx rfl (hb hby d3_4) k) ?_
  obtain ⟨T2, h2, k2, X2, e2, E2, A2, st2⟩ := newP X0 hx hZ (hw _ (List.mem_of_getElem? (i := 15) rfl)) e0 (g := (mkF m 5 #[.val (.int (0 : Int32)), .val (.long q1), .second, .val (.long q2), .second, .val (.long q3), .second] [(.int (0 : Int32))])) rfl (hb hby d3_5) rfl (by decide) (cap := 0) (by decide) (by decide) (by decide) (by decide)
  obtain ⟨b2, g2⟩ : ∃ z, z = h0.size := ⟨_, rfl⟩
  rw [← g2] at A2 st2
  have sz2 : h0.size ≤ h2.size := E2.1
  have lt2 : @LT.lt Nat _ b2 h2.size := A2.lt
  have v2 : Arv Z h2 b2 k2 .long (0 : Int32) [] (.long (0 : Int64)) := (Arv.new A2 (by decide)).pad (pad_rep [] (.long (0 : Int64)) 0)
  refine own_go (st' := T2.setTop (mkF m 7 #[.val (.int (0 : Int32)), .val (.long q1), .second, .val (.long q2), .second, .val (.long q3), .second] [(.ref b2)])) (st2) ?_
  obtain ⟨fs, hr, hrun, hended, hW, hsame⟩ := X2.leave (v := some (.ref b2)) (fun h => by rw [Bd.returns] at h; cases h)
  refine ⟨_, _, ?_, hP _ _ hrun hended ⟨_, _, rfl, ?_, ⟨_, rfl⟩, hW, hsame.mono (by decide) (by decide)⟩⟩
  · exact retOut X2 hx Bd.returns rfl (Or.inr (Or.inr (Or.inr (Or.inr ⟨rfl, rfl, rfl⟩)))) (hb hby d3_7) hr
  · show Qrm3_0 Z q1 q2 q3 h0 n0 _ T2.heap _
    rw [e2]
    exact ⟨b2, k2, rfl, N0, ((Keep.refl h0 []).ext E2), v2, (by omega)⟩
theorem d4_0 : decode prog_43_method_1_code 0 = .ok (.aload_n 0, 1) := by decide +kernel
theorem d4_1 : decode prog_43_method_1_code 1 = .ok (.invokespecial 1, 3) := by decide +kernel
theorem d4_4 : decode prog_43_method_1_code 4 = .ok (.aload_n 0, 1) := by decide +kernel
theorem d4_5 : decode prog_43_method_1_code 5 = .ok (.aload_n 1, 1) := by decide +kernel
theorem d4_6 : decode prog_43_method_1_code 6 = .ok (.putfield 7, 3) := by decide +kernel
theorem d4_9 : decode prog_43_method_1_code 9 = .ok (.aload_n 0, 1) := by decide +kernel
theorem d4_10 : decode prog_43_method_1_code 10 = .ok (.aload_n 2, 1) := by decide +kernel
theorem d4_11 : decode prog_43_method_1_code 11 = .ok (.putfield 13, 3) := by decide +kernel
theorem d4_14 : decode prog_43_method_1_code 14 = .ok (.aload_n 0, 1) := by decide +kernel
theorem d4_15 : decode prog_43_method_1_code 15 = .ok (.aload_n 3, 1) := by decide +kernel
theorem d4_16 : decode prog_43_method_1_code 16 = .ok (.putfield 17, 3) := by decide +kernel
theorem d4_19 : decode prog_43_method_1_code 19 = .ok (.lconst 0, 1) := by decide +kernel
theorem d4_20 : decode prog_43_method_1_code 20 = .ok (.lstore 4, 2) := by decide +kernel
theorem d4_22 : decode prog_43_method_1_code 22 = .ok (.aload_n 3, 1) := by decide +kernel
theorem d4_23 : decode prog_43_method_1_code 23 = .ok (.astore 6, 2) := by decide +kernel
theorem d4_25 : decode prog_43_method_1_code 25 = .ok (.aload 6, 2) := by decide +kernel
theorem d4_27 : decode prog_43_method_1_code 27 = .ok (.arraylength, 1) := by decide +kernel
theorem d4_28 : decode prog_43_method_1_code 28 = .ok (.istore 7, 2) := by decide +kernel
theorem d4_30 : decode prog_43_method_1_code 30 = .ok (.iconst 0, 1) := by decide +kernel
theorem d4_31 : decode prog_43_method_1_code 31 = .ok (.istore 8, 2) := by decide +kernel
theorem d4_33 : decode prog_43_method_1_code 33 = .ok (.iload 8, 2) := by decide +kernel
theorem d4_35 : decode prog_43_method_1_code 35 = .ok (.iload 7, 2) := by decide +kernel
theorem d4_37 : decode prog_43_method_1_code 37 = .ok (.if_icmp .ge 25, 3) := by decide +kernel
theorem d4_62 : decode prog_43_method_1_code 62 = .ok (.aload_n 0, 1) := by decide +kernel
theorem d4_63 : decode prog_43_method_1_code 63 = .ok (.lload 4, 2) := by decide +kernel
theorem d4_65 : decode prog_43_method_1_code 65 = .ok (.putfield 26, 3) := by decide +kernel
theorem d4_68 : decode prog_43_method_1_code 68 = .ok (.return_, 1) := by decide +kernel
theorem pn_4 : plainName "com/example/millwright/millwright/jobshop/Plan" = true := by first | (simp [plainName, overriddenIn]; done) | decide +kernel
theorem ef_rm4_0 (m : MethodId) (x0 : Addr) (x1 : Addr) (x2 : Addr) (x3 : Addr) : entryFrame m #[(.ref x0), (.ref x1), (.ref x2), (.ref x3)] 11 = mkF m 0 #[.val (.ref x0), .val (.ref x1), .val (.ref x2), .val (.ref x3), .unset, .unset, .unset, .unset, .unset, .unset, .unset] [] := by first | (simp [entryFrame, mkF, argsToLocals, Value.category]; done) | rfl
def Qrm4_0 (Z : State) (a1 : Addr) (am : Addr) (ast : Addr) (ae : Addr) (ke : ClassId) (u1 : Int64) (h0 : Heap) (n0 : Nat) (v : Option Value) (h : Heap) (L : List Loc) : Prop := (v = none) ∧ (Fr n0 L) ∧ (Keep h0 h [a1]) ∧ (Exa Z h a1 "com/example/millwright/millwright/jobshop/Plan") ∧ (Fld Z h a1 "com/example/millwright/millwright/jobshop/Plan" "makespan" "J" (.long (0 : Int64)))
set_option maxRecDepth 65536 in
set_option maxHeartbeats 40000000 in
theorem rm4_0 (l : Launch) (Z : State) (a0 : Array Value) (hw : ∀ d ∈ tables_1, d.before a0 Z = true) (ws : List Jvm.Cond) (a1 : Addr) (am : Addr) (ast : Addr) (ae : Addr) (ke : ClassId) (u1 : Int64) (h0 : Heap) (n0 : Nat) (Z0 : n0 ≤ h0.size) (pr1 : Exa Z h0 a1 "com/example/millwright/millwright/jobshop/Plan") (pr2 : Fld Z h0 a1 "com/example/millwright/millwright/jobshop/Plan" "machine" "[I" .null) (pr3 : Fld Z h0 a1 "com/example/millwright/millwright/jobshop/Plan" "start" "[J" .null) (pr4 : Fld Z h0 a1 "com/example/millwright/millwright/jobshop/Plan" "end" "[J" .null) (pr5 : Fld Z h0 a1 "com/example/millwright/millwright/jobshop/Plan" "makespan" "J" (.long u1)) (pr6 : Arv Z h0 ae ke .long (0 : Int32) [] (.long (0 : Int64))) (pr7 : n0 ≤ a1) (pr8 : a1 ≠ ae) :
    MetFree l (⟨"com/example/millwright/millwright/jobshop/Plan", "<init>", "([I[J[J)V"⟩ : MethodName) (head1 (Jvm.Cond.code (⟨"com/example/millwright/millwright/jobshop/Plan", "<init>", "([I[J[J)V"⟩ : MethodName) prog_43_method_1_code 11 none :: ws) ({ frames := 1, cells := 0, slots := 0, locals := 12 } : Room)) (fun a U => a = #[(.ref a1), (.ref am), (.ref ast), (.ref ae)] ∧ Z.Warmed39 U.vm ∧ U.heap = h0) (fun _ _ _ _ _ => True) (fun _ U o U' => ∃ v L, o = .returned v ∧ Qrm4_0 Z a1 am ast ae ke u1 h0 n0 v U'.heap L ∧ FrameEnd U o U' L ({ frames := 1, cells := 0, slots := 0, locals := 12 } : Room).cells ({ frames := 1, cells := 0, slots := 0, locals := 12 } : Room).slots) := by
  refine MetFree.of_bodySF (plainFor_of_name pn_4) hisR ?_
  intro p e s m args below meth c s₁ Bd hml0 hP0 hK
  obtain ⟨rfl, hZ, hh⟩ := hP0
  have hx := Bd.exec
  have hby := Bd.bytes
  have hml : c.maxLocals = 11 := hml0
  have hown : s.vm.findClass "com/example/millwright/millwright/jobshop/Plan" = some m.cls := findClass_of_methodNamed Bd.named
  have hnm := (name_of_methodNamed Bd.named Bd.method).1
  have X0 : Stand p l e ({ frames := 1, cells := 0, slots := 0, locals := 12 } : Room) s m #[(.ref a1), (.ref am), (.ref ast), (.ref ae)] below meth c s₁ [] 0 0 := Stand.of_body Bd
  have e0 : s₁.heap = h0 := by rw [← hh, Bd.state]; rfl
  have N0 := Fr.nil n0
  suffices own_H : ∀ (P : State → Outcome → Prop), (∀ U o, U.status = .running → Ended U below o → (∃ v L, o = .returned v ∧ Qrm4_0 Z a1 am ast ae ke u1 h0 n0 v U.heap L ∧ FrameEnd s o U L ({ frames := 1, cells := 0, slots := 0, locals := 12 } : Room).cells ({ frames := 1, cells := 0, slots := 0, locals := 12 } : Room).slots) → P U o) → own_Go p.tables e below P (s₁.setTop (mkF m 0 #[.val (.ref a1), .val (.ref am), .val (.ref ast), .val (.ref ae), .unset, .unset, .unset, .unset, .unset, .unset, .unset] [])) from own_go (fun _ k => castTop (ef_rm4_0 m a1 am ast ae) k) (own_H _ (fun U o h1 h2 h3 => ⟨h1, h2, h3⟩))
  intro P hP
  have lt_a1 : @LT.lt Nat _ a1 h0.size := pr1.lt
  have lt_ae : @LT.lt Nat _ ae h0.size := pr6.lt
  refine own_go (st' := s₁.setTop (mkF m 1 #[.val (.ref a1), .val (.ref am), .val (.ref ast), .val (.ref ae), .unset, .unset, .unset, .unset, .unset, .unset, .unset] [(.ref a1)])) (fun _ k => XS.aloadN X0.here hx rfl (hb hby d4_0) rfl rfl k) ?_
  obtain ⟨T1, X1, e1, st1⟩ := initO X0 hx hZ hown (hw _ (List.mem_of_getElem? (i := 19) rfl)) (hw _ (List.mem_of_getElem? (i := 20) rfl)) (hw _ (List.mem_of_getElem? (i := 21) rfl)) e0 (g := (mkF m 1 #[.val (.ref a1), .val (.ref am), .val (.ref ast), .val (.ref ae), .unset, .unset, .unset, .unset, .unset, .unset, .unset] [(.ref a1)])) rfl (by rw [hml]; rfl) rfl (hb hby d4_1) (by decide) (W := 0) (by show 2 * 0 + _ ≤ _; exact Nat.le_of_eq rfl) (by decide)
  refine own_go (st' := T1.setTop (mkF m 4 #[.val (.ref a1), .val (.ref am), .val (.ref ast), .val (.ref ae), .unset, .unset, .unset, .unset, .unset, .unset, .unset] [])) (st1) ?_
  refine own_go (st' := T1.setTop (mkF m 5 #[.val (.ref a1), .val (.ref am), .val (.ref ast), .val (.ref ae), .unset, .unset, .unset, .unset, .unset, .unset, .unset] [(.ref a1)])) (fun _ k => XS.aloadN X1.here hx rfl (hb hby d4_4) rfl rfl k) ?_
  refine own_go (st' := T1.setTop (mkF m 6 #[.val (.ref a1), .val (.ref am), .val (.ref ast), .val (.ref ae), .unset, .unset, .unset, .unset, .unset, .unset, .unset] [(.ref am), (.ref a1)])) (fun _ k => XS.aloadN X1.here hx rfl (hb hby d4_5) rfl rfl k) ?_
  obtain ⟨T2, h2, X2, e2, W2, st2⟩ := putF X1 hx hZ hown (host := "") (Or.inl (hw _ (List.mem_of_getElem? (i := 22) rfl))) Via.refl e1 pr2 pr1 (Or.inr ⟨(hw _ (List.mem_of_getElem? (i := 23) rfl)), rfl, hnm⟩) (hw _ (List.mem_of_getElem? (i := 5) rfl)) (ty := (.array .int)) (by decide) rfl rfl (g := (mkF m 6 #[.val (.ref a1), .val (.ref am), .val (.ref ast), .val (.ref ae), .unset, .unset, .unset, .unset, .unset, .unset, .unset] [(.ref am), (.ref a1)])) rfl rfl (hb hby d4_6)
  have sz2 : h2.size = h0.size := W2.size
  have N2 := Fr.snoc X2 N0 (by omega)
  have f2 : Fld Z h2 a1 "com/example/millwright/millwright/jobshop/Plan" "machine" "[I" (.ref am) := pr2.same W2
  refine own_go (st' := T2.setTop (mkF m 9 #[.val (.ref a1), .val (.ref am), .val (.ref ast), .val (.ref ae), .unset, .unset, .unset, .unset, .unset, .unset, .unset] [])) (st2) ?_
  refine own_go (st' := T2.setTop (mkF m 10 #[.val (.ref a1), .val (.ref am), .val (.ref ast), .val (.ref ae), .unset, .unset, .unset, .unset, .unset, .unset, .unset] [(.ref a1)])) (fun _ k => XS.aloadN X2.here hx rfl (hb hby d4_9) rfl rfl k) ?_
  refine own_go (st' := T2.setTop (mkF m 11 #[.val (.ref a1), .val (.ref am), .val (.ref ast), .val (.ref ae), .unset, .unset, .unset, .unset, .unset, .unset, .unset] [(.ref ast), (.ref a1)])) (fun _ k => XS.aloadN X2.here hx rfl (hb hby d4_10) rfl rfl k) ?_
  have c3 : Fld Z h2 a1 "com/example/millwright/millwright/jobshop/Plan" "start" "[J" .null := (pr3.other W2 (Or.inr (slot_ne (Or.inr (hw _ (List.mem_of_getElem? (i := 25) rfl))) (Or.inr (hw _ (List.mem_of_getElem? (i := 23) rfl))) (by decide) (t := (.array .long)) (t' := (.array .int)) (by decide) (by decide))))
  have c4 : Exa Z h2 a1 "com/example/millwright/millwright/jobshop/Plan" := (pr1.wr W2)
  obtain ⟨T5, h5, X5, e5, W5, st5⟩ := putF X2 hx hZ hown (host := "") (Or.inl (hw _ (List.mem_of_getElem? (i := 24) rfl))) Via.refl e2 c3 c4 (Or.inr ⟨(hw _ (List.mem_of_getElem? (i := 25) rfl)), rfl, hnm⟩) (hw _ (List.mem_of_getElem? (i := 5) rfl)) (ty := (.array .long)) (by decide) rfl rfl (g := (mkF m 11 #[.val (.ref a1), .val (.ref am), .val (.ref ast), .val (.ref ae), .unset, .unset, .unset, .unset, .unset, .unset, .unset] [(.ref ast), (.ref a1)])) rfl rfl (hb hby d4_11)
  have sz5 : h5.size = h2.size := W5.size
  have N5 := Fr.snoc X5 N2 (by omega)
  have f5 : Fld Z h5 a1 "com/example/millwright/millwright/jobshop/Plan" "start" "[J" (.ref ast) := c3.same W5
  refine own_go (st' := T5.setTop (mkF m 14 #[.val (.ref a1), .val (.ref am), .val (.ref ast), .val (.ref ae), .unset, .unset, .unset, .unset, .unset, .unset, .unset] [])) (st5) ?_
  refine own_go (st' := T5.setTop (mkF m 15 #[.val (.ref a1), .val (.ref am), .val (.ref ast), .val (.ref ae), .unset, .unset, .unset, .unset, .unset, .unset, .unset] [(.ref a1)])) (fun _ k => XS.aloadN X5.here hx rfl (hb hby d4_14) rfl rfl k) ?_
  refine own_go (st' := T5.setTop (mkF m 16 #[.val (.ref a1), .val (.ref am), .val (.ref ast), .val (.ref ae), .unset, .unset, .unset, .unset, .unset, .unset, .unset] [(.ref ae), (.ref a1)])) (fun _ k => XS.aloadN X5.here hx rfl (hb hby d4_15) rfl rfl k) ?_
  have c6 : Fld Z h5 a1 "com/example/millwright/millwright/jobshop/Plan" "end" "[J" .null := ((pr4.other W2 (Or.inr (slot_ne (Or.inr (hw _ (List.mem_of_getElem? (i := 27) rfl))) (Or.inr (hw _ (List.mem_of_getElem? (i := 23) rfl))) (by decide) (t := (.array .long)) (t' := (.array .int)) (by decide) (by decide)))).other W5 (Or.inr (slot_ne (Or.inr (hw _ (List.mem_of_getElem? (i := 27) rfl))) (Or.inr (hw _ (List.mem_of_getElem? (i := 25) rfl))) (by decide) (t := (.array .long)) (t' := (.array .long)) (by decide) (by decide))))
  have c7 : Exa Z h5 a1 "com/example/millwright/millwright/jobshop/Plan" := (c4.wr W5)
  obtain ⟨T8, h8, X8, e8, W8, st8⟩ := putF X5 hx hZ hown (host := "") (Or.inl (hw _ (List.mem_of_getElem? (i := 26) rfl))) Via.refl e5 c6 c7 (Or.inr ⟨(hw _ (List.mem_of_getElem? (i := 27) rfl)), rfl, hnm⟩) (hw _ (List.mem_of_getElem? (i := 5) rfl)) (ty := (.array .long)) (by decide) rfl rfl (g := (mkF m 16 #[.val (.ref a1), .val (.ref am), .val (.ref ast), .val (.ref ae), .unset, .unset, .unset, .unset, .unset, .unset, .unset] [(.ref ae), (.ref a1)])) rfl rfl (hb hby d4_16)
  have sz8 : h8.size = h5.size := W8.size
  have N8 := Fr.snoc X8 N5 (by omega)
  have f8 : Fld Z h8 a1 "com/example/millwright/millwright/jobshop/Plan" "end" "[J" (.ref ae) := c6.same W8
  refine own_go (st' := T8.setTop (mkF m 19 #[.val (.ref a1), .val (.ref am), .val (.ref ast), .val (.ref ae), .unset, .unset, .unset, .unset, .unset, .unset, .unset] [])) (st8) ?_
  refine own_go (st' := T8.setTop (mkF m 20 #[.val (.ref a1), .val (.ref am), .val (.ref ast), .val (.ref ae), .unset, .unset, .unset, .unset, .unset, .unset, .unset] [(.long (0 : Int64))])) (fun _ k => XS.lconst X8.here hx rfl (hb hby d4_19) k) ?_
  refine own_go (st' := T8.setTop (mkF m 22 #[.val (.ref a1), .val (.ref am), .val (.ref ast), .val (.ref ae), .val (.long (0 : Int64)), .second, .unset, .unset, .unset, .unset, .unset] [])) (fun _ k => XS.lstore X8.here hx rfl (hb hby d4_20) rfl (l' := #[.val (.ref a1), .val (.ref am), .val (.ref ast), .val (.ref ae), .val (.long (0 : Int64)), .second, .unset, .unset, .unset, .unset, .unset]) rfl k) ?_
  refine own_go (st' := T8.setTop (mkF m 23 #[.val (.ref a1), .val (.ref am), .val (.ref ast), .val (.ref ae), .val (.long (0 : Int64)), .second, .unset, .unset, .unset, .unset, .unset] [(.ref ae)])) (fun _ k => XS.aloadN X8.here hx rfl (hb hby d4_22) rfl rfl k) ?_
  refine own_go (st' := T8.setTop (mkF m 25 #[.val (.ref a1), .val (.ref am), .val (.ref ast), .val (.ref ae), .val (.long (0 : Int64)), .second, .val (.ref ae), .unset, .unset, .unset, .unset] [])) (fun _ k => XS.astore X8.here hx rfl (hb hby d4_23) rfl rfl (l' := #[.val (.ref a1), .val (.ref am), .val (.ref ast), .val (.ref ae), .val (.long (0 : Int64)), .second, .val (.ref ae), .unset, .unset, .unset, .unset]) rfl k) ?_
  refine own_go (st' := T8.setTop (mkF m 27 #[.val (.ref a1), .val (.ref am), .val (.ref ast), .val (.ref ae), .val (.long (0 : Int64)), .second, .val (.ref ae), .unset, .unset, .unset, .unset] [(.ref ae)])) (fun _ k => XS.aload X8.here hx rfl (hb hby d4_25) rfl rfl k) ?_
  have c9 : Arv Z h8 ae ke .long (0 : Int32) [] (.long (0 : Int64)) := (((pr6.other W2 (by first | assumption | exact Ne.symm (by assumption) | (apply Nat.ne_of_lt; omega) | (apply Nat.ne_of_gt; omega))).other W5 (by first | assumption | exact Ne.symm (by assumption) | (apply Nat.ne_of_lt; omega) | (apply Nat.ne_of_gt; omega))).other W8 (by first | assumption | exact Ne.symm (by assumption) | (apply Nat.ne_of_lt; omega) | (apply Nat.ne_of_gt; omega)))
  obtain ⟨cl10, Ar10, -, S10, M10, -, -⟩ := id c9
  refine own_go (st' := T8.setTop (mkF m 28 #[.val (.ref a1), .val (.ref am), .val (.ref ast), .val (.ref ae), .val (.long (0 : Int64)), .second, .val (.ref ae), .unset, .unset, .unset, .unset] [(.int (0 : Int32))])) (fun t k => X8.arraylength hx (by rw [e8]; exact Ar10.1) (State.isArrayOf_alike hZ.alike Ar10.2.1) (g := (mkF m 27 #[.val (.ref a1), .val (.ref am), .val (.ref ast), .val (.ref ae), .val (.long (0 : Int64)), .second, .val (.ref ae), .unset, .unset, .unset, .unset] [(.ref ae)])) rfl rfl (hb hby d4_27) t (by rw [len_of S10 M10]; exact k)) ?_
  refine own_go (st' := T8.setTop (mkF m 30 #[.val (.ref a1), .val (.ref am), .val (.ref ast), .val (.ref ae), .val (.long (0 : Int64)), .second, .val (.ref ae), .val (.int (0 : Int32)), .unset, .unset, .unset] [])) (fun _ k => XS.istore X8.here hx rfl (hb hby d4_28) rfl (l' := #[.val (.ref a1), .val (.ref am), .val (.ref ast), .val (.ref ae), .val (.long (0 : Int64)), .second, .val (.ref ae), .val (.int (0 : Int32)), .unset, .unset, .unset]) rfl k) ?_
  refine own_go (st' := T8.setTop (mkF m 31 #[.val (.ref a1), .val (.ref am), .val (.ref ast), .val (.ref ae), .val (.long (0 : Int64)), .second, .val (.ref ae), .val (.int (0 : Int32)), .unset, .unset, .unset] [(.int (0 : Int32))])) (fun _ k => XS.iconst X8.here hx rfl (hb hby d4_30) k) ?_
  refine own_go (st' := T8.setTop (mkF m 33 #[.val (.ref a1), .val (.ref am), .val (.ref ast), .val (.ref ae), .val (.long (0 : Int64)), .second, .val (.ref ae), .val (.int (0 : Int32)), .val (.int (0 : Int32)), .unset, .unset] [])) (fun _ k => XS.istore X8.here hx rfl (hb hby d4_31) rfl (l' := #[.val (.ref a1), .val (.ref am), .val (.ref ast), .val (.ref ae), .val (.long (0 : Int64)), .second, .val (.ref ae), .val (.int (0 : Int32)), .val (.int (0 : Int32)), .unset, .unset]) rfl k) ?_
  refine own_go (st' := T8.setTop (mkF m 35 #[.val (.ref a1), .val (.ref am), .val (.ref ast), .val (.ref ae), .val (.long (0 : Int64)), .second, .val (.ref ae), .val (.int (0 : Int32)), .val (.int (0 : Int32)), .unset, .unset] [(.int (0 : Int32))])) (fun _ k => XS.iload X8.here hx rfl (hb hby d4_33) rfl k) ?_
  refine own_go (st' := T8.setTop (mkF m 37 #[.val (.ref a1), .val (.ref am), .val (.ref ast), .val (.ref ae), .val (.long (0 : Int64)), .second, .val (.ref ae), .val (.int (0 : Int32)), .val (.int (0 : Int32)), .unset, .unset] [(.int (0 : Int32)), (.int (0 : Int32))])) (fun _ k => XS.iload X8.here hx rfl (hb hby d4_35) rfl k) ?_
  have hc11 : ¬ ((0 : Int32) < (0 : Int32)) := by decide
  refine own_go (st' := T8.setTop (mkF m 62 #[.val (.ref a1), .val (.ref am), .val (.ref ast), .val (.ref ae), .val (.long (0 : Int64)), .second, .val (.ref ae), .val (.int (0 : Int32)), .val (.int (0 : Int32)), .unset, .unset] [])) (fun _ k => XS.icmpYes X8.here hx rfl (pc0 := 37) (pc' := 62) rfl (hb hby d4_37) rfl (flt hc11).2.1 (by decide) (by decide) k) ?_
  refine own_go (st' := T8.setTop (mkF m 63 #[.val (.ref a1), .val (.ref am), .val (.ref ast), .val (.ref ae), .val (.long (0 : Int64)), .second, .val (.ref ae), .val (.int (0 : Int32)), .val (.int (0 : Int32)), .unset, .unset] [(.ref a1)])) (fun _ k => XS.aloadN X8.here hx rfl (hb hby d4_62) rfl rfl k) ?_
  refine own_go (st' := T8.setTop (mkF m 65 #[.val (.ref a1), .val (.ref am), .val (.ref ast), .val (.ref ae), .val (.long (0 : Int64)), .second, .val (.ref ae), .val (.int (0 : Int32)), .val (.int (0 : Int32)), .unset, .unset] [(.long (0 : Int64)), (.ref a1)])) (fun _ k => XS.lload X8.here hx rfl (hb hby d4_63) rfl k) ?_
  have c12 : Fld Z h8 a1 "com/example/millwright/millwright/jobshop/Plan" "makespan" "J" (.long u1) := (((pr5.other W2 (Or.inr (slot_ne (Or.inr (hw _ (List.mem_of_getElem? (i := 30) rfl))) (Or.inr (hw _ (List.mem_of_getElem? (i := 23) rfl))) (by decide) (t := .long) (t' := (.array .int)) (by decide) (by decide)))).other W5 (Or.inr (slot_ne (Or.inr (hw _ (List.mem_of_getElem? (i := 30) rfl))) (Or.inr (hw _ (List.mem_of_getElem? (i := 25) rfl))) (by decide) (t := .long) (t' := (.array .long)) (by decide) (by decide)))).other W8 (Or.inr (slot_ne (Or.inr (hw _ (List.mem_of_getElem? (i := 30) rfl))) (Or.inr (hw _ (List.mem_of_getElem? (i := 27) rfl))) (by decide) (t := .long) (t' := (.array .long)) (by decide) (by decide))))
  have c13 : Exa Z h8 a1 "com/example/millwright/millwright/jobshop/Plan" := (c7.wr W8)
  obtain ⟨T14, h14, X14, e14, W14, st14⟩ := putF X8 hx hZ hown (host := "") (Or.inl (hw _ (List.mem_of_getElem? (i := 29) rfl))) Via.refl e8 c12 c13 (Or.inr ⟨(hw _ (List.mem_of_getElem? (i := 30) rfl)), rfl, hnm⟩) (hw _ (List.mem_of_getElem? (i := 5) rfl)) (ty := .long) (by decide) rfl rfl (g := (mkF m 65 #[.val (.ref a1), .val (.ref am), .val (.ref ast), .val (.ref ae), .val (.long (0 : Int64)), .second, .val (.ref ae), .val (.int (0 : Int32)), .val (.int (0 : Int32)), .unset, .unset] [(.long (0 : Int64)), (.ref a1)])) rfl rfl (hb hby d4_65)
  have sz14 : h14.size = h8.size := W14.size
  have N14 := Fr.snoc X14 N8 (by omega)
  have f14 : Fld Z h14 a1 "com/example/millwright/millwright/jobshop/Plan" "makespan" "J" (.long (0 : Int64)) := c12.same W14
  refine own_go (st' := T14.setTop (mkF m 68 #[.val (.ref a1), .val (.ref am), .val (.ref ast), .val (.ref ae), .val (.long (0 : Int64)), .second, .val (.ref ae), .val (.int (0 : Int32)), .val (.int (0 : Int32)), .unset, .unset] [])) (st14) ?_
  obtain ⟨fs, hr, hrun, hended, hW, hsame⟩ := X14.leave (v := none) (fun _ => rfl)
  refine ⟨_, _, ?_, hP _ _ hrun hended ⟨_, _, rfl, ?_, ⟨_, rfl⟩, hW, hsame.mono (by decide) (by decide)⟩⟩
  · exact X14.returnOut hx Bd.returns (hb hby d4_68) hr
  · show Qrm4_0 Z a1 am ast ae ke u1 h0 n0 _ T14.heap _
    have c16 : Exa Z h14 a1 "com/example/millwright/millwright/jobshop/Plan" := (c13.wr W14)
    rw [e14]
    exact ⟨rfl, N14, (((((Keep.refl h0 [a1]).wr W2 (Or.inl (List.mem_of_getElem? (i := 0) rfl))).wr W5 (Or.inl (List.mem_of_getElem? (i := 0) rfl))).wr W8 (Or.inl (List.mem_of_getElem? (i := 0) rfl))).wr W14 (Or.inl (List.mem_of_getElem? (i := 0) rfl))), c16, f14⟩
theorem d2_8 : decode method_3_code 8 = .ok (.iload_n 0, 1) := by decide +kernel
theorem d2_9 : decode method_3_code 9 = .ok (.iconst 1, 1) := by decide +kernel
theorem d2_10 : decode method_3_code 10 = .ok (.if_icmp .ne 11, 3) := by decide +kernel
theorem d2_13 : decode method_3_code 13 = .ok (.iconst 1, 1) := by decide +kernel
theorem d2_14 : decode method_3_code 14 = .ok (.newarray .int, 2) := by decide +kernel
theorem d2_16 : decode method_3_code 16 = .ok (.dup, 1) := by decide +kernel
theorem d2_17 : decode method_3_code 17 = .ok (.iconst 0, 1) := by decide +kernel
theorem d2_18 : decode method_3_code 18 = .ok (.iconst 1, 1) := by decide +kernel
theorem d2_19 : decode method_3_code 19 = .ok (.iastore, 1) := by decide +kernel
theorem d2_20 : decode method_3_code 20 = .ok (.areturn, 1) := by decide +kernel
theorem ef_rm2_1 (m : MethodId) (x0 : Int32) : entryFrame m #[(.int x0)] 1 = mkF m 0 #[.val (.int x0)] [] := by first | (simp [entryFrame, mkF, argsToLocals, Value.category]; done) | rfl
def Qrm2_1 (Z : State)  (h0 : Heap) (n0 : Nat) (v : Option Value) (h : Heap) (L : List Loc) : Prop := ∃ (r : Addr) (kr : ClassId), (v = some (.ref r)) ∧ (Fr n0 L) ∧ (Keep h0 h []) ∧ (Arv Z h r kr .int (1 : Int32) [(.int (1 : Int32))] (.int (0 : Int32))) ∧ (h0.size ≤ r)
set_option maxRecDepth 65536 in
set_option maxHeartbeats 40000000 in
theorem rm2_1 (l : Launch) (Z : State) (a0 : Array Value) (hw : ∀ d ∈ tables_1, d.before a0 Z = true) (ws : List Jvm.Cond)  (h0 : Heap) (n0 : Nat) (Z0 : n0 ≤ h0.size)  :
    MetFree l (⟨"com/example/millwright/millwright/jobshop/JobShopSolutionOptimalPinLaw", "machines", "(I)[I"⟩ : MethodName) (head1 (Jvm.Cond.code (⟨"com/example/millwright/millwright/jobshop/JobShopSolutionOptimalPinLaw", "machines", "(I)[I"⟩ : MethodName) method_3_code 1 (some (.array .int)) :: ws) ({ frames := 0, cells := 1, slots := 1, locals := 0 } : Room)) (fun a U => a = #[(.int (1 : Int32))] ∧ Z.Warmed39 U.vm ∧ U.heap = h0) (fun _ _ _ _ _ => True) (fun _ U o U' => ∃ v L, o = .returned v ∧ Qrm2_1 Z  h0 n0 v U'.heap L ∧ FrameEnd U o U' L ({ frames := 0, cells := 1, slots := 1, locals := 0 } : Room).cells ({ frames := 0, cells := 1, slots := 1, locals := 0 } : Room).slots) := by
  refine MetFree.of_bodySF (plainFor_of_name pn_2) hisR ?_
  intro p e s m args below meth c s₁ Bd hml0 hP0 hK
  obtain ⟨rfl, hZ, hh⟩ := hP0
  have hx := Bd.exec
  have hby := Bd.bytes
  have hml : c.maxLocals = 1 := hml0
  have hown : s.vm.findClass "com/example/millwright/millwright/jobshop/JobShopSolutionOptimalPinLaw" = some m.cls := findClass_of_methodNamed Bd.named
  have hnm := (name_of_methodNamed Bd.named Bd.method).1
  have X0 : Stand p l e ({ frames := 0, cells := 1, slots := 1, locals := 0 } : Room) s m #[(.int (1 : Int32))] below meth c s₁ [] 0 0 := Stand.of_body Bd
  have e0 : s₁.heap = h0 := by rw [← hh, Bd.state]; rfl
  have N0 := Fr.nil n0
  suffices own_H : ∀ (P : State → Outcome → Prop), (∀ U o, U.status = .running → Ended U below o → (∃ v L, o = .returned v ∧ Qrm2_1 Z  h0 n0 v U.heap L ∧ FrameEnd s o U L ({ frames := 0, cells := 1, slots := 1, locals := 0 } : Room).cells ({ frames := 0, cells := 1, slots := 1, locals := 0 } : Room).slots) → P U o) → own_Go p.tables e below P (s₁.setTop (mkF m 0 #[.val (.int (1 : Int32))] [])) from own_go (fun _ k => castTop (ef_rm2_1 m (1 : Int32)) k) (own_H _ (fun U o h1 h2 h3 => ⟨h1, h2, h3⟩))
  intro P hP
  refine own_go (st' := s₁.setTop (mkF m 1 #[.val (.int (1 : Int32))] [(.int (1 : Int32))])) (fun _ k => XS.iloadN X0.here hx rfl (hb hby d2_0) rfl k) ?_
  have hc1 : ¬ ((1 : Int32) = (0 : Int32)) := by decide
  refine own_go (st' := s₁.setTop (mkF m 8 #[.val (.int (1 : Int32))] [])) (fun _ k => XS.ifYes X0.here hx rfl (pc0 := 1) (pc' := 8) rfl (hb hby d2_1) rfl ((if0 _ _).trans (feq hc1).2) (by decide) (by decide) k) ?_
  refine own_go (st' := s₁.setTop (mkF m 9 #[.val (.int (1 : Int32))] [(.int (1 : Int32))])) (fun _ k => XS.iloadN X0.here hx rfl (hb hby d2_8) rfl k) ?_
  refine own_go (st' := s₁.setTop (mkF m 10 #[.val (.int (1 : Int32))] [(.int (1 : Int32)), (.int (1 : Int32))])) (fun _ k => XS.iconst X0.here hx rfl (hb hby d2_9) k) ?_
  have hc2 : (1 : Int32) = (1 : Int32) := by decide
  refine own_go (st' := s₁.setTop (mkF m 13 #[.val (.int (1 : Int32))] [])) (fun _ k => XS.icmpNo X0.here hx rfl (hb hby d2_10) rfl (teq hc2).2 k) ?_
  refine own_go (st' := s₁.setTop (mkF m 14 #[.val (.int (1 : Int32))] [(.int (1 : Int32))])) (fun _ k => XS.iconst X0.here hx rfl (hb hby d2_13) k) ?_
  obtain ⟨T3, h3, k3, X3, e3, E3, A3, st3⟩ := newP X0 hx hZ (hw _ (List.mem_of_getElem? (i := 11) rfl)) e0 (g := (mkF m 14 #[.val (.int (1 : Int32))] [(.int (1 : Int32))])) rfl (hb hby d2_14) rfl (by decide) (cap := 1) (by decide) (by decide) (by decide) (by decide)
  obtain ⟨b3, g3⟩ : ∃ z, z = h0.size := ⟨_, rfl⟩
  rw [← g3] at A3 st3
  have sz3 : h0.size ≤ h3.size := E3.1
  have lt3 : @LT.lt Nat _ b3 h3.size := A3.lt
  have v3 : Arv Z h3 b3 k3 .int (1 : Int32) [(.int (0 : Int32))] (.int (0 : Int32)) := (Arv.new A3 (by decide)).pad (pad_rep [] (.int (0 : Int32)) 1)
  refine own_go (st' := T3.setTop (mkF m 16 #[.val (.int (1 : Int32))] [(.ref b3)])) (st3) ?_
  refine own_go (st' := T3.setTop (mkF m 17 #[.val (.int (1 : Int32))] [(.ref b3), (.ref b3)])) (fun _ k => XS.dup X3.here hx rfl (hb hby d2_16) rfl rfl k) ?_
  refine own_go (st' := T3.setTop (mkF m 18 #[.val (.int (1 : Int32))] [(.int (0 : Int32)), (.ref b3), (.ref b3)])) (fun _ k => XS.iconst X3.here hx rfl (hb hby d2_17) k) ?_
  refine own_go (st' := T3.setTop (mkF m 19 #[.val (.int (1 : Int32))] [(.int (1 : Int32)), (.int (0 : Int32)), (.ref b3), (.ref b3)])) (fun _ k => XS.iconst X3.here hx rfl (hb hby d2_18) k) ?_
  obtain ⟨cl4, Ar4, qc4, S4, M4, H4, G4⟩ := id v3
  have hin4 : ¬ ((0 : Int32) < 0 ∨ cl4.slots.size ≤ ((0 : Int32)).toNatClampNeg) := (inb_of S4 ⟨by decide, by decide⟩)
  obtain ⟨T4, h4, X4, e4, W4, st4⟩ := stI X3 hx hZ e3 Ar4 (j := (0 : Int32)) hin4 (g := (mkF m 19 #[.val (.int (1 : Int32))] [(.int (1 : Int32)), (.int (0 : Int32)), (.ref b3), (.ref b3)])) rfl rfl (hb hby d2_19)
  have sz4 : h4.size = h3.size := W4.size
  have N4 := Fr.snoc X4 N0 (by omega)
  have v4 : Arv Z h4 b3 k3 .int (1 : Int32) [(.int (1 : Int32))] (.int (0 : Int32)) := Arv.set Ar4 qc4 S4 M4 H4 G4 rfl W4 0 rfl (Nat.le_of_ble_eq_true rfl)
  refine own_go (st' := T4.setTop (mkF m 20 #[.val (.int (1 : Int32))] [(.ref b3)])) (st4) ?_
  obtain ⟨fs, hr, hrun, hended, hW, hsame⟩ := X4.leave (v := some (.ref b3)) (fun h => by rw [Bd.returns] at h; cases h)
  refine ⟨_, _, ?_, hP _ _ hrun hended ⟨_, _, rfl, ?_, ⟨_, rfl⟩, hW, hsame.mono (by decide) (by decide)⟩⟩
  · exact retOut X4 hx Bd.returns rfl (Or.inr (Or.inr (Or.inr (Or.inr ⟨rfl, rfl, rfl⟩)))) (hb hby d2_20) hr
  · show Qrm2_1 Z  h0 n0 _ T4.heap _
    rw [e4]
    exact ⟨b3, k3, rfl, N4, (((Keep.refl h0 []).ext E3).wr W4 (Or.inr (by omega))), v4, (by omega)⟩
theorem d3_8 : decode method_2_code 8 = .ok (.iload_n 0, 1) := by decide +kernel
theorem d3_9 : decode method_2_code 9 = .ok (.iconst 1, 1) := by decide +kernel
theorem d3_10 : decode method_2_code 10 = .ok (.if_icmp .ne 11, 3) := by decide +kernel
theorem d3_13 : decode method_2_code 13 = .ok (.iconst 1, 1) := by decide +kernel
theorem d3_14 : decode method_2_code 14 = .ok (.newarray .long, 2) := by decide +kernel
theorem d3_16 : decode method_2_code 16 = .ok (.dup, 1) := by decide +kernel
theorem d3_17 : decode method_2_code 17 = .ok (.iconst 0, 1) := by decide +kernel
theorem d3_18 : decode method_2_code 18 = .ok (.lload_n 1, 1) := by decide +kernel
theorem d3_19 : decode method_2_code 19 = .ok (.lastore, 1) := by decide +kernel
theorem d3_20 : decode method_2_code 20 = .ok (.areturn, 1) := by decide +kernel
theorem ef_rm3_1 (m : MethodId) (x0 : Int32) (x1 : Int64) (x2 : Int64) (x3 : Int64) : entryFrame m #[(.int x0), (.long x1), (.long x2), (.long x3)] 7 = mkF m 0 #[.val (.int x0), .val (.long x1), .second, .val (.long x2), .second, .val (.long x3), .second] [] := by first | (simp [entryFrame, mkF, argsToLocals, Value.category]; done) | rfl
def Qrm3_1 (Z : State) (q1 : Int64) (q2 : Int64) (q3 : Int64) (h0 : Heap) (n0 : Nat) (v : Option Value) (h : Heap) (L : List Loc) : Prop := ∃ (r : Addr) (kr : ClassId), (v = some (.ref r)) ∧ (Fr n0 L) ∧ (Keep h0 h []) ∧ (Arv Z h r kr .long (1 : Int32) [(.long q1)] (.long (0 : Int64))) ∧ (h0.size ≤ r)
set_option maxRecDepth 65536 in
set_option maxHeartbeats 40000000 in
theorem rm3_1 (l : Launch) (Z : State) (a0 : Array Value) (hw : ∀ d ∈ tables_1, d.before a0 Z = true) (ws : List Jvm.Cond) (q1 : Int64) (q2 : Int64) (q3 : Int64) (h0 : Heap) (n0 : Nat) (Z0 : n0 ≤ h0.size)  :
    MetFree l (⟨"com/example/millwright/millwright/jobshop/JobShopSolutionOptimalPinLaw", "longs", "(IJJJ)[J"⟩ : MethodName) (head1 (Jvm.Cond.code (⟨"com/example/millwright/millwright/jobshop/JobShopSolutionOptimalPinLaw", "longs", "(IJJJ)[J"⟩ : MethodName) method_2_code 7 (some (.array .long)) :: ws) ({ frames := 0, cells := 1, slots := 1, locals := 0 } : Room)) (fun a U => a = #[(.int (1 : Int32)), (.long q1), (.long q2), (.long q3)] ∧ Z.Warmed39 U.vm ∧ U.heap = h0) (fun _ _ _ _ _ => True) (fun _ U o U' => ∃ v L, o = .returned v ∧ Qrm3_1 Z q1 q2 q3 h0 n0 v U'.heap L ∧ FrameEnd U o U' L ({ frames := 0, cells := 1, slots := 1, locals := 0 } : Room).cells ({ frames := 0, cells := 1, slots := 1, locals := 0 } : Room).slots) := by
  refine MetFree.of_bodySF (plainFor_of_name pn_3) hisR ?_
  intro p e s m args below meth c s₁ Bd hml0 hP0 hK
  obtain ⟨rfl, hZ, hh⟩ := hP0
  have hx := Bd.exec
  have hby := Bd.bytes
  have hml : c.maxLocals = 7 := hml0
  have hown : s.vm.findClass "com/example/millwright/millwright/jobshop/JobShopSolutionOptimalPinLaw" = some m.cls := findClass_of_methodNamed Bd.named
  have hnm := (name_of_methodNamed Bd.named Bd.method).1
  have X0 : Stand p l e ({ frames := 0, cells := 1, slots := 1, locals := 0 } : Room) s m #[(.int (1 : Int32)), (.long q1), (.long q2), (.long q3)] below meth c s₁ [] 0 0 := Stand.of_body Bd
  have e0 : s₁.heap = h0 := by rw [← hh, Bd.state]; rfl
  have N0 := Fr.nil n0
  suffices own_H : ∀ (P : State → Outcome → Prop), (∀ U o, U.status = .running → Ended U below o → (∃ v L, o = .returned v ∧ Qrm3_1 Z q1 q2 q3 h0 n0 v U.heap L ∧ FrameEnd s o U L ({ frames := 0, cells := 1, slots := 1, locals := 0 } : Room).cells ({ frames := 0, cells := 1, slots := 1, locals := 0 } : Room).slots) → P U o) → own_Go p.tables e below P (s₁.setTop (mkF m 0 #[.val (.int (1 : Int32)), .val (.long q1), .second, .val (.long q2), .second, .val (.long q3), .second] [])) from own_go (fun _ k => castTop (ef_rm3_1 m (1 : Int32) q1 q2 q3) k) (own_H _ (fun U o h1 h2 h3 => ⟨h1, h2, h3⟩))
  intro P hP
  refine own_go (st' := s₁.setTop (mkF m 1 #[.val (.int (1 : Int32)), .val (.long q1), .second, .val (.long q2), .second, .val (.long q3), .second] [(.int (1 : Int32))])) (fun _ k => XS.iloadN X0.here hx rfl (hb hby d3_0) rfl k) ?_
  have hc1 : ¬ ((1 : Int32) = (0 : Int32)) := by decide
  refine own_go (st' := s₁.setTop (mkF m 8 #[.val (.int (1 : Int32)), .val (.long q1), .second, .val (.long q2), .second, .val (.long q3), .second] [])) (fun _ k => XS.ifYes X0.here hx rfl (pc0 := 1) (pc' := 8) rfl (hb hby d3_1) rfl ((if0 _ _).trans (feq hc1).2) (by decide) (by decide) k) ?_
  refine own_go (st' := s₁.setTop (mkF m 9 #[.val (.int (1 : Int32)), .val (.long q1), .second, .val (.long q2), .second, .val (.long q3), .second] [(.int (1 : Int32))])) (fun _ k => XS.iloadN X0.here hx rfl (hb hby d3_8) rfl k) ?_
  refine own_go (st' := s₁.setTop (mkF m 10 #[.val (.int (1 : Int32)), .val (.long q1), .second, .val (.long q2), .second, .val (.long q3), .second] [(.int (1 : Int32)), (.int (1 : Int32))])) (fun _ k => XS.iconst X0.here hx rfl (hb hby d3_9) k) ?_
  have hc2 : (1 : Int32) = (1 : Int32) := by decide
  refine own_go (st' := s₁.setTop (mkF m 13 #[.val (.int (1 : Int32)), .val (.long q1), .second, .val (.long q2), .second, .val (.long q3), .second] [])) (fun _ k => XS.icmpNo X0.here hx rfl (hb hby d3_10) rfl (teq hc2).2 k) ?_
  refine own_go (st' := s₁.setTop (mkF m 14 #[.val (.int (1 : Int32)), .val (.long q1), .second, .val (.long q2), .second, .val (.long q3), .second] [(.int (1 : Int32))])) (fun _ k => XS.iconst X0.here hx rfl (hb hby d3_13) k) ?_
  obtain ⟨T3, h3, k3, X3, e3, E3, A3, st3⟩ := newP X0 hx hZ (hw _ (List.mem_of_getElem? (i := 15) rfl)) e0 (g := (mkF m 14 #[.val (.int (1 : Int32)), .val (.long q1), .second, .val (.long q2), .second, .val (.long q3), .second] [(.int (1 : Int32))])) rfl (hb hby d3_14) rfl (by decide) (cap := 1) (by decide) (by decide) (by decide) (by decide)
  obtain ⟨b3, g3⟩ : ∃ z, z = h0.size := ⟨_, rfl⟩
  rw [← g3] at A3 st3
  have sz3 : h0.size ≤ h3.size := E3.1
  have lt3 : @LT.lt Nat _ b3 h3.size := A3.lt
  have v3 : Arv Z h3 b3 k3 .long (1 : Int32) [(.long (0 : Int64))] (.long (0 : Int64)) := (Arv.new A3 (by decide)).pad (pad_rep [] (.long (0 : Int64)) 1)
  refine own_go (st' := T3.setTop (mkF m 16 #[.val (.int (1 : Int32)), .val (.long q1), .second, .val (.long q2), .second, .val (.long q3), .second] [(.ref b3)])) (st3) ?_
  refine own_go (st' := T3.setTop (mkF m 17 #[.val (.int (1 : Int32)), .val (.long q1), .second, .val (.long q2), .second, .val (.long q3), .second] [(.ref b3), (.ref b3)])) (fun _ k => XS.dup X3.here hx rfl (hb hby d3_16) rfl rfl k) ?_
  refine own_go (st' := T3.setTop (mkF m 18 #[.val (.int (1 : Int32)), .val (.long q1), .second, .val (.long q2), .second, .val (.long q3), .second] [(.int (0 : Int32)), (.ref b3), (.ref b3)])) (fun _ k => XS.iconst X3.here hx rfl (hb hby d3_17) k) ?_
  refine own_go (st' := T3.setTop (mkF m 19 #[.val (.int (1 : Int32)), .val (.long q1), .second, .val (.long q2), .second, .val (.long q3), .second] [(.long q1), (.int (0 : Int32)), (.ref b3), (.ref b3)])) (fun _ k => XS.lloadN X3.here hx rfl (hb hby d3_18) rfl k) ?_
  obtain ⟨cl4, Ar4, qc4, S4, M4, H4, G4⟩ := id v3
  have hin4 : ¬ ((0 : Int32) < 0 ∨ cl4.slots.size ≤ ((0 : Int32)).toNatClampNeg) := (inb_of S4 ⟨by decide, by decide⟩)
  obtain ⟨T4, h4, X4, e4, W4, st4⟩ := stJ X3 hx hZ e3 Ar4 (j := (0 : Int32)) hin4 (g := (mkF m 19 #[.val (.int (1 : Int32)), .val (.long q1), .second, .val (.long q2), .second, .val (.long q3), .second] [(.long q1), (.int (0 : Int32)), (.ref b3), (.ref b3)])) rfl rfl (hb hby d3_19)
  have sz4 : h4.size = h3.size := W4.size
  have N4 := Fr.snoc X4 N0 (by omega)
  have v4 : Arv Z h4 b3 k3 .long (1 : Int32) [(.long q1)] (.long (0 : Int64)) := Arv.set Ar4 qc4 S4 M4 H4 G4 rfl W4 0 rfl (Nat.le_of_ble_eq_true rfl)
  refine own_go (st' := T4.setTop (mkF m 20 #[.val (.int (1 : Int32)), .val (.long q1), .second, .val (.long q2), .second, .val (.long q3), .second] [(.ref b3)])) (st4) ?_
  obtain ⟨fs, hr, hrun, hended, hW, hsame⟩ := X4.leave (v := some (.ref b3)) (fun h => by rw [Bd.returns] at h; cases h)
  refine ⟨_, _, ?_, hP _ _ hrun hended ⟨_, _, rfl, ?_, ⟨_, rfl⟩, hW, hsame.mono (by decide) (by decide)⟩⟩
  · exact retOut X4 hx Bd.returns rfl (Or.inr (Or.inr (Or.inr (Or.inr ⟨rfl, rfl, rfl⟩)))) (hb hby d3_20) hr
  · show Qrm3_1 Z q1 q2 q3 h0 n0 _ T4.heap _
    rw [e4]
    exact ⟨b3, k3, rfl, N4, (((Keep.refl h0 []).ext E3).wr W4 (Or.inr (by omega))), v4, (by omega)⟩
theorem pd_0 : parseMethodDescriptor "(JJ)J" = some ⟨[.long, .long], some .long⟩ := by decide +kernel
theorem d4_40 : decode prog_43_method_1_code 40 = .ok (.aload 6, 2) := by decide +kernel
theorem d4_42 : decode prog_43_method_1_code 42 = .ok (.iload 8, 2) := by decide +kernel
theorem d4_44 : decode prog_43_method_1_code 44 = .ok (.laload, 1) := by decide +kernel
theorem d4_45 : decode prog_43_method_1_code 45 = .ok (.lstore 9, 2) := by decide +kernel
theorem d4_47 : decode prog_43_method_1_code 47 = .ok (.lload 4, 2) := by decide +kernel
theorem d4_49 : decode prog_43_method_1_code 49 = .ok (.lload 9, 2) := by decide +kernel
theorem d4_51 : decode prog_43_method_1_code 51 = .ok (.invokestatic 20, 3) := by decide +kernel
theorem d4_54 : decode prog_43_method_1_code 54 = .ok (.lstore 4, 2) := by decide +kernel
theorem d4_56 : decode prog_43_method_1_code 56 = .ok (.iinc 8 1, 3) := by decide +kernel
theorem d4_59 : decode prog_43_method_1_code 59 = .ok (.goto (-26), 3) := by decide +kernel
theorem ef_rm4_1 (m : MethodId) (x0 : Addr) (x1 : Addr) (x2 : Addr) (x3 : Addr) : entryFrame m #[(.ref x0), (.ref x1), (.ref x2), (.ref x3)] 11 = mkF m 0 #[.val (.ref x0), .val (.ref x1), .val (.ref x2), .val (.ref x3), .unset, .unset, .unset, .unset, .unset, .unset, .unset] [] := by first | (simp [entryFrame, mkF, argsToLocals, Value.category]; done) | rfl
def Qrm4_1 (Z : State) (a1 : Addr) (am : Addr) (ast : Addr) (ae : Addr) (ke : ClassId) (u1 : Int64) (q1 : Int64) (h0 : Heap) (n0 : Nat) (v : Option Value) (h : Heap) (L : List Loc) : Prop := (v = none) ∧ (Fr n0 L) ∧ (Keep h0 h [a1]) ∧ (Exa Z h a1 "com/example/millwright/millwright/jobshop/Plan") ∧ (Fld Z h a1 "com/example/millwright/millwright/jobshop/Plan" "makespan" "J" (.long (own_lmax (0 : Int64) q1)))
set_option maxRecDepth 65536 in
set_option maxHeartbeats 40000000 in
theorem rm4_1 (l : Launch) (Z : State) (a0 : Array Value) (hw : ∀ d ∈ tables_1, d.before a0 Z = true) (ws : List Jvm.Cond) (a1 : Addr) (am : Addr) (ast : Addr) (ae : Addr) (ke : ClassId) (u1 : Int64) (q1 : Int64) (h0 : Heap) (n0 : Nat) (Z0 : n0 ≤ h0.size) (pr1 : Exa Z h0 a1 "com/example/millwright/millwright/jobshop/Plan") (pr2 : Fld Z h0 a1 "com/example/millwright/millwright/jobshop/Plan" "machine" "[I" .null) (pr3 : Fld Z h0 a1 "com/example/millwright/millwright/jobshop/Plan" "start" "[J" .null) (pr4 : Fld Z h0 a1 "com/example/millwright/millwright/jobshop/Plan" "end" "[J" .null) (pr5 : Fld Z h0 a1 "com/example/millwright/millwright/jobshop/Plan" "makespan" "J" (.long u1)) (pr6 : Arv Z h0 ae ke .long (1 : Int32) [(.long q1)] (.long (0 : Int64))) (pr7 : n0 ≤ a1) (pr8 : a1 ≠ ae) :
    MetFree l (⟨"com/example/millwright/millwright/jobshop/Plan", "<init>", "([I[J[J)V"⟩ : MethodName) (head1 (Jvm.Cond.code (⟨"com/example/millwright/millwright/jobshop/Plan", "<init>", "([I[J[J)V"⟩ : MethodName) prog_43_method_1_code 11 none :: ws) ({ frames := 1, cells := 0, slots := 0, locals := 15 } : Room)) (fun a U => a = #[(.ref a1), (.ref am), (.ref ast), (.ref ae)] ∧ Z.Warmed39 U.vm ∧ U.heap = h0) (fun _ _ _ _ _ => True) (fun _ U o U' => ∃ v L, o = .returned v ∧ Qrm4_1 Z a1 am ast ae ke u1 q1 h0 n0 v U'.heap L ∧ FrameEnd U o U' L ({ frames := 1, cells := 0, slots := 0, locals := 15 } : Room).cells ({ frames := 1, cells := 0, slots := 0, locals := 15 } : Room).slots) := by
  refine MetFree.of_bodySF (plainFor_of_name pn_4) hisR ?_
  intro p e s m args below meth c s₁ Bd hml0 hP0 hK
  obtain ⟨rfl, hZ, hh⟩ := hP0
  have hx := Bd.exec
  have hby := Bd.bytes
  have hml : c.maxLocals = 11 := hml0
  have hown : s.vm.findClass "com/example/millwright/millwright/jobshop/Plan" = some m.cls := findClass_of_methodNamed Bd.named
  have hnm := (name_of_methodNamed Bd.named Bd.method).1
  have X0 : Stand p l e ({ frames := 1, cells := 0, slots := 0, locals := 15 } : Room) s m #[(.ref a1), (.ref am), (.ref ast), (.ref ae)] below meth c s₁ [] 0 0 := Stand.of_body Bd
  have e0 : s₁.heap = h0 := by rw [← hh, Bd.state]; rfl
  have N0 := Fr.nil n0
  suffices own_H : ∀ (P : State → Outcome → Prop), (∀ U o, U.status = .running → Ended U below o → (∃ v L, o = .returned v ∧ Qrm4_1 Z a1 am ast ae ke u1 q1 h0 n0 v U.heap L ∧ FrameEnd s o U L ({ frames := 1, cells := 0, slots := 0, locals := 15 } : Room).cells ({ frames := 1, cells := 0, slots := 0, locals := 15 } : Room).slots) → P U o) → own_Go p.tables e below P (s₁.setTop (mkF m 0 #[.val (.ref a1), .val (.ref am), .val (.ref ast), .val (.ref ae), .unset, .unset, .unset, .unset, .unset, .unset, .unset] [])) from own_go (fun _ k => castTop (ef_rm4_1 m a1 am ast ae) k) (own_H _ (fun U o h1 h2 h3 => ⟨h1, h2, h3⟩))
  intro P hP
  have lt_a1 : @LT.lt Nat _ a1 h0.size := pr1.lt
  have lt_ae : @LT.lt Nat _ ae h0.size := pr6.lt
  refine own_go (st' := s₁.setTop (mkF m 1 #[.val (.ref a1), .val (.ref am), .val (.ref ast), .val (.ref ae), .unset, .unset, .unset, .unset, .unset, .unset, .unset] [(.ref a1)])) (fun _ k => XS.aloadN X0.here hx rfl (hb hby d4_0) rfl rfl k) ?_
  obtain ⟨T1, X1, e1, st1⟩ := initO X0 hx hZ hown (hw _ (List.mem_of_getElem? (i := 19) rfl)) (hw _ (List.mem_of_getElem? (i := 20) rfl)) (hw _ (List.mem_of_getElem? (i := 21) rfl)) e0 (g := (mkF m 1 #[.val (.ref a1), .val (.ref am), .val (.ref ast), .val (.ref ae), .unset, .unset, .unset, .unset, .unset, .unset, .unset] [(.ref a1)])) rfl (by rw [hml]; rfl) rfl (hb hby d4_1) (by decide) (W := 0) (by show 2 * 0 + _ ≤ _; exact Nat.le_of_eq rfl) (by decide)
  refine own_go (st' := T1.setTop (mkF m 4 #[.val (.ref a1), .val (.ref am), .val (.ref ast), .val (.ref ae), .unset, .unset, .unset, .unset, .unset, .unset, .unset] [])) (st1) ?_
  refine own_go (st' := T1.setTop (mkF m 5 #[.val (.ref a1), .val (.ref am), .val (.ref ast), .val (.ref ae), .unset, .unset, .unset, .unset, .unset, .unset, .unset] [(.ref a1)])) (fun _ k => XS.aloadN X1.here hx rfl (hb hby d4_4) rfl rfl k) ?_
  refine own_go (st' := T1.setTop (mkF m 6 #[.val (.ref a1), .val (.ref am), .val (.ref ast), .val (.ref ae), .unset, .unset, .unset, .unset, .unset, .unset, .unset] [(.ref am), (.ref a1)])) (fun _ k => XS.aloadN X1.here hx rfl (hb hby d4_5) rfl rfl k) ?_
  obtain ⟨T2, h2, X2, e2, W2, st2⟩ := putF X1 hx hZ hown (host := "") (Or.inl (hw _ (List.mem_of_getElem? (i := 22) rfl))) Via.refl e1 pr2 pr1 (Or.inr ⟨(hw _ (List.mem_of_getElem? (i := 23) rfl)), rfl, hnm⟩) (hw _ (List.mem_of_getElem? (i := 5) rfl)) (ty := (.array .int)) (by decide) rfl rfl (g := (mkF m 6 #[.val (.ref a1), .val (.ref am), .val (.ref ast), .val (.ref ae), .unset, .unset, .unset, .unset, .unset, .unset, .unset] [(.ref am), (.ref a1)])) rfl rfl (hb hby d4_6)
  have sz2 : h2.size = h0.size := W2.size
  have N2 := Fr.snoc X2 N0 (by omega)
  have f2 : Fld Z h2 a1 "com/example/millwright/millwright/jobshop/Plan" "machine" "[I" (.ref am) := pr2.same W2
  refine own_go (st' := T2.setTop (mkF m 9 #[.val (.ref a1), .val (.ref am), .val (.ref ast), .val (.ref ae), .unset, .unset, .unset, .unset, .unset, .unset, .unset] [])) (st2) ?_
  refine own_go (st' := T2.setTop (mkF m 10 #[.val (.ref a1), .val (.ref am), .val (.ref ast), .val (.ref ae), .unset, .unset, .unset, .unset, .unset, .unset, .unset] [(.ref a1)])) (fun _ k => XS.aloadN X2.here hx rfl (hb hby d4_9) rfl rfl k) ?_
  refine own_go (st' := T2.setTop (mkF m 11 #[.val (.ref a1), .val (.ref am), .val (.ref ast), .val (.ref ae), .unset, .unset, .unset, .unset, .unset, .unset, .unset] [(.ref ast), (.ref a1)])) (fun _ k => XS.aloadN X2.here hx rfl (hb hby d4_10) rfl rfl k) ?_
  have c3 : Fld Z h2 a1 "com/example/millwright/millwright/jobshop/Plan" "start" "[J" .null := (pr3.other W2 (Or.inr (slot_ne (Or.inr (hw _ (List.mem_of_getElem? (i := 25) rfl))) (Or.inr (hw _ (List.mem_of_getElem? (i := 23) rfl))) (by decide) (t := (.array .long)) (t' := (.array .int)) (by decide) (by decide))))
  have c4 : Exa Z h2 a1 "com/example/millwright/millwright/jobshop/Plan" := (pr1.wr W2)
  obtain ⟨T5, h5, X5, e5, W5, st5⟩ := putF X2 hx hZ hown (host := "") (Or.inl (hw _ (List.mem_of_getElem? (i := 24) rfl))) Via.refl e2 c3 c4 (Or.inr ⟨(hw _ (List.mem_of_getElem? (i := 25) rfl)), rfl, hnm⟩) (hw _ (List.mem_of_getElem? (i := 5) rfl)) (ty := (.array .long)) (by decide) rfl rfl (g := (mkF m 11 #[.val (.ref a1), .val (.ref am), .val (.ref ast), .val (.ref ae), .unset, .unset, .unset, .unset, .unset, .unset, .unset] [(.ref ast), (.ref a1)])) rfl rfl (hb hby d4_11)
  have sz5 : h5.size = h2.size := W5.size
  have N5 := Fr.snoc X5 N2 (by omega)
  have f5 : Fld Z h5 a1 "com/example/millwright/millwright/jobshop/Plan" "start" "[J" (.ref ast) := c3.same W5
  refine own_go (st' := T5.setTop (mkF m 14 #[.val (.ref a1), .val (.ref am), .val (.ref ast), .val (.ref ae), .unset, .unset, .unset, .unset, .unset, .unset, .unset] [])) (st5) ?_
  refine own_go (st' := T5.setTop (mkF m 15 #[.val (.ref a1), .val (.ref am), .val (.ref ast), .val (.ref ae), .unset, .unset, .unset, .unset, .unset, .unset, .unset] [(.ref a1)])) (fun _ k => XS.aloadN X5.here hx rfl (hb hby d4_14) rfl rfl k) ?_
  refine own_go (st' := T5.setTop (mkF m 16 #[.val (.ref a1), .val (.ref am), .val (.ref ast), .val (.ref ae), .unset, .unset, .unset, .unset, .unset, .unset, .unset] [(.ref ae), (.ref a1)])) (fun _ k => XS.aloadN X5.here hx rfl (hb hby d4_15) rfl rfl k) ?_
  have c6 : Fld Z h5 a1 "com/example/millwright/millwright/jobshop/Plan" "end" "[J" .null := ((pr4.other W2 (Or.inr (slot_ne (Or.inr (hw _ (List.mem_of_getElem? (i := 27) rfl))) (Or.inr (hw _ (List.mem_of_getElem? (i := 23) rfl))) (by decide) (t := (.array .long)) (t' := (.array .int)) (by decide) (by decide)))).other W5 (Or.inr (slot_ne (Or.inr (hw _ (List.mem_of_getElem? (i := 27) rfl))) (Or.inr (hw _ (List.mem_of_getElem? (i := 25) rfl))) (by decide) (t := (.array .long)) (t' := (.array .long)) (by decide) (by decide))))
  have c7 : Exa Z h5 a1 "com/example/millwright/millwright/jobshop/Plan" := (c4.wr W5)
  obtain ⟨T8, h8, X8, e8, W8, st8⟩ := putF X5 hx hZ hown (host := "") (Or.inl (hw _ (List.mem_of_getElem? (i := 26) rfl))) Via.refl e5 c6 c7 (Or.inr ⟨(hw _ (List.mem_of_getElem? (i := 27) rfl)), rfl, hnm⟩) (hw _ (List.mem_of_getElem? (i := 5) rfl)) (ty := (.array .long)) (by decide) rfl rfl (g := (mkF m 16 #[.val (.ref a1), .val (.ref am), .val (.ref ast), .val (.ref ae), .unset, .unset, .unset, .unset, .unset, .unset, .unset] [(.ref ae), (.ref a1)])) rfl rfl (hb hby d4_16)
  have sz8 : h8.size = h5.size := W8.size
  have N8 := Fr.snoc X8 N5 (by omega)
  have f8 : Fld Z h8 a1 "com/example/millwright/millwright/jobshop/Plan" "end" "[J" (.ref ae) := c6.same W8
  refine own_go (st' := T8.setTop (mkF m 19 #[.val (.ref a1), .val (.ref am), .val (.ref ast), .val (.ref ae), .unset, .unset, .unset, .unset, .unset, .unset, .unset] [])) (st8) ?_
  refine own_go (st' := T8.setTop (mkF m 20 #[.val (.ref a1), .val (.ref am), .val (.ref ast), .val (.ref ae), .unset, .unset, .unset, .unset, .unset, .unset, .unset] [(.long (0 : Int64))])) (fun _ k => XS.lconst X8.here hx rfl (hb hby d4_19) k) ?_
  refine own_go (st' := T8.setTop (mkF m 22 #[.val (.ref a1), .val (.ref am), .val (.ref ast), .val (.ref ae), .val (.long (0 : Int64)), .second, .unset, .unset, .unset, .unset, .unset] [])) (fun _ k => XS.lstore X8.here hx rfl (hb hby d4_20) rfl (l' := #[.val (.ref a1), .val (.ref am), .val (.ref ast), .val (.ref ae), .val (.long (0 : Int64)), .second, .unset, .unset, .unset, .unset, .unset]) rfl k) ?_
  refine own_go (st' := T8.setTop (mkF m 23 #[.val (.ref a1), .val (.ref am), .val (.ref ast), .val (.ref ae), .val (.long (0 : Int64)), .second, .unset, .unset, .unset, .unset, .unset] [(.ref ae)])) (fun _ k => XS.aloadN X8.here hx rfl (hb hby d4_22) rfl rfl k) ?_
  refine own_go (st' := T8.setTop (mkF m 25 #[.val (.ref a1), .val (.ref am), .val (.ref ast), .val (.ref ae), .val (.long (0 : Int64)), .second, .val (.ref ae), .unset, .unset, .unset, .unset] [])) (fun _ k => XS.astore X8.here hx rfl (hb hby d4_23) rfl rfl (l' := #[.val (.ref a1), .val (.ref am), .val (.ref ast), .val (.ref ae), .val (.long (0 : Int64)), .second, .val (.ref ae), .unset, .unset, .unset, .unset]) rfl k) ?_
  refine own_go (st' := T8.setTop (mkF m 27 #[.val (.ref a1), .val (.ref am), .val (.ref ast), .val (.ref ae), .val (.long (0 : Int64)), .second, .val (.ref ae), .unset, .unset, .unset, .unset] [(.ref ae)])) (fun _ k => XS.aload X8.here hx rfl (hb hby d4_25) rfl rfl k) ?_
  have c9 : Arv Z h8 ae ke .long (1 : Int32) [(.long q1)] (.long (0 : Int64)) := (((pr6.other W2 (by first | assumption | exact Ne.symm (by assumption) | (apply Nat.ne_of_lt; omega) | (apply Nat.ne_of_gt; omega))).other W5 (by first | assumption | exact Ne.symm (by assumption) | (apply Nat.ne_of_lt; omega) | (apply Nat.ne_of_gt; omega))).other W8 (by first | assumption | exact Ne.symm (by assumption) | (apply Nat.ne_of_lt; omega) | (apply Nat.ne_of_gt; omega)))
  obtain ⟨cl10, Ar10, -, S10, M10, -, -⟩ := id c9
  refine own_go (st' := T8.setTop (mkF m 28 #[.val (.ref a1), .val (.ref am), .val (.ref ast), .val (.ref ae), .val (.long (0 : Int64)), .second, .val (.ref ae), .unset, .unset, .unset, .unset] [(.int (1 : Int32))])) (fun t k => X8.arraylength hx (by rw [e8]; exact Ar10.1) (State.isArrayOf_alike hZ.alike Ar10.2.1) (g := (mkF m 27 #[.val (.ref a1), .val (.ref am), .val (.ref ast), .val (.ref ae), .val (.long (0 : Int64)), .second, .val (.ref ae), .unset, .unset, .unset, .unset] [(.ref ae)])) rfl rfl (hb hby d4_27) t (by rw [len_of S10 M10]; exact k)) ?_
  refine own_go (st' := T8.setTop (mkF m 30 #[.val (.ref a1), .val (.ref am), .val (.ref ast), .val (.ref ae), .val (.long (0 : Int64)), .second, .val (.ref ae), .val (.int (1 : Int32)), .unset, .unset, .unset] [])) (fun _ k => XS.istore X8.here hx rfl (hb hby d4_28) rfl (l' := #[.val (.ref a1), .val (.ref am), .val (.ref ast), .val (.ref ae), .val (.long (0 : Int64)), .second, .val (.ref ae), .val (.int (1 : Int32)), .unset, .unset, .unset]) rfl k) ?_
  refine own_go (st' := T8.setTop (mkF m 31 #[.val (.ref a1), .val (.ref am), .val (.ref ast), .val (.ref ae), .val (.long (0 : Int64)), .second, .val (.ref ae), .val (.int (1 : Int32)), .unset, .unset, .unset] [(.int (0 : Int32))])) (fun _ k => XS.iconst X8.here hx rfl (hb hby d4_30) k) ?_
  refine own_go (st' := T8.setTop (mkF m 33 #[.val (.ref a1), .val (.ref am), .val (.ref ast), .val (.ref ae), .val (.long (0 : Int64)), .second, .val (.ref ae), .val (.int (1 : Int32)), .val (.int (0 : Int32)), .unset, .unset] [])) (fun _ k => XS.istore X8.here hx rfl (hb hby d4_31) rfl (l' := #[.val (.ref a1), .val (.ref am), .val (.ref ast), .val (.ref ae), .val (.long (0 : Int64)), .second, .val (.ref ae), .val (.int (1 : Int32)), .val (.int (0 : Int32)), .unset, .unset]) rfl k) ?_
  refine own_go (st' := T8.setTop (mkF m 35 #[.val (.ref a1), .val (.ref am), .val (.ref ast), .val (.ref ae), .val (.long (0 : Int64)), .second, .val (.ref ae), .val (.int (1 : Int32)), .val (.int (0 : Int32)), .unset, .unset] [(.int (0 : Int32))])) (fun _ k => XS.iload X8.here hx rfl (hb hby d4_33) rfl k) ?_
  refine own_go (st' := T8.setTop (mkF m 37 #[.val (.ref a1), .val (.ref am), .val (.ref ast), .val (.ref ae), .val (.long (0 : Int64)), .second, .val (.ref ae), .val (.int (1 : Int32)), .val (.int (0 : Int32)), .unset, .unset] [(.int (1 : Int32)), (.int (0 : Int32))])) (fun _ k => XS.iload X8.here hx rfl (hb hby d4_35) rfl k) ?_
  have hc11 : (0 : Int32) < (1 : Int32) := by decide
  refine own_go (st' := T8.setTop (mkF m 40 #[.val (.ref a1), .val (.ref am), .val (.ref ast), .val (.ref ae), .val (.long (0 : Int64)), .second, .val (.ref ae), .val (.int (1 : Int32)), .val (.int (0 : Int32)), .unset, .unset] [])) (fun _ k => XS.icmpNo X8.here hx rfl (hb hby d4_37) rfl (tlt hc11).2.1 k) ?_
  refine own_go (st' := T8.setTop (mkF m 42 #[.val (.ref a1), .val (.ref am), .val (.ref ast), .val (.ref ae), .val (.long (0 : Int64)), .second, .val (.ref ae), .val (.int (1 : Int32)), .val (.int (0 : Int32)), .unset, .unset] [(.ref ae)])) (fun _ k => XS.aload X8.here hx rfl (hb hby d4_40) rfl rfl k) ?_
  refine own_go (st' := T8.setTop (mkF m 44 #[.val (.ref a1), .val (.ref am), .val (.ref ast), .val (.ref ae), .val (.long (0 : Int64)), .second, .val (.ref ae), .val (.int (1 : Int32)), .val (.int (0 : Int32)), .unset, .unset] [(.int (0 : Int32)), (.ref ae)])) (fun _ k => XS.iload X8.here hx rfl (hb hby d4_42) rfl k) ?_
  obtain ⟨cl12, Ar12, -, S12, M12, H12, -⟩ := id c9
  have hin12 : ¬ ((0 : Int32) < 0 ∨ cl12.slots.size ≤ ((0 : Int32)).toNatClampNeg) := (inb_of S12 ⟨by decide, by decide⟩)
  have hat12 : cl12.slots[((0 : Int32)).toNatClampNeg]? = some (.long q1) := (H12.at hin12 rfl)
  refine own_go (st' := T8.setTop (mkF m 45 #[.val (.ref a1), .val (.ref am), .val (.ref ast), .val (.ref ae), .val (.long (0 : Int64)), .second, .val (.ref ae), .val (.int (1 : Int32)), .val (.int (0 : Int32)), .unset, .unset] [(.long q1)])) (X8.laload hx (j := (0 : Int32)) (v := (.long q1)) (by rw [e8]; exact Ar12.1) (State.isArrayOf_alike hZ.alike Ar12.2.1) Ar12.2.2 hin12 hat12 (g := (mkF m 44 #[.val (.ref a1), .val (.ref am), .val (.ref ast), .val (.ref ae), .val (.long (0 : Int64)), .second, .val (.ref ae), .val (.int (1 : Int32)), .val (.int (0 : Int32)), .unset, .unset] [(.int (0 : Int32)), (.ref ae)])) rfl rfl (hb hby d4_44)) ?_
  refine own_go (st' := T8.setTop (mkF m 47 #[.val (.ref a1), .val (.ref am), .val (.ref ast), .val (.ref ae), .val (.long (0 : Int64)), .second, .val (.ref ae), .val (.int (1 : Int32)), .val (.int (0 : Int32)), .val (.long q1), .second] [])) (fun _ k => XS.lstore X8.here hx rfl (hb hby d4_45) rfl (l' := #[.val (.ref a1), .val (.ref am), .val (.ref ast), .val (.ref ae), .val (.long (0 : Int64)), .second, .val (.ref ae), .val (.int (1 : Int32)), .val (.int (0 : Int32)), .val (.long q1), .second]) rfl k) ?_
  refine own_go (st' := T8.setTop (mkF m 49 #[.val (.ref a1), .val (.ref am), .val (.ref ast), .val (.ref ae), .val (.long (0 : Int64)), .second, .val (.ref ae), .val (.int (1 : Int32)), .val (.int (0 : Int32)), .val (.long q1), .second] [(.long (0 : Int64))])) (fun _ k => XS.lload X8.here hx rfl (hb hby d4_47) rfl k) ?_
  refine own_go (st' := T8.setTop (mkF m 51 #[.val (.ref a1), .val (.ref am), .val (.ref ast), .val (.ref ae), .val (.long (0 : Int64)), .second, .val (.ref ae), .val (.int (1 : Int32)), .val (.int (0 : Int32)), .val (.long q1), .second] [(.long q1), (.long (0 : Int64))])) (fun _ k => XS.lload X8.here hx rfl (hb hby d4_49) rfl k) ?_
  obtain ⟨_, _, ⟨T13, LC13, kC13, nC13⟩, -, X13, ⟨Lc13, hQ13, lq13, yq13, zq13⟩, st13⟩ := Jvm.LawKit.callS X8 hx (y := (⟨"java/lang/Math", "max", "(JJ)J"⟩ : MethodName)) hown (mvT hZ (hw _ (List.mem_of_getElem? (i := 28) rfl))) (mvT hZ (hw _ (List.mem_of_getElem? (i := 1) rfl))) (mvT hZ (hw _ (List.mem_of_getElem? (i := 2) rfl))) (mvT hZ (hw _ (List.mem_of_getElem? (i := 3) rfl))) (by decide) (backOf (W := 0) (rm1 l Z a0 hw [] (0 : Int64) q1 h8 n0 (by omega) ) hZ (hw _ (List.mem_of_getElem? (i := 3) rfl)) (hw _ (List.mem_of_getElem? (i := 2) rfl)) (by decide) (by decide)) (g := (mkF m 51 #[.val (.ref a1), .val (.ref am), .val (.ref ast), .val (.ref ae), .val (.long (0 : Int64)), .second, .val (.ref ae), .val (.int (1 : Int32)), .val (.int (0 : Int32)), .val (.long q1), .second] [(.long q1), (.long (0 : Int64))])) rfl (by rw [hml]; rfl) (argsL := [(.long (0 : Int64)), (.long q1)]) (rest := []) (lenOf pd_0 rfl) rfl (by show 2 * 0 + _ ≤ _; exact Nat.le_of_eq rfl) (hb hby d4_51) (fun _ _ => ⟨rfl, e8, (by decide : 0 + 0 ≤ _), (by decide : 0 + 0 ≤ _)⟩)
  dsimp only [Pt.U, Pt.locs, Pt.cells, Pt.slots] at X13 lq13 yq13 zq13 st13 hQ13
  subst lq13 yq13 zq13
  obtain ⟨rfl, Nq13, eq13⟩ := hQ13
  have N13 := Fr.app N8 Nq13
  refine own_go (st' := T13.setTop (mkF m 54 #[.val (.ref a1), .val (.ref am), .val (.ref ast), .val (.ref ae), .val (.long (0 : Int64)), .second, .val (.ref ae), .val (.int (1 : Int32)), .val (.int (0 : Int32)), .val (.long q1), .second] [(.long (own_lmax (0 : Int64) q1))])) (fun t k => st13 t k) ?_
  refine own_go (st' := T13.setTop (mkF m 56 #[.val (.ref a1), .val (.ref am), .val (.ref ast), .val (.ref ae), .val (.long (own_lmax (0 : Int64) q1)), .second, .val (.ref ae), .val (.int (1 : Int32)), .val (.int (0 : Int32)), .val (.long q1), .second] [])) (fun _ k => XS.lstore X13.here hx rfl (hb hby d4_54) rfl (l' := #[.val (.ref a1), .val (.ref am), .val (.ref ast), .val (.ref ae), .val (.long (own_lmax (0 : Int64) q1)), .second, .val (.ref ae), .val (.int (1 : Int32)), .val (.int (0 : Int32)), .val (.long q1), .second]) rfl k) ?_
  refine own_go (st' := T13.setTop (mkF m 59 #[.val (.ref a1), .val (.ref am), .val (.ref ast), .val (.ref ae), .val (.long (own_lmax (0 : Int64) q1)), .second, .val (.ref ae), .val (.int (1 : Int32)), .val (.int (1 : Int32)), .val (.long q1), .second] [])) (fun _ k => XS.iinc X13.here hx rfl (hb hby d4_56) rfl (l' := #[.val (.ref a1), .val (.ref am), .val (.ref ast), .val (.ref ae), .val (.long (own_lmax (0 : Int64) q1)), .second, .val (.ref ae), .val (.int (1 : Int32)), .val (.int (1 : Int32)), .val (.long q1), .second]) (by rw [show ((0 : Int32) + Int32.ofInt 1) = (1 : Int32) by decide]; rfl) k) ?_
  refine own_go (st' := T13.setTop (mkF m 33 #[.val (.ref a1), .val (.ref am), .val (.ref ast), .val (.ref ae), .val (.long (own_lmax (0 : Int64) q1)), .second, .val (.ref ae), .val (.int (1 : Int32)), .val (.int (1 : Int32)), .val (.long q1), .second] [])) (fun _ k => XS.goto X13.here hx rfl (pc0 := 59) (pc' := 33) rfl (hb hby d4_59) (by decide) (by decide) k) ?_
  refine own_go (st' := T13.setTop (mkF m 35 #[.val (.ref a1), .val (.ref am), .val (.ref ast), .val (.ref ae), .val (.long (own_lmax (0 : Int64) q1)), .second, .val (.ref ae), .val (.int (1 : Int32)), .val (.int (1 : Int32)), .val (.long q1), .second] [(.int (1 : Int32))])) (fun _ k => XS.iload X13.here hx rfl (hb hby d4_33) rfl k) ?_
  refine own_go (st' := T13.setTop (mkF m 37 #[.val (.ref a1), .val (.ref am), .val (.ref ast), .val (.ref ae), .val (.long (own_lmax (0 : Int64) q1)), .second, .val (.ref ae), .val (.int (1 : Int32)), .val (.int (1 : Int32)), .val (.long q1), .second] [(.int (1 : Int32)), (.int (1 : Int32))])) (fun _ k => XS.iload X13.here hx rfl (hb hby d4_35) rfl k) ?_
  have hc14 : ¬ ((1 : Int32) < (1 : Int32)) := by decide
  refine own_go (st' := T13.setTop (mkF m 62 #[.val (.ref a1), .val (.ref am), .val (.ref ast), .val (.ref ae), .val (.long (own_lmax (0 : Int64) q1)), .second, .val (.ref ae), .val (.int (1 : Int32)), .val (.int (1 : Int32)), .val (.long q1), .second] [])) (fun _ k => XS.icmpYes X13.here hx rfl (pc0 := 37) (pc' := 62) rfl (hb hby d4_37) rfl (flt hc14).2.1 (by decide) (by decide) k) ?_
  refine own_go (st' := T13.setTop (mkF m 63 #[.val (.ref a1), .val (.ref am), .val (.ref ast), .val (.ref ae), .val (.long (own_lmax (0 : Int64) q1)), .second, .val (.ref ae), .val (.int (1 : Int32)), .val (.int (1 : Int32)), .val (.long q1), .second] [(.ref a1)])) (fun _ k => XS.aloadN X13.here hx rfl (hb hby d4_62) rfl rfl k) ?_
  refine own_go (st' := T13.setTop (mkF m 65 #[.val (.ref a1), .val (.ref am), .val (.ref ast), .val (.ref ae), .val (.long (own_lmax (0 : Int64) q1)), .second, .val (.ref ae), .val (.int (1 : Int32)), .val (.int (1 : Int32)), .val (.long q1), .second] [(.long (own_lmax (0 : Int64) q1)), (.ref a1)])) (fun _ k => XS.lload X13.here hx rfl (hb hby d4_63) rfl k) ?_
  have c15 : Fld Z h8 a1 "com/example/millwright/millwright/jobshop/Plan" "makespan" "J" (.long u1) := (((pr5.other W2 (Or.inr (slot_ne (Or.inr (hw _ (List.mem_of_getElem? (i := 30) rfl))) (Or.inr (hw _ (List.mem_of_getElem? (i := 23) rfl))) (by decide) (t := .long) (t' := (.array .int)) (by decide) (by decide)))).other W5 (Or.inr (slot_ne (Or.inr (hw _ (List.mem_of_getElem? (i := 30) rfl))) (Or.inr (hw _ (List.mem_of_getElem? (i := 25) rfl))) (by decide) (t := .long) (t' := (.array .long)) (by decide) (by decide)))).other W8 (Or.inr (slot_ne (Or.inr (hw _ (List.mem_of_getElem? (i := 30) rfl))) (Or.inr (hw _ (List.mem_of_getElem? (i := 27) rfl))) (by decide) (t := .long) (t' := (.array .long)) (by decide) (by decide))))
  have c16 : Exa Z h8 a1 "com/example/millwright/millwright/jobshop/Plan" := (c7.wr W8)
  obtain ⟨T17, h17, X17, e17, W17, st17⟩ := putF X13 hx hZ hown (host := "") (Or.inl (hw _ (List.mem_of_getElem? (i := 29) rfl))) Via.refl eq13 c15 c16 (Or.inr ⟨(hw _ (List.mem_of_getElem? (i := 30) rfl)), rfl, hnm⟩) (hw _ (List.mem_of_getElem? (i := 5) rfl)) (ty := .long) (by decide) rfl rfl (g := (mkF m 65 #[.val (.ref a1), .val (.ref am), .val (.ref ast), .val (.ref ae), .val (.long (own_lmax (0 : Int64) q1)), .second, .val (.ref ae), .val (.int (1 : Int32)), .val (.int (1 : Int32)), .val (.long q1), .second] [(.long (own_lmax (0 : Int64) q1)), (.ref a1)])) rfl rfl (hb hby d4_65)
  have sz17 : h17.size = h8.size := W17.size
  have N17 := Fr.snoc X17 N13 (by omega)
  have f17 : Fld Z h17 a1 "com/example/millwright/millwright/jobshop/Plan" "makespan" "J" (.long (own_lmax (0 : Int64) q1)) := c15.same W17
  refine own_go (st' := T17.setTop (mkF m 68 #[.val (.ref a1), .val (.ref am), .val (.ref ast), .val (.ref ae), .val (.long (own_lmax (0 : Int64) q1)), .second, .val (.ref ae), .val (.int (1 : Int32)), .val (.int (1 : Int32)), .val (.long q1), .second] [])) (st17) ?_
  obtain ⟨fs, hr, hrun, hended, hW, hsame⟩ := X17.leave (v := none) (fun _ => rfl)
  refine ⟨_, _, ?_, hP _ _ hrun hended ⟨_, _, rfl, ?_, ⟨_, rfl⟩, hW, hsame.mono (by decide) (by decide)⟩⟩
  · exact X17.returnOut hx Bd.returns (hb hby d4_68) hr
  · show Qrm4_1 Z a1 am ast ae ke u1 q1 h0 n0 _ T17.heap _
    have c19 : Exa Z h17 a1 "com/example/millwright/millwright/jobshop/Plan" := (c16.wr W17)
    rw [e17]
    exact ⟨rfl, N17, (((((Keep.refl h0 [a1]).wr W2 (Or.inl (List.mem_of_getElem? (i := 0) rfl))).wr W5 (Or.inl (List.mem_of_getElem? (i := 0) rfl))).wr W8 (Or.inl (List.mem_of_getElem? (i := 0) rfl))).wr W17 (Or.inl (List.mem_of_getElem? (i := 0) rfl))), c19, f17⟩
theorem d2_21 : decode method_3_code 21 = .ok (.iload_n 0, 1) := by decide +kernel
theorem d2_22 : decode method_3_code 22 = .ok (.iconst 2, 1) := by decide +kernel
theorem d2_23 : decode method_3_code 23 = .ok (.if_icmp .ne 15, 3) := by decide +kernel
theorem d2_26 : decode method_3_code 26 = .ok (.iconst 2, 1) := by decide +kernel
theorem d2_27 : decode method_3_code 27 = .ok (.newarray .int, 2) := by decide +kernel
theorem d2_29 : decode method_3_code 29 = .ok (.dup, 1) := by decide +kernel
theorem d2_30 : decode method_3_code 30 = .ok (.iconst 0, 1) := by decide +kernel
theorem d2_31 : decode method_3_code 31 = .ok (.iconst 1, 1) := by decide +kernel
theorem d2_32 : decode method_3_code 32 = .ok (.iastore, 1) := by decide +kernel
theorem d2_33 : decode method_3_code 33 = .ok (.dup, 1) := by decide +kernel
theorem d2_34 : decode method_3_code 34 = .ok (.iconst 1, 1) := by decide +kernel
theorem d2_35 : decode method_3_code 35 = .ok (.iconst 2, 1) := by decide +kernel
theorem d2_36 : decode method_3_code 36 = .ok (.iastore, 1) := by decide +kernel
theorem d2_37 : decode method_3_code 37 = .ok (.areturn, 1) := by decide +kernel
theorem ef_rm2_2 (m : MethodId) (x0 : Int32) : entryFrame m #[(.int x0)] 1 = mkF m 0 #[.val (.int x0)] [] := by first | (simp [entryFrame, mkF, argsToLocals, Value.category]; done) | rfl
def Qrm2_2 (Z : State)  (h0 : Heap) (n0 : Nat) (v : Option Value) (h : Heap) (L : List Loc) : Prop := ∃ (r : Addr) (kr : ClassId), (v = some (.ref r)) ∧ (Fr n0 L) ∧ (Keep h0 h []) ∧ (Arv Z h r kr .int (2 : Int32) [(.int (1 : Int32)), (.int (2 : Int32))] (.int (0 : Int32))) ∧ (h0.size ≤ r)
set_option maxRecDepth 65536 in
set_option maxHeartbeats 40000000 in
theorem rm2_2 (l : Launch) (Z : State) (a0 : Array Value) (hw : ∀ d ∈ tables_1, d.before a0 Z = true) (ws : List Jvm.Cond)  (h0 : Heap) (n0 : Nat) (Z0 : n0 ≤ h0.size)  :
    MetFree l (⟨"com/example/millwright/millwright/jobshop/JobShopSolutionOptimalPinLaw", "machines", "(I)[I"⟩ : MethodName) (head1 (Jvm.Cond.code (⟨"com/example/millwright/millwright/jobshop/JobShopSolutionOptimalPinLaw", "machines", "(I)[I"⟩ : MethodName) method_3_code 1 (some (.array .int)) :: ws) ({ frames := 0, cells := 1, slots := 2, locals := 0 } : Room)) (fun a U => a = #[(.int (2 : Int32))] ∧ Z.Warmed39 U.vm ∧ U.heap = h0) (fun _ _ _ _ _ => True) (fun _ U o U' => ∃ v L, o = .returned v ∧ Qrm2_2 Z  h0 n0 v U'.heap L ∧ FrameEnd U o U' L ({ frames := 0, cells := 1, slots := 2, locals := 0 } : Room).cells ({ frames := 0, cells := 1, slots := 2, locals := 0 } : Room).slots) := by
  refine MetFree.of_bodySF (plainFor_of_name pn_2) hisR ?_
  intro p e s m args below meth c s₁ Bd hml0 hP0 hK
  obtain ⟨rfl, hZ, hh⟩ := hP0
  have hx := Bd.exec
  have hby := Bd.bytes
  have hml : c.maxLocals = 1 := hml0
  have hown : s.vm.findClass "com/example/millwright/millwright/jobshop/JobShopSolutionOptimalPinLaw" = some m.cls := findClass_of_methodNamed Bd.named
  have hnm := (name_of_methodNamed Bd.named Bd.method).1
  have X0 : Stand p l e ({ frames := 0, cells := 1, slots := 2, locals := 0 } : Room) s m #[(.int (2 : Int32))] below meth c s₁ [] 0 0 := Stand.of_body Bd
  have e0 : s₁.heap = h0 := by rw [← hh, Bd.state]; rfl
  have N0 := Fr.nil n0
  suffices own_H : ∀ (P : State → Outcome → Prop), (∀ U o, U.status = .running → Ended U below o → (∃ v L, o = .returned v ∧ Qrm2_2 Z  h0 n0 v U.heap L ∧ FrameEnd s o U L ({ frames := 0, cells := 1, slots := 2, locals := 0 } : Room).cells ({ frames := 0, cells := 1, slots := 2, locals := 0 } : Room).slots) → P U o) → own_Go p.tables e below P (s₁.setTop (mkF m 0 #[.val (.int (2 : Int32))] [])) from own_go (fun _ k => castTop (ef_rm2_2 m (2 : Int32)) k) (own_H _ (fun U o h1 h2 h3 => ⟨h1, h2, h3⟩))
  intro P hP
  refine own_go (st' := s₁.setTop (mkF m 1 #[.val (.int (2 : Int32))] [(.int (2 : Int32))])) (fun _ k => XS.iloadN X0.here hx rfl (hb hby d2_0) rfl k) ?_
  have hc1 : ¬ ((2 : Int32) = (0 : Int32)) := by decide
  refine own_go (st' := s₁.setTop (mkF m 8 #[.val (.int (2 : Int32))] [])) (fun _ k => XS.ifYes X0.here hx rfl (pc0 := 1) (pc' := 8) rfl (hb hby d2_1) rfl ((if0 _ _).trans (feq hc1).2) (by decide) (by decide) k) ?_
  refine own_go (st' := s₁.setTop (mkF m 9 #[.val (.int (2 : Int32))] [(.int (2 : Int32))])) (fun _ k => XS.iloadN X0.here hx rfl (hb hby d2_8) rfl k) ?_
  refine own_go (st' := s₁.setTop (mkF m 10 #[.val (.int (2 : Int32))] [(.int (1 : Int32)), (.int (2 : Int32))])) (fun _ k => XS.iconst X0.here hx rfl (hb hby d2_9) k) ?_
  have hc2 : ¬ ((2 : Int32) = (1 : Int32)) := by decide
  refine own_go (st' := s₁.setTop (mkF m 21 #[.val (.int (2 : Int32))] [])) (fun _ k => XS.icmpYes X0.here hx rfl (pc0 := 10) (pc' := 21) rfl (hb hby d2_10) rfl (feq hc2).2 (by decide) (by decide) k) ?_
  refine own_go (st' := s₁.setTop (mkF m 22 #[.val (.int (2 : Int32))] [(.int (2 : Int32))])) (fun _ k => XS.iloadN X0.here hx rfl (hb hby d2_21) rfl k) ?_
  refine own_go (st' := s₁.setTop (mkF m 23 #[.val (.int (2 : Int32))] [(.int (2 : Int32)), (.int (2 : Int32))])) (fun _ k => XS.iconst X0.here hx rfl (hb hby d2_22) k) ?_
  have hc3 : (2 : Int32) = (2 : Int32) := by decide
  refine own_go (st' := s₁.setTop (mkF m 26 #[.val (.int (2 : Int32))] [])) (fun _ k => XS.icmpNo X0.here hx rfl (hb hby d2_23) rfl (teq hc3).2 k) ?_
  refine own_go (st' := s₁.setTop (mkF m 27 #[.val (.int (2 : Int32))] [(.int (2 : Int32))])) (fun _ k => XS.iconst X0.here hx rfl (hb hby d2_26) k) ?_
  obtain ⟨T4, h4, k4, X4, e4, E4, A4, st4⟩ := newP X0 hx hZ (hw _ (List.mem_of_getElem? (i := 11) rfl)) e0 (g := (mkF m 27 #[.val (.int (2 : Int32))] [(.int (2 : Int32))])) rfl (hb hby d2_27) rfl (by decide) (cap := 2) (by decide) (by decide) (by decide) (by decide)
  obtain ⟨b4, g4⟩ : ∃ z, z = h0.size := ⟨_, rfl⟩
  rw [← g4] at A4 st4
  have sz4 : h0.size ≤ h4.size := E4.1
  have lt4 : @LT.lt Nat _ b4 h4.size := A4.lt
  have v4 : Arv Z h4 b4 k4 .int (2 : Int32) [(.int (0 : Int32)), (.int (0 : Int32))] (.int (0 : Int32)) := (Arv.new A4 (by decide)).pad (pad_rep [] (.int (0 : Int32)) 2)
  refine own_go (st' := T4.setTop (mkF m 29 #[.val (.int (2 : Int32))] [(.ref b4)])) (st4) ?_
  refine own_go (st' := T4.setTop (mkF m 30 #[.val (.int (2 : Int32))] [(.ref b4), (.ref b4)])) (fun _ k => XS.dup X4.here hx rfl (hb hby d2_29) rfl rfl k) ?_
  refine own_go (st' := T4.setTop (mkF m 31 #[.val (.int (2 : Int32))] [(.int (0 : Int32)), (.ref b4), (.ref b4)])) (fun _ k => XS.iconst X4.here hx rfl (hb hby d2_30) k) ?_
  refine own_go (st' := T4.setTop (mkF m 32 #[.val (.int (2 : Int32))] [(.int (1 : Int32)), (.int (0 : Int32)), (.ref b4), (.ref b4)])) (fun _ k => XS.iconst X4.here hx rfl (hb hby d2_31) k) ?_
  obtain ⟨cl5, Ar5, qc5, S5, M5, H5, G5⟩ := id v4
  have hin5 : ¬ ((0 : Int32) < 0 ∨ cl5.slots.size ≤ ((0 : Int32)).toNatClampNeg) := (inb_of S5 ⟨by decide, by decide⟩)
  obtain ⟨T5, h5, X5, e5, W5, st5⟩ := stI X4 hx hZ e4 Ar5 (j := (0 : Int32)) hin5 (g := (mkF m 32 #[.val (.int (2 : Int32))] [(.int (1 : Int32)), (.int (0 : Int32)), (.ref b4), (.ref b4)])) rfl rfl (hb hby d2_32)
  have sz5 : h5.size = h4.size := W5.size
  have N5 := Fr.snoc X5 N0 (by omega)
  have v5 : Arv Z h5 b4 k4 .int (2 : Int32) [(.int (1 : Int32)), (.int (0 : Int32))] (.int (0 : Int32)) := Arv.set Ar5 qc5 S5 M5 H5 G5 rfl W5 0 rfl (Nat.le_of_ble_eq_true rfl)
  refine own_go (st' := T5.setTop (mkF m 33 #[.val (.int (2 : Int32))] [(.ref b4)])) (st5) ?_
  refine own_go (st' := T5.setTop (mkF m 34 #[.val (.int (2 : Int32))] [(.ref b4), (.ref b4)])) (fun _ k => XS.dup X5.here hx rfl (hb hby d2_33) rfl rfl k) ?_
  refine own_go (st' := T5.setTop (mkF m 35 #[.val (.int (2 : Int32))] [(.int (1 : Int32)), (.ref b4), (.ref b4)])) (fun _ k => XS.iconst X5.here hx rfl (hb hby d2_34) k) ?_
  refine own_go (st' := T5.setTop (mkF m 36 #[.val (.int (2 : Int32))] [(.int (2 : Int32)), (.int (1 : Int32)), (.ref b4), (.ref b4)])) (fun _ k => XS.iconst X5.here hx rfl (hb hby d2_35) k) ?_
  obtain ⟨cl6, Ar6, qc6, S6, M6, H6, G6⟩ := id v5
  have hin6 : ¬ ((1 : Int32) < 0 ∨ cl6.slots.size ≤ ((1 : Int32)).toNatClampNeg) := (inb_of S6 ⟨by decide, by decide⟩)
  obtain ⟨T6, h6, X6, e6, W6, st6⟩ := stI X5 hx hZ e5 Ar6 (j := (1 : Int32)) hin6 (g := (mkF m 36 #[.val (.int (2 : Int32))] [(.int (2 : Int32)), (.int (1 : Int32)), (.ref b4), (.ref b4)])) rfl rfl (hb hby d2_36)
  have sz6 : h6.size = h5.size := W6.size
  have N6 := Fr.snoc X6 N5 (by omega)
  have v6 : Arv Z h6 b4 k4 .int (2 : Int32) [(.int (1 : Int32)), (.int (2 : Int32))] (.int (0 : Int32)) := Arv.set Ar6 qc6 S6 M6 H6 G6 rfl W6 1 rfl (Nat.le_of_ble_eq_true rfl)
  refine own_go (st' := T6.setTop (mkF m 37 #[.val (.int (2 : Int32))] [(.ref b4)])) (st6) ?_
  obtain ⟨fs, hr, hrun, hended, hW, hsame⟩ := X6.leave (v := some (.ref b4)) (fun h => by rw [Bd.returns] at h; cases h)
  refine ⟨_, _, ?_, hP _ _ hrun hended ⟨_, _, rfl, ?_, ⟨_, rfl⟩, hW, hsame.mono (by decide) (by decide)⟩⟩
  · exact retOut X6 hx Bd.returns rfl (Or.inr (Or.inr (Or.inr (Or.inr ⟨rfl, rfl, rfl⟩)))) (hb hby d2_37) hr
  · show Qrm2_2 Z  h0 n0 _ T6.heap _
    rw [e6]
    exact ⟨b4, k4, rfl, N6, ((((Keep.refl h0 []).ext E4).wr W5 (Or.inr (by omega))).wr W6 (Or.inr (by omega))), v6, (by omega)⟩
theorem d3_21 : decode method_2_code 21 = .ok (.iload_n 0, 1) := by decide +kernel
theorem d3_22 : decode method_2_code 22 = .ok (.iconst 2, 1) := by decide +kernel
theorem d3_23 : decode method_2_code 23 = .ok (.if_icmp .ne 15, 3) := by decide +kernel
theorem d3_26 : decode method_2_code 26 = .ok (.iconst 2, 1) := by decide +kernel
theorem d3_27 : decode method_2_code 27 = .ok (.newarray .long, 2) := by decide +kernel
theorem d3_29 : decode method_2_code 29 = .ok (.dup, 1) := by decide +kernel
theorem d3_30 : decode method_2_code 30 = .ok (.iconst 0, 1) := by decide +kernel
theorem d3_31 : decode method_2_code 31 = .ok (.lload_n 1, 1) := by decide +kernel
theorem d3_32 : decode method_2_code 32 = .ok (.lastore, 1) := by decide +kernel
theorem d3_33 : decode method_2_code 33 = .ok (.dup, 1) := by decide +kernel
theorem d3_34 : decode method_2_code 34 = .ok (.iconst 1, 1) := by decide +kernel
theorem d3_35 : decode method_2_code 35 = .ok (.lload_n 3, 1) := by decide +kernel
theorem d3_36 : decode method_2_code 36 = .ok (.lastore, 1) := by decide +kernel
theorem d3_37 : decode method_2_code 37 = .ok (.areturn, 1) := by decide +kernel
theorem ef_rm3_2 (m : MethodId) (x0 : Int32) (x1 : Int64) (x2 : Int64) (x3 : Int64) : entryFrame m #[(.int x0), (.long x1), (.long x2), (.long x3)] 7 = mkF m 0 #[.val (.int x0), .val (.long x1), .second, .val (.long x2), .second, .val (.long x3), .second] [] := by first | (simp [entryFrame, mkF, argsToLocals, Value.category]; done) | rfl
def Qrm3_2 (Z : State) (q1 : Int64) (q2 : Int64) (q3 : Int64) (h0 : Heap) (n0 : Nat) (v : Option Value) (h : Heap) (L : List Loc) : Prop := ∃ (r : Addr) (kr : ClassId), (v = some (.ref r)) ∧ (Fr n0 L) ∧ (Keep h0 h []) ∧ (Arv Z h r kr .long (2 : Int32) [(.long q1), (.long q2)] (.long (0 : Int64))) ∧ (h0.size ≤ r)
set_option maxRecDepth 65536 in
set_option maxHeartbeats 40000000 in
theorem rm3_2 (l : Launch) (Z : State) (a0 : Array Value) (hw : ∀ d ∈ tables_1, d.before a0 Z = true) (ws : List Jvm.Cond) (q1 : Int64) (q2 : Int64) (q3 : Int64) (h0 : Heap) (n0 : Nat) (Z0 : n0 ≤ h0.size)  :
    MetFree l (⟨"com/example/millwright/millwright/jobshop/JobShopSolutionOptimalPinLaw", "longs", "(IJJJ)[J"⟩ : MethodName) (head1 (Jvm.Cond.code (⟨"com/example/millwright/millwright/jobshop/JobShopSolutionOptimalPinLaw", "longs", "(IJJJ)[J"⟩ : MethodName) method_2_code 7 (some (.array .long)) :: ws) ({ frames := 0, cells := 1, slots := 2, locals := 0 } : Room)) (fun a U => a = #[(.int (2 : Int32)), (.long q1), (.long q2), (.long q3)] ∧ Z.Warmed39 U.vm ∧ U.heap = h0) (fun _ _ _ _ _ => True) (fun _ U o U' => ∃ v L, o = .returned v ∧ Qrm3_2 Z q1 q2 q3 h0 n0 v U'.heap L ∧ FrameEnd U o U' L ({ frames := 0, cells := 1, slots := 2, locals := 0 } : Room).cells ({ frames := 0, cells := 1, slots := 2, locals := 0 } : Room).slots) := by
  refine MetFree.of_bodySF (plainFor_of_name pn_3) hisR ?_
  intro p e s m args below meth c s₁ Bd hml0 hP0 hK
  obtain ⟨rfl, hZ, hh⟩ := hP0
  have hx := Bd.exec
  have hby := Bd.bytes
  have hml : c.maxLocals = 7 := hml0
  have hown : s.vm.findClass "com/example/millwright/millwright/jobshop/JobShopSolutionOptimalPinLaw" = some m.cls := findClass_of_methodNamed Bd.named
  have hnm := (name_of_methodNamed Bd.named Bd.method).1
  have X0 : Stand p l e ({ frames := 0, cells := 1, slots := 2, locals := 0 } : Room) s m #[(.int (2 : Int32)), (.long q1), (.long q2), (.long q3)] below meth c s₁ [] 0 0 := Stand.of_body Bd
  have e0 : s₁.heap = h0 := by rw [← hh, Bd.state]; rfl
  have N0 := Fr.nil n0
  suffices own_H : ∀ (P : State → Outcome → Prop), (∀ U o, U.status = .running → Ended U below o → (∃ v L, o = .returned v ∧ Qrm3_2 Z q1 q2 q3 h0 n0 v U.heap L ∧ FrameEnd s o U L ({ frames := 0, cells := 1, slots := 2, locals := 0 } : Room).cells ({ frames := 0, cells := 1, slots := 2, locals := 0 } : Room).slots) → P U o) → own_Go p.tables e below P (s₁.setTop (mkF m 0 #[.val (.int (2 : Int32)), .val (.long q1), .second, .val (.long q2), .second, .val (.long q3), .second] [])) from own_go (fun _ k => castTop (ef_rm3_2 m (2 : Int32) q1 q2 q3) k) (own_H _ (fun U o h1 h2 h3 => ⟨h1, h2, h3⟩))
  intro P hP
  refine own_go (st' := s₁.setTop (mkF m 1 #[.val (.int (2 : Int32)), .val (.long q1), .second, .val (.long q2), .second, .val (.long q3), .second] [(.int (2 : Int32))])) (fun _ k => XS.iloadN X0.here hx rfl (hb hby d3_0) rfl k) ?_
  have hc1 : ¬ ((2 : Int32) = (0 : Int32)) := by decide
  refine own_go (st' := s₁.setTop (mkF m 8 #[.val (.int (2 : Int32)), .val (.long q1), .second, .val (.long q2), .second, .val (.long q3), .second] [])) (fun _ k => XS.ifYes X0.here hx rfl (pc0 := 1) (pc' := 8) rfl (hb hby d3_1) rfl ((if0 _ _).trans (feq hc1).2) (by decide) (by decide) k) ?_
  refine own_go (st' := s₁.setTop (mkF m 9 #[.val (.int (2 : Int32)), .val (.long q1), .second, .val (.long q2), .second, .val (.long q3), .second] [(.int (2 : Int32))])) (fun _ k => XS.iloadN X0.here hx rfl (hb hby d3_8) rfl k) ?_
  refine own_go (st' := s₁.setTop (mkF m 10 #[.val (.int (2 : Int32)), .val (.long q1), .second, .val (.long q2), .second, .val (.long q3), .second] [(.int (1 : Int32)), (.int (2 : Int32))])) (fun _ k => XS.iconst X0.here hx rfl (hb hby d3_9) k) ?_
  have hc2 : ¬ ((2 : Int32) = (1 : Int32)) := by decide
  refine own_go (st' := s₁.setTop (mkF m 21 #[.val (.int (2 : Int32)), .val (.long q1), .second, .val (.long q2), .second, .val (.long q3), .second] [])) (fun _ k => XS.icmpYes X0.here hx rfl (pc0 := 10) (pc' := 21) rfl (hb hby d3_10) rfl (feq hc2).2 (by decide) (by decide) k) ?_
  refine own_go (st' := s₁.setTop (mkF m 22 #[.val (.int (2 : Int32)), .val (.long q1), .second, .val (.long q2), .second, .val (.long q3), .second] [(.int (2 : Int32))])) (fun _ k => XS.iloadN X0.here hx rfl (hb hby d3_21) rfl k) ?_
  refine own_go (st' := s₁.setTop (mkF m 23 #[.val (.int (2 : Int32)), .val (.long q1), .second, .val (.long q2), .second, .val (.long q3), .second] [(.int (2 : Int32)), (.int (2 : Int32))])) (fun _ k => XS.iconst X0.here hx rfl (hb hby d3_22) k) ?_
  have hc3 : (2 : Int32) = (2 : Int32) := by decide
  refine own_go (st' := s₁.setTop (mkF m 26 #[.val (.int (2 : Int32)), .val (.long q1), .second, .val (.long q2), .second, .val (.long q3), .second] [])) (fun _ k => XS.icmpNo X0.here hx rfl (hb hby d3_23) rfl (teq hc3).2 k) ?_
  refine own_go (st' := s₁.setTop (mkF m 27 #[.val (.int (2 : Int32)), .val (.long q1), .second, .val (.long q2), .second, .val (.long q3), .second] [(.int (2 : Int32))])) (fun _ k => XS.iconst X0.here hx rfl (hb hby d3_26) k) ?_
  obtain ⟨T4, h4, k4, X4, e4, E4, A4, st4⟩ := newP X0 hx hZ (hw _ (List.mem_of_getElem? (i := 15) rfl)) e0 (g := (mkF m 27 #[.val (.int (2 : Int32)), .val (.long q1), .second, .val (.long q2), .second, .val (.long q3), .second] [(.int (2 : Int32))])) rfl (hb hby d3_27) rfl (by decide) (cap := 2) (by decide) (by decide) (by decide) (by decide)
  obtain ⟨b4, g4⟩ : ∃ z, z = h0.size := ⟨_, rfl⟩
  rw [← g4] at A4 st4
  have sz4 : h0.size ≤ h4.size := E4.1
  have lt4 : @LT.lt Nat _ b4 h4.size := A4.lt
  have v4 : Arv Z h4 b4 k4 .long (2 : Int32) [(.long (0 : Int64)), (.long (0 : Int64))] (.long (0 : Int64)) := (Arv.new A4 (by decide)).pad (pad_rep [] (.long (0 : Int64)) 2)
  refine own_go (st' := T4.setTop (mkF m 29 #[.val (.int (2 : Int32)), .val (.long q1), .second, .val (.long q2), .second, .val (.long q3), .second] [(.ref b4)])) (st4) ?_
  refine own_go (st' := T4.setTop (mkF m 30 #[.val (.int (2 : Int32)), .val (.long q1), .second, .val (.long q2), .second, .val (.long q3), .second] [(.ref b4), (.ref b4)])) (fun _ k => XS.dup X4.here hx rfl (hb hby d3_29) rfl rfl k) ?_
  refine own_go (st' := T4.setTop (mkF m 31 #[.val (.int (2 : Int32)), .val (.long q1), .second, .val (.long q2), .second, .val (.long q3), .second] [(.int (0 : Int32)), (.ref b4), (.ref b4)])) (fun _ k => XS.iconst X4.here hx rfl (hb hby d3_30) k) ?_
  refine own_go (st' := T4.setTop (mkF m 32 #[.val (.int (2 : Int32)), .val (.long q1), .second, .val (.long q2), .second, .val (.long q3), .second] [(.long q1), (.int (0 : Int32)), (.ref b4), (.ref b4)])) (fun _ k => XS.lloadN X4.here hx rfl (hb hby d3_31) rfl k) ?_
  obtain ⟨cl5, Ar5, qc5, S5, M5, H5, G5⟩ := id v4
  have hin5 : ¬ ((0 : Int32) < 0 ∨ cl5.slots.size ≤ ((0 : Int32)).toNatClampNeg) := (inb_of S5 ⟨by decide, by decide⟩)
  obtain ⟨T5, h5, X5, e5, W5, st5⟩ := stJ X4 hx hZ e4 Ar5 (j := (0 : Int32)) hin5 (g := (mkF m 32 #[.val (.int (2 : Int32)), .val (.long q1), .second, .val (.long q2), .second, .val (.long q3), .second] [(.long q1), (.int (0 : Int32)), (.ref b4), (.ref b4)])) rfl rfl (hb hby d3_32)
  have sz5 : h5.size = h4.size := W5.size
  have N5 := Fr.snoc X5 N0 (by omega)
  have v5 : Arv Z h5 b4 k4 .long (2 : Int32) [(.long q1), (.long (0 : Int64))] (.long (0 : Int64)) := Arv.set Ar5 qc5 S5 M5 H5 G5 rfl W5 0 rfl (Nat.le_of_ble_eq_true rfl)
  refine own_go (st' := T5.setTop (mkF m 33 #[.val (.int (2 : Int32)), .val (.long q1), .second, .val (.long q2), .second, .val (.long q3), .second] [(.ref b4)])) (st5) ?_
  refine own_go (st' := T5.setTop (mkF m 34 #[.val (.int (2 : Int32)), .val (.long q1), .second, .val (.long q2), .second, .val (.long q3), .second] [(.ref b4), (.ref b4)])) (fun _ k => XS.dup X5.here hx rfl (hb hby d3_33) rfl rfl k) ?_
  refine own_go (st' := T5.setTop (mkF m 35 #[.val (.int (2 : Int32)), .val (.long q1), .second, .val (.long q2), .second, .val (.long q3), .second] [(.int (1 : Int32)), (.ref b4), (.ref b4)])) (fun _ k => XS.iconst X5.here hx rfl (hb hby d3_34) k) ?_
  refine own_go (st' := T5.setTop (mkF m 36 #[.val (.int (2 : Int32)), .val (.long q1), .second, .val (.long q2), .second, .val (.long q3), .second] [(.long q2), (.int (1 : Int32)), (.ref b4), (.ref b4)])) (fun _ k => XS.lloadN X5.here hx rfl (hb hby d3_35) rfl k) ?_
  obtain ⟨cl6, Ar6, qc6, S6, M6, H6, G6⟩ := id v5
  have hin6 : ¬ ((1 : Int32) < 0 ∨ cl6.slots.size ≤ ((1 : Int32)).toNatClampNeg) := (inb_of S6 ⟨by decide, by decide⟩)
  obtain ⟨T6, h6, X6, e6, W6, st6⟩ := stJ X5 hx hZ e5 Ar6 (j := (1 : Int32)) hin6 (g := (mkF m 36 #[.val (.int (2 : Int32)), .val (.long q1), .second, .val (.long q2), .second, .val (.long q3), .second] [(.long q2), (.int (1 : Int32)), (.ref b4), (.ref b4)])) rfl rfl (hb hby d3_36)
  have sz6 : h6.size = h5.size := W6.size
  have N6 := Fr.snoc X6 N5 (by omega)
  have v6 : Arv Z h6 b4 k4 .long (2 : Int32) [(.long q1), (.long q2)] (.long (0 : Int64)) := Arv.set Ar6 qc6 S6 M6 H6 G6 rfl W6 1 rfl (Nat.le_of_ble_eq_true rfl)
  refine own_go (st' := T6.setTop (mkF m 37 #[.val (.int (2 : Int32)), .val (.long q1), .second, .val (.long q2), .second, .val (.long q3), .second] [(.ref b4)])) (st6) ?_
  obtain ⟨fs, hr, hrun, hended, hW, hsame⟩ := X6.leave (v := some (.ref b4)) (fun h => by rw [Bd.returns] at h; cases h)
  refine ⟨_, _, ?_, hP _ _ hrun hended ⟨_, _, rfl, ?_, ⟨_, rfl⟩, hW, hsame.mono (by decide) (by decide)⟩⟩
  · exact retOut X6 hx Bd.returns rfl (Or.inr (Or.inr (Or.inr (Or.inr ⟨rfl, rfl, rfl⟩)))) (hb hby d3_37) hr
  · show Qrm3_2 Z q1 q2 q3 h0 n0 _ T6.heap _
    rw [e6]
    exact ⟨b4, k4, rfl, N6, ((((Keep.refl h0 []).ext E4).wr W5 (Or.inr (by omega))).wr W6 (Or.inr (by omega))), v6, (by omega)⟩
theorem ef_rm4_2 (m : MethodId) (x0 : Addr) (x1 : Addr) (x2 : Addr) (x3 : Addr) : entryFrame m #[(.ref x0), (.ref x1), (.ref x2), (.ref x3)] 11 = mkF m 0 #[.val (.ref x0), .val (.ref x1), .val (.ref x2), .val (.ref x3), .unset, .unset, .unset, .unset, .unset, .unset, .unset] [] := by first | (simp [entryFrame, mkF, argsToLocals, Value.category]; done) | rfl
def Qrm4_2 (Z : State) (a1 : Addr) (am : Addr) (ast : Addr) (ae : Addr) (ke : ClassId) (u1 : Int64) (q1 : Int64) (q2 : Int64) (h0 : Heap) (n0 : Nat) (v : Option Value) (h : Heap) (L : List Loc) : Prop := (v = none) ∧ (Fr n0 L) ∧ (Keep h0 h [a1]) ∧ (Exa Z h a1 "com/example/millwright/millwright/jobshop/Plan") ∧ (Fld Z h a1 "com/example/millwright/millwright/jobshop/Plan" "makespan" "J" (.long (own_lmax (own_lmax (0 : Int64) q1) q2)))
set_option maxRecDepth 65536 in
set_option maxHeartbeats 40000000 in
theorem rm4_2 (l : Launch) (Z : State) (a0 : Array Value) (hw : ∀ d ∈ tables_1, d.before a0 Z = true) (ws : List Jvm.Cond) (a1 : Addr) (am : Addr) (ast : Addr) (ae : Addr) (ke : ClassId) (u1 : Int64) (q1 : Int64) (q2 : Int64) (h0 : Heap) (n0 : Nat) (Z0 : n0 ≤ h0.size) (pr1 : Exa Z h0 a1 "com/example/millwright/millwright/jobshop/Plan") (pr2 : Fld Z h0 a1 "com/example/millwright/millwright/jobshop/Plan" "machine" "[I" .null) (pr3 : Fld Z h0 a1 "com/example/millwright/millwright/jobshop/Plan" "start" "[J" .null) (pr4 : Fld Z h0 a1 "com/example/millwright/millwright/jobshop/Plan" "end" "[J" .null) (pr5 : Fld Z h0 a1 "com/example/millwright/millwright/jobshop/Plan" "makespan" "J" (.long u1)) (pr6 : Arv Z h0 ae ke .long (2 : Int32) [(.long q1), (.long q2)] (.long (0 : Int64))) (pr7 : n0 ≤ a1) (pr8 : a1 ≠ ae) :
    MetFree l (⟨"com/example/millwright/millwright/jobshop/Plan", "<init>", "([I[J[J)V"⟩ : MethodName) (head1 (Jvm.Cond.code (⟨"com/example/millwright/millwright/jobshop/Plan", "<init>", "([I[J[J)V"⟩ : MethodName) prog_43_method_1_code 11 none :: ws) ({ frames := 1, cells := 0, slots := 0, locals := 15 } : Room)) (fun a U => a = #[(.ref a1), (.ref am), (.ref ast), (.ref ae)] ∧ Z.Warmed39 U.vm ∧ U.heap = h0) (fun _ _ _ _ _ => True) (fun _ U o U' => ∃ v L, o = .returned v ∧ Qrm4_2 Z a1 am ast ae ke u1 q1 q2 h0 n0 v U'.heap L ∧ FrameEnd U o U' L ({ frames := 1, cells := 0, slots := 0, locals := 15 } : Room).cells ({ frames := 1, cells := 0, slots := 0, locals := 15 } : Room).slots) := by
  refine MetFree.of_bodySF (plainFor_of_name pn_4) hisR ?_
  intro p e s m args below meth c s₁ Bd hml0 hP0 hK
  obtain ⟨rfl, hZ, hh⟩ := hP0
  have hx := Bd.exec
  have hby := Bd.bytes
  have hml : c.maxLocals = 11 := hml0
  have hown : s.vm.findClass "com/example/millwright/millwright/jobshop/Plan" = some m.cls := findClass_of_methodNamed Bd.named
  have hnm := (name_of_methodNamed Bd.named Bd.method).1
  have X0 : Stand p l e ({ frames := 1, cells := 0, slots := 0, locals := 15 } : Room) s m #[(.ref a1), (.ref am), (.ref ast), (.ref ae)] below meth c s₁ [] 0 0 := Stand.of_body Bd
  have e0 : s₁.heap = h0 := by rw [← hh, Bd.state]; rfl
  have N0 := Fr.nil n0
  suffices own_H : ∀ (P : State → Outcome → Prop), (∀ U o, U.status = .running → Ended U below o → (∃ v L, o = .returned v ∧ Qrm4_2 Z a1 am ast ae ke u1 q1 q2 h0 n0 v U.heap L ∧ FrameEnd s o U L ({ frames := 1, cells := 0, slots := 0, locals := 15 } : Room).cells ({ frames := 1, cells := 0, slots := 0, locals := 15 } : Room).slots) → P U o) → own_Go p.tables e below P (s₁.setTop (mkF m 0 #[.val (.ref a1), .val (.ref am), .val (.ref ast), .val (.ref ae), .unset, .unset, .unset, .unset, .unset, .unset, .unset] [])) from own_go (fun _ k => castTop (ef_rm4_2 m a1 am ast ae) k) (own_H _ (fun U o h1 h2 h3 => ⟨h1, h2, h3⟩))
  intro P hP
  have lt_a1 : @LT.lt Nat _ a1 h0.size := pr1.lt
  have lt_ae : @LT.lt Nat _ ae h0.size := pr6.lt
  refine own_go (st' := s₁.setTop (mkF m 1 #[.val (.ref a1), .val (.ref am), .val (.ref ast), .val (.ref ae), .unset, .unset, .unset, .unset, .unset, .unset, .unset] [(.ref a1)])) (fun _ k => XS.aloadN X0.here hx rfl (hb hby d4_0) rfl rfl k) ?_
  obtain ⟨T1, X1, e1, st1⟩ := initO X0 hx hZ hown (hw _ (List.mem_of_getElem? (i := 19) rfl)) (hw _ (List.mem_of_getElem? (i := 20) rfl)) (hw _ (List.mem_of_getElem? (i := 21) rfl)) e0 (g := (mkF m 1 #[.val (.ref a1), .val (.ref am), .val (.ref ast), .val (.ref ae), .unset, .unset, .unset, .unset, .unset, .unset, .unset] [(.ref a1)])) rfl (by rw [hml]; rfl) rfl (hb hby d4_1) (by decide) (W := 0) (by show 2 * 0 + _ ≤ _; exact Nat.le_of_eq rfl) (by decide)
  refine own_go (st' := T1.setTop (mkF m 4 #[.val (.ref a1), .val (.ref am), .val (.ref ast), .val (.ref ae), .unset, .unset, .unset, .unset, .unset, .unset, .unset] [])) (st1) ?_
  refine own_go (st' := T1.setTop (mkF m 5 #[.val (.ref a1), .val (.ref am), .val (.ref ast), .val (.ref ae), .unset, .unset, .unset, .unset, .unset, .unset, .unset] [(.ref a1)])) (fun _ k => XS.aloadN X1.here hx rfl (hb hby d4_4) rfl rfl k) ?_
  refine own_go (st' := T1.setTop (mkF m 6 #[.val (.ref a1), .val (.ref am), .val (.ref ast), .val (.ref ae), .unset, .unset, .unset, .unset, .unset, .unset, .unset] [(.ref am), (.ref a1)])) (fun _ k => XS.aloadN X1.here hx rfl (hb hby d4_5) rfl rfl k) ?_
  obtain ⟨T2, h2, X2, e2, W2, st2⟩ := putF X1 hx hZ hown (host := "") (Or.inl (hw _ (List.mem_of_getElem? (i := 22) rfl))) Via.refl e1 pr2 pr1 (Or.inr ⟨(hw _ (List.mem_of_getElem? (i := 23) rfl)), rfl, hnm⟩) (hw _ (List.mem_of_getElem? (i := 5) rfl)) (ty := (.array .int)) (by decide) rfl rfl (g := (mkF m 6 #[.val (.ref a1), .val (.ref am), .val (.ref ast), .val (.ref ae), .unset, .unset, .unset, .unset, .unset, .unset, .unset] [(.ref am), (.ref a1)])) rfl rfl (hb hby d4_6)
  have sz2 : h2.size = h0.size := W2.size
  have N2 := Fr.snoc X2 N0 (by omega)
  have f2 : Fld Z h2 a1 "com/example/millwright/millwright/jobshop/Plan" "machine" "[I" (.ref am) := pr2.same W2
  refine own_go (st' := T2.setTop (mkF m 9 #[.val (.ref a1), .val (.ref am), .val (.ref ast), .val (.ref ae), .unset, .unset, .unset, .unset, .unset, .unset, .unset] [])) (st2) ?_
  refine own_go (st' := T2.setTop (mkF m 10 #[.val (.ref a1), .val (.ref am), .val (.ref ast), .val (.ref ae), .unset, .unset, .unset, .unset, .unset, .unset, .unset] [(.ref a1)])) (fun _ k => XS.aloadN X2.here hx rfl (hb hby d4_9) rfl rfl k) ?_
  refine own_go (st' := T2.setTop (mkF m 11 #[.val (.ref a1), .val (.ref am), .val (.ref ast), .val (.ref ae), .unset, .unset, .unset, .unset, .unset, .unset, .unset] [(.ref ast), (.ref a1)])) (fun _ k => XS.aloadN X2.here hx rfl (hb hby d4_10) rfl rfl k) ?_
  have c3 : Fld Z h2 a1 "com/example/millwright/millwright/jobshop/Plan" "start" "[J" .null := (pr3.other W2 (Or.inr (slot_ne (Or.inr (hw _ (List.mem_of_getElem? (i := 25) rfl))) (Or.inr (hw _ (List.mem_of_getElem? (i := 23) rfl))) (by decide) (t := (.array .long)) (t' := (.array .int)) (by decide) (by decide))))
  have c4 : Exa Z h2 a1 "com/example/millwright/millwright/jobshop/Plan" := (pr1.wr W2)
  obtain ⟨T5, h5, X5, e5, W5, st5⟩ := putF X2 hx hZ hown (host := "") (Or.inl (hw _ (List.mem_of_getElem? (i := 24) rfl))) Via.refl e2 c3 c4 (Or.inr ⟨(hw _ (List.mem_of_getElem? (i := 25) rfl)), rfl, hnm⟩) (hw _ (List.mem_of_getElem? (i := 5) rfl)) (ty := (.array .long)) (by decide) rfl rfl (g := (mkF m 11 #[.val (.ref a1), .val (.ref am), .val (.ref ast), .val (.ref ae), .unset, .unset, .unset, .unset, .unset, .unset, .unset] [(.ref ast), (.ref a1)])) rfl rfl (hb hby d4_11)
  have sz5 : h5.size = h2.size := W5.size
  have N5 := Fr.snoc X5 N2 (by omega)
  have f5 : Fld Z h5 a1 "com/example/millwright/millwright/jobshop/Plan" "start" "[J" (.ref ast) := c3.same W5
  refine own_go (st' := T5.setTop (mkF m 14 #[.val (.ref a1), .val (.ref am), .val (.ref ast), .val (.ref ae), .unset, .unset, .unset, .unset, .unset, .unset, .unset] [])) (st5) ?_
  refine own_go (st' := T5.setTop (mkF m 15 #[.val (.ref a1), .val (.ref am), .val (.ref ast), .val (.ref ae), .unset, .unset, .unset, .unset, .unset, .unset, .unset] [(.ref a1)])) (fun _ k => XS.aloadN X5.here hx rfl (hb hby d4_14) rfl rfl k) ?_
  refine own_go (st' := T5.setTop (mkF m 16 #[.val (.ref a1), .val (.ref am), .val (.ref ast), .val (.ref ae), .unset, .unset, .unset, .unset, .unset, .unset, .unset] [(.ref ae), (.ref a1)])) (fun _ k => XS.aloadN X5.here hx rfl (hb hby d4_15) rfl rfl k) ?_
  have c6 : Fld Z h5 a1 "com/example/millwright/millwright/jobshop/Plan" "end" "[J" .null := ((pr4.other W2 (Or.inr (slot_ne (Or.inr (hw _ (List.mem_of_getElem? (i := 27) rfl))) (Or.inr (hw _ (List.mem_of_getElem? (i := 23) rfl))) (by decide) (t := (.array .long)) (t' := (.array .int)) (by decide) (by decide)))).other W5 (Or.inr (slot_ne (Or.inr (hw _ (List.mem_of_getElem? (i := 27) rfl))) (Or.inr (hw _ (List.mem_of_getElem? (i := 25) rfl))) (by decide) (t := (.array .long)) (t' := (.array .long)) (by decide) (by decide))))
  have c7 : Exa Z h5 a1 "com/example/millwright/millwright/jobshop/Plan" := (c4.wr W5)
  obtain ⟨T8, h8, X8, e8, W8, st8⟩ := putF X5 hx hZ hown (host := "") (Or.inl (hw _ (List.mem_of_getElem? (i := 26) rfl))) Via.refl e5 c6 c7 (Or.inr ⟨(hw _ (List.mem_of_getElem? (i := 27) rfl)), rfl, hnm⟩) (hw _ (List.mem_of_getElem? (i := 5) rfl)) (ty := (.array .long)) (by decide) rfl rfl (g := (mkF m 16 #[.val (.ref a1), .val (.ref am), .val (.ref ast), .val (.ref ae), .unset, .unset, .unset, .unset, .unset, .unset, .unset] [(.ref ae), (.ref a1)])) rfl rfl (hb hby d4_16)
  have sz8 : h8.size = h5.size := W8.size
  have N8 := Fr.snoc X8 N5 (by omega)
  have f8 : Fld Z h8 a1 "com/example/millwright/millwright/jobshop/Plan" "end" "[J" (.ref ae) := c6.same W8
  refine own_go (st' := T8.setTop (mkF m 19 #[.val (.ref a1), .val (.ref am), .val (.ref ast), .val (.ref ae), .unset, .unset, .unset, .unset, .unset, .unset, .unset] [])) (st8) ?_
  refine own_go (st' := T8.setTop (mkF m 20 #[.val (.ref a1), .val (.ref am), .val (.ref ast), .val (.ref ae), .unset, .unset, .unset, .unset, .unset, .unset, .unset] [(.long (0 : Int64))])) (fun _ k => XS.lconst X8.here hx rfl (hb hby d4_19) k) ?_
  refine own_go (st' := T8.setTop (mkF m 22 #[.val (.ref a1), .val (.ref am), .val (.ref ast), .val (.ref ae), .val (.long (0 : Int64)), .second, .unset, .unset, .unset, .unset, .unset] [])) (fun _ k => XS.lstore X8.here hx rfl (hb hby d4_20) rfl (l' := #[.val (.ref a1), .val (.ref am), .val (.ref ast), .val (.ref ae), .val (.long (0 : Int64)), .second, .unset, .unset, .unset, .unset, .unset]) rfl k) ?_
  refine own_go (st' := T8.setTop (mkF m 23 #[.val (.ref a1), .val (.ref am), .val (.ref ast), .val (.ref ae), .val (.long (0 : Int64)), .second, .unset, .unset, .unset, .unset, .unset] [(.ref ae)])) (fun _ k => XS.aloadN X8.here hx rfl (hb hby d4_22) rfl rfl k) ?_
  refine own_go (st' := T8.setTop (mkF m 25 #[.val (.ref a1), .val (.ref am), .val (.ref ast), .val (.ref ae), .val (.long (0 : Int64)), .second, .val (.ref ae), .unset, .unset, .unset, .unset] [])) (fun _ k => XS.astore X8.here hx rfl (hb hby d4_23) rfl rfl (l' := #[.val (.ref a1), .val (.ref am), .val (.ref ast), .val (.ref ae), .val (.long (0 : Int64)), .second, .val (.ref ae), .unset, .unset, .unset, .unset]) rfl k) ?_
  refine own_go (st' := T8.setTop (mkF m 27 #[.val (.ref a1), .val (.ref am), .val (.ref ast), .val (.ref ae), .val (.long (0 : Int64)), .second, .val (.ref ae), .unset, .unset, .unset, .unset] [(.ref ae)])) (fun _ k => XS.aload X8.here hx rfl (hb hby d4_25) rfl rfl k) ?_
  have c9 : Arv Z h8 ae ke .long (2 : Int32) [(.long q1), (.long q2)] (.long (0 : Int64)) := (((pr6.other W2 (by first | assumption | exact Ne.symm (by assumption) | (apply Nat.ne_of_lt; omega) | (apply Nat.ne_of_gt; omega))).other W5 (by first | assumption | exact Ne.symm (by assumption) | (apply Nat.ne_of_lt; omega) | (apply Nat.ne_of_gt; omega))).other W8 (by first | assumption | exact Ne.symm (by assumption) | (apply Nat.ne_of_lt; omega) | (apply Nat.ne_of_gt; omega)))
  obtain ⟨cl10, Ar10, -, S10, M10, -, -⟩ := id c9
  refine own_go (st' := T8.setTop (mkF m 28 #[.val (.ref a1), .val (.ref am), .val (.ref ast), .val (.ref ae), .val (.long (0 : Int64)), .second, .val (.ref ae), .unset, .unset, .unset, .unset] [(.int (2 : Int32))])) (fun t k => X8.arraylength hx (by rw [e8]; exact Ar10.1) (State.isArrayOf_alike hZ.alike Ar10.2.1) (g := (mkF m 27 #[.val (.ref a1), .val (.ref am), .val (.ref ast), .val (.ref ae), .val (.long (0 : Int64)), .second, .val (.ref ae), .unset, .unset, .unset, .unset] [(.ref ae)])) rfl rfl (hb hby d4_27) t (by rw [len_of S10 M10]; exact k)) ?_
  refine own_go (st' := T8.setTop (mkF m 30 #[.val (.ref a1), .val (.ref am), .val (.ref ast), .val (.ref ae), .val (.long (0 : Int64)), .second, .val (.ref ae), .val (.int (2 : Int32)), .unset, .unset, .unset] [])) (fun _ k => XS.istore X8.here hx rfl (hb hby d4_28) rfl (l' := #[.val (.ref a1), .val (.ref am), .val (.ref ast), .val (.ref ae), .val (.long (0 : Int64)), .second, .val (.ref ae), .val (.int (2 : Int32)), .unset, .unset, .unset]) rfl k) ?_
  refine own_go (st' := T8.setTop (mkF m 31 #[.val (.ref a1), .val (.ref am), .val (.ref ast), .val (.ref ae), .val (.long (0 : Int64)), .second, .val (.ref ae), .val (.int (2 : Int32)), .unset, .unset, .unset] [(.int (0 : Int32))])) (fun _ k => XS.iconst X8.here hx rfl (hb hby d4_30) k) ?_
  refine own_go (st' := T8.setTop (mkF m 33 #[.val (.ref a1), .val (.ref am), .val (.ref ast), .val (.ref ae), .val (.long (0 : Int64)), .second, .val (.ref ae), .val (.int (2 : Int32)), .val (.int (0 : Int32)), .unset, .unset] [])) (fun _ k => XS.istore X8.here hx rfl (hb hby d4_31) rfl (l' := #[.val (.ref a1), .val (.ref am), .val (.ref ast), .val (.ref ae), .val (.long (0 : Int64)), .second, .val (.ref ae), .val (.int (2 : Int32)), .val (.int (0 : Int32)), .unset, .unset]) rfl k) ?_
  refine own_go (st' := T8.setTop (mkF m 35 #[.val (.ref a1), .val (.ref am), .val (.ref ast), .val (.ref ae), .val (.long (0 : Int64)), .second, .val (.ref ae), .val (.int (2 : Int32)), .val (.int (0 : Int32)), .unset, .unset] [(.int (0 : Int32))])) (fun _ k => XS.iload X8.here hx rfl (hb hby d4_33) rfl k) ?_
  refine own_go (st' := T8.setTop (mkF m 37 #[.val (.ref a1), .val (.ref am), .val (.ref ast), .val (.ref ae), .val (.long (0 : Int64)), .second, .val (.ref ae), .val (.int (2 : Int32)), .val (.int (0 : Int32)), .unset, .unset] [(.int (2 : Int32)), (.int (0 : Int32))])) (fun _ k => XS.iload X8.here hx rfl (hb hby d4_35) rfl k) ?_
  have hc11 : (0 : Int32) < (2 : Int32) := by decide
  refine own_go (st' := T8.setTop (mkF m 40 #[.val (.ref a1), .val (.ref am), .val (.ref ast), .val (.ref ae), .val (.long (0 : Int64)), .second, .val (.ref ae), .val (.int (2 : Int32)), .val (.int (0 : Int32)), .unset, .unset] [])) (fun _ k => XS.icmpNo X8.here hx rfl (hb hby d4_37) rfl (tlt hc11).2.1 k) ?_
  refine own_go (st' := T8.setTop (mkF m 42 #[.val (.ref a1), .val (.ref am), .val (.ref ast), .val (.ref ae), .val (.long (0 : Int64)), .second, .val (.ref ae), .val (.int (2 : Int32)), .val (.int (0 : Int32)), .unset, .unset] [(.ref ae)])) (fun _ k => XS.aload X8.here hx rfl (hb hby d4_40) rfl rfl k) ?_
  refine own_go (st' := T8.setTop (mkF m 44 #[.val (.ref a1), .val (.ref am), .val (.ref ast), .val (.ref ae), .val (.long (0 : Int64)), .second, .val (.ref ae), .val (.int (2 : Int32)), .val (.int (0 : Int32)), .unset, .unset] [(.int (0 : Int32)), (.ref ae)])) (fun _ k => XS.iload X8.here hx rfl (hb hby d4_42) rfl k) ?_
  obtain ⟨cl12, Ar12, -, S12, M12, H12, -⟩ := id c9
  have hin12 : ¬ ((0 : Int32) < 0 ∨ cl12.slots.size ≤ ((0 : Int32)).toNatClampNeg) := (inb_of S12 ⟨by decide, by decide⟩)
  have hat12 : cl12.slots[((0 : Int32)).toNatClampNeg]? = some (.long q1) := (H12.at hin12 rfl)
  refine own_go (st' := T8.setTop (mkF m 45 #[.val (.ref a1), .val (.ref am), .val (.ref ast), .val (.ref ae), .val (.long (0 : Int64)), .second, .val (.ref ae), .val (.int (2 : Int32)), .val (.int (0 : Int32)), .unset, .unset] [(.long q1)])) (X8.laload hx (j := (0 : Int32)) (v := (.long q1)) (by rw [e8]; exact Ar12.1) (State.isArrayOf_alike hZ.alike Ar12.2.1) Ar12.2.2 hin12 hat12 (g := (mkF m 44 #[.val (.ref a1), .val (.ref am), .val (.ref ast), .val (.ref ae), .val (.long (0 : Int64)), .second, .val (.ref ae), .val (.int (2 : Int32)), .val (.int (0 : Int32)), .unset, .unset] [(.int (0 : Int32)), (.ref ae)])) rfl rfl (hb hby d4_44)) ?_
  refine own_go (st' := T8.setTop (mkF m 47 #[.val (.ref a1), .val (.ref am), .val (.ref ast), .val (.ref ae), .val (.long (0 : Int64)), .second, .val (.ref ae), .val (.int (2 : Int32)), .val (.int (0 : Int32)), .val (.long q1), .second] [])) (fun _ k => XS.lstore X8.here hx rfl (hb hby d4_45) rfl (l' := #[.val (.ref a1), .val (.ref am), .val (.ref ast), .val (.ref ae), .val (.long (0 : Int64)), .second, .val (.ref ae), .val (.int (2 : Int32)), .val (.int (0 : Int32)), .val (.long q1), .second]) rfl k) ?_
  refine own_go (st' := T8.setTop (mkF m 49 #[.val (.ref a1), .val (.ref am), .val (.ref ast), .val (.ref ae), .val (.long (0 : Int64)), .second, .val (.ref ae), .val (.int (2 : Int32)), .val (.int (0 : Int32)), .val (.long q1), .second] [(.long (0 : Int64))])) (fun _ k => XS.lload X8.here hx rfl (hb hby d4_47) rfl k) ?_
  refine own_go (st' := T8.setTop (mkF m 51 #[.val (.ref a1), .val (.ref am), .val (.ref ast), .val (.ref ae), .val (.long (0 : Int64)), .second, .val (.ref ae), .val (.int (2 : Int32)), .val (.int (0 : Int32)), .val (.long q1), .second] [(.long q1), (.long (0 : Int64))])) (fun _ k => XS.lload X8.here hx rfl (hb hby d4_49) rfl k) ?_
  obtain ⟨_, _, ⟨T13, LC13, kC13, nC13⟩, -, X13, ⟨Lc13, hQ13, lq13, yq13, zq13⟩, st13⟩ := Jvm.LawKit.callS X8 hx (y := (⟨"java/lang/Math", "max", "(JJ)J"⟩ : MethodName)) hown (mvT hZ (hw _ (List.mem_of_getElem? (i := 28) rfl))) (mvT hZ (hw _ (List.mem_of_getElem? (i := 1) rfl))) (mvT hZ (hw _ (List.mem_of_getElem? (i := 2) rfl))) (mvT hZ (hw _ (List.mem_of_getElem? (i := 3) rfl))) (by decide) (backOf (W := 0) (rm1 l Z a0 hw [] (0 : Int64) q1 h8 n0 (by omega) ) hZ (hw _ (List.mem_of_getElem? (i := 3) rfl)) (hw _ (List.mem_of_getElem? (i := 2) rfl)) (by decide) (by decide)) (g := (mkF m 51 #[.val (.ref a1), .val (.ref am), .val (.ref ast), .val (.ref ae), .val (.long (0 : Int64)), .second, .val (.ref ae), .val (.int (2 : Int32)), .val (.int (0 : Int32)), .val (.long q1), .second] [(.long q1), (.long (0 : Int64))])) rfl (by rw [hml]; rfl) (argsL := [(.long (0 : Int64)), (.long q1)]) (rest := []) (lenOf pd_0 rfl) rfl (by show 2 * 0 + _ ≤ _; exact Nat.le_of_eq rfl) (hb hby d4_51) (fun _ _ => ⟨rfl, e8, (by decide : 0 + 0 ≤ _), (by decide : 0 + 0 ≤ _)⟩)
  dsimp only [Pt.U, Pt.locs, Pt.cells, Pt.slots] at X13 lq13 yq13 zq13 st13 hQ13
  subst lq13 yq13 zq13
  obtain ⟨rfl, Nq13, eq13⟩ := hQ13
  have N13 := Fr.app N8 Nq13
  refine own_go (st' := T13.setTop (mkF m 54 #[.val (.ref a1), .val (.ref am), .val (.ref ast), .val (.ref ae), .val (.long (0 : Int64)), .second, .val (.ref ae), .val (.int (2 : Int32)), .val (.int (0 : Int32)), .val (.long q1), .second] [(.long (own_lmax (0 : Int64) q1))])) (fun t k => st13 t k) ?_
  refine own_go (st' := T13.setTop (mkF m 56 #[.val (.ref a1), .val (.ref am), .val (.ref ast), .val (.ref ae), .val (.long (own_lmax (0 : Int64) q1)), .second, .val (.ref ae), .val (.int (2 : Int32)), .val (.int (0 : Int32)), .val (.long q1), .second] [])) (fun _ k => XS.lstore X13.here hx rfl (hb hby d4_54) rfl (l' := #[.val (.ref a1), .val (.ref am), .val (.ref ast), .val (.ref ae), .val (.long (own_lmax (0 : Int64) q1)), .second, .val (.ref ae), .val (.int (2 : Int32)), .val (.int (0 : Int32)), .val (.long q1), .second]) rfl k) ?_
  refine own_go (st' := T13.setTop (mkF m 59 #[.val (.ref a1), .val (.ref am), .val (.ref ast), .val (.ref ae), .val (.long (own_lmax (0 : Int64) q1)), .second, .val (.ref ae), .val (.int (2 : Int32)), .val (.int (1 : Int32)), .val (.long q1), .second] [])) (fun _ k => XS.iinc X13.here hx rfl (hb hby d4_56) rfl (l' := #[.val (.ref a1), .val (.ref am), .val (.ref ast), .val (.ref ae), .val (.long (own_lmax (0 : Int64) q1)), .second, .val (.ref ae), .val (.int (2 : Int32)), .val (.int (1 : Int32)), .val (.long q1), .second]) (by rw [show ((0 : Int32) + Int32.ofInt 1) = (1 : Int32) by decide]; rfl) k) ?_
  refine own_go (st' := T13.setTop (mkF m 33 #[.val (.ref a1), .val (.ref am), .val (.ref ast), .val (.ref ae), .val (.long (own_lmax (0 : Int64) q1)), .second, .val (.ref ae), .val (.int (2 : Int32)), .val (.int (1 : Int32)), .val (.long q1), .second] [])) (fun _ k => XS.goto X13.here hx rfl (pc0 := 59) (pc' := 33) rfl (hb hby d4_59) (by decide) (by decide) k) ?_
  refine own_go (st' := T13.setTop (mkF m 35 #[.val (.ref a1), .val (.ref am), .val (.ref ast), .val (.ref ae), .val (.long (own_lmax (0 : Int64) q1)), .second, .val (.ref ae), .val (.int (2 : Int32)), .val (.int (1 : Int32)), .val (.long q1), .second] [(.int (1 : Int32))])) (fun _ k => XS.iload X13.here hx rfl (hb hby d4_33) rfl k) ?_
  refine own_go (st' := T13.setTop (mkF m 37 #[.val (.ref a1), .val (.ref am), .val (.ref ast), .val (.ref ae), .val (.long (own_lmax (0 : Int64) q1)), .second, .val (.ref ae), .val (.int (2 : Int32)), .val (.int (1 : Int32)), .val (.long q1), .second] [(.int (2 : Int32)), (.int (1 : Int32))])) (fun _ k => XS.iload X13.here hx rfl (hb hby d4_35) rfl k) ?_
  have hc14 : (1 : Int32) < (2 : Int32) := by decide
  refine own_go (st' := T13.setTop (mkF m 40 #[.val (.ref a1), .val (.ref am), .val (.ref ast), .val (.ref ae), .val (.long (own_lmax (0 : Int64) q1)), .second, .val (.ref ae), .val (.int (2 : Int32)), .val (.int (1 : Int32)), .val (.long q1), .second] [])) (fun _ k => XS.icmpNo X13.here hx rfl (hb hby d4_37) rfl (tlt hc14).2.1 k) ?_
  refine own_go (st' := T13.setTop (mkF m 42 #[.val (.ref a1), .val (.ref am), .val (.ref ast), .val (.ref ae), .val (.long (own_lmax (0 : Int64) q1)), .second, .val (.ref ae), .val (.int (2 : Int32)), .val (.int (1 : Int32)), .val (.long q1), .second] [(.ref ae)])) (fun _ k => XS.aload X13.here hx rfl (hb hby d4_40) rfl rfl k) ?_
  refine own_go (st' := T13.setTop (mkF m 44 #[.val (.ref a1), .val (.ref am), .val (.ref ast), .val (.ref ae), .val (.long (own_lmax (0 : Int64) q1)), .second, .val (.ref ae), .val (.int (2 : Int32)), .val (.int (1 : Int32)), .val (.long q1), .second] [(.int (1 : Int32)), (.ref ae)])) (fun _ k => XS.iload X13.here hx rfl (hb hby d4_42) rfl k) ?_
  obtain ⟨cl15, Ar15, -, S15, M15, H15, -⟩ := id c9
  have hin15 : ¬ ((1 : Int32) < 0 ∨ cl15.slots.size ≤ ((1 : Int32)).toNatClampNeg) := (inb_of S15 ⟨by decide, by decide⟩)
  have hat15 : cl15.slots[((1 : Int32)).toNatClampNeg]? = some (.long q2) := (H15.at hin15 rfl)
  refine own_go (st' := T13.setTop (mkF m 45 #[.val (.ref a1), .val (.ref am), .val (.ref ast), .val (.ref ae), .val (.long (own_lmax (0 : Int64) q1)), .second, .val (.ref ae), .val (.int (2 : Int32)), .val (.int (1 : Int32)), .val (.long q1), .second] [(.long q2)])) (X13.laload hx (j := (1 : Int32)) (v := (.long q2)) (by rw [eq13]; exact Ar15.1) (State.isArrayOf_alike hZ.alike Ar15.2.1) Ar15.2.2 hin15 hat15 (g := (mkF m 44 #[.val (.ref a1), .val (.ref am), .val (.ref ast), .val (.ref ae), .val (.long (own_lmax (0 : Int64) q1)), .second, .val (.ref ae), .val (.int (2 : Int32)), .val (.int (1 : Int32)), .val (.long q1), .second] [(.int (1 : Int32)), (.ref ae)])) rfl rfl (hb hby d4_44)) ?_
  refine own_go (st' := T13.setTop (mkF m 47 #[.val (.ref a1), .val (.ref am), .val (.ref ast), .val (.ref ae), .val (.long (own_lmax (0 : Int64) q1)), .second, .val (.ref ae), .val (.int (2 : Int32)), .val (.int (1 : Int32)), .val (.long q2), .second] [])) (fun _ k => XS.lstore X13.here hx rfl (hb hby d4_45) rfl (l' := #[.val (.ref a1), .val (.ref am), .val (.ref ast), .val (.ref ae), .val (.long (own_lmax (0 : Int64) q1)), .second, .val (.ref ae), .val (.int (2 : Int32)), .val (.int (1 : Int32)), .val (.long q2), .second]) rfl k) ?_
  refine own_go (st' := T13.setTop (mkF m 49 #[.val (.ref a1), .val (.ref am), .val (.ref ast), .val (.ref ae), .val (.long (own_lmax (0 : Int64) q1)), .second, .val (.ref ae), .val (.int (2 : Int32)), .val (.int (1 : Int32)), .val (.long q2), .second] [(.long (own_lmax (0 : Int64) q1))])) (fun _ k => XS.lload X13.here hx rfl (hb hby d4_47) rfl k) ?_
  refine own_go (st' := T13.setTop (mkF m 51 #[.val (.ref a1), .val (.ref am), .val (.ref ast), .val (.ref ae), .val (.long (own_lmax (0 : Int64) q1)), .second, .val (.ref ae), .val (.int (2 : Int32)), .val (.int (1 : Int32)), .val (.long q2), .second] [(.long q2), (.long (own_lmax (0 : Int64) q1))])) (fun _ k => XS.lload X13.here hx rfl (hb hby d4_49) rfl k) ?_
  obtain ⟨_, _, ⟨T16, LC16, kC16, nC16⟩, -, X16, ⟨Lc16, hQ16, lq16, yq16, zq16⟩, st16⟩ := Jvm.LawKit.callS X13 hx (y := (⟨"java/lang/Math", "max", "(JJ)J"⟩ : MethodName)) hown (mvT hZ (hw _ (List.mem_of_getElem? (i := 28) rfl))) (mvT hZ (hw _ (List.mem_of_getElem? (i := 1) rfl))) (mvT hZ (hw _ (List.mem_of_getElem? (i := 2) rfl))) (mvT hZ (hw _ (List.mem_of_getElem? (i := 3) rfl))) (by decide) (backOf (W := 0) (rm1 l Z a0 hw [] (own_lmax (0 : Int64) q1) q2 h8 n0 (by omega) ) hZ (hw _ (List.mem_of_getElem? (i := 3) rfl)) (hw _ (List.mem_of_getElem? (i := 2) rfl)) (by decide) (by decide)) (g := (mkF m 51 #[.val (.ref a1), .val (.ref am), .val (.ref ast), .val (.ref ae), .val (.long (own_lmax (0 : Int64) q1)), .second, .val (.ref ae), .val (.int (2 : Int32)), .val (.int (1 : Int32)), .val (.long q2), .second] [(.long q2), (.long (own_lmax (0 : Int64) q1))])) rfl (by rw [hml]; rfl) (argsL := [(.long (own_lmax (0 : Int64) q1)), (.long q2)]) (rest := []) (lenOf pd_0 rfl) rfl (by show 2 * 0 + _ ≤ _; exact Nat.le_of_eq rfl) (hb hby d4_51) (fun _ _ => ⟨rfl, eq13, (by decide : 0 + 0 ≤ _), (by decide : 0 + 0 ≤ _)⟩)
  dsimp only [Pt.U, Pt.locs, Pt.cells, Pt.slots] at X16 lq16 yq16 zq16 st16 hQ16
  subst lq16 yq16 zq16
  obtain ⟨rfl, Nq16, eq16⟩ := hQ16
  have N16 := Fr.app N13 Nq16
  refine own_go (st' := T16.setTop (mkF m 54 #[.val (.ref a1), .val (.ref am), .val (.ref ast), .val (.ref ae), .val (.long (own_lmax (0 : Int64) q1)), .second, .val (.ref ae), .val (.int (2 : Int32)), .val (.int (1 : Int32)), .val (.long q2), .second] [(.long (own_lmax (own_lmax (0 : Int64) q1) q2))])) (fun t k => st16 t k) ?_
  refine own_go (st' := T16.setTop (mkF m 56 #[.val (.ref a1), .val (.ref am), .val (.ref ast), .val (.ref ae), .val (.long (own_lmax (own_lmax (0 : Int64) q1) q2)), .second, .val (.ref ae), .val (.int (2 : Int32)), .val (.int (1 : Int32)), .val (.long q2), .second] [])) (fun _ k => XS.lstore X16.here hx rfl (hb hby d4_54) rfl (l' := #[.val (.ref a1), .val (.ref am), .val (.ref ast), .val (.ref ae), .val (.long (own_lmax (own_lmax (0 : Int64) q1) q2)), .second, .val (.ref ae), .val (.int (2 : Int32)), .val (.int (1 : Int32)), .val (.long q2), .second]) rfl k) ?_
  refine own_go (st' := T16.setTop (mkF m 59 #[.val (.ref a1), .val (.ref am), .val (.ref ast), .val (.ref ae), .val (.long (own_lmax (own_lmax (0 : Int64) q1) q2)), .second, .val (.ref ae), .val (.int (2 : Int32)), .val (.int (2 : Int32)), .val (.long q2), .second] [])) (fun _ k => XS.iinc X16.here hx rfl (hb hby d4_56) rfl (l' := #[.val (.ref a1), .val (.ref am), .val (.ref ast), .val (.ref ae), .val (.long (own_lmax (own_lmax (0 : Int64) q1) q2)), .second, .val (.ref ae), .val (.int (2 : Int32)), .val (.int (2 : Int32)), .val (.long q2), .second]) (by rw [show ((1 : Int32) + Int32.ofInt 1) = (2 : Int32) by decide]; rfl) k) ?_
  refine own_go (st' := T16.setTop (mkF m 33 #[.val (.ref a1), .val (.ref am), .val (.ref ast), .val (.ref ae), .val (.long (own_lmax (own_lmax (0 : Int64) q1) q2)), .second, .val (.ref ae), .val (.int (2 : Int32)), .val (.int (2 : Int32)), .val (.long q2), .second] [])) (fun _ k => XS.goto X16.here hx rfl (pc0 := 59) (pc' := 33) rfl (hb hby d4_59) (by decide) (by decide) k) ?_
  refine own_go (st' := T16.setTop (mkF m 35 #[.val (.ref a1), .val (.ref am), .val (.ref ast), .val (.ref ae), .val (.long (own_lmax (own_lmax (0 : Int64) q1) q2)), .second, .val (.ref ae), .val (.int (2 : Int32)), .val (.int (2 : Int32)), .val (.long q2), .second] [(.int (2 : Int32))])) (fun _ k => XS.iload X16.here hx rfl (hb hby d4_33) rfl k) ?_
  refine own_go (st' := T16.setTop (mkF m 37 #[.val (.ref a1), .val (.ref am), .val (.ref ast), .val (.ref ae), .val (.long (own_lmax (own_lmax (0 : Int64) q1) q2)), .second, .val (.ref ae), .val (.int (2 : Int32)), .val (.int (2 : Int32)), .val (.long q2), .second] [(.int (2 : Int32)), (.int (2 : Int32))])) (fun _ k => XS.iload X16.here hx rfl (hb hby d4_35) rfl k) ?_
  have hc17 : ¬ ((2 : Int32) < (2 : Int32)) := by decide
  refine own_go (st' := T16.setTop (mkF m 62 #[.val (.ref a1), .val (.ref am), .val (.ref ast), .val (.ref ae), .val (.long (own_lmax (own_lmax (0 : Int64) q1) q2)), .second, .val (.ref ae), .val (.int (2 : Int32)), .val (.int (2 : Int32)), .val (.long q2), .second] [])) (fun _ k => XS.icmpYes X16.here hx rfl (pc0 := 37) (pc' := 62) rfl (hb hby d4_37) rfl (flt hc17).2.1 (by decide) (by decide) k) ?_
  refine own_go (st' := T16.setTop (mkF m 63 #[.val (.ref a1), .val (.ref am), .val (.ref ast), .val (.ref ae), .val (.long (own_lmax (own_lmax (0 : Int64) q1) q2)), .second, .val (.ref ae), .val (.int (2 : Int32)), .val (.int (2 : Int32)), .val (.long q2), .second] [(.ref a1)])) (fun _ k => XS.aloadN X16.here hx rfl (hb hby d4_62) rfl rfl k) ?_
  refine own_go (st' := T16.setTop (mkF m 65 #[.val (.ref a1), .val (.ref am), .val (.ref ast), .val (.ref ae), .val (.long (own_lmax (own_lmax (0 : Int64) q1) q2)), .second, .val (.ref ae), .val (.int (2 : Int32)), .val (.int (2 : Int32)), .val (.long q2), .second] [(.long (own_lmax (own_lmax (0 : Int64) q1) q2)), (.ref a1)])) (fun _ k => XS.lload X16.here hx rfl (hb hby d4_63) rfl k) ?_
  have c18 : Fld Z h8 a1 "com/example/millwright/millwright/jobshop/Plan" "makespan" "J" (.long u1) := (((pr5.other W2 (Or.inr (slot_ne (Or.inr (hw _ (List.mem_of_getElem? (i := 30) rfl))) (Or.inr (hw _ (List.mem_of_getElem? (i := 23) rfl))) (by decide) (t := .long) (t' := (.array .int)) (by decide) (by decide)))).other W5 (Or.inr (slot_ne (Or.inr (hw _ (List.mem_of_getElem? (i := 30) rfl))) (Or.inr (hw _ (List.mem_of_getElem? (i := 25) rfl))) (by decide) (t := .long) (t' := (.array .long)) (by decide) (by decide)))).other W8 (Or.inr (slot_ne (Or.inr (hw _ (List.mem_of_getElem? (i := 30) rfl))) (Or.inr (hw _ (List.mem_of_getElem? (i := 27) rfl))) (by decide) (t := .long) (t' := (.array .long)) (by decide) (by decide))))
  have c19 : Exa Z h8 a1 "com/example/millwright/millwright/jobshop/Plan" := (c7.wr W8)
  obtain ⟨T20, h20, X20, e20, W20, st20⟩ := putF X16 hx hZ hown (host := "") (Or.inl (hw _ (List.mem_of_getElem? (i := 29) rfl))) Via.refl eq16 c18 c19 (Or.inr ⟨(hw _ (List.mem_of_getElem? (i := 30) rfl)), rfl, hnm⟩) (hw _ (List.mem_of_getElem? (i := 5) rfl)) (ty := .long) (by decide) rfl rfl (g := (mkF m 65 #[.val (.ref a1), .val (.ref am), .val (.ref ast), .val (.ref ae), .val (.long (own_lmax (own_lmax (0 : Int64) q1) q2)), .second, .val (.ref ae), .val (.int (2 : Int32)), .val (.int (2 : Int32)), .val (.long q2), .second] [(.long (own_lmax (own_lmax (0 : Int64) q1) q2)), (.ref a1)])) rfl rfl (hb hby d4_65)
  have sz20 : h20.size = h8.size := W20.size
  have N20 := Fr.snoc X20 N16 (by omega)
  have f20 : Fld Z h20 a1 "com/example/millwright/millwright/jobshop/Plan" "makespan" "J" (.long (own_lmax (own_lmax (0 : Int64) q1) q2)) := c18.same W20
  refine own_go (st' := T20.setTop (mkF m 68 #[.val (.ref a1), .val (.ref am), .val (.ref ast), .val (.ref ae), .val (.long (own_lmax (own_lmax (0 : Int64) q1) q2)), .second, .val (.ref ae), .val (.int (2 : Int32)), .val (.int (2 : Int32)), .val (.long q2), .second] [])) (st20) ?_
  obtain ⟨fs, hr, hrun, hended, hW, hsame⟩ := X20.leave (v := none) (fun _ => rfl)
  refine ⟨_, _, ?_, hP _ _ hrun hended ⟨_, _, rfl, ?_, ⟨_, rfl⟩, hW, hsame.mono (by decide) (by decide)⟩⟩
  · exact X20.returnOut hx Bd.returns (hb hby d4_68) hr
  · show Qrm4_2 Z a1 am ast ae ke u1 q1 q2 h0 n0 _ T20.heap _
    have c22 : Exa Z h20 a1 "com/example/millwright/millwright/jobshop/Plan" := (c19.wr W20)
    rw [e20]
    exact ⟨rfl, N20, (((((Keep.refl h0 [a1]).wr W2 (Or.inl (List.mem_of_getElem? (i := 0) rfl))).wr W5 (Or.inl (List.mem_of_getElem? (i := 0) rfl))).wr W8 (Or.inl (List.mem_of_getElem? (i := 0) rfl))).wr W20 (Or.inl (List.mem_of_getElem? (i := 0) rfl))), c22, f20⟩
theorem d2_38 : decode method_3_code 38 = .ok (.iconst 3, 1) := by decide +kernel
theorem d2_39 : decode method_3_code 39 = .ok (.newarray .int, 2) := by decide +kernel
theorem d2_41 : decode method_3_code 41 = .ok (.dup, 1) := by decide +kernel
theorem d2_42 : decode method_3_code 42 = .ok (.iconst 0, 1) := by decide +kernel
theorem d2_43 : decode method_3_code 43 = .ok (.iconst 1, 1) := by decide +kernel
theorem d2_44 : decode method_3_code 44 = .ok (.iastore, 1) := by decide +kernel
theorem d2_45 : decode method_3_code 45 = .ok (.dup, 1) := by decide +kernel
theorem d2_46 : decode method_3_code 46 = .ok (.iconst 1, 1) := by decide +kernel
theorem d2_47 : decode method_3_code 47 = .ok (.iconst 2, 1) := by decide +kernel
theorem d2_48 : decode method_3_code 48 = .ok (.iastore, 1) := by decide +kernel
theorem d2_49 : decode method_3_code 49 = .ok (.dup, 1) := by decide +kernel
theorem d2_50 : decode method_3_code 50 = .ok (.iconst 2, 1) := by decide +kernel
theorem d2_51 : decode method_3_code 51 = .ok (.iconst 3, 1) := by decide +kernel
theorem d2_52 : decode method_3_code 52 = .ok (.iastore, 1) := by decide +kernel
theorem d2_53 : decode method_3_code 53 = .ok (.areturn, 1) := by decide +kernel
theorem ef_rm2_3 (m : MethodId) (x0 : Int32) : entryFrame m #[(.int x0)] 1 = mkF m 0 #[.val (.int x0)] [] := by first | (simp [entryFrame, mkF, argsToLocals, Value.category]; done) | rfl
def Qrm2_3 (Z : State)  (h0 : Heap) (n0 : Nat) (v : Option Value) (h : Heap) (L : List Loc) : Prop := ∃ (r : Addr) (kr : ClassId), (v = some (.ref r)) ∧ (Fr n0 L) ∧ (Keep h0 h []) ∧ (Arv Z h r kr .int (3 : Int32) [(.int (1 : Int32)), (.int (2 : Int32)), (.int (3 : Int32))] (.int (0 : Int32))) ∧ (h0.size ≤ r)
set_option maxRecDepth 65536 in
set_option maxHeartbeats 40000000 in
theorem rm2_3 (l : Launch) (Z : State) (a0 : Array Value) (hw : ∀ d ∈ tables_1, d.before a0 Z = true) (ws : List Jvm.Cond)  (h0 : Heap) (n0 : Nat) (Z0 : n0 ≤ h0.size)  :
    MetFree l (⟨"com/example/millwright/millwright/jobshop/JobShopSolutionOptimalPinLaw", "machines", "(I)[I"⟩ : MethodName) (head1 (Jvm.Cond.code (⟨"com/example/millwright/millwright/jobshop/JobShopSolutionOptimalPinLaw", "machines", "(I)[I"⟩ : MethodName) method_3_code 1 (some (.array .int)) :: ws) ({ frames := 0, cells := 1, slots := 3, locals := 0 } : Room)) (fun a U => a = #[(.int (3 : Int32))] ∧ Z.Warmed39 U.vm ∧ U.heap = h0) (fun _ _ _ _ _ => True) (fun _ U o U' => ∃ v L, o = .returned v ∧ Qrm2_3 Z  h0 n0 v U'.heap L ∧ FrameEnd U o U' L ({ frames := 0, cells := 1, slots := 3, locals := 0 } : Room).cells ({ frames := 0, cells := 1, slots := 3, locals := 0 } : Room).slots) := by
  refine MetFree.of_bodySF (plainFor_of_name pn_2) hisR ?_
  intro p e s m args below meth c s₁ Bd hml0 hP0 hK
  obtain ⟨rfl, hZ, hh⟩ := hP0
  have hx := Bd.exec
  have hby := Bd.bytes
  have hml : c.maxLocals = 1 := hml0
  have hown : s.vm.findClass "com/example/millwright/millwright/jobshop/JobShopSolutionOptimalPinLaw" = some m.cls := findClass_of_methodNamed Bd.named
  have hnm := (name_of_methodNamed Bd.named Bd.method).1
  have X0 : Stand p l e ({ frames := 0, cells := 1, slots := 3, locals := 0 } : Room) s m #[(.int (3 : Int32))] below meth c s₁ [] 0 0 := Stand.of_body Bd
  have e0 : s₁.heap = h0 := by rw [← hh, Bd.state]; rfl
  have N0 := Fr.nil n0
  suffices own_H : ∀ (P : State → Outcome → Prop), (∀ U o, U.status = .running → Ended U below o → (∃ v L, o = .returned v ∧ Qrm2_3 Z  h0 n0 v U.heap L ∧ FrameEnd s o U L ({ frames := 0, cells := 1, slots := 3, locals := 0 } : Room).cells ({ frames := 0, cells := 1, slots := 3, locals := 0 } : Room).slots) → P U o) → own_Go p.tables e below P (s₁.setTop (mkF m 0 #[.val (.int (3 : Int32))] [])) from own_go (fun _ k => castTop (ef_rm2_3 m (3 : Int32)) k) (own_H _ (fun U o h1 h2 h3 => ⟨h1, h2, h3⟩))
  intro P hP
  refine own_go (st' := s₁.setTop (mkF m 1 #[.val (.int (3 : Int32))] [(.int (3 : Int32))])) (fun _ k => XS.iloadN X0.here hx rfl (hb hby d2_0) rfl k) ?_
  have hc1 : ¬ ((3 : Int32) = (0 : Int32)) := by decide
  refine own_go (st' := s₁.setTop (mkF m 8 #[.val (.int (3 : Int32))] [])) (fun _ k => XS.ifYes X0.here hx rfl (pc0 := 1) (pc' := 8) rfl (hb hby d2_1) rfl ((if0 _ _).trans (feq hc1).2) (by decide) (by decide) k) ?_
  refine own_go (st' := s₁.setTop (mkF m 9 #[.val (.int (3 : Int32))] [(.int (3 : Int32))])) (fun _ k => XS.iloadN X0.here hx rfl (hb hby d2_8) rfl k) ?_
  refine own_go (st' := s₁.setTop (mkF m 10 #[.val (.int (3 : Int32))] [(.int (1 : Int32)), (.int (3 : Int32))])) (fun _ k => XS.iconst X0.here hx rfl (hb hby d2_9) k) ?_
  have hc2 : ¬ ((3 : Int32) = (1 : Int32)) := by decide
  refine own_go (st' := s₁.setTop (mkF m 21 #[.val (.int (3 : Int32))] [])) (fun _ k => XS.icmpYes X0.here hx rfl (pc0 := 10) (pc' := 21) rfl (hb hby d2_10) rfl (feq hc2).2 (by decide) (by decide) k) ?_
  refine own_go (st' := s₁.setTop (mkF m 22 #[.val (.int (3 : Int32))] [(.int (3 : Int32))])) (fun _ k => XS.iloadN X0.here hx rfl (hb hby d2_21) rfl k) ?_
  refine own_go (st' := s₁.setTop (mkF m 23 #[.val (.int (3 : Int32))] [(.int (2 : Int32)), (.int (3 : Int32))])) (fun _ k => XS.iconst X0.here hx rfl (hb hby d2_22) k) ?_
  have hc3 : ¬ ((3 : Int32) = (2 : Int32)) := by decide
  refine own_go (st' := s₁.setTop (mkF m 38 #[.val (.int (3 : Int32))] [])) (fun _ k => XS.icmpYes X0.here hx rfl (pc0 := 23) (pc' := 38) rfl (hb hby d2_23) rfl (feq hc3).2 (by decide) (by decide) k) ?_
  refine own_go (st' := s₁.setTop (mkF m 39 #[.val (.int (3 : Int32))] [(.int (3 : Int32))])) (fun _ k => XS.iconst X0.here hx rfl (hb hby d2_38) k) ?_
  obtain ⟨T4, h4, k4, X4, e4, E4, A4, st4⟩ := newP X0 hx hZ (hw _ (List.mem_of_getElem? (i := 11) rfl)) e0 (g := (mkF m 39 #[.val (.int (3 : Int32))] [(.int (3 : Int32))])) rfl (hb hby d2_39) rfl (by decide) (cap := 3) (by decide) (by decide) (by decide) (by decide)
  obtain ⟨b4, g4⟩ : ∃ z, z = h0.size := ⟨_, rfl⟩
  rw [← g4] at A4 st4
  have sz4 : h0.size ≤ h4.size := E4.1
  have lt4 : @LT.lt Nat _ b4 h4.size := A4.lt
  have v4 : Arv Z h4 b4 k4 .int (3 : Int32) [(.int (0 : Int32)), (.int (0 : Int32)), (.int (0 : Int32))] (.int (0 : Int32)) := (Arv.new A4 (by decide)).pad (pad_rep [] (.int (0 : Int32)) 3)
  refine own_go (st' := T4.setTop (mkF m 41 #[.val (.int (3 : Int32))] [(.ref b4)])) (st4) ?_
  refine own_go (st' := T4.setTop (mkF m 42 #[.val (.int (3 : Int32))] [(.ref b4), (.ref b4)])) (fun _ k => XS.dup X4.here hx rfl (hb hby d2_41) rfl rfl k) ?_
  refine own_go (st' := T4.setTop (mkF m 43 #[.val (.int (3 : Int32))] [(.int (0 : Int32)), (.ref b4), (.ref b4)])) (fun _ k => XS.iconst X4.here hx rfl (hb hby d2_42) k) ?_
  refine own_go (st' := T4.setTop (mkF m 44 #[.val (.int (3 : Int32))] [(.int (1 : Int32)), (.int (0 : Int32)), (.ref b4), (.ref b4)])) (fun _ k => XS.iconst X4.here hx rfl (hb hby d2_43) k) ?_
  obtain ⟨cl5, Ar5, qc5, S5, M5, H5, G5⟩ := id v4
  have hin5 : ¬ ((0 : Int32) < 0 ∨ cl5.slots.size ≤ ((0 : Int32)).toNatClampNeg) := (inb_of S5 ⟨by decide, by decide⟩)
  obtain ⟨T5, h5, X5, e5, W5, st5⟩ := stI X4 hx hZ e4 Ar5 (j := (0 : Int32)) hin5 (g := (mkF m 44 #[.val (.int (3 : Int32))] [(.int (1 : Int32)), (.int (0 : Int32)), (.ref b4), (.ref b4)])) rfl rfl (hb hby d2_44)
  have sz5 : h5.size = h4.size := W5.size
  have N5 := Fr.snoc X5 N0 (by omega)
  have v5 : Arv Z h5 b4 k4 .int (3 : Int32) [(.int (1 : Int32)), (.int (0 : Int32)), (.int (0 : Int32))] (.int (0 : Int32)) := Arv.set Ar5 qc5 S5 M5 H5 G5 rfl W5 0 rfl (Nat.le_of_ble_eq_true rfl)
  refine own_go (st' := T5.setTop (mkF m 45 #[.val (.int (3 : Int32))] [(.ref b4)])) (st5) ?_
  refine own_go (st' := T5.setTop (mkF m 46 #[.val (.int (3 : Int32))] [(.ref b4), (.ref b4)])) (fun _ k => XS.dup X5.here hx rfl (hb hby d2_45) rfl rfl k) ?_
  refine own_go (st' := T5.setTop (mkF m 47 #[.val (.int (3 : Int32))] [(.int (1 : Int32)), (.ref b4), (.ref b4)])) (fun _ k => XS.iconst X5.here hx rfl (hb hby d2_46) k) ?_
  refine own_go (st' := T5.setTop (mkF m 48 #[.val (.int (3 : Int32))] [(.int (2 : Int32)), (.int (1 : Int32)), (.ref b4), (.ref b4)])) (fun _ k => XS.iconst X5.here hx rfl (hb hby d2_47) k) ?_
  obtain ⟨cl6, Ar6, qc6, S6, M6, H6, G6⟩ := id v5
  have hin6 : ¬ ((1 : Int32) < 0 ∨ cl6.slots.size ≤ ((1 : Int32)).toNatClampNeg) := (inb_of S6 ⟨by decide, by decide⟩)
  obtain ⟨T6, h6, X6, e6, W6, st6⟩ := stI X5 hx hZ e5 Ar6 (j := (1 : Int32)) hin6 (g := (mkF m 48 #[.val (.int (3 : Int32))] [(.int (2 : Int32)), (.int (1 : Int32)), (.ref b4), (.ref b4)])) rfl rfl (hb hby d2_48)
  have sz6 : h6.size = h5.size := W6.size
  have N6 := Fr.snoc X6 N5 (by omega)
  have v6 : Arv Z h6 b4 k4 .int (3 : Int32) [(.int (1 : Int32)), (.int (2 : Int32)), (.int (0 : Int32))] (.int (0 : Int32)) := Arv.set Ar6 qc6 S6 M6 H6 G6 rfl W6 1 rfl (Nat.le_of_ble_eq_true rfl)
  refine own_go (st' := T6.setTop (mkF m 49 #[.val (.int (3 : Int32))] [(.ref b4)])) (st6) ?_
  refine own_go (st' := T6.setTop (mkF m 50 #[.val (.int (3 : Int32))] [(.ref b4), (.ref b4)])) (fun _ k => XS.dup X6.here hx rfl (hb hby d2_49) rfl rfl k) ?_
  refine own_go (st' := T6.setTop (mkF m 51 #[.val (.int (3 : Int32))] [(.int (2 : Int32)), (.ref b4), (.ref b4)])) (fun _ k => XS.iconst X6.here hx rfl (hb hby d2_50) k) ?_
  refine own_go (st' := T6.setTop (mkF m 52 #[.val (.int (3 : Int32))] [(.int (3 : Int32)), (.int (2 : Int32)), (.ref b4), (.ref b4)])) (fun _ k => XS.iconst X6.here hx rfl (hb hby d2_51) k) ?_
  obtain ⟨cl7, Ar7, qc7, S7, M7, H7, G7⟩ := id v6
  have hin7 : ¬ ((2 : Int32) < 0 ∨ cl7.slots.size ≤ ((2 : Int32)).toNatClampNeg) := (inb_of S7 ⟨by decide, by decide⟩)
  obtain ⟨T7, h7, X7, e7, W7, st7⟩ := stI X6 hx hZ e6 Ar7 (j := (2 : Int32)) hin7 (g := (mkF m 52 #[.val (.int (3 : Int32))] [(.int (3 : Int32)), (.int (2 : Int32)), (.ref b4), (.ref b4)])) rfl rfl (hb hby d2_52)
  have sz7 : h7.size = h6.size := W7.size
  have N7 := Fr.snoc X7 N6 (by omega)
  have v7 : Arv Z h7 b4 k4 .int (3 : Int32) [(.int (1 : Int32)), (.int (2 : Int32)), (.int (3 : Int32))] (.int (0 : Int32)) := Arv.set Ar7 qc7 S7 M7 H7 G7 rfl W7 2 rfl (Nat.le_of_ble_eq_true rfl)
  refine own_go (st' := T7.setTop (mkF m 53 #[.val (.int (3 : Int32))] [(.ref b4)])) (st7) ?_
  obtain ⟨fs, hr, hrun, hended, hW, hsame⟩ := X7.leave (v := some (.ref b4)) (fun h => by rw [Bd.returns] at h; cases h)
  refine ⟨_, _, ?_, hP _ _ hrun hended ⟨_, _, rfl, ?_, ⟨_, rfl⟩, hW, hsame.mono (by decide) (by decide)⟩⟩
  · exact retOut X7 hx Bd.returns rfl (Or.inr (Or.inr (Or.inr (Or.inr ⟨rfl, rfl, rfl⟩)))) (hb hby d2_53) hr
  · show Qrm2_3 Z  h0 n0 _ T7.heap _
    rw [e7]
    exact ⟨b4, k4, rfl, N7, (((((Keep.refl h0 []).ext E4).wr W5 (Or.inr (by omega))).wr W6 (Or.inr (by omega))).wr W7 (Or.inr (by omega))), v7, (by omega)⟩
theorem d3_38 : decode method_2_code 38 = .ok (.iconst 3, 1) := by decide +kernel
theorem d3_39 : decode method_2_code 39 = .ok (.newarray .long, 2) := by decide +kernel
theorem d3_41 : decode method_2_code 41 = .ok (.dup, 1) := by decide +kernel
theorem d3_42 : decode method_2_code 42 = .ok (.iconst 0, 1) := by decide +kernel
theorem d3_43 : decode method_2_code 43 = .ok (.lload_n 1, 1) := by decide +kernel
theorem d3_44 : decode method_2_code 44 = .ok (.lastore, 1) := by decide +kernel
theorem d3_45 : decode method_2_code 45 = .ok (.dup, 1) := by decide +kernel
theorem d3_46 : decode method_2_code 46 = .ok (.iconst 1, 1) := by decide +kernel
theorem d3_47 : decode method_2_code 47 = .ok (.lload_n 3, 1) := by decide +kernel
theorem d3_48 : decode method_2_code 48 = .ok (.lastore, 1) := by decide +kernel
theorem d3_49 : decode method_2_code 49 = .ok (.dup, 1) := by decide +kernel
theorem d3_50 : decode method_2_code 50 = .ok (.iconst 2, 1) := by decide +kernel
theorem d3_51 : decode method_2_code 51 = .ok (.lload 5, 2) := by decide +kernel
theorem d3_53 : decode method_2_code 53 = .ok (.lastore, 1) := by decide +kernel
theorem d3_54 : decode method_2_code 54 = .ok (.areturn, 1) := by decide +kernel
theorem ef_rm3_3 (m : MethodId) (x0 : Int32) (x1 : Int64) (x2 : Int64) (x3 : Int64) : entryFrame m #[(.int x0), (.long x1), (.long x2), (.long x3)] 7 = mkF m 0 #[.val (.int x0), .val (.long x1), .second, .val (.long x2), .second, .val (.long x3), .second] [] := by first | (simp [entryFrame, mkF, argsToLocals, Value.category]; done) | rfl
def Qrm3_3 (Z : State) (q1 : Int64) (q2 : Int64) (q3 : Int64) (h0 : Heap) (n0 : Nat) (v : Option Value) (h : Heap) (L : List Loc) : Prop := ∃ (r : Addr) (kr : ClassId), (v = some (.ref r)) ∧ (Fr n0 L) ∧ (Keep h0 h []) ∧ (Arv Z h r kr .long (3 : Int32) [(.long q1), (.long q2), (.long q3)] (.long (0 : Int64))) ∧ (h0.size ≤ r)
set_option maxRecDepth 65536 in
set_option maxHeartbeats 40000000 in
theorem rm3_3 (l : Launch) (Z : State) (a0 : Array Value) (hw : ∀ d ∈ tables_1, d.before a0 Z = true) (ws : List Jvm.Cond) (q1 : Int64) (q2 : Int64) (q3 : Int64) (h0 : Heap) (n0 : Nat) (Z0 : n0 ≤ h0.size)  :
    MetFree l (⟨"com/example/millwright/millwright/jobshop/JobShopSolutionOptimalPinLaw", "longs", "(IJJJ)[J"⟩ : MethodName) (head1 (Jvm.Cond.code (⟨"com/example/millwright/millwright/jobshop/JobShopSolutionOptimalPinLaw", "longs", "(IJJJ)[J"⟩ : MethodName) method_2_code 7 (some (.array .long)) :: ws) ({ frames := 0, cells := 1, slots := 3, locals := 0 } : Room)) (fun a U => a = #[(.int (3 : Int32)), (.long q1), (.long q2), (.long q3)] ∧ Z.Warmed39 U.vm ∧ U.heap = h0) (fun _ _ _ _ _ => True) (fun _ U o U' => ∃ v L, o = .returned v ∧ Qrm3_3 Z q1 q2 q3 h0 n0 v U'.heap L ∧ FrameEnd U o U' L ({ frames := 0, cells := 1, slots := 3, locals := 0 } : Room).cells ({ frames := 0, cells := 1, slots := 3, locals := 0 } : Room).slots) := by
  refine MetFree.of_bodySF (plainFor_of_name pn_3) hisR ?_
  intro p e s m args below meth c s₁ Bd hml0 hP0 hK
  obtain ⟨rfl, hZ, hh⟩ := hP0
  have hx := Bd.exec
  have hby := Bd.bytes
  have hml : c.maxLocals = 7 := hml0
  have hown : s.vm.findClass "com/example/millwright/millwright/jobshop/JobShopSolutionOptimalPinLaw" = some m.cls := findClass_of_methodNamed Bd.named
  have hnm := (name_of_methodNamed Bd.named Bd.method).1
  have X0 : Stand p l e ({ frames := 0, cells := 1, slots := 3, locals := 0 } : Room) s m #[(.int (3 : Int32)), (.long q1), (.long q2), (.long q3)] below meth c s₁ [] 0 0 := Stand.of_body Bd
  have e0 : s₁.heap = h0 := by rw [← hh, Bd.state]; rfl
  have N0 := Fr.nil n0
  suffices own_H : ∀ (P : State → Outcome → Prop), (∀ U o, U.status = .running → Ended U below o → (∃ v L, o = .returned v ∧ Qrm3_3 Z q1 q2 q3 h0 n0 v U.heap L ∧ FrameEnd s o U L ({ frames := 0, cells := 1, slots := 3, locals := 0 } : Room).cells ({ frames := 0, cells := 1, slots := 3, locals := 0 } : Room).slots) → P U o) → own_Go p.tables e below P (s₁.setTop (mkF m 0 #[.val (.int (3 : Int32)), .val (.long q1), .second, .val (.long q2), .second, .val (.long q3), .second] [])) from own_go (fun _ k => castTop (ef_rm3_3 m (3 : Int32) q1 q2 q3) k) (own_H _ (fun U o h1 h2 h3 => ⟨h1, h2, h3⟩))
  intro P hP
  refine own_go (st' := s₁.setTop (mkF m 1 #[.val (.int (3 : Int32)), .val (.long q1), .second, .val (.long q2), .second, .val (.long q3), .second] [(.int (3 : Int32))])) (fun _ k => XS.iloadN X0.here hx rfl (hb hby d3_0) rfl k) ?_
  have hc1 : ¬ ((3 : Int32) = (0 : Int32)) := by decide
  refine own_go (st' := s₁.setTop (mkF m 8 #[.val (.int (3 : Int32)), .val (.long q1), .second, .val (.long q2), .second, .val (.long q3), .second] [])) (fun _ k => XS.ifYes X0.here hx rfl (pc0 := 1) (pc' := 8) rfl (hb hby d3_1) rfl ((if0 _ _).trans (feq hc1).2) (by decide) (by decide) k) ?_
  refine own_go (st' := s₁.setTop (mkF m 9 #[.val (.int (3 : Int32)), .val (.long q1), .second, .val (.long q2), .second, .val (.long q3), .second] [(.int (3 : Int32))])) (fun _ k => XS.iloadN X0.here hx rfl (hb hby d3_8) rfl k) ?_
  refine own_go (st' := s₁.setTop (mkF m 10 #[.val (.int (3 : Int32)), .val (.long q1), .second, .val (.long q2), .second, .val (.long q3), .second] [(.int (1 : Int32)), (.int (3 : Int32))])) (fun _ k => XS.iconst X0.here hx rfl (hb hby d3_9) k) ?_
  have hc2 : ¬ ((3 : Int32) = (1 : Int32)) := by decide
  refine own_go (st' := s₁.setTop (mkF m 21 #[.val (.int (3 : Int32)), .val (.long q1), .second, .val (.long q2), .second, .val (.long q3), .second] [])) (fun _ k => XS.icmpYes X0.here hx rfl (pc0 := 10) (pc' := 21) rfl (hb hby d3_10) rfl (feq hc2).2 (by decide) (by decide) k) ?_
  refine own_go (st' := s₁.setTop (mkF m 22 #[.val (.int (3 : Int32)), .val (.long q1), .second, .val (.long q2), .second, .val (.long q3), .second] [(.int (3 : Int32))])) (fun _ k => XS.iloadN X0.here hx rfl (hb hby d3_21) rfl k) ?_
  refine own_go (st' := s₁.setTop (mkF m 23 #[.val (.int (3 : Int32)), .val (.long q1), .second, .val (.long q2), .second, .val (.long q3), .second] [(.int (2 : Int32)), (.int (3 : Int32))])) (fun _ k => XS.iconst X0.here hx rfl (hb hby d3_22) k) ?_
  have hc3 : ¬ ((3 : Int32) = (2 : Int32)) := by decide
  refine own_go (st' := s₁.setTop (mkF m 38 #[.val (.int (3 : Int32)), .val (.long q1), .second, .val (.long q2), .second, .val (.long q3), .second] [])) (fun _ k => XS.icmpYes X0.here hx rfl (pc0 := 23) (pc' := 38) rfl (hb hby d3_23) rfl (feq hc3).2 (by decide) (by decide) k) ?_
  refine own_go (st' := s₁.setTop (mkF m 39 #[.val (.int (3 : Int32)), .val (.long q1), .second, .val (.long q2), .second, .val (.long q3), .second] [(.int (3 : Int32))])) (fun _ k => XS.iconst X0.here hx rfl (hb hby d3_38) k) ?_
  obtain ⟨T4, h4, k4, X4, e4, E4, A4, st4⟩ := newP X0 hx hZ (hw _ (List.mem_of_getElem? (i := 15) rfl)) e0 (g := (mkF m 39 #[.val (.int (3 : Int32)), .val (.long q1), .second, .val (.long q2), .second, .val (.long q3), .second] [(.int (3 : Int32))])) rfl (hb hby d3_39) rfl (by decide) (cap := 3) (by decide) (by decide) (by decide) (by decide)
  obtain ⟨b4, g4⟩ : ∃ z, z = h0.size := ⟨_, rfl⟩
  rw [← g4] at A4 st4
  have sz4 : h0.size ≤ h4.size := E4.1
  have lt4 : @LT.lt Nat _ b4 h4.size := A4.lt
  have v4 : Arv Z h4 b4 k4 .long (3 : Int32) [(.long (0 : Int64)), (.long (0 : Int64)), (.long (0 : Int64))] (.long (0 : Int64)) := (Arv.new A4 (by decide)).pad (pad_rep [] (.long (0 : Int64)) 3)
  refine own_go (st' := T4.setTop (mkF m 41 #[.val (.int (3 : Int32)), .val (.long q1), .second, .val (.long q2), .second, .val (.long q3), .second] [(.ref b4)])) (st4) ?_
  refine own_go (st' := T4.setTop (mkF m 42 #[.val (.int (3 : Int32)), .val (.long q1), .second, .val (.long q2), .second, .val (.long q3), .second] [(.ref b4), (.ref b4)])) (fun _ k => XS.dup X4.here hx rfl (hb hby d3_41) rfl rfl k) ?_
  refine own_go (st' := T4.setTop (mkF m 43 #[.val (.int (3 : Int32)), .val (.long q1), .second, .val (.long q2), .second, .val (.long q3), .second] [(.int (0 : Int32)), (.ref b4), (.ref b4)])) (fun _ k => XS.iconst X4.here hx rfl (hb hby d3_42) k) ?_
  refine own_go (st' := T4.setTop (mkF m 44 #[.val (.int (3 : Int32)), .val (.long q1), .second, .val (.long q2), .second, .val (.long q3), .second] [(.long q1), (.int (0 : Int32)), (.ref b4), (.ref b4)])) (fun _ k => XS.lloadN X4.here hx rfl (hb hby d3_43) rfl k) ?_
  obtain ⟨cl5, Ar5, qc5, S5, M5, H5, G5⟩ := id v4
  have hin5 : ¬ ((0 : Int32) < 0 ∨ cl5.slots.size ≤ ((0 : Int32)).toNatClampNeg) := (inb_of S5 ⟨by decide, by decide⟩)
  obtain ⟨T5, h5, X5, e5, W5, st5⟩ := stJ X4 hx hZ e4 Ar5 (j := (0 : Int32)) hin5 (g := (mkF m 44 #[.val (.int (3 : Int32)), .val (.long q1), .second, .val (.long q2), .second, .val (.long q3), .second] [(.long q1), (.int (0 : Int32)), (.ref b4), (.ref b4)])) rfl rfl (hb hby d3_44)
  have sz5 : h5.size = h4.size := W5.size
  have N5 := Fr.snoc X5 N0 (by omega)
  have v5 : Arv Z h5 b4 k4 .long (3 : Int32) [(.long q1), (.long (0 : Int64)), (.long (0 : Int64))] (.long (0 : Int64)) := Arv.set Ar5 qc5 S5 M5 H5 G5 rfl W5 0 rfl (Nat.le_of_ble_eq_true rfl)
  refine own_go (st' := T5.setTop (mkF m 45 #[.val (.int (3 : Int32)), .val (.long q1), .second, .val (.long q2), .second, .val (.long q3), .second] [(.ref b4)])) (st5) ?_
  refine own_go (st' := T5.setTop (mkF m 46 #[.val (.int (3 : Int32)), .val (.long q1), .second, .val (.long q2), .second, .val (.long q3), .second] [(.ref b4), (.ref b4)])) (fun _ k => XS.dup X5.here hx rfl (hb hby d3_45) rfl rfl k) ?_
  refine own_go (st' := T5.setTop (mkF m 47 #[.val (.int (3 : Int32)), .val (.long q1), .second, .val (.long q2), .second, .val (.long q3), .second] [(.int (1 : Int32)), (.ref b4), (.ref b4)])) (fun _ k => XS.iconst X5.here hx rfl (hb hby d3_46) k) ?_
  refine own_go (st' := T5.setTop (mkF m 48 #[.val (.int (3 : Int32)), .val (.long q1), .second, .val (.long q2), .second, .val (.long q3), .second] [(.long q2), (.int (1 : Int32)), (.ref b4), (.ref b4)])) (fun _ k => XS.lloadN X5.here hx rfl (hb hby d3_47) rfl k) ?_
  obtain ⟨cl6, Ar6, qc6, S6, M6, H6, G6⟩ := id v5
  have hin6 : ¬ ((1 : Int32) < 0 ∨ cl6.slots.size ≤ ((1 : Int32)).toNatClampNeg) := (inb_of S6 ⟨by decide, by decide⟩)
  obtain ⟨T6, h6, X6, e6, W6, st6⟩ := stJ X5 hx hZ e5 Ar6 (j := (1 : Int32)) hin6 (g := (mkF m 48 #[.val (.int (3 : Int32)), .val (.long q1), .second, .val (.long q2), .second, .val (.long q3), .second] [(.long q2), (.int (1 : Int32)), (.ref b4), (.ref b4)])) rfl rfl (hb hby d3_48)
  have sz6 : h6.size = h5.size := W6.size
  have N6 := Fr.snoc X6 N5 (by omega)
  have v6 : Arv Z h6 b4 k4 .long (3 : Int32) [(.long q1), (.long q2), (.long (0 : Int64))] (.long (0 : Int64)) := Arv.set Ar6 qc6 S6 M6 H6 G6 rfl W6 1 rfl (Nat.le_of_ble_eq_true rfl)
  refine own_go (st' := T6.setTop (mkF m 49 #[.val (.int (3 : Int32)), .val (.long q1), .second, .val (.long q2), .second, .val (.long q3), .second] [(.ref b4)])) (st6) ?_
  refine own_go (st' := T6.setTop (mkF m 50 #[.val (.int (3 : Int32)), .val (.long q1), .second, .val (.long q2), .second, .val (.long q3), .second] [(.ref b4), (.ref b4)])) (fun _ k => XS.dup X6.here hx rfl (hb hby d3_49) rfl rfl k) ?_
  refine own_go (st' := T6.setTop (mkF m 51 #[.val (.int (3 : Int32)), .val (.long q1), .second, .val (.long q2), .second, .val (.long q3), .second] [(.int (2 : Int32)), (.ref b4), (.ref b4)])) (fun _ k => XS.iconst X6.here hx rfl (hb hby d3_50) k) ?_
  refine own_go (st' := T6.setTop (mkF m 53 #[.val (.int (3 : Int32)), .val (.long q1), .second, .val (.long q2), .second, .val (.long q3), .second] [(.long q3), (.int (2 : Int32)), (.ref b4), (.ref b4)])) (fun _ k => XS.lload X6.here hx rfl (hb hby d3_51) rfl k) ?_
  obtain ⟨cl7, Ar7, qc7, S7, M7, H7, G7⟩ := id v6
  have hin7 : ¬ ((2 : Int32) < 0 ∨ cl7.slots.size ≤ ((2 : Int32)).toNatClampNeg) := (inb_of S7 ⟨by decide, by decide⟩)
  obtain ⟨T7, h7, X7, e7, W7, st7⟩ := stJ X6 hx hZ e6 Ar7 (j := (2 : Int32)) hin7 (g := (mkF m 53 #[.val (.int (3 : Int32)), .val (.long q1), .second, .val (.long q2), .second, .val (.long q3), .second] [(.long q3), (.int (2 : Int32)), (.ref b4), (.ref b4)])) rfl rfl (hb hby d3_53)
  have sz7 : h7.size = h6.size := W7.size
  have N7 := Fr.snoc X7 N6 (by omega)
  have v7 : Arv Z h7 b4 k4 .long (3 : Int32) [(.long q1), (.long q2), (.long q3)] (.long (0 : Int64)) := Arv.set Ar7 qc7 S7 M7 H7 G7 rfl W7 2 rfl (Nat.le_of_ble_eq_true rfl)
  refine own_go (st' := T7.setTop (mkF m 54 #[.val (.int (3 : Int32)), .val (.long q1), .second, .val (.long q2), .second, .val (.long q3), .second] [(.ref b4)])) (st7) ?_
  obtain ⟨fs, hr, hrun, hended, hW, hsame⟩ := X7.leave (v := some (.ref b4)) (fun h => by rw [Bd.returns] at h; cases h)
  refine ⟨_, _, ?_, hP _ _ hrun hended ⟨_, _, rfl, ?_, ⟨_, rfl⟩, hW, hsame.mono (by decide) (by decide)⟩⟩
  · exact retOut X7 hx Bd.returns rfl (Or.inr (Or.inr (Or.inr (Or.inr ⟨rfl, rfl, rfl⟩)))) (hb hby d3_54) hr
  · show Qrm3_3 Z q1 q2 q3 h0 n0 _ T7.heap _
    rw [e7]
    exact ⟨b4, k4, rfl, N7, (((((Keep.refl h0 []).ext E4).wr W5 (Or.inr (by omega))).wr W6 (Or.inr (by omega))).wr W7 (Or.inr (by omega))), v7, (by omega)⟩
theorem ef_rm4_3 (m : MethodId) (x0 : Addr) (x1 : Addr) (x2 : Addr) (x3 : Addr) : entryFrame m #[(.ref x0), (.ref x1), (.ref x2), (.ref x3)] 11 = mkF m 0 #[.val (.ref x0), .val (.ref x1), .val (.ref x2), .val (.ref x3), .unset, .unset, .unset, .unset, .unset, .unset, .unset] [] := by first | (simp [entryFrame, mkF, argsToLocals, Value.category]; done) | rfl
def Qrm4_3 (Z : State) (a1 : Addr) (am : Addr) (ast : Addr) (ae : Addr) (ke : ClassId) (u1 : Int64) (q1 : Int64) (q2 : Int64) (q3 : Int64) (h0 : Heap) (n0 : Nat) (v : Option Value) (h : Heap) (L : List Loc) : Prop := (v = none) ∧ (Fr n0 L) ∧ (Keep h0 h [a1]) ∧ (Exa Z h a1 "com/example/millwright/millwright/jobshop/Plan") ∧ (Fld Z h a1 "com/example/millwright/millwright/jobshop/Plan" "makespan" "J" (.long (own_lmax (own_lmax (own_lmax (0 : Int64) q1) q2) q3)))
set_option maxRecDepth 65536 in
set_option maxHeartbeats 40000000 in
theorem rm4_3 (l : Launch) (Z : State) (a0 : Array Value) (hw : ∀ d ∈ tables_1, d.before a0 Z = true) (ws : List Jvm.Cond) (a1 : Addr) (am : Addr) (ast : Addr) (ae : Addr) (ke : ClassId) (u1 : Int64) (q1 : Int64) (q2 : Int64) (q3 : Int64) (h0 : Heap) (n0 : Nat) (Z0 : n0 ≤ h0.size) (pr1 : Exa Z h0 a1 "com/example/millwright/millwright/jobshop/Plan") (pr2 : Fld Z h0 a1 "com/example/millwright/millwright/jobshop/Plan" "machine" "[I" .null) (pr3 : Fld Z h0 a1 "com/example/millwright/millwright/jobshop/Plan" "start" "[J" .null) (pr4 : Fld Z h0 a1 "com/example/millwright/millwright/jobshop/Plan" "end" "[J" .null) (pr5 : Fld Z h0 a1 "com/example/millwright/millwright/jobshop/Plan" "makespan" "J" (.long u1)) (pr6 : Arv Z h0 ae ke .long (3 : Int32) [(.long q1), (.long q2), (.long q3)] (.long (0 : Int64))) (pr7 : n0 ≤ a1) (pr8 : a1 ≠ ae) :
    MetFree l (⟨"com/example/millwright/millwright/jobshop/Plan", "<init>", "([I[J[J)V"⟩ : MethodName) (head1 (Jvm.Cond.code (⟨"com/example/millwright/millwright/jobshop/Plan", "<init>", "([I[J[J)V"⟩ : MethodName) prog_43_method_1_code 11 none :: ws) ({ frames := 1, cells := 0, slots := 0, locals := 15 } : Room)) (fun a U => a = #[(.ref a1), (.ref am), (.ref ast), (.ref ae)] ∧ Z.Warmed39 U.vm ∧ U.heap = h0) (fun _ _ _ _ _ => True) (fun _ U o U' => ∃ v L, o = .returned v ∧ Qrm4_3 Z a1 am ast ae ke u1 q1 q2 q3 h0 n0 v U'.heap L ∧ FrameEnd U o U' L ({ frames := 1, cells := 0, slots := 0, locals := 15 } : Room).cells ({ frames := 1, cells := 0, slots := 0, locals := 15 } : Room).slots) := by
  refine MetFree.of_bodySF (plainFor_of_name pn_4) hisR ?_
  intro p e s m args below meth c s₁ Bd hml0 hP0 hK
  obtain ⟨rfl, hZ, hh⟩ := hP0
  have hx := Bd.exec
  have hby := Bd.bytes
  have hml : c.maxLocals = 11 := hml0
  have hown : s.vm.findClass "com/example/millwright/millwright/jobshop/Plan" = some m.cls := findClass_of_methodNamed Bd.named
  have hnm := (name_of_methodNamed Bd.named Bd.method).1
  have X0 : Stand p l e ({ frames := 1, cells := 0, slots := 0, locals := 15 } : Room) s m #[(.ref a1), (.ref am), (.ref ast), (.ref ae)] below meth c s₁ [] 0 0 := Stand.of_body Bd
  have e0 : s₁.heap = h0 := by rw [← hh, Bd.state]; rfl
  have N0 := Fr.nil n0
  suffices own_H : ∀ (P : State → Outcome → Prop), (∀ U o, U.status = .running → Ended U below o → (∃ v L, o = .returned v ∧ Qrm4_3 Z a1 am ast ae ke u1 q1 q2 q3 h0 n0 v U.heap L ∧ FrameEnd s o U L ({ frames := 1, cells := 0, slots := 0, locals := 15 } : Room).cells ({ frames := 1, cells := 0, slots := 0, locals := 15 } : Room).slots) → P U o) → own_Go p.tables e below P (s₁.setTop (mkF m 0 #[.val (.ref a1), .val (.ref am), .val (.ref ast), .val (.ref ae), .unset, .unset, .unset, .unset, .unset, .unset, .unset] [])) from own_go (fun _ k => castTop (ef_rm4_3 m a1 am ast ae) k) (own_H _ (fun U o h1 h2 h3 => ⟨h1, h2, h3⟩))
  intro P hP
  have lt_a1 : @LT.lt Nat _ a1 h0.size := pr1.lt
  have lt_ae : @LT.lt Nat _ ae h0.size := pr6.lt
  refine own_go (st' := s₁.setTop (mkF m 1 #[.val (.ref a1), .val (.ref am), .val (.ref ast), .val (.ref ae), .unset, .unset, .unset, .unset, .unset, .unset, .unset] [(.ref a1)])) (fun _ k => XS.aloadN X0.here hx rfl (hb hby d4_0) rfl rfl k) ?_
  obtain ⟨T1, X1, e1, st1⟩ := initO X0 hx hZ hown (hw _ (List.mem_of_getElem? (i := 19) rfl)) (hw _ (List.mem_of_getElem? (i := 20) rfl)) (hw _ (List.mem_of_getElem? (i := 21) rfl)) e0 (g := (mkF m 1 #[.val (.ref a1), .val (.ref am), .val (.ref ast), .val (.ref ae), .unset, .unset, .unset, .unset, .unset, .unset, .unset] [(.ref a1)])) rfl (by rw [hml]; rfl) rfl (hb hby d4_1) (by decide) (W := 0) (by show 2 * 0 + _ ≤ _; exact Nat.le_of_eq rfl) (by decide)
  refine own_go (st' := T1.setTop (mkF m 4 #[.val (.ref a1), .val (.ref am), .val (.ref ast), .val (.ref ae), .unset, .unset, .unset, .unset, .unset, .unset, .unset] [])) (st1) ?_
  refine own_go (st' := T1.setTop (mkF m 5 #[.val (.ref a1), .val (.ref am), .val (.ref ast), .val (.ref ae), .unset, .unset, .unset, .unset, .unset, .unset, .unset] [(.ref a1)])) (fun _ k => XS.aloadN X1.here hx rfl (hb hby d4_4) rfl rfl k) ?_
  refine own_go (st' := T1.setTop (mkF m 6 #[.val (.ref a1), .val (.ref am), .val (.ref ast), .val (.ref ae), .unset, .unset, .unset, .unset, .unset, .unset, .unset] [(.ref am), (.ref a1)])) (fun _ k => XS.aloadN X1.here hx rfl (hb hby d4_5) rfl rfl k) ?_
  obtain ⟨T2, h2, X2, e2, W2, st2⟩ := putF X1 hx hZ hown (host := "") (Or.inl (hw _ (List.mem_of_getElem? (i := 22) rfl))) Via.refl e1 pr2 pr1 (Or.inr ⟨(hw _ (List.mem_of_getElem? (i := 23) rfl)), rfl, hnm⟩) (hw _ (List.mem_of_getElem? (i := 5) rfl)) (ty := (.array .int)) (by decide) rfl rfl (g := (mkF m 6 #[.val (.ref a1), .val (.ref am), .val (.ref ast), .val (.ref ae), .unset, .unset, .unset, .unset, .unset, .unset, .unset] [(.ref am), (.ref a1)])) rfl rfl (hb hby d4_6)
  have sz2 : h2.size = h0.size := W2.size
  have N2 := Fr.snoc X2 N0 (by omega)
  have f2 : Fld Z h2 a1 "com/example/millwright/millwright/jobshop/Plan" "machine" "[I" (.ref am) := pr2.same W2
  refine own_go (st' := T2.setTop (mkF m 9 #[.val (.ref a1), .val (.ref am), .val (.ref ast), .val (.ref ae), .unset, .unset, .unset, .unset, .unset, .unset, .unset] [])) (st2) ?_
  refine own_go (st' := T2.setTop (mkF m 10 #[.val (.ref a1), .val (.ref am), .val (.ref ast), .val (.ref ae), .unset, .unset, .unset, .unset, .unset, .unset, .unset] [(.ref a1)])) (fun _ k => XS.aloadN X2.here hx rfl (hb hby d4_9) rfl rfl k) ?_
  refine own_go (st' := T2.setTop (mkF m 11 #[.val (.ref a1), .val (.ref am), .val (.ref ast), .val (.ref ae), .unset, .unset, .unset, .unset, .unset, .unset, .unset] [(.ref ast), (.ref a1)])) (fun _ k => XS.aloadN X2.here hx rfl (hb hby d4_10) rfl rfl k) ?_
  have c3 : Fld Z h2 a1 "com/example/millwright/millwright/jobshop/Plan" "start" "[J" .null := (pr3.other W2 (Or.inr (slot_ne (Or.inr (hw _ (List.mem_of_getElem? (i := 25) rfl))) (Or.inr (hw _ (List.mem_of_getElem? (i := 23) rfl))) (by decide) (t := (.array .long)) (t' := (.array .int)) (by decide) (by decide))))
  have c4 : Exa Z h2 a1 "com/example/millwright/millwright/jobshop/Plan" := (pr1.wr W2)
  obtain ⟨T5, h5, X5, e5, W5, st5⟩ := putF X2 hx hZ hown (host := "") (Or.inl (hw _ (List.mem_of_getElem? (i := 24) rfl))) Via.refl e2 c3 c4 (Or.inr ⟨(hw _ (List.mem_of_getElem? (i := 25) rfl)), rfl, hnm⟩) (hw _ (List.mem_of_getElem? (i := 5) rfl)) (ty := (.array .long)) (by decide) rfl rfl (g := (mkF m 11 #[.val (.ref a1), .val (.ref am), .val (.ref ast), .val (.ref ae), .unset, .unset, .unset, .unset, .unset, .unset, .unset] [(.ref ast), (.ref a1)])) rfl rfl (hb hby d4_11)
  have sz5 : h5.size = h2.size := W5.size
  have N5 := Fr.snoc X5 N2 (by omega)
  have f5 : Fld Z h5 a1 "com/example/millwright/millwright/jobshop/Plan" "start" "[J" (.ref ast) := c3.same W5
  refine own_go (st' := T5.setTop (mkF m 14 #[.val (.ref a1), .val (.ref am), .val (.ref ast), .val (.ref ae), .unset, .unset, .unset, .unset, .unset, .unset, .unset] [])) (st5) ?_
  refine own_go (st' := T5.setTop (mkF m 15 #[.val (.ref a1), .val (.ref am), .val (.ref ast), .val (.ref ae), .unset, .unset, .unset, .unset, .unset, .unset, .unset] [(.ref a1)])) (fun _ k => XS.aloadN X5.here hx rfl (hb hby d4_14) rfl rfl k) ?_
  refine own_go (st' := T5.setTop (mkF m 16 #[.val (.ref a1), .val (.ref am), .val (.ref ast), .val (.ref ae), .unset, .unset, .unset, .unset, .unset, .unset, .unset] [(.ref ae), (.ref a1)])) (fun _ k => XS.aloadN X5.here hx rfl (hb hby d4_15) rfl rfl k) ?_
  have c6 : Fld Z h5 a1 "com/example/millwright/millwright/jobshop/Plan" "end" "[J" .null := ((pr4.other W2 (Or.inr (slot_ne (Or.inr (hw _ (List.mem_of_getElem? (i := 27) rfl))) (Or.inr (hw _ (List.mem_of_getElem? (i := 23) rfl))) (by decide) (t := (.array .long)) (t' := (.array .int)) (by decide) (by decide)))).other W5 (Or.inr (slot_ne (Or.inr (hw _ (List.mem_of_getElem? (i := 27) rfl))) (Or.inr (hw _ (List.mem_of_getElem? (i := 25) rfl))) (by decide) (t := (.array .long)) (t' := (.array .long)) (by decide) (by decide))))
  have c7 : Exa Z h5 a1 "com/example/millwright/millwright/jobshop/Plan" := (c4.wr W5)
  obtain ⟨T8, h8, X8, e8, W8, st8⟩ := putF X5 hx hZ hown (host := "") (Or.inl (hw _ (List.mem_of_getElem? (i := 26) rfl))) Via.refl e5 c6 c7 (Or.inr ⟨(hw _ (List.mem_of_getElem? (i := 27) rfl)), rfl, hnm⟩) (hw _ (List.mem_of_getElem? (i := 5) rfl)) (ty := (.array .long)) (by decide) rfl rfl (g := (mkF m 16 #[.val (.ref a1), .val (.ref am), .val (.ref ast), .val (.ref ae), .unset, .unset, .unset, .unset, .unset, .unset, .unset] [(.ref ae), (.ref a1)])) rfl rfl (hb hby d4_16)
  have sz8 : h8.size = h5.size := W8.size
  have N8 := Fr.snoc X8 N5 (by omega)
  have f8 : Fld Z h8 a1 "com/example/millwright/millwright/jobshop/Plan" "end" "[J" (.ref ae) := c6.same W8
  refine own_go (st' := T8.setTop (mkF m 19 #[.val (.ref a1), .val (.ref am), .val (.ref ast), .val (.ref ae), .unset, .unset, .unset, .unset, .unset, .unset, .unset] [])) (st8) ?_
  refine own_go (st' := T8.setTop (mkF m 20 #[.val (.ref a1), .val (.ref am), .val (.ref ast), .val (.ref ae), .unset, .unset, .unset, .unset, .unset, .unset, .unset] [(.long (0 : Int64))])) (fun _ k => XS.lconst X8.here hx rfl (hb hby d4_19) k) ?_
  refine own_go (st' := T8.setTop (mkF m 22 #[.val (.ref a1), .val (.ref am), .val (.ref ast), .val (.ref ae), .val (.long (0 : Int64)), .second, .unset, .unset, .unset, .unset, .unset] [])) (fun _ k => XS.lstore X8.here hx rfl (hb hby d4_20) rfl (l' := #[.val (.ref a1), .val (.ref am), .val (.ref ast), .val (.ref ae), .val (.long (0 : Int64)), .second, .unset, .unset, .unset, .unset, .unset]) rfl k) ?_
  refine own_go (st' := T8.setTop (mkF m 23 #[.val (.ref a1), .val (.ref am), .val (.ref ast), .val (.ref ae), .val (.long (0 : Int64)), .second, .unset, .unset, .unset, .unset, .unset] [(.ref ae)])) (fun _ k => XS.aloadN X8.here hx rfl (hb hby d4_22) rfl rfl k) ?_
  refine own_go (st' := T8.setTop (mkF m 25 #[.val (.ref a1), .val (.ref am), .val (.ref ast), .val (.ref ae), .val (.long (0 : Int64)), .second, .val (.ref ae), .unset, .unset, .unset, .unset] [])) (fun _ k => XS.astore X8.here hx rfl (hb hby d4_23) rfl rfl (l' := #[.val (.ref a1), .val (.ref am), .val (.ref ast), .val (.ref ae), .val (.long (0 : Int64)), .second, .val (.ref ae), .unset, .unset, .unset, .unset]) rfl k) ?_
  refine own_go (st' := T8.setTop (mkF m 27 #[.val (.ref a1), .val (.ref am), .val (.ref ast), .val (.ref ae), .val (.long (0 : Int64)), .second, .val (.ref ae), .unset, .unset, .unset, .unset] [(.ref ae)])) (fun _ k => XS.aload X8.here hx rfl (hb hby d4_25) rfl rfl k) ?_
  have c9 : Arv Z h8 ae ke .long (3 : Int32) [(.long q1), (.long q2), (.long q3)] (.long (0 : Int64)) := (((pr6.other W2 (by first | assumption | exact Ne.symm (by assumption) | (apply Nat.ne_of_lt; omega) | (apply Nat.ne_of_gt; omega))).other W5 (by first | assumption | exact Ne.symm (by assumption) | (apply Nat.ne_of_lt; omega) | (apply Nat.ne_of_gt; omega))).other W8 (by first | assumption | exact Ne.symm (by assumption) | (apply Nat.ne_of_lt; omega) | (apply Nat.ne_of_gt; omega)))
  obtain ⟨cl10, Ar10, -, S10, M10, -, -⟩ := id c9
  refine own_go (st' := T8.setTop (mkF m 28 #[.val (.ref a1), .val (.ref am), .val (.ref ast), .val (.ref ae), .val (.long (0 : Int64)), .second, .val (.ref ae), .unset, .unset, .unset, .unset] [(.int (3 : Int32))])) (fun t k => X8.arraylength hx (by rw [e8]; exact Ar10.1) (State.isArrayOf_alike hZ.alike Ar10.2.1) (g := (mkF m 27 #[.val (.ref a1), .val (.ref am), .val (.ref ast), .val (.ref ae), .val (.long (0 : Int64)), .second, .val (.ref ae), .unset, .unset, .unset, .unset] [(.ref ae)])) rfl rfl (hb hby d4_27) t (by rw [len_of S10 M10]; exact k)) ?_
  refine own_go (st' := T8.setTop (mkF m 30 #[.val (.ref a1), .val (.ref am), .val (.ref ast), .val (.ref ae), .val (.long (0 : Int64)), .second, .val (.ref ae), .val (.int (3 : Int32)), .unset, .unset, .unset] [])) (fun _ k => XS.istore X8.here hx rfl (hb hby d4_28) rfl (l' := #[.val (.ref a1), .val (.ref am), .val (.ref ast), .val (.ref ae), .val (.long (0 : Int64)), .second, .val (.ref ae), .val (.int (3 : Int32)), .unset, .unset, .unset]) rfl k) ?_
  refine own_go (st' := T8.setTop (mkF m 31 #[.val (.ref a1), .val (.ref am), .val (.ref ast), .val (.ref ae), .val (.long (0 : Int64)), .second, .val (.ref ae), .val (.int (3 : Int32)), .unset, .unset, .unset] [(.int (0 : Int32))])) (fun _ k => XS.iconst X8.here hx rfl (hb hby d4_30) k) ?_
  refine own_go (st' := T8.setTop (mkF m 33 #[.val (.ref a1), .val (.ref am), .val (.ref ast), .val (.ref ae), .val (.long (0 : Int64)), .second, .val (.ref ae), .val (.int (3 : Int32)), .val (.int (0 : Int32)), .unset, .unset] [])) (fun _ k => XS.istore X8.here hx rfl (hb hby d4_31) rfl (l' := #[.val (.ref a1), .val (.ref am), .val (.ref ast), .val (.ref ae), .val (.long (0 : Int64)), .second, .val (.ref ae), .val (.int (3 : Int32)), .val (.int (0 : Int32)), .unset, .unset]) rfl k) ?_
  refine own_go (st' := T8.setTop (mkF m 35 #[.val (.ref a1), .val (.ref am), .val (.ref ast), .val (.ref ae), .val (.long (0 : Int64)), .second, .val (.ref ae), .val (.int (3 : Int32)), .val (.int (0 : Int32)), .unset, .unset] [(.int (0 : Int32))])) (fun _ k => XS.iload X8.here hx rfl (hb hby d4_33) rfl k) ?_
  refine own_go (st' := T8.setTop (mkF m 37 #[.val (.ref a1), .val (.ref am), .val (.ref ast), .val (.ref ae), .val (.long (0 : Int64)), .second, .val (.ref ae), .val (.int (3 : Int32)), .val (.int (0 : Int32)), .unset, .unset] [(.int (3 : Int32)), (.int (0 : Int32))])) (fun _ k => XS.iload X8.here hx rfl (hb hby d4_35) rfl k) ?_
  have hc11 : (0 : Int32) < (3 : Int32) := by decide
  refine own_go (st' := T8.setTop (mkF m 40 #[.val (.ref a1), .val (.ref am), .val (.ref ast), .val (.ref ae), .val (.long (0 : Int64)), .second, .val (.ref ae), .val (.int (3 : Int32)), .val (.int (0 : Int32)), .unset, .unset] [])) (fun _ k => XS.icmpNo X8.here hx rfl (hb hby d4_37) rfl (tlt hc11).2.1 k) ?_
  refine own_go (st' := T8.setTop (mkF m 42 #[.val (.ref a1), .val (.ref am), .val (.ref ast), .val (.ref ae), .val (.long (0 : Int64)), .second, .val (.ref ae), .val (.int (3 : Int32)), .val (.int (0 : Int32)), .unset, .unset] [(.ref ae)])) (fun _ k => XS.aload X8.here hx rfl (hb hby d4_40) rfl rfl k) ?_
  refine own_go (st' := T8.setTop (mkF m 44 #[.val (.ref a1), .val (.ref am), .val (.ref ast), .val (.ref ae), .val (.long (0 : Int64)), .second, .val (.ref ae), .val (.int (3 : Int32)), .val (.int (0 : Int32)), .unset, .unset] [(.int (0 : Int32)), (.ref ae)])) (fun _ k => XS.iload X8.here hx rfl (hb hby d4_42) rfl k) ?_
  obtain ⟨cl12, Ar12, -, S12, M12, H12, -⟩ := id c9
  have hin12 : ¬ ((0 : Int32) < 0 ∨ cl12.slots.size ≤ ((0 : Int32)).toNatClampNeg) := (inb_of S12 ⟨by decide, by decide⟩)
  have hat12 : cl12.slots[((0 : Int32)).toNatClampNeg]? = some (.long q1) := (H12.at hin12 rfl)
  refine own_go (st' := T8.setTop (mkF m 45 #[.val (.ref a1), .val (.ref am), .val (.ref ast), .val (.ref ae), .val (.long (0 : Int64)), .second, .val (.ref ae), .val (.int (3 : Int32)), .val (.int (0 : Int32)), .unset, .unset] [(.long q1)])) (X8.laload hx (j := (0 : Int32)) (v := (.long q1)) (by rw [e8]; exact Ar12.1) (State.isArrayOf_alike hZ.alike Ar12.2.1) Ar12.2.2 hin12 hat12 (g := (mkF m 44 #[.val (.ref a1), .val (.ref am), .val (.ref ast), .val (.ref ae), .val (.long (0 : Int64)), .second, .val (.ref ae), .val (.int (3 : Int32)), .val (.int (0 : Int32)), .unset, .unset] [(.int (0 : Int32)), (.ref ae)])) rfl rfl (hb hby d4_44)) ?_
  refine own_go (st' := T8.setTop (mkF m 47 #[.val (.ref a1), .val (.ref am), .val (.ref ast), .val (.ref ae), .val (.long (0 : Int64)), .second, .val (.ref ae), .val (.int (3 : Int32)), .val (.int (0 : Int32)), .val (.long q1), .second] [])) (fun _ k => XS.lstore X8.here hx rfl (hb hby d4_45) rfl (l' := #[.val (.ref a1), .val (.ref am), .val (.ref ast), .val (.ref ae), .val (.long (0 : Int64)), .second, .val (.ref ae), .val (.int (3 : Int32)), .val (.int (0 : Int32)), .val (.long q1), .second]) rfl k) ?_
  refine own_go (st' := T8.setTop (mkF m 49 #[.val (.ref a1), .val (.ref am), .val (.ref ast), .val (.ref ae), .val (.long (0 : Int64)), .second, .val (.ref ae), .val (.int (3 : Int32)), .val (.int (0 : Int32)), .val (.long q1), .second] [(.long (0 : Int64))])) (fun _ k => XS.lload X8.here hx rfl (hb hby d4_47) rfl k) ?_
  refine own_go (st' := T8.setTop (mkF m 51 #[.val (.ref a1), .val (.ref am), .val (.ref ast), .val (.ref ae), .val (.long (0 : Int64)), .second, .val (.ref ae), .val (.int (3 : Int32)), .val (.int (0 : Int32)), .val (.long q1), .second] [(.long q1), (.long (0 : Int64))])) (fun _ k => XS.lload X8.here hx rfl (hb hby d4_49) rfl k) ?_
  obtain ⟨_, _, ⟨T13, LC13, kC13, nC13⟩, -, X13, ⟨Lc13, hQ13, lq13, yq13, zq13⟩, st13⟩ := Jvm.LawKit.callS X8 hx (y := (⟨"java/lang/Math", "max", "(JJ)J"⟩ : MethodName)) hown (mvT hZ (hw _ (List.mem_of_getElem? (i := 28) rfl))) (mvT hZ (hw _ (List.mem_of_getElem? (i := 1) rfl))) (mvT hZ (hw _ (List.mem_of_getElem? (i := 2) rfl))) (mvT hZ (hw _ (List.mem_of_getElem? (i := 3) rfl))) (by decide) (backOf (W := 0) (rm1 l Z a0 hw [] (0 : Int64) q1 h8 n0 (by omega) ) hZ (hw _ (List.mem_of_getElem? (i := 3) rfl)) (hw _ (List.mem_of_getElem? (i := 2) rfl)) (by decide) (by decide)) (g := (mkF m 51 #[.val (.ref a1), .val (.ref am), .val (.ref ast), .val (.ref ae), .val (.long (0 : Int64)), .second, .val (.ref ae), .val (.int (3 : Int32)), .val (.int (0 : Int32)), .val (.long q1), .second] [(.long q1), (.long (0 : Int64))])) rfl (by rw [hml]; rfl) (argsL := [(.long (0 : Int64)), (.long q1)]) (rest := []) (lenOf pd_0 rfl) rfl (by show 2 * 0 + _ ≤ _; exact Nat.le_of_eq rfl) (hb hby d4_51) (fun _ _ => ⟨rfl, e8, (by decide : 0 + 0 ≤ _), (by decide : 0 + 0 ≤ _)⟩)
  dsimp only [Pt.U, Pt.locs, Pt.cells, Pt.slots] at X13 lq13 yq13 zq13 st13 hQ13
  subst lq13 yq13 zq13
  obtain ⟨rfl, Nq13, eq13⟩ := hQ13
  have N13 := Fr.app N8 Nq13
  refine own_go (st' := T13.setTop (mkF m 54 #[.val (.ref a1), .val (.ref am), .val (.ref ast), .val (.ref ae), .val (.long (0 : Int64)), .second, .val (.ref ae), .val (.int (3 : Int32)), .val (.int (0 : Int32)), .val (.long q1), .second] [(.long (own_lmax (0 : Int64) q1))])) (fun t k => st13 t k) ?_
  refine own_go (st' := T13.setTop (mkF m 56 #[.val (.ref a1), .val (.ref am), .val (.ref ast), .val (.ref ae), .val (.long (own_lmax (0 : Int64) q1)), .second, .val (.ref ae), .val (.int (3 : Int32)), .val (.int (0 : Int32)), .val (.long q1), .second] [])) (fun _ k => XS.lstore X13.here hx rfl (hb hby d4_54) rfl (l' := #[.val (.ref a1), .val (.ref am), .val (.ref ast), .val (.ref ae), .val (.long (own_lmax (0 : Int64) q1)), .second, .val (.ref ae), .val (.int (3 : Int32)), .val (.int (0 : Int32)), .val (.long q1), .second]) rfl k) ?_
  refine own_go (st' := T13.setTop (mkF m 59 #[.val (.ref a1), .val (.ref am), .val (.ref ast), .val (.ref ae), .val (.long (own_lmax (0 : Int64) q1)), .second, .val (.ref ae), .val (.int (3 : Int32)), .val (.int (1 : Int32)), .val (.long q1), .second] [])) (fun _ k => XS.iinc X13.here hx rfl (hb hby d4_56) rfl (l' := #[.val (.ref a1), .val (.ref am), .val (.ref ast), .val (.ref ae), .val (.long (own_lmax (0 : Int64) q1)), .second, .val (.ref ae), .val (.int (3 : Int32)), .val (.int (1 : Int32)), .val (.long q1), .second]) (by rw [show ((0 : Int32) + Int32.ofInt 1) = (1 : Int32) by decide]; rfl) k) ?_
  refine own_go (st' := T13.setTop (mkF m 33 #[.val (.ref a1), .val (.ref am), .val (.ref ast), .val (.ref ae), .val (.long (own_lmax (0 : Int64) q1)), .second, .val (.ref ae), .val (.int (3 : Int32)), .val (.int (1 : Int32)), .val (.long q1), .second] [])) (fun _ k => XS.goto X13.here hx rfl (pc0 := 59) (pc' := 33) rfl (hb hby d4_59) (by decide) (by decide) k) ?_
  refine own_go (st' := T13.setTop (mkF m 35 #[.val (.ref a1), .val (.ref am), .val (.ref ast), .val (.ref ae), .val (.long (own_lmax (0 : Int64) q1)), .second, .val (.ref ae), .val (.int (3 : Int32)), .val (.int (1 : Int32)), .val (.long q1), .second] [(.int (1 : Int32))])) (fun _ k => XS.iload X13.here hx rfl (hb hby d4_33) rfl k) ?_
  refine own_go (st' := T13.setTop (mkF m 37 #[.val (.ref a1), .val (.ref am), .val (.ref ast), .val (.ref ae), .val (.long (own_lmax (0 : Int64) q1)), .second, .val (.ref ae), .val (.int (3 : Int32)), .val (.int (1 : Int32)), .val (.long q1), .second] [(.int (3 : Int32)), (.int (1 : Int32))])) (fun _ k => XS.iload X13.here hx rfl (hb hby d4_35) rfl k) ?_
  have hc14 : (1 : Int32) < (3 : Int32) := by decide
  refine own_go (st' := T13.setTop (mkF m 40 #[.val (.ref a1), .val (.ref am), .val (.ref ast), .val (.ref ae), .val (.long (own_lmax (0 : Int64) q1)), .second, .val (.ref ae), .val (.int (3 : Int32)), .val (.int (1 : Int32)), .val (.long q1), .second] [])) (fun _ k => XS.icmpNo X13.here hx rfl (hb hby d4_37) rfl (tlt hc14).2.1 k) ?_
  refine own_go (st' := T13.setTop (mkF m 42 #[.val (.ref a1), .val (.ref am), .val (.ref ast), .val (.ref ae), .val (.long (own_lmax (0 : Int64) q1)), .second, .val (.ref ae), .val (.int (3 : Int32)), .val (.int (1 : Int32)), .val (.long q1), .second] [(.ref ae)])) (fun _ k => XS.aload X13.here hx rfl (hb hby d4_40) rfl rfl k) ?_
  refine own_go (st' := T13.setTop (mkF m 44 #[.val (.ref a1), .val (.ref am), .val (.ref ast), .val (.ref ae), .val (.long (own_lmax (0 : Int64) q1)), .second, .val (.ref ae), .val (.int (3 : Int32)), .val (.int (1 : Int32)), .val (.long q1), .second] [(.int (1 : Int32)), (.ref ae)])) (fun _ k => XS.iload X13.here hx rfl (hb hby d4_42) rfl k) ?_
  obtain ⟨cl15, Ar15, -, S15, M15, H15, -⟩ := id c9
  have hin15 : ¬ ((1 : Int32) < 0 ∨ cl15.slots.size ≤ ((1 : Int32)).toNatClampNeg) := (inb_of S15 ⟨by decide, by decide⟩)
  have hat15 : cl15.slots[((1 : Int32)).toNatClampNeg]? = some (.long q2) := (H15.at hin15 rfl)
  refine own_go (st' := T13.setTop (mkF m 45 #[.val (.ref a1), .val (.ref am), .val (.ref ast), .val (.ref ae), .val (.long (own_lmax (0 : Int64) q1)), .second, .val (.ref ae), .val (.int (3 : Int32)), .val (.int (1 : Int32)), .val (.long q1), .second] [(.long q2)])) (X13.laload hx (j := (1 : Int32)) (v := (.long q2)) (by rw [eq13]; exact Ar15.1) (State.isArrayOf_alike hZ.alike Ar15.2.1) Ar15.2.2 hin15 hat15 (g := (mkF m 44 #[.val (.ref a1), .val (.ref am), .val (.ref ast), .val (.ref ae), .val (.long (own_lmax (0 : Int64) q1)), .second, .val (.ref ae), .val (.int (3 : Int32)), .val (.int (1 : Int32)), .val (.long q1), .second] [(.int (1 : Int32)), (.ref ae)])) rfl rfl (hb hby d4_44)) ?_
  refine own_go (st' := T13.setTop (mkF m 47 #[.val (.ref a1), .val (.ref am), .val (.ref ast), .val (.ref ae), .val (.long (own_lmax (0 : Int64) q1)), .second, .val (.ref ae), .val (.int (3 : Int32)), .val (.int (1 : Int32)), .val (.long q2), .second] [])) (fun _ k => XS.lstore X13.here hx rfl (hb hby d4_45) rfl (l' := #[.val (.ref a1), .val (.ref am), .val (.ref ast), .val (.ref ae), .val (.long (own_lmax (0 : Int64) q1)), .second, .val (.ref ae), .val (.int (3 : Int32)), .val (.int (1 : Int32)), .val (.long q2), .second]) rfl k) ?_
  refine own_go (st' := T13.setTop (mkF m 49 #[.val (.ref a1), .val (.ref am), .val (.ref ast), .val (.ref ae), .val (.long (own_lmax (0 : Int64) q1)), .second, .val (.ref ae), .val (.int (3 : Int32)), .val (.int (1 : Int32)), .val (.long q2), .second] [(.long (own_lmax (0 : Int64) q1))])) (fun _ k => XS.lload X13.here hx rfl (hb hby d4_47) rfl k) ?_
  refine own_go (st' := T13.setTop (mkF m 51 #[.val (.ref a1), .val (.ref am), .val (.ref ast), .val (.ref ae), .val (.long (own_lmax (0 : Int64) q1)), .second, .val (.ref ae), .val (.int (3 : Int32)), .val (.int (1 : Int32)), .val (.long q2), .second] [(.long q2), (.long (own_lmax (0 : Int64) q1))])) (fun _ k => XS.lload X13.here hx rfl (hb hby d4_49) rfl k) ?_
  obtain ⟨_, _, ⟨T16, LC16, kC16, nC16⟩, -, X16, ⟨Lc16, hQ16, lq16, yq16, zq16⟩, st16⟩ := Jvm.LawKit.callS X13 hx (y := (⟨"java/lang/Math", "max", "(JJ)J"⟩ : MethodName)) hown (mvT hZ (hw _ (List.mem_of_getElem? (i := 28) rfl))) (mvT hZ (hw _ (List.mem_of_getElem? (i := 1) rfl))) (mvT hZ (hw _ (List.mem_of_getElem? (i := 2) rfl))) (mvT hZ (hw _ (List.mem_of_getElem? (i := 3) rfl))) (by decide) (backOf (W := 0) (rm1 l Z a0 hw [] (own_lmax (0 : Int64) q1) q2 h8 n0 (by omega) ) hZ (hw _ (List.mem_of_getElem? (i := 3) rfl)) (hw _ (List.mem_of_getElem? (i := 2) rfl)) (by decide) (by decide)) (g := (mkF m 51 #[.val (.ref a1), .val (.ref am), .val (.ref ast), .val (.ref ae), .val (.long (own_lmax (0 : Int64) q1)), .second, .val (.ref ae), .val (.int (3 : Int32)), .val (.int (1 : Int32)), .val (.long q2), .second] [(.long q2), (.long (own_lmax (0 : Int64) q1))])) rfl (by rw [hml]; rfl) (argsL := [(.long (own_lmax (0 : Int64) q1)), (.long q2)]) (rest := []) (lenOf pd_0 rfl) rfl (by show 2 * 0 + _ ≤ _; exact Nat.le_of_eq rfl) (hb hby d4_51) (fun _ _ => ⟨rfl, eq13, (by decide : 0 + 0 ≤ _), (by decide : 0 + 0 ≤ _)⟩)
  dsimp only [Pt.U, Pt.locs, Pt.cells, Pt.slots] at X16 lq16 yq16 zq16 st16 hQ16
  subst lq16 yq16 zq16
  obtain ⟨rfl, Nq16, eq16⟩ := hQ16
  have N16 := Fr.app N13 Nq16
  refine own_go (st' := T16.setTop (mkF m 54 #[.val (.ref a1), .val (.ref am), .val (.ref ast), .val (.ref ae), .val (.long (own_lmax (0 : Int64) q1)), .second, .val (.ref ae), .val (.int (3 : Int32)), .val (.int (1 : Int32)), .val (.long q2), .second] [(.long (own_lmax (own_lmax (0 : Int64) q1) q2))])) (fun t k => st16 t k) ?_
  refine own_go (st' := T16.setTop (mkF m 56 #[.val (.ref a1), .val (.ref am), .val (.ref ast), .val (.ref ae), .val (.long (own_lmax (own_lmax (0 : Int64) q1) q2)), .second, .val (.ref ae), .val (.int (3 : Int32)), .val (.int (1 : Int32)), .val (.long q2), .second] [])) (fun _ k => XS.lstore X16.here hx rfl (hb hby d4_54) rfl (l' := #[.val (.ref a1), .val (.ref am), .val (.ref ast), .val (.ref ae), .val (.long (own_lmax (own_lmax (0 : Int64) q1) q2)), .second, .val (.ref ae), .val (.int (3 : Int32)), .val (.int (1 : Int32)), .val (.long q2), .second]) rfl k) ?_
  refine own_go (st' := T16.setTop (mkF m 59 #[.val (.ref a1), .val (.ref am), .val (.ref ast), .val (.ref ae), .val (.long (own_lmax (own_lmax (0 : Int64) q1) q2)), .second, .val (.ref ae), .val (.int (3 : Int32)), .val (.int (2 : Int32)), .val (.long q2), .second] [])) (fun _ k => XS.iinc X16.here hx rfl (hb hby d4_56) rfl (l' := #[.val (.ref a1), .val (.ref am), .val (.ref ast), .val (.ref ae), .val (.long (own_lmax (own_lmax (0 : Int64) q1) q2)), .second, .val (.ref ae), .val (.int (3 : Int32)), .val (.int (2 : Int32)), .val (.long q2), .second]) (by rw [show ((1 : Int32) + Int32.ofInt 1) = (2 : Int32) by decide]; rfl) k) ?_
  refine own_go (st' := T16.setTop (mkF m 33 #[.val (.ref a1), .val (.ref am), .val (.ref ast), .val (.ref ae), .val (.long (own_lmax (own_lmax (0 : Int64) q1) q2)), .second, .val (.ref ae), .val (.int (3 : Int32)), .val (.int (2 : Int32)), .val (.long q2), .second] [])) (fun _ k => XS.goto X16.here hx rfl (pc0 := 59) (pc' := 33) rfl (hb hby d4_59) (by decide) (by decide) k) ?_
  refine own_go (st' := T16.setTop (mkF m 35 #[.val (.ref a1), .val (.ref am), .val (.ref ast), .val (.ref ae), .val (.long (own_lmax (own_lmax (0 : Int64) q1) q2)), .second, .val (.ref ae), .val (.int (3 : Int32)), .val (.int (2 : Int32)), .val (.long q2), .second] [(.int (2 : Int32))])) (fun _ k => XS.iload X16.here hx rfl (hb hby d4_33) rfl k) ?_
  refine own_go (st' := T16.setTop (mkF m 37 #[.val (.ref a1), .val (.ref am), .val (.ref ast), .val (.ref ae), .val (.long (own_lmax (own_lmax (0 : Int64) q1) q2)), .second, .val (.ref ae), .val (.int (3 : Int32)), .val (.int (2 : Int32)), .val (.long q2), .second] [(.int (3 : Int32)), (.int (2 : Int32))])) (fun _ k => XS.iload X16.here hx rfl (hb hby d4_35) rfl k) ?_
  have hc17 : (2 : Int32) < (3 : Int32) := by decide
  refine own_go (st' := T16.setTop (mkF m 40 #[.val (.ref a1), .val (.ref am), .val (.ref ast), .val (.ref ae), .val (.long (own_lmax (own_lmax (0 : Int64) q1) q2)), .second, .val (.ref ae), .val (.int (3 : Int32)), .val (.int (2 : Int32)), .val (.long q2), .second] [])) (fun _ k => XS.icmpNo X16.here hx rfl (hb hby d4_37) rfl (tlt hc17).2.1 k) ?_
  refine own_go (st' := T16.setTop (mkF m 42 #[.val (.ref a1), .val (.ref am), .val (.ref ast), .val (.ref ae), .val (.long (own_lmax (own_lmax (0 : Int64) q1) q2)), .second, .val (.ref ae), .val (.int (3 : Int32)), .val (.int (2 : Int32)), .val (.long q2), .second] [(.ref ae)])) (fun _ k => XS.aload X16.here hx rfl (hb hby d4_40) rfl rfl k) ?_
  refine own_go (st' := T16.setTop (mkF m 44 #[.val (.ref a1), .val (.ref am), .val (.ref ast), .val (.ref ae), .val (.long (own_lmax (own_lmax (0 : Int64) q1) q2)), .second, .val (.ref ae), .val (.int (3 : Int32)), .val (.int (2 : Int32)), .val (.long q2), .second] [(.int (2 : Int32)), (.ref ae)])) (fun _ k => XS.iload X16.here hx rfl (hb hby d4_42) rfl k) ?_
  obtain ⟨cl18, Ar18, -, S18, M18, H18, -⟩ := id c9
  have hin18 : ¬ ((2 : Int32) < 0 ∨ cl18.slots.size ≤ ((2 : Int32)).toNatClampNeg) := (inb_of S18 ⟨by decide, by decide⟩)
  have hat18 : cl18.slots[((2 : Int32)).toNatClampNeg]? = some (.long q3) := (H18.at hin18 rfl)
  refine own_go (st' := T16.setTop (mkF m 45 #[.val (.ref a1), .val (.ref am), .val (.ref ast), .val (.ref ae), .val (.long (own_lmax (own_lmax (0 : Int64) q1) q2)), .second, .val (.ref ae), .val (.int (3 : Int32)), .val (.int (2 : Int32)), .val (.long q2), .second] [(.long q3)])) (X16.laload hx (j := (2 : Int32)) (v := (.long q3)) (by rw [eq16]; exact Ar18.1) (State.isArrayOf_alike hZ.alike Ar18.2.1) Ar18.2.2 hin18 hat18 (g := (mkF m 44 #[.val (.ref a1), .val (.ref am), .val (.ref ast), .val (.ref ae), .val (.long (own_lmax (own_lmax (0 : Int64) q1) q2)), .second, .val (.ref ae), .val (.int (3 : Int32)), .val (.int (2 : Int32)), .val (.long q2), .second] [(.int (2 : Int32)), (.ref ae)])) rfl rfl (hb hby d4_44)) ?_
  refine own_go (st' := T16.setTop (mkF m 47 #[.val (.ref a1), .val (.ref am), .val (.ref ast), .val (.ref ae), .val (.long (own_lmax (own_lmax (0 : Int64) q1) q2)), .second, .val (.ref ae), .val (.int (3 : Int32)), .val (.int (2 : Int32)), .val (.long q3), .second] [])) (fun _ k => XS.lstore X16.here hx rfl (hb hby d4_45) rfl (l' := #[.val (.ref a1), .val (.ref am), .val (.ref ast), .val (.ref ae), .val (.long (own_lmax (own_lmax (0 : Int64) q1) q2)), .second, .val (.ref ae), .val (.int (3 : Int32)), .val (.int (2 : Int32)), .val (.long q3), .second]) rfl k) ?_
  refine own_go (st' := T16.setTop (mkF m 49 #[.val (.ref a1), .val (.ref am), .val (.ref ast), .val (.ref ae), .val (.long (own_lmax (own_lmax (0 : Int64) q1) q2)), .second, .val (.ref ae), .val (.int (3 : Int32)), .val (.int (2 : Int32)), .val (.long q3), .second] [(.long (own_lmax (own_lmax (0 : Int64) q1) q2))])) (fun _ k => XS.lload X16.here hx rfl (hb hby d4_47) rfl k) ?_
  refine own_go (st' := T16.setTop (mkF m 51 #[.val (.ref a1), .val (.ref am), .val (.ref ast), .val (.ref ae), .val (.long (own_lmax (own_lmax (0 : Int64) q1) q2)), .second, .val (.ref ae), .val (.int (3 : Int32)), .val (.int (2 : Int32)), .val (.long q3), .second] [(.long q3), (.long (own_lmax (own_lmax (0 : Int64) q1) q2))])) (fun _ k => XS.lload X16.here hx rfl (hb hby d4_49) rfl k) ?_
  obtain ⟨_, _, ⟨T19, LC19, kC19, nC19⟩, -, X19, ⟨Lc19, hQ19, lq19, yq19, zq19⟩, st19⟩ := Jvm.LawKit.callS X16 hx (y := (⟨"java/lang/Math", "max", "(JJ)J"⟩ : MethodName)) hown (mvT hZ (hw _ (List.mem_of_getElem? (i := 28) rfl))) (mvT hZ (hw _ (List.mem_of_getElem? (i := 1) rfl))) (mvT hZ (hw _ (List.mem_of_getElem? (i := 2) rfl))) (mvT hZ (hw _ (List.mem_of_getElem? (i := 3) rfl))) (by decide) (backOf (W := 0) (rm1 l Z a0 hw [] (own_lmax (own_lmax (0 : Int64) q1) q2) q3 h8 n0 (by omega) ) hZ (hw _ (List.mem_of_getElem? (i := 3) rfl)) (hw _ (List.mem_of_getElem? (i := 2) rfl)) (by decide) (by decide)) (g := (mkF m 51 #[.val (.ref a1), .val (.ref am), .val (.ref ast), .val (.ref ae), .val (.long (own_lmax (own_lmax (0 : Int64) q1) q2)), .second, .val (.ref ae), .val (.int (3 : Int32)), .val (.int (2 : Int32)), .val (.long q3), .second] [(.long q3), (.long (own_lmax (own_lmax (0 : Int64) q1) q2))])) rfl (by rw [hml]; rfl) (argsL := [(.long (own_lmax (own_lmax (0 : Int64) q1) q2)), (.long q3)]) (rest := []) (lenOf pd_0 rfl) rfl (by show 2 * 0 + _ ≤ _; exact Nat.le_of_eq rfl) (hb hby d4_51) (fun _ _ => ⟨rfl, eq16, (by decide : 0 + 0 ≤ _), (by decide : 0 + 0 ≤ _)⟩)
  dsimp only [Pt.U, Pt.locs, Pt.cells, Pt.slots] at X19 lq19 yq19 zq19 st19 hQ19
  subst lq19 yq19 zq19
  obtain ⟨rfl, Nq19, eq19⟩ := hQ19
  have N19 := Fr.app N16 Nq19
  refine own_go (st' := T19.setTop (mkF m 54 #[.val (.ref a1), .val (.ref am), .val (.ref ast), .val (.ref ae), .val (.long (own_lmax (own_lmax (0 : Int64) q1) q2)), .second, .val (.ref ae), .val (.int (3 : Int32)), .val (.int (2 : Int32)), .val (.long q3), .second] [(.long (own_lmax (own_lmax (own_lmax (0 : Int64) q1) q2) q3))])) (fun t k => st19 t k) ?_
  refine own_go (st' := T19.setTop (mkF m 56 #[.val (.ref a1), .val (.ref am), .val (.ref ast), .val (.ref ae), .val (.long (own_lmax (own_lmax (own_lmax (0 : Int64) q1) q2) q3)), .second, .val (.ref ae), .val (.int (3 : Int32)), .val (.int (2 : Int32)), .val (.long q3), .second] [])) (fun _ k => XS.lstore X19.here hx rfl (hb hby d4_54) rfl (l' := #[.val (.ref a1), .val (.ref am), .val (.ref ast), .val (.ref ae), .val (.long (own_lmax (own_lmax (own_lmax (0 : Int64) q1) q2) q3)), .second, .val (.ref ae), .val (.int (3 : Int32)), .val (.int (2 : Int32)), .val (.long q3), .second]) rfl k) ?_
  refine own_go (st' := T19.setTop (mkF m 59 #[.val (.ref a1), .val (.ref am), .val (.ref ast), .val (.ref ae), .val (.long (own_lmax (own_lmax (own_lmax (0 : Int64) q1) q2) q3)), .second, .val (.ref ae), .val (.int (3 : Int32)), .val (.int (3 : Int32)), .val (.long q3), .second] [])) (fun _ k => XS.iinc X19.here hx rfl (hb hby d4_56) rfl (l' := #[.val (.ref a1), .val (.ref am), .val (.ref ast), .val (.ref ae), .val (.long (own_lmax (own_lmax (own_lmax (0 : Int64) q1) q2) q3)), .second, .val (.ref ae), .val (.int (3 : Int32)), .val (.int (3 : Int32)), .val (.long q3), .second]) (by rw [show ((2 : Int32) + Int32.ofInt 1) = (3 : Int32) by decide]; rfl) k) ?_
  refine own_go (st' := T19.setTop (mkF m 33 #[.val (.ref a1), .val (.ref am), .val (.ref ast), .val (.ref ae), .val (.long (own_lmax (own_lmax (own_lmax (0 : Int64) q1) q2) q3)), .second, .val (.ref ae), .val (.int (3 : Int32)), .val (.int (3 : Int32)), .val (.long q3), .second] [])) (fun _ k => XS.goto X19.here hx rfl (pc0 := 59) (pc' := 33) rfl (hb hby d4_59) (by decide) (by decide) k) ?_
  refine own_go (st' := T19.setTop (mkF m 35 #[.val (.ref a1), .val (.ref am), .val (.ref ast), .val (.ref ae), .val (.long (own_lmax (own_lmax (own_lmax (0 : Int64) q1) q2) q3)), .second, .val (.ref ae), .val (.int (3 : Int32)), .val (.int (3 : Int32)), .val (.long q3), .second] [(.int (3 : Int32))])) (fun _ k => XS.iload X19.here hx rfl (hb hby d4_33) rfl k) ?_
  refine own_go (st' := T19.setTop (mkF m 37 #[.val (.ref a1), .val (.ref am), .val (.ref ast), .val (.ref ae), .val (.long (own_lmax (own_lmax (own_lmax (0 : Int64) q1) q2) q3)), .second, .val (.ref ae), .val (.int (3 : Int32)), .val (.int (3 : Int32)), .val (.long q3), .second] [(.int (3 : Int32)), (.int (3 : Int32))])) (fun _ k => XS.iload X19.here hx rfl (hb hby d4_35) rfl k) ?_
  have hc20 : ¬ ((3 : Int32) < (3 : Int32)) := by decide
  refine own_go (st' := T19.setTop (mkF m 62 #[.val (.ref a1), .val (.ref am), .val (.ref ast), .val (.ref ae), .val (.long (own_lmax (own_lmax (own_lmax (0 : Int64) q1) q2) q3)), .second, .val (.ref ae), .val (.int (3 : Int32)), .val (.int (3 : Int32)), .val (.long q3), .second] [])) (fun _ k => XS.icmpYes X19.here hx rfl (pc0 := 37) (pc' := 62) rfl (hb hby d4_37) rfl (flt hc20).2.1 (by decide) (by decide) k) ?_
  refine own_go (st' := T19.setTop (mkF m 63 #[.val (.ref a1), .val (.ref am), .val (.ref ast), .val (.ref ae), .val (.long (own_lmax (own_lmax (own_lmax (0 : Int64) q1) q2) q3)), .second, .val (.ref ae), .val (.int (3 : Int32)), .val (.int (3 : Int32)), .val (.long q3), .second] [(.ref a1)])) (fun _ k => XS.aloadN X19.here hx rfl (hb hby d4_62) rfl rfl k) ?_
  refine own_go (st' := T19.setTop (mkF m 65 #[.val (.ref a1), .val (.ref am), .val (.ref ast), .val (.ref ae), .val (.long (own_lmax (own_lmax (own_lmax (0 : Int64) q1) q2) q3)), .second, .val (.ref ae), .val (.int (3 : Int32)), .val (.int (3 : Int32)), .val (.long q3), .second] [(.long (own_lmax (own_lmax (own_lmax (0 : Int64) q1) q2) q3)), (.ref a1)])) (fun _ k => XS.lload X19.here hx rfl (hb hby d4_63) rfl k) ?_
  have c21 : Fld Z h8 a1 "com/example/millwright/millwright/jobshop/Plan" "makespan" "J" (.long u1) := (((pr5.other W2 (Or.inr (slot_ne (Or.inr (hw _ (List.mem_of_getElem? (i := 30) rfl))) (Or.inr (hw _ (List.mem_of_getElem? (i := 23) rfl))) (by decide) (t := .long) (t' := (.array .int)) (by decide) (by decide)))).other W5 (Or.inr (slot_ne (Or.inr (hw _ (List.mem_of_getElem? (i := 30) rfl))) (Or.inr (hw _ (List.mem_of_getElem? (i := 25) rfl))) (by decide) (t := .long) (t' := (.array .long)) (by decide) (by decide)))).other W8 (Or.inr (slot_ne (Or.inr (hw _ (List.mem_of_getElem? (i := 30) rfl))) (Or.inr (hw _ (List.mem_of_getElem? (i := 27) rfl))) (by decide) (t := .long) (t' := (.array .long)) (by decide) (by decide))))
  have c22 : Exa Z h8 a1 "com/example/millwright/millwright/jobshop/Plan" := (c7.wr W8)
  obtain ⟨T23, h23, X23, e23, W23, st23⟩ := putF X19 hx hZ hown (host := "") (Or.inl (hw _ (List.mem_of_getElem? (i := 29) rfl))) Via.refl eq19 c21 c22 (Or.inr ⟨(hw _ (List.mem_of_getElem? (i := 30) rfl)), rfl, hnm⟩) (hw _ (List.mem_of_getElem? (i := 5) rfl)) (ty := .long) (by decide) rfl rfl (g := (mkF m 65 #[.val (.ref a1), .val (.ref am), .val (.ref ast), .val (.ref ae), .val (.long (own_lmax (own_lmax (own_lmax (0 : Int64) q1) q2) q3)), .second, .val (.ref ae), .val (.int (3 : Int32)), .val (.int (3 : Int32)), .val (.long q3), .second] [(.long (own_lmax (own_lmax (own_lmax (0 : Int64) q1) q2) q3)), (.ref a1)])) rfl rfl (hb hby d4_65)
  have sz23 : h23.size = h8.size := W23.size
  have N23 := Fr.snoc X23 N19 (by omega)
  have f23 : Fld Z h23 a1 "com/example/millwright/millwright/jobshop/Plan" "makespan" "J" (.long (own_lmax (own_lmax (own_lmax (0 : Int64) q1) q2) q3)) := c21.same W23
  refine own_go (st' := T23.setTop (mkF m 68 #[.val (.ref a1), .val (.ref am), .val (.ref ast), .val (.ref ae), .val (.long (own_lmax (own_lmax (own_lmax (0 : Int64) q1) q2) q3)), .second, .val (.ref ae), .val (.int (3 : Int32)), .val (.int (3 : Int32)), .val (.long q3), .second] [])) (st23) ?_
  obtain ⟨fs, hr, hrun, hended, hW, hsame⟩ := X23.leave (v := none) (fun _ => rfl)
  refine ⟨_, _, ?_, hP _ _ hrun hended ⟨_, _, rfl, ?_, ⟨_, rfl⟩, hW, hsame.mono (by decide) (by decide)⟩⟩
  · exact X23.returnOut hx Bd.returns (hb hby d4_68) hr
  · show Qrm4_3 Z a1 am ast ae ke u1 q1 q2 q3 h0 n0 _ T23.heap _
    have c25 : Exa Z h23 a1 "com/example/millwright/millwright/jobshop/Plan" := (c22.wr W23)
    rw [e23]
    exact ⟨rfl, N23, (((((Keep.refl h0 [a1]).wr W2 (Or.inl (List.mem_of_getElem? (i := 0) rfl))).wr W5 (Or.inl (List.mem_of_getElem? (i := 0) rfl))).wr W8 (Or.inl (List.mem_of_getElem? (i := 0) rfl))).wr W23 (Or.inl (List.mem_of_getElem? (i := 0) rfl))), c25, f23⟩
theorem d7_0 : decode prog_43_method_6_code 0 = .ok (.aload_n 0, 1) := by decide +kernel
theorem d7_1 : decode prog_43_method_6_code 1 = .ok (.getfield 26, 3) := by decide +kernel
theorem d7_4 : decode prog_43_method_6_code 4 = .ok (.lreturn, 1) := by decide +kernel
theorem pn_7 : plainName "com/example/millwright/millwright/jobshop/Plan" = true := by first | (simp [plainName, overriddenIn]; done) | decide +kernel
theorem ef_rm7 (m : MethodId) (x0 : Addr) : entryFrame m #[(.ref x0)] 1 = mkF m 0 #[.val (.ref x0)] [] := by first | (simp [entryFrame, mkF, argsToLocals, Value.category]; done) | rfl
def Qrm7 (Z : State) (a1 : Addr) (w1 : Int64) (h0 : Heap) (n0 : Nat) (v : Option Value) (h : Heap) (L : List Loc) : Prop := (v = some (.long w1)) ∧ (Fr n0 L) ∧ (h = h0)
set_option maxRecDepth 65536 in
set_option maxHeartbeats 40000000 in
theorem rm7 (l : Launch) (Z : State) (a0 : Array Value) (hw : ∀ d ∈ tables_1, d.before a0 Z = true) (ws : List Jvm.Cond) (a1 : Addr) (w1 : Int64) (h0 : Heap) (n0 : Nat) (Z0 : n0 ≤ h0.size) (pr1 : Fld Z h0 a1 "com/example/millwright/millwright/jobshop/Plan" "makespan" "J" (.long w1)) :
    MetFree l (⟨"com/example/millwright/millwright/jobshop/Plan", "makespan", "()J"⟩ : MethodName) (head1 (Jvm.Cond.code (⟨"com/example/millwright/millwright/jobshop/Plan", "makespan", "()J"⟩ : MethodName) prog_43_method_6_code 1 (some .long) :: ws) ({ frames := 0, cells := 0, slots := 0, locals := 0 } : Room)) (fun a U => a = #[(.ref a1)] ∧ Z.Warmed39 U.vm ∧ U.heap = h0) (fun _ _ _ _ _ => True) (fun _ U o U' => ∃ v L, o = .returned v ∧ Qrm7 Z a1 w1 h0 n0 v U'.heap L ∧ FrameEnd U o U' L ({ frames := 0, cells := 0, slots := 0, locals := 0 } : Room).cells ({ frames := 0, cells := 0, slots := 0, locals := 0 } : Room).slots) := by
  refine MetFree.of_bodySF (plainFor_of_name pn_7) hisR ?_
  intro p e s m args below meth c s₁ Bd hml0 hP0 hK
  obtain ⟨rfl, hZ, hh⟩ := hP0
  have hx := Bd.exec
  have hby := Bd.bytes
  have hml : c.maxLocals = 1 := hml0
  have hown : s.vm.findClass "com/example/millwright/millwright/jobshop/Plan" = some m.cls := findClass_of_methodNamed Bd.named
  have hnm := (name_of_methodNamed Bd.named Bd.method).1
  have X0 : Stand p l e ({ frames := 0, cells := 0, slots := 0, locals := 0 } : Room) s m #[(.ref a1)] below meth c s₁ [] 0 0 := Stand.of_body Bd
  have e0 : s₁.heap = h0 := by rw [← hh, Bd.state]; rfl
  have N0 := Fr.nil n0
  suffices own_H : ∀ (P : State → Outcome → Prop), (∀ U o, U.status = .running → Ended U below o → (∃ v L, o = .returned v ∧ Qrm7 Z a1 w1 h0 n0 v U.heap L ∧ FrameEnd s o U L ({ frames := 0, cells := 0, slots := 0, locals := 0 } : Room).cells ({ frames := 0, cells := 0, slots := 0, locals := 0 } : Room).slots) → P U o) → own_Go p.tables e below P (s₁.setTop (mkF m 0 #[.val (.ref a1)] [])) from own_go (fun _ k => castTop (ef_rm7 m a1) k) (own_H _ (fun U o h1 h2 h3 => ⟨h1, h2, h3⟩))
  intro P hP
  have lt_a1 : @LT.lt Nat _ a1 h0.size := pr1.lt
  refine own_go (st' := s₁.setTop (mkF m 1 #[.val (.ref a1)] [(.ref a1)])) (fun _ k => XS.aloadN X0.here hx rfl (hb hby d7_0) rfl rfl k) ?_
  obtain ⟨T1, X1, e1, st1⟩ := getF X0 hx hZ hown (host := "") (Or.inl (hw _ (List.mem_of_getElem? (i := 29) rfl))) Via.refl e0 pr1 (g := (mkF m 1 #[.val (.ref a1)] [(.ref a1)])) rfl rfl (hb hby d7_1)
  refine own_go (st' := T1.setTop (mkF m 4 #[.val (.ref a1)] [(.long w1)])) (st1) ?_
  obtain ⟨fs, hr, hrun, hended, hW, hsame⟩ := X1.leave (v := some (.long w1)) (fun h => by rw [Bd.returns] at h; cases h)
  refine ⟨_, _, ?_, hP _ _ hrun hended ⟨_, _, rfl, ?_, ⟨_, rfl⟩, hW, hsame.mono (by decide) (by decide)⟩⟩
  · exact retOut X1 hx Bd.returns rfl (Or.inr (Or.inl ⟨rfl, rfl, _, rfl⟩)) (hb hby d7_4) hr
  · show Qrm7 Z a1 w1 h0 n0 _ T1.heap _
    rw [e1]
    exact ⟨rfl, N0, rfl⟩
theorem pd_1 : parseMethodDescriptor "()J" = some ⟨[], some .long⟩ := by decide +kernel
theorem d6_0 : decode prog_37_method_1_code 0 = .ok (.aload_n 0, 1) := by decide +kernel
theorem d6_1 : decode prog_37_method_1_code 1 = .ok (.invokespecial 1, 3) := by decide +kernel
theorem d6_4 : decode prog_37_method_1_code 4 = .ok (.lload_n 2, 1) := by decide +kernel
theorem d6_5 : decode prog_37_method_1_code 5 = .ok (.aload_n 1, 1) := by decide +kernel
theorem d6_6 : decode prog_37_method_1_code 6 = .ok (.invokevirtual 7, 3) := by decide +kernel
theorem d6_9 : decode prog_37_method_1_code 9 = .ok (.lcmp, 1) := by decide +kernel
theorem d6_10 : decode prog_37_method_1_code 10 = .ok (.ifCond .le 21, 3) := by decide +kernel
theorem d6_31 : decode prog_37_method_1_code 31 = .ok (.aload_n 0, 1) := by decide +kernel
theorem d6_32 : decode prog_37_method_1_code 32 = .ok (.aload_n 1, 1) := by decide +kernel
theorem d6_33 : decode prog_37_method_1_code 33 = .ok (.putfield 22, 3) := by decide +kernel
theorem d6_36 : decode prog_37_method_1_code 36 = .ok (.aload_n 0, 1) := by decide +kernel
theorem d6_37 : decode prog_37_method_1_code 37 = .ok (.lload_n 2, 1) := by decide +kernel
theorem d6_38 : decode prog_37_method_1_code 38 = .ok (.putfield 28, 3) := by decide +kernel
theorem d6_41 : decode prog_37_method_1_code 41 = .ok (.return_, 1) := by decide +kernel
theorem pn_6 : plainName "com/example/millwright/millwright/jobshop/JobShopSolution" = true := by first | (simp [plainName, overriddenIn]; done) | decide +kernel
theorem ef_rm6 (m : MethodId) (x0 : Addr) (x1 : Addr) (x2 : Int64) : entryFrame m #[(.ref x0), (.ref x1), (.long x2)] 4 = mkF m 0 #[.val (.ref x0), .val (.ref x1), .val (.long x2), .second] [] := by first | (simp [entryFrame, mkF, argsToLocals, Value.category]; done) | rfl
def Qrm6 (Z : State) (a1 : Addr) (ap : Addr) (bd : Int64) (w1 : Int64) (u1 : Int64) (h0 : Heap) (n0 : Nat) (v : Option Value) (h : Heap) (L : List Loc) : Prop := (v = none) ∧ (Fr n0 L) ∧ (Keep h0 h [a1]) ∧ (Exa Z h a1 "com/example/millwright/millwright/jobshop/JobShopSolution") ∧ (Fld Z h a1 "com/example/millwright/millwright/jobshop/JobShopSolution" "plan" "Lcom/example/millwright/millwright/jobshop/Plan;" (.ref ap)) ∧ (Fld Z h a1 "com/example/millwright/millwright/jobshop/JobShopSolution" "bound" "J" (.long bd))
set_option maxRecDepth 65536 in
set_option maxHeartbeats 40000000 in
theorem rm6 (l : Launch) (Z : State) (a0 : Array Value) (hw : ∀ d ∈ tables_1, d.before a0 Z = true) (ws : List Jvm.Cond) (a1 : Addr) (ap : Addr) (bd : Int64) (w1 : Int64) (u1 : Int64) (h0 : Heap) (n0 : Nat) (Z0 : n0 ≤ h0.size) (pr1 : Exa Z h0 a1 "com/example/millwright/millwright/jobshop/JobShopSolution") (pr2 : Fld Z h0 a1 "com/example/millwright/millwright/jobshop/JobShopSolution" "plan" "Lcom/example/millwright/millwright/jobshop/Plan;" .null) (pr3 : Fld Z h0 a1 "com/example/millwright/millwright/jobshop/JobShopSolution" "bound" "J" (.long u1)) (pr4 : Exa Z h0 ap "com/example/millwright/millwright/jobshop/Plan") (pr5 : Fld Z h0 ap "com/example/millwright/millwright/jobshop/Plan" "makespan" "J" (.long w1)) (pr6 : n0 ≤ a1) (pr7 : a1 ≠ ap) (hbnd : ¬ w1 < bd) :
    MetFree l (⟨"com/example/millwright/millwright/jobshop/JobShopSolution", "<init>", "(Lcom/example/millwright/millwright/jobshop/Plan;J)V"⟩ : MethodName) (head1 (Jvm.Cond.code (⟨"com/example/millwright/millwright/jobshop/JobShopSolution", "<init>", "(Lcom/example/millwright/millwright/jobshop/Plan;J)V"⟩ : MethodName) prog_37_method_1_code 4 none :: ws) ({ frames := 1, cells := 0, slots := 0, locals := 14 } : Room)) (fun a U => a = #[(.ref a1), (.ref ap), (.long bd)] ∧ Z.Warmed39 U.vm ∧ U.heap = h0) (fun _ _ _ _ _ => True) (fun _ U o U' => ∃ v L, o = .returned v ∧ Qrm6 Z a1 ap bd w1 u1 h0 n0 v U'.heap L ∧ FrameEnd U o U' L ({ frames := 1, cells := 0, slots := 0, locals := 14 } : Room).cells ({ frames := 1, cells := 0, slots := 0, locals := 14 } : Room).slots) := by
  refine MetFree.of_bodySF (plainFor_of_name pn_6) hisR ?_
  intro p e s m args below meth c s₁ Bd hml0 hP0 hK
  obtain ⟨rfl, hZ, hh⟩ := hP0
  have hx := Bd.exec
  have hby := Bd.bytes
  have hml : c.maxLocals = 4 := hml0
  have hown : s.vm.findClass "com/example/millwright/millwright/jobshop/JobShopSolution" = some m.cls := findClass_of_methodNamed Bd.named
  have hnm := (name_of_methodNamed Bd.named Bd.method).1
  have X0 : Stand p l e ({ frames := 1, cells := 0, slots := 0, locals := 14 } : Room) s m #[(.ref a1), (.ref ap), (.long bd)] below meth c s₁ [] 0 0 := Stand.of_body Bd
  have e0 : s₁.heap = h0 := by rw [← hh, Bd.state]; rfl
  have N0 := Fr.nil n0
  suffices own_H : ∀ (P : State → Outcome → Prop), (∀ U o, U.status = .running → Ended U below o → (∃ v L, o = .returned v ∧ Qrm6 Z a1 ap bd w1 u1 h0 n0 v U.heap L ∧ FrameEnd s o U L ({ frames := 1, cells := 0, slots := 0, locals := 14 } : Room).cells ({ frames := 1, cells := 0, slots := 0, locals := 14 } : Room).slots) → P U o) → own_Go p.tables e below P (s₁.setTop (mkF m 0 #[.val (.ref a1), .val (.ref ap), .val (.long bd), .second] [])) from own_go (fun _ k => castTop (ef_rm6 m a1 ap bd) k) (own_H _ (fun U o h1 h2 h3 => ⟨h1, h2, h3⟩))
  intro P hP
  have lt_a1 : @LT.lt Nat _ a1 h0.size := pr1.lt
  have lt_ap : @LT.lt Nat _ ap h0.size := pr4.lt
  refine own_go (st' := s₁.setTop (mkF m 1 #[.val (.ref a1), .val (.ref ap), .val (.long bd), .second] [(.ref a1)])) (fun _ k => XS.aloadN X0.here hx rfl (hb hby d6_0) rfl rfl k) ?_
  obtain ⟨T1, X1, e1, st1⟩ := initO X0 hx hZ hown (hw _ (List.mem_of_getElem? (i := 37) rfl)) (hw _ (List.mem_of_getElem? (i := 20) rfl)) (hw _ (List.mem_of_getElem? (i := 21) rfl)) e0 (g := (mkF m 1 #[.val (.ref a1), .val (.ref ap), .val (.long bd), .second] [(.ref a1)])) rfl (by rw [hml]; rfl) rfl (hb hby d6_1) (by decide) (W := 0) (by show 2 * 0 + _ ≤ _; exact Nat.le_of_eq rfl) (by decide)
  refine own_go (st' := T1.setTop (mkF m 4 #[.val (.ref a1), .val (.ref ap), .val (.long bd), .second] [])) (st1) ?_
  refine own_go (st' := T1.setTop (mkF m 5 #[.val (.ref a1), .val (.ref ap), .val (.long bd), .second] [(.long bd)])) (fun _ k => XS.lloadN X1.here hx rfl (hb hby d6_4) rfl k) ?_
  refine own_go (st' := T1.setTop (mkF m 6 #[.val (.ref a1), .val (.ref ap), .val (.long bd), .second] [(.ref ap), (.long bd)])) (fun _ k => XS.aloadN X1.here hx rfl (hb hby d6_5) rfl rfl k) ?_
  obtain ⟨cq2, kq2, q2a, q2b, q2c⟩ := isOf hZ e1 pr4
  obtain ⟨_, _, ⟨T2, LC2, kC2, nC2⟩, -, X2, ⟨Lc2, hQ2, lq2, yq2, zq2⟩, st2⟩ := X1.virtualBack hx (y := (⟨"com/example/millwright/millwright/jobshop/Plan", "makespan", "()J"⟩ : MethodName)) (z := (⟨"com/example/millwright/millwright/jobshop/Plan", "makespan", "()J"⟩ : MethodName)) hown (mvT hZ (hw _ (List.mem_of_getElem? (i := 38) rfl))) (mvT hZ (hw _ (List.mem_of_getElem? (i := 39) rfl))) (notFace_of_selects (args := #[]) (mvT hZ (hw _ (List.mem_of_getElem? (i := 41) rfl)))) (mvT hZ (hw _ (List.mem_of_getElem? (i := 41) rfl))) (mvT hZ (hw _ (List.mem_of_getElem? (i := 40) rfl))) (by decide) (backOf (W := 2) (rm7 l Z a0 hw [] ap w1 h0 n0 (by omega) pr5) hZ (hw _ (List.mem_of_getElem? (i := 42) rfl)) (hw _ (List.mem_of_getElem? (i := 6) rfl)) (by decide) (by decide)) q2a q2c (g := (mkF m 6 #[.val (.ref a1), .val (.ref ap), .val (.long bd), .second] [(.ref ap), (.long bd)])) rfl (by rw [hml]; rfl) (Steps.refl _) (argsL := []) (rest := [(.long bd)]) (lenOf pd_1 rfl) rfl (by show 2 * 0 + _ ≤ _; exact Nat.le_of_eq rfl) (hb hby d6_6) (fun _ _ => ⟨rfl, e1, (by decide : 0 + 0 ≤ _), (by decide : 0 + 0 ≤ _)⟩)
  dsimp only [Pt.U, Pt.locs, Pt.cells, Pt.slots] at X2 lq2 yq2 zq2 st2 hQ2
  subst lq2 yq2 zq2
  obtain ⟨rfl, Nq2, eq2⟩ := hQ2
  have N2 := Fr.app N0 Nq2
  refine own_go (st' := T2.setTop (mkF m 9 #[.val (.ref a1), .val (.ref ap), .val (.long bd), .second] [(.long w1), (.long bd)])) (fun _ k => st2.trans k) ?_
  refine own_go (st' := T2.setTop (mkF m 10 #[.val (.ref a1), .val (.ref ap), .val (.long bd), .second] [(.int (lcmpW bd w1))])) (fun _ k => XS.lcmp X2.here hx rfl (hb hby d6_9) rfl k) ?_
  have hc3 : ¬ (w1 < bd) := hbnd
  refine own_go (st' := T2.setTop (mkF m 31 #[.val (.ref a1), .val (.ref ap), .val (.long bd), .second] [])) (fun _ k => XS.ifYes X2.here hx rfl (pc0 := 10) (pc' := 31) rfl (hb hby d6_10) rfl ((if0 _ _).trans (flt (fun q_ => hc3 ((lw_gt bd w1).mp q_))).2.2.2) (by decide) (by decide) k) ?_
  refine own_go (st' := T2.setTop (mkF m 32 #[.val (.ref a1), .val (.ref ap), .val (.long bd), .second] [(.ref a1)])) (fun _ k => XS.aloadN X2.here hx rfl (hb hby d6_31) rfl rfl k) ?_
  refine own_go (st' := T2.setTop (mkF m 33 #[.val (.ref a1), .val (.ref ap), .val (.long bd), .second] [(.ref ap), (.ref a1)])) (fun _ k => XS.aloadN X2.here hx rfl (hb hby d6_32) rfl rfl k) ?_
  obtain ⟨T4, h4, X4, e4, W4, st4⟩ := putF X2 hx hZ hown (host := "") (Or.inl (hw _ (List.mem_of_getElem? (i := 43) rfl))) Via.refl eq2 pr2 pr1 (Or.inr ⟨(hw _ (List.mem_of_getElem? (i := 44) rfl)), rfl, hnm⟩) (hw _ (List.mem_of_getElem? (i := 32) rfl)) (ty := (.object "com/example/millwright/millwright/jobshop/Plan")) (by decide) rfl rfl (g := (mkF m 33 #[.val (.ref a1), .val (.ref ap), .val (.long bd), .second] [(.ref ap), (.ref a1)])) rfl rfl (hb hby d6_33)
  have sz4 : h4.size = h0.size := W4.size
  have N4 := Fr.snoc X4 N2 (by omega)
  have f4 : Fld Z h4 a1 "com/example/millwright/millwright/jobshop/JobShopSolution" "plan" "Lcom/example/millwright/millwright/jobshop/Plan;" (.ref ap) := pr2.same W4
  refine own_go (st' := T4.setTop (mkF m 36 #[.val (.ref a1), .val (.ref ap), .val (.long bd), .second] [])) (st4) ?_
  refine own_go (st' := T4.setTop (mkF m 37 #[.val (.ref a1), .val (.ref ap), .val (.long bd), .second] [(.ref a1)])) (fun _ k => XS.aloadN X4.here hx rfl (hb hby d6_36) rfl rfl k) ?_
  refine own_go (st' := T4.setTop (mkF m 38 #[.val (.ref a1), .val (.ref ap), .val (.long bd), .second] [(.long bd), (.ref a1)])) (fun _ k => XS.lloadN X4.here hx rfl (hb hby d6_37) rfl k) ?_
  have c5 : Fld Z h4 a1 "com/example/millwright/millwright/jobshop/JobShopSolution" "bound" "J" (.long u1) := (pr3.other W4 (Or.inr (slot_ne (Or.inr (hw _ (List.mem_of_getElem? (i := 46) rfl))) (Or.inr (hw _ (List.mem_of_getElem? (i := 44) rfl))) (by decide) (t := .long) (t' := (.object "com/example/millwright/millwright/jobshop/Plan")) (by decide) (by decide))))
  have c6 : Exa Z h4 a1 "com/example/millwright/millwright/jobshop/JobShopSolution" := (pr1.wr W4)
  obtain ⟨T7, h7, X7, e7, W7, st7⟩ := putF X4 hx hZ hown (host := "") (Or.inl (hw _ (List.mem_of_getElem? (i := 45) rfl))) Via.refl e4 c5 c6 (Or.inr ⟨(hw _ (List.mem_of_getElem? (i := 46) rfl)), rfl, hnm⟩) (hw _ (List.mem_of_getElem? (i := 32) rfl)) (ty := .long) (by decide) rfl rfl (g := (mkF m 38 #[.val (.ref a1), .val (.ref ap), .val (.long bd), .second] [(.long bd), (.ref a1)])) rfl rfl (hb hby d6_38)
  have sz7 : h7.size = h4.size := W7.size
  have N7 := Fr.snoc X7 N4 (by omega)
  have f7 : Fld Z h7 a1 "com/example/millwright/millwright/jobshop/JobShopSolution" "bound" "J" (.long bd) := c5.same W7
  refine own_go (st' := T7.setTop (mkF m 41 #[.val (.ref a1), .val (.ref ap), .val (.long bd), .second] [])) (st7) ?_
  obtain ⟨fs, hr, hrun, hended, hW, hsame⟩ := X7.leave (v := none) (fun _ => rfl)
  refine ⟨_, _, ?_, hP _ _ hrun hended ⟨_, _, rfl, ?_, ⟨_, rfl⟩, hW, hsame.mono (by decide) (by decide)⟩⟩
  · exact X7.returnOut hx Bd.returns (hb hby d6_41) hr
  · show Qrm6 Z a1 ap bd w1 u1 h0 n0 _ T7.heap _
    have c9 : Exa Z h7 a1 "com/example/millwright/millwright/jobshop/JobShopSolution" := (c6.wr W7)
    have c10 : Fld Z h7 a1 "com/example/millwright/millwright/jobshop/JobShopSolution" "plan" "Lcom/example/millwright/millwright/jobshop/Plan;" (.ref ap) := (f4.other W7 (Or.inr (slot_ne (Or.inr (hw _ (List.mem_of_getElem? (i := 44) rfl))) (Or.inr (hw _ (List.mem_of_getElem? (i := 46) rfl))) (by decide) (t := (.object "com/example/millwright/millwright/jobshop/Plan")) (t' := .long) (by decide) (by decide))))
    rw [e7]
    exact ⟨rfl, N7, (((Keep.refl h0 [a1]).wr W4 (Or.inl (List.mem_of_getElem? (i := 0) rfl))).wr W7 (Or.inl (List.mem_of_getElem? (i := 0) rfl))), c9, c10, f7⟩
theorem d8_0 : decode prog_37_method_4_code 0 = .ok (.aload_n 0, 1) := by decide +kernel
theorem d8_1 : decode prog_37_method_4_code 1 = .ok (.getfield 28, 3) := by decide +kernel
theorem d8_4 : decode prog_37_method_4_code 4 = .ok (.aload_n 0, 1) := by decide +kernel
theorem d8_5 : decode prog_37_method_4_code 5 = .ok (.getfield 22, 3) := by decide +kernel
theorem d8_8 : decode prog_37_method_4_code 8 = .ok (.invokevirtual 7, 3) := by decide +kernel
theorem d8_11 : decode prog_37_method_4_code 11 = .ok (.lcmp, 1) := by decide +kernel
theorem d8_12 : decode prog_37_method_4_code 12 = .ok (.ifCond .ne 7, 3) := by decide +kernel
theorem d8_15 : decode prog_37_method_4_code 15 = .ok (.iconst 1, 1) := by decide +kernel
theorem d8_16 : decode prog_37_method_4_code 16 = .ok (.goto 4, 3) := by decide +kernel
theorem d8_19 : decode prog_37_method_4_code 19 = .ok (.iconst 0, 1) := by decide +kernel
theorem d8_20 : decode prog_37_method_4_code 20 = .ok (.ireturn, 1) := by decide +kernel
theorem pn_8 : plainName "com/example/millwright/millwright/jobshop/JobShopSolution" = true := by first | (simp [plainName, overriddenIn]; done) | decide +kernel
theorem ef_rm8 (m : MethodId) (x0 : Addr) : entryFrame m #[(.ref x0)] 1 = mkF m 0 #[.val (.ref x0)] [] := by first | (simp [entryFrame, mkF, argsToLocals, Value.category]; done) | rfl
def Qrm8 (Z : State) (a1 : Addr) (ap : Addr) (bd : Int64) (w1 : Int64) (h0 : Heap) (n0 : Nat) (v : Option Value) (h : Heap) (L : List Loc) : Prop := (v = some (.int (own_opt bd w1))) ∧ (Fr n0 L) ∧ (h = h0)
set_option maxRecDepth 65536 in
set_option maxHeartbeats 40000000 in
theorem rm8 (l : Launch) (Z : State) (a0 : Array Value) (hw : ∀ d ∈ tables_1, d.before a0 Z = true) (ws : List Jvm.Cond) (a1 : Addr) (ap : Addr) (bd : Int64) (w1 : Int64) (h0 : Heap) (n0 : Nat) (Z0 : n0 ≤ h0.size) (pr1 : Fld Z h0 a1 "com/example/millwright/millwright/jobshop/JobShopSolution" "plan" "Lcom/example/millwright/millwright/jobshop/Plan;" (.ref ap)) (pr2 : Fld Z h0 a1 "com/example/millwright/millwright/jobshop/JobShopSolution" "bound" "J" (.long bd)) (pr3 : Exa Z h0 ap "com/example/millwright/millwright/jobshop/Plan") (pr4 : Fld Z h0 ap "com/example/millwright/millwright/jobshop/Plan" "makespan" "J" (.long w1)) :
    MetFree l (⟨"com/example/millwright/millwright/jobshop/JobShopSolution", "optimal", "()Z"⟩ : MethodName) (head1 (Jvm.Cond.code (⟨"com/example/millwright/millwright/jobshop/JobShopSolution", "optimal", "()Z"⟩ : MethodName) prog_37_method_4_code 1 (some .boolean) :: ws) ({ frames := 1, cells := 0, slots := 0, locals := 14 } : Room)) (fun a U => a = #[(.ref a1)] ∧ Z.Warmed39 U.vm ∧ U.heap = h0) (fun _ _ _ _ _ => True) (fun _ U o U' => ∃ v L, o = .returned v ∧ Qrm8 Z a1 ap bd w1 h0 n0 v U'.heap L ∧ FrameEnd U o U' L ({ frames := 1, cells := 0, slots := 0, locals := 14 } : Room).cells ({ frames := 1, cells := 0, slots := 0, locals := 14 } : Room).slots) := by
  refine MetFree.of_bodySF (plainFor_of_name pn_8) hisR ?_
  intro p e s m args below meth c s₁ Bd hml0 hP0 hK
  obtain ⟨rfl, hZ, hh⟩ := hP0
  have hx := Bd.exec
  have hby := Bd.bytes
  have hml : c.maxLocals = 1 := hml0
  have hown : s.vm.findClass "com/example/millwright/millwright/jobshop/JobShopSolution" = some m.cls := findClass_of_methodNamed Bd.named
  have hnm := (name_of_methodNamed Bd.named Bd.method).1
  have X0 : Stand p l e ({ frames := 1, cells := 0, slots := 0, locals := 14 } : Room) s m #[(.ref a1)] below meth c s₁ [] 0 0 := Stand.of_body Bd
  have e0 : s₁.heap = h0 := by rw [← hh, Bd.state]; rfl
  have N0 := Fr.nil n0
  suffices own_H : ∀ (P : State → Outcome → Prop), (∀ U o, U.status = .running → Ended U below o → (∃ v L, o = .returned v ∧ Qrm8 Z a1 ap bd w1 h0 n0 v U.heap L ∧ FrameEnd s o U L ({ frames := 1, cells := 0, slots := 0, locals := 14 } : Room).cells ({ frames := 1, cells := 0, slots := 0, locals := 14 } : Room).slots) → P U o) → own_Go p.tables e below P (s₁.setTop (mkF m 0 #[.val (.ref a1)] [])) from own_go (fun _ k => castTop (ef_rm8 m a1) k) (own_H _ (fun U o h1 h2 h3 => ⟨h1, h2, h3⟩))
  intro P hP
  have lt_a1 : @LT.lt Nat _ a1 h0.size := pr1.lt
  have lt_ap : @LT.lt Nat _ ap h0.size := pr3.lt
  refine own_go (st' := s₁.setTop (mkF m 1 #[.val (.ref a1)] [(.ref a1)])) (fun _ k => XS.aloadN X0.here hx rfl (hb hby d8_0) rfl rfl k) ?_
  obtain ⟨T1, X1, e1, st1⟩ := getF X0 hx hZ hown (host := "") (Or.inl (hw _ (List.mem_of_getElem? (i := 45) rfl))) Via.refl e0 pr2 (g := (mkF m 1 #[.val (.ref a1)] [(.ref a1)])) rfl rfl (hb hby d8_1)
  refine own_go (st' := T1.setTop (mkF m 4 #[.val (.ref a1)] [(.long bd)])) (st1) ?_
  refine own_go (st' := T1.setTop (mkF m 5 #[.val (.ref a1)] [(.ref a1), (.long bd)])) (fun _ k => XS.aloadN X1.here hx rfl (hb hby d8_4) rfl rfl k) ?_
  obtain ⟨T2, X2, e2, st2⟩ := getF X1 hx hZ hown (host := "") (Or.inl (hw _ (List.mem_of_getElem? (i := 43) rfl))) Via.refl e1 pr1 (g := (mkF m 5 #[.val (.ref a1)] [(.ref a1), (.long bd)])) rfl rfl (hb hby d8_5)
  refine own_go (st' := T2.setTop (mkF m 8 #[.val (.ref a1)] [(.ref ap), (.long bd)])) (st2) ?_
  obtain ⟨cq3, kq3, q3a, q3b, q3c⟩ := isOf hZ e2 pr3
  obtain ⟨_, _, ⟨T3, LC3, kC3, nC3⟩, -, X3, ⟨Lc3, hQ3, lq3, yq3, zq3⟩, st3⟩ := X2.virtualBack hx (y := (⟨"com/example/millwright/millwright/jobshop/Plan", "makespan", "()J"⟩ : MethodName)) (z := (⟨"com/example/millwright/millwright/jobshop/Plan", "makespan", "()J"⟩ : MethodName)) hown (mvT hZ (hw _ (List.mem_of_getElem? (i := 38) rfl))) (mvT hZ (hw _ (List.mem_of_getElem? (i := 39) rfl))) (notFace_of_selects (args := #[]) (mvT hZ (hw _ (List.mem_of_getElem? (i := 41) rfl)))) (mvT hZ (hw _ (List.mem_of_getElem? (i := 41) rfl))) (mvT hZ (hw _ (List.mem_of_getElem? (i := 40) rfl))) (by decide) (backOf (W := 2) (rm7 l Z a0 hw [] ap w1 h0 n0 (by omega) pr4) hZ (hw _ (List.mem_of_getElem? (i := 42) rfl)) (hw _ (List.mem_of_getElem? (i := 6) rfl)) (by decide) (by decide)) q3a q3c (g := (mkF m 8 #[.val (.ref a1)] [(.ref ap), (.long bd)])) rfl (by rw [hml]; rfl) (Steps.refl _) (argsL := []) (rest := [(.long bd)]) (lenOf pd_1 rfl) rfl (by show 2 * 0 + _ ≤ _; exact Nat.le_of_eq rfl) (hb hby d8_8) (fun _ _ => ⟨rfl, e2, (by decide : 0 + 0 ≤ _), (by decide : 0 + 0 ≤ _)⟩)
  dsimp only [Pt.U, Pt.locs, Pt.cells, Pt.slots] at X3 lq3 yq3 zq3 st3 hQ3
  subst lq3 yq3 zq3
  obtain ⟨rfl, Nq3, eq3⟩ := hQ3
  have N3 := Fr.app N0 Nq3
  refine own_go (st' := T3.setTop (mkF m 11 #[.val (.ref a1)] [(.long w1), (.long bd)])) (fun _ k => st3.trans k) ?_
  refine own_go (st' := T3.setTop (mkF m 12 #[.val (.ref a1)] [(.int (lcmpW bd w1))])) (fun _ k => XS.lcmp X3.here hx rfl (hb hby d8_11) rfl k) ?_
  by_cases hc4 : bd = w1
  · --
    refine own_go (st' := T3.setTop (mkF m 15 #[.val (.ref a1)] [])) (fun _ k => XS.ifNo X3.here hx rfl (hb hby d8_12) rfl ((if0 _ _).trans (teq ((lw_eq bd w1).mpr hc4)).2) k) ?_
    refine own_go (st' := T3.setTop (mkF m 16 #[.val (.ref a1)] [(.int (1 : Int32))])) (fun _ k => XS.iconst X3.here hx rfl (hb hby d8_15) k) ?_
    refine own_go (st' := T3.setTop (mkF m 20 #[.val (.ref a1)] [(.int (1 : Int32))])) (fun _ k => XS.goto X3.here hx rfl (pc0 := 16) (pc' := 20) rfl (hb hby d8_16) (by decide) (by decide) k) ?_
    obtain ⟨fs, hr, hrun, hended, hW, hsame⟩ := X3.leave (v := some (.int (1 : Int32))) (fun h => by rw [Bd.returns] at h; cases h)
    refine ⟨_, _, ?_, hP _ _ hrun hended ⟨_, _, rfl, ?_, ⟨_, rfl⟩, hW, hsame.mono (by decide) (by decide)⟩⟩
    · exact retN X3 hx (t := .boolean) Bd.returns (by simp) (hb hby d8_20) hr
    · show Qrm8 Z a1 ap bd w1 h0 n0 _ T3.heap _
      rw [eq3]
      exact ⟨(by unfold own_opt; rw [if_pos hc4]), N3, rfl⟩
  · --
    refine own_go (st' := T3.setTop (mkF m 19 #[.val (.ref a1)] [])) (fun _ k => XS.ifYes X3.here hx rfl (pc0 := 12) (pc' := 19) rfl (hb hby d8_12) rfl ((if0 _ _).trans (feq (fun q_ => hc4 ((lw_eq bd w1).mp q_))).2) (by decide) (by decide) k) ?_
    refine own_go (st' := T3.setTop (mkF m 20 #[.val (.ref a1)] [(.int (0 : Int32))])) (fun _ k => XS.iconst X3.here hx rfl (hb hby d8_19) k) ?_
    obtain ⟨fs, hr, hrun, hended, hW, hsame⟩ := X3.leave (v := some (.int (0 : Int32))) (fun h => by rw [Bd.returns] at h; cases h)
    refine ⟨_, _, ?_, hP _ _ hrun hended ⟨_, _, rfl, ?_, ⟨_, rfl⟩, hW, hsame.mono (by decide) (by decide)⟩⟩
    · exact retN X3 hx (t := .boolean) Bd.returns (by simp) (hb hby d8_20) hr
    · show Qrm8 Z a1 ap bd w1 h0 n0 _ T3.heap _
      rw [eq3]
      exact ⟨(by unfold own_opt; rw [if_neg hc4]), N3, rfl⟩
theorem d9_0 : decode prog_37_method_3_code 0 = .ok (.aload_n 0, 1) := by decide +kernel
theorem d9_1 : decode prog_37_method_3_code 1 = .ok (.getfield 28, 3) := by decide +kernel
theorem d9_4 : decode prog_37_method_3_code 4 = .ok (.lreturn, 1) := by decide +kernel
theorem pn_9 : plainName "com/example/millwright/millwright/jobshop/JobShopSolution" = true := by first | (simp [plainName, overriddenIn]; done) | decide +kernel
theorem ef_rm9 (m : MethodId) (x0 : Addr) : entryFrame m #[(.ref x0)] 1 = mkF m 0 #[.val (.ref x0)] [] := by first | (simp [entryFrame, mkF, argsToLocals, Value.category]; done) | rfl
def Qrm9 (Z : State) (a1 : Addr) (bd : Int64) (h0 : Heap) (n0 : Nat) (v : Option Value) (h : Heap) (L : List Loc) : Prop := (v = some (.long bd)) ∧ (Fr n0 L) ∧ (h = h0)
set_option maxRecDepth 65536 in
set_option maxHeartbeats 40000000 in
theorem rm9 (l : Launch) (Z : State) (a0 : Array Value) (hw : ∀ d ∈ tables_1, d.before a0 Z = true) (ws : List Jvm.Cond) (a1 : Addr) (bd : Int64) (h0 : Heap) (n0 : Nat) (Z0 : n0 ≤ h0.size) (pr1 : Fld Z h0 a1 "com/example/millwright/millwright/jobshop/JobShopSolution" "bound" "J" (.long bd)) :
    MetFree l (⟨"com/example/millwright/millwright/jobshop/JobShopSolution", "bound", "()J"⟩ : MethodName) (head1 (Jvm.Cond.code (⟨"com/example/millwright/millwright/jobshop/JobShopSolution", "bound", "()J"⟩ : MethodName) prog_37_method_3_code 1 (some .long) :: ws) ({ frames := 0, cells := 0, slots := 0, locals := 0 } : Room)) (fun a U => a = #[(.ref a1)] ∧ Z.Warmed39 U.vm ∧ U.heap = h0) (fun _ _ _ _ _ => True) (fun _ U o U' => ∃ v L, o = .returned v ∧ Qrm9 Z a1 bd h0 n0 v U'.heap L ∧ FrameEnd U o U' L ({ frames := 0, cells := 0, slots := 0, locals := 0 } : Room).cells ({ frames := 0, cells := 0, slots := 0, locals := 0 } : Room).slots) := by
  refine MetFree.of_bodySF (plainFor_of_name pn_9) hisR ?_
  intro p e s m args below meth c s₁ Bd hml0 hP0 hK
  obtain ⟨rfl, hZ, hh⟩ := hP0
  have hx := Bd.exec
  have hby := Bd.bytes
  have hml : c.maxLocals = 1 := hml0
  have hown : s.vm.findClass "com/example/millwright/millwright/jobshop/JobShopSolution" = some m.cls := findClass_of_methodNamed Bd.named
  have hnm := (name_of_methodNamed Bd.named Bd.method).1
  have X0 : Stand p l e ({ frames := 0, cells := 0, slots := 0, locals := 0 } : Room) s m #[(.ref a1)] below meth c s₁ [] 0 0 := Stand.of_body Bd
  have e0 : s₁.heap = h0 := by rw [← hh, Bd.state]; rfl
  have N0 := Fr.nil n0
  suffices own_H : ∀ (P : State → Outcome → Prop), (∀ U o, U.status = .running → Ended U below o → (∃ v L, o = .returned v ∧ Qrm9 Z a1 bd h0 n0 v U.heap L ∧ FrameEnd s o U L ({ frames := 0, cells := 0, slots := 0, locals := 0 } : Room).cells ({ frames := 0, cells := 0, slots := 0, locals := 0 } : Room).slots) → P U o) → own_Go p.tables e below P (s₁.setTop (mkF m 0 #[.val (.ref a1)] [])) from own_go (fun _ k => castTop (ef_rm9 m a1) k) (own_H _ (fun U o h1 h2 h3 => ⟨h1, h2, h3⟩))
  intro P hP
  have lt_a1 : @LT.lt Nat _ a1 h0.size := pr1.lt
  refine own_go (st' := s₁.setTop (mkF m 1 #[.val (.ref a1)] [(.ref a1)])) (fun _ k => XS.aloadN X0.here hx rfl (hb hby d9_0) rfl rfl k) ?_
  obtain ⟨T1, X1, e1, st1⟩ := getF X0 hx hZ hown (host := "") (Or.inl (hw _ (List.mem_of_getElem? (i := 45) rfl))) Via.refl e0 pr1 (g := (mkF m 1 #[.val (.ref a1)] [(.ref a1)])) rfl rfl (hb hby d9_1)
  refine own_go (st' := T1.setTop (mkF m 4 #[.val (.ref a1)] [(.long bd)])) (st1) ?_
  obtain ⟨fs, hr, hrun, hended, hW, hsame⟩ := X1.leave (v := some (.long bd)) (fun h => by rw [Bd.returns] at h; cases h)
  refine ⟨_, _, ?_, hP _ _ hrun hended ⟨_, _, rfl, ?_, ⟨_, rfl⟩, hW, hsame.mono (by decide) (by decide)⟩⟩
  · exact retOut X1 hx Bd.returns rfl (Or.inr (Or.inl ⟨rfl, rfl, _, rfl⟩)) (hb hby d9_4) hr
  · show Qrm9 Z a1 bd h0 n0 _ T1.heap _
    rw [e1]
    exact ⟨rfl, N0, rfl⟩
theorem pd_2 : parseMethodDescriptor "(I)[I" = some ⟨[.int], some (.array .int)⟩ := by decide +kernel
theorem pd_3 : parseMethodDescriptor "(IJJJ)[J" = some ⟨[.int, .long, .long, .long], some (.array .long)⟩ := by decide +kernel
theorem pd_4 : parseMethodDescriptor "([I[J[J)V" = some ⟨[(.array .int), (.array .long), (.array .long)], none⟩ := by decide +kernel
theorem pd_5 : parseMethodDescriptor "(Lcom/example/millwright/millwright/jobshop/Plan;J)V" = some ⟨[(.object "com/example/millwright/millwright/jobshop/Plan"), .long], none⟩ := by decide +kernel
theorem pd_6 : parseMethodDescriptor "()Z" = some ⟨[], some .boolean⟩ := by decide +kernel
theorem pn_0 : plainName "com/example/millwright/millwright/jobshop/JobShopSolutionOptimalPinLaw" = true := by first | (simp [plainName, overriddenIn]; done) | decide +kernel
theorem ef_rm0 (m : MethodId) (x0 : Int64) (x1 : Int64) (x2 : Int64) (x3 : Int64) (x4 : Int32) : entryFrame m #[(.long x0), (.long x1), (.long x2), (.long x3), (.int x4)] maxLocals = mkF m 0 #[.val (.long x0), .second, .val (.long x1), .second, .val (.long x2), .second, .val (.long x3), .second, .val (.int x4), .unset, .unset, .unset, .unset, .unset, .unset, .unset] [] := by first | (simp [entryFrame, mkF, argsToLocals, Value.category, maxLocals]; done) | rfl
def Qrm0 (Z : State) (j0 : Int64) (j1 : Int64) (j2 : Int64) (bb : Int64) (sl : Int32) (h0 : Heap) (n0 : Nat) (v : Option Value) (h : Heap) (L : List Loc) : Prop := v = some (.int 1) ∧ Fr n0 L ∧ True
set_option maxRecDepth 65536 in
set_option maxHeartbeats 40000000 in
theorem rm0 (l : Launch) (Z : State) (a0 : Array Value) (hw : ∀ d ∈ tables_1, d.before a0 Z = true) (ws : List Jvm.Cond) (j0 : Int64) (j1 : Int64) (j2 : Int64) (bb : Int64) (sl : Int32) (h0 : Heap) (n0 : Nat) (Z0 : n0 ≤ h0.size)  :
    MetFree l x (head1 (Jvm.Cond.code x code maxLocals ret :: ws) room_1) (fun a U => a = #[(.long j0), (.long j1), (.long j2), (.long bb), (.int sl)] ∧ Z.Warmed39 U.vm ∧ U.heap = h0) (fun _ _ _ _ _ => True) (fun _ U o U' => ∃ v L, o = .returned v ∧ Qrm0 Z j0 j1 j2 bb sl h0 n0 v U'.heap L ∧ FrameEnd U o U' L 24 128) := by
  refine MetFree.of_bodySF (plainFor_of_name pn_0) hisR ?_
  intro p e s m args below meth c s₁ Bd hml0 hP0 hK
  obtain ⟨rfl, hZ, hh⟩ := hP0
  have hx := Bd.exec
  have hby := Bd.bytes
  have hml : c.maxLocals = 16 := hml0
  have hown : s.vm.findClass "com/example/millwright/millwright/jobshop/JobShopSolutionOptimalPinLaw" = some m.cls := findClass_of_methodNamed Bd.named
  have hnm := (name_of_methodNamed Bd.named Bd.method).1
  have X0 : Stand p l e room_1 s m #[(.long j0), (.long j1), (.long j2), (.long bb), (.int sl)] below meth c s₁ [] 0 0 := Stand.of_body Bd
  have e0 : s₁.heap = h0 := by rw [← hh, Bd.state]; rfl
  have N0 := Fr.nil n0
  suffices own_H : ∀ (P : State → Outcome → Prop), (∀ U o, U.status = .running → Ended U below o → (∃ v L, o = .returned v ∧ Qrm0 Z j0 j1 j2 bb sl h0 n0 v U.heap L ∧ FrameEnd s o U L 24 128) → P U o) → own_Go p.tables e below P (s₁.setTop (mkF m 0 #[.val (.long j0), .second, .val (.long j1), .second, .val (.long j2), .second, .val (.long bb), .second, .val (.int sl), .unset, .unset, .unset, .unset, .unset, .unset, .unset] [])) from own_go (fun _ k => castTop (ef_rm0 m j0 j1 j2 bb sl) k) (own_H _ (fun U o h1 h2 h3 => ⟨h1, h2, h3⟩))
  intro P hP
  refine own_go (st' := s₁.setTop (mkF m 2 #[.val (.long j0), .second, .val (.long j1), .second, .val (.long j2), .second, .val (.long bb), .second, .val (.int sl), .unset, .unset, .unset, .unset, .unset, .unset, .unset] [(.int sl)])) (fun _ k => XS.iload X0.here hx rfl (hb hby at_0) rfl k) ?_
  refine own_go (st' := s₁.setTop (mkF m 3 #[.val (.long j0), .second, .val (.long j1), .second, .val (.long j2), .second, .val (.long bb), .second, .val (.int sl), .unset, .unset, .unset, .unset, .unset, .unset, .unset] [(.int (1 : Int32)), (.int sl)])) (fun _ k => XS.iconst X0.here hx rfl (hb hby at_2) k) ?_
  refine own_go (st' := s₁.setTop (mkF m 4 #[.val (.long j0), .second, .val (.long j1), .second, .val (.long j2), .second, .val (.long bb), .second, .val (.int sl), .unset, .unset, .unset, .unset, .unset, .unset, .unset] [(.int ((sl.toUInt32 >>> ((1 : Int32) &&& 31).toUInt32).toInt32))])) (fun _ k => XS.iushr X0.here hx rfl (hb hby at_3) rfl k) ?_
  refine own_go (st' := s₁.setTop (mkF m 5 #[.val (.long j0), .second, .val (.long j1), .second, .val (.long j2), .second, .val (.long bb), .second, .val (.int sl), .unset, .unset, .unset, .unset, .unset, .unset, .unset] [(.int (3 : Int32)), (.int ((sl.toUInt32 >>> ((1 : Int32) &&& 31).toUInt32).toInt32))])) (fun _ k => XS.iconst X0.here hx rfl (hb hby at_4) k) ?_
  refine own_go (st' := s₁.setTop (mkF m 6 #[.val (.long j0), .second, .val (.long j1), .second, .val (.long j2), .second, .val (.long bb), .second, .val (.int sl), .unset, .unset, .unset, .unset, .unset, .unset, .unset] [(.int (((sl.toUInt32 >>> ((1 : Int32) &&& 31).toUInt32).toInt32) &&& (3 : Int32)))])) (fun _ k => XS.iand X0.here hx rfl (hb hby at_5) rfl k) ?_
  rcases own_and3 (((sl.toUInt32 >>> ((1 : Int32) &&& 31).toUInt32).toInt32)) with hm | hm | hm | hm
  · --
    rw [hm]
    refine own_go (st' := s₁.setTop (mkF m 8 #[.val (.long j0), .second, .val (.long j1), .second, .val (.long j2), .second, .val (.long bb), .second, .val (.int sl), .val (.int (0 : Int32)), .unset, .unset, .unset, .unset, .unset, .unset] [])) (fun _ k => XS.istore X0.here hx rfl (hb hby at_6) rfl (l' := #[.val (.long j0), .second, .val (.long j1), .second, .val (.long j2), .second, .val (.long bb), .second, .val (.int sl), .val (.int (0 : Int32)), .unset, .unset, .unset, .unset, .unset, .unset]) rfl k) ?_
    refine own_go (st' := s₁.setTop (mkF m 9 #[.val (.long j0), .second, .val (.long j1), .second, .val (.long j2), .second, .val (.long bb), .second, .val (.int sl), .val (.int (0 : Int32)), .unset, .unset, .unset, .unset, .unset, .unset] [(.long (0 : Int64))])) (fun _ k => XS.lconst X0.here hx rfl (hb hby at_8) k) ?_
    refine own_go (st' := s₁.setTop (mkF m 11 #[.val (.long j0), .second, .val (.long j1), .second, .val (.long j2), .second, .val (.long bb), .second, .val (.int sl), .val (.int (0 : Int32)), .val (.long (0 : Int64)), .second, .unset, .unset, .unset, .unset] [])) (fun _ k => XS.lstore X0.here hx rfl (hb hby at_9) rfl (l' := #[.val (.long j0), .second, .val (.long j1), .second, .val (.long j2), .second, .val (.long bb), .second, .val (.int sl), .val (.int (0 : Int32)), .val (.long (0 : Int64)), .second, .unset, .unset, .unset, .unset]) rfl k) ?_
    refine own_go (st' := s₁.setTop (mkF m 13 #[.val (.long j0), .second, .val (.long j1), .second, .val (.long j2), .second, .val (.long bb), .second, .val (.int sl), .val (.int (0 : Int32)), .val (.long (0 : Int64)), .second, .unset, .unset, .unset, .unset] [(.int (0 : Int32))])) (fun _ k => XS.iload X0.here hx rfl (hb hby at_11) rfl k) ?_
    refine own_go (st' := s₁.setTop (mkF m 14 #[.val (.long j0), .second, .val (.long j1), .second, .val (.long j2), .second, .val (.long bb), .second, .val (.int sl), .val (.int (0 : Int32)), .val (.long (0 : Int64)), .second, .unset, .unset, .unset, .unset] [(.int (1 : Int32)), (.int (0 : Int32))])) (fun _ k => XS.iconst X0.here hx rfl (hb hby at_13) k) ?_
    have hc1 : (0 : Int32) < (1 : Int32) := by decide
    refine own_go (st' := s₁.setTop (mkF m 25 #[.val (.long j0), .second, .val (.long j1), .second, .val (.long j2), .second, .val (.long bb), .second, .val (.int sl), .val (.int (0 : Int32)), .val (.long (0 : Int64)), .second, .unset, .unset, .unset, .unset] [])) (fun _ k => XS.icmpYes X0.here hx rfl (pc0 := 14) (pc' := 25) rfl (hb hby at_14) rfl (tlt hc1).1 (by decide) (by decide) k) ?_
    refine own_go (st' := s₁.setTop (mkF m 27 #[.val (.long j0), .second, .val (.long j1), .second, .val (.long j2), .second, .val (.long bb), .second, .val (.int sl), .val (.int (0 : Int32)), .val (.long (0 : Int64)), .second, .unset, .unset, .unset, .unset] [(.int (0 : Int32))])) (fun _ k => XS.iload X0.here hx rfl (hb hby at_25) rfl k) ?_
    refine own_go (st' := s₁.setTop (mkF m 28 #[.val (.long j0), .second, .val (.long j1), .second, .val (.long j2), .second, .val (.long bb), .second, .val (.int sl), .val (.int (0 : Int32)), .val (.long (0 : Int64)), .second, .unset, .unset, .unset, .unset] [(.int (2 : Int32)), (.int (0 : Int32))])) (fun _ k => XS.iconst X0.here hx rfl (hb hby at_27) k) ?_
    have hc2 : (0 : Int32) < (2 : Int32) := by decide
    refine own_go (st' := s₁.setTop (mkF m 39 #[.val (.long j0), .second, .val (.long j1), .second, .val (.long j2), .second, .val (.long bb), .second, .val (.int sl), .val (.int (0 : Int32)), .val (.long (0 : Int64)), .second, .unset, .unset, .unset, .unset] [])) (fun _ k => XS.icmpYes X0.here hx rfl (pc0 := 28) (pc' := 39) rfl (hb hby at_28) rfl (tlt hc2).1 (by decide) (by decide) k) ?_
    refine own_go (st' := s₁.setTop (mkF m 41 #[.val (.long j0), .second, .val (.long j1), .second, .val (.long j2), .second, .val (.long bb), .second, .val (.int sl), .val (.int (0 : Int32)), .val (.long (0 : Int64)), .second, .unset, .unset, .unset, .unset] [(.int (0 : Int32))])) (fun _ k => XS.iload X0.here hx rfl (hb hby at_39) rfl k) ?_
    refine own_go (st' := s₁.setTop (mkF m 42 #[.val (.long j0), .second, .val (.long j1), .second, .val (.long j2), .second, .val (.long bb), .second, .val (.int sl), .val (.int (0 : Int32)), .val (.long (0 : Int64)), .second, .unset, .unset, .unset, .unset] [(.int (3 : Int32)), (.int (0 : Int32))])) (fun _ k => XS.iconst X0.here hx rfl (hb hby at_41) k) ?_
    have hc3 : (0 : Int32) < (3 : Int32) := by decide
    refine own_go (st' := s₁.setTop (mkF m 54 #[.val (.long j0), .second, .val (.long j1), .second, .val (.long j2), .second, .val (.long bb), .second, .val (.int sl), .val (.int (0 : Int32)), .val (.long (0 : Int64)), .second, .unset, .unset, .unset, .unset] [])) (fun _ k => XS.icmpYes X0.here hx rfl (pc0 := 42) (pc' := 54) rfl (hb hby at_42) rfl (tlt hc3).1 (by decide) (by decide) k) ?_
    have J73_4 : ∀ (Tj4 : State) (lj4 : List Loc) (bd : Int64) (Xj4 : Stand p l e room_1 s m #[(.long j0), (.long j1), (.long j2), (.long bb), (.int sl)] below meth c Tj4 lj4 0 0) (ej4 : Tj4.heap = h0) (Nj4 : Fr n0 lj4) (hbd : ¬ (0 : Int64) < bd), own_Go p.tables e below P (Tj4.setTop (mkF m 73 #[.val (.long j0), .second, .val (.long j1), .second, .val (.long j2), .second, .val (.long bb), .second, .val (.int sl), .val (.int (0 : Int32)), .val (.long (0 : Int64)), .second, .unset, .unset, .unset, .unset] [(.long bd)])) := by
      intro Tj4 lj4 bd Xj4 ej4 Nj4 hbd
      refine own_go (st' := Tj4.setTop (mkF m 75 #[.val (.long j0), .second, .val (.long j1), .second, .val (.long j2), .second, .val (.long bb), .second, .val (.int sl), .val (.int (0 : Int32)), .val (.long (0 : Int64)), .second, .val (.long bd), .second, .unset, .unset] [])) (fun _ k => XS.lstore Xj4.here hx rfl (hb hby at_73) rfl (l' := #[.val (.long j0), .second, .val (.long j1), .second, .val (.long j2), .second, .val (.long bb), .second, .val (.int sl), .val (.int (0 : Int32)), .val (.long (0 : Int64)), .second, .val (.long bd), .second, .unset, .unset]) rfl k) ?_
      obtain ⟨T5, h5, X5, e5, E5, A5, D5, -, st5⟩ := newO Xj4 hx hZ hown (hw _ (List.mem_of_getElem? (i := 4) rfl)) (hw _ (List.mem_of_getElem? (i := 5) rfl)) (hw _ (List.mem_of_getElem? (i := 6) rfl)) ej4 (g := (mkF m 75 #[.val (.long j0), .second, .val (.long j1), .second, .val (.long j2), .second, .val (.long bb), .second, .val (.int sl), .val (.int (0 : Int32)), .val (.long (0 : Int64)), .second, .val (.long bd), .second, .unset, .unset] [])) rfl (hb hby at_75) (by decide) (by decide)
      obtain ⟨b5, g5⟩ : ∃ z, z = h0.size := ⟨_, rfl⟩
      rw [← g5] at A5 D5 st5
      have sz5 : h0.size ≤ h5.size := E5.1
      have lt5 : @LT.lt Nat _ b5 h5.size := A5.lt
      have f6 : Fld Z h5 b5 "com/example/millwright/millwright/jobshop/Plan" "machine" "[I" .null := D5 (Or.inr (hw _ (List.mem_of_getElem? (i := 23) rfl))) (ty := (.array .int)) (by decide)
      have f7 : Fld Z h5 b5 "com/example/millwright/millwright/jobshop/Plan" "start" "[J" .null := D5 (Or.inr (hw _ (List.mem_of_getElem? (i := 25) rfl))) (ty := (.array .long)) (by decide)
      have f8 : Fld Z h5 b5 "com/example/millwright/millwright/jobshop/Plan" "end" "[J" .null := D5 (Or.inr (hw _ (List.mem_of_getElem? (i := 27) rfl))) (ty := (.array .long)) (by decide)
      have f9 : Fld Z h5 b5 "com/example/millwright/millwright/jobshop/Plan" "makespan" "J" (.long (0 : Int64)) := D5 (Or.inr (hw _ (List.mem_of_getElem? (i := 30) rfl))) (ty := .long) (by decide)
      refine own_go (st' := T5.setTop (mkF m 78 #[.val (.long j0), .second, .val (.long j1), .second, .val (.long j2), .second, .val (.long bb), .second, .val (.int sl), .val (.int (0 : Int32)), .val (.long (0 : Int64)), .second, .val (.long bd), .second, .unset, .unset] [(.ref b5)])) (st5) ?_
      refine own_go (st' := T5.setTop (mkF m 79 #[.val (.long j0), .second, .val (.long j1), .second, .val (.long j2), .second, .val (.long bb), .second, .val (.int sl), .val (.int (0 : Int32)), .val (.long (0 : Int64)), .second, .val (.long bd), .second, .unset, .unset] [(.ref b5), (.ref b5)])) (fun _ k => XS.dup X5.here hx rfl (hb hby at_78) rfl rfl k) ?_
      refine own_go (st' := T5.setTop (mkF m 81 #[.val (.long j0), .second, .val (.long j1), .second, .val (.long j2), .second, .val (.long bb), .second, .val (.int sl), .val (.int (0 : Int32)), .val (.long (0 : Int64)), .second, .val (.long bd), .second, .unset, .unset] [(.int (0 : Int32)), (.ref b5), (.ref b5)])) (fun _ k => XS.iload X5.here hx rfl (hb hby at_79) rfl k) ?_
      obtain ⟨_, _, ⟨T10, LC10, kC10, nC10⟩, -, X10, ⟨Lc10, hQ10, lq10, yq10, zq10⟩, st10⟩ := Jvm.LawKit.callS X5 hx (y := (⟨"com/example/millwright/millwright/jobshop/JobShopSolutionOptimalPinLaw", "machines", "(I)[I"⟩ : MethodName)) hown (mvT hZ (hw _ (List.mem_of_getElem? (i := 7) rfl))) (mvT hZ (hw _ (List.mem_of_getElem? (i := 8) rfl))) (mvT hZ (hw _ (List.mem_of_getElem? (i := 9) rfl))) (mvT hZ (hw _ (List.mem_of_getElem? (i := 10) rfl))) (by decide) (backOf (W := 2) (rm2_0 l Z a0 hw []  h5 n0 (by omega) ) hZ (hw _ (List.mem_of_getElem? (i := 10) rfl)) (hw _ (List.mem_of_getElem? (i := 9) rfl)) (by decide) (by decide)) (g := (mkF m 81 #[.val (.long j0), .second, .val (.long j1), .second, .val (.long j2), .second, .val (.long bb), .second, .val (.int sl), .val (.int (0 : Int32)), .val (.long (0 : Int64)), .second, .val (.long bd), .second, .unset, .unset] [(.int (0 : Int32)), (.ref b5), (.ref b5)])) rfl (by rw [hml]; rfl) (argsL := [(.int (0 : Int32))]) (rest := [(.ref b5), (.ref b5)]) (lenOf pd_2 rfl) rfl (by show 2 * 0 + _ ≤ _; exact Nat.le_of_eq rfl) (hb hby at_81) (fun _ _ => ⟨rfl, e5, (by decide : 1 + 1 ≤ _), (by decide : 4 + 0 ≤ _)⟩)
      dsimp only [Pt.U, Pt.locs, Pt.cells, Pt.slots] at X10 lq10 yq10 zq10 st10 hQ10
      subst lq10 yq10 zq10
      obtain ⟨h10, e10⟩ : ∃ z, T10.heap = z := ⟨_, rfl⟩
      rw [e10] at hQ10
      obtain ⟨r_10, kr_10, rfl, Nq10, K10, g10_0, g10_1⟩ := hQ10
      have sz10 : h5.size ≤ h10.size := K10.1
      have N10 := Fr.app Nj4 Nq10
      have lt10_1 : @LT.lt Nat _ r_10 h10.size := g10_0.lt
      refine own_go (st' := T10.setTop (mkF m 84 #[.val (.long j0), .second, .val (.long j1), .second, .val (.long j2), .second, .val (.long bb), .second, .val (.int sl), .val (.int (0 : Int32)), .val (.long (0 : Int64)), .second, .val (.long bd), .second, .unset, .unset] [(.ref r_10), (.ref b5), (.ref b5)])) (fun t k => st10 t k) ?_
      refine own_go (st' := T10.setTop (mkF m 86 #[.val (.long j0), .second, .val (.long j1), .second, .val (.long j2), .second, .val (.long bb), .second, .val (.int sl), .val (.int (0 : Int32)), .val (.long (0 : Int64)), .second, .val (.long bd), .second, .unset, .unset] [(.int (0 : Int32)), (.ref r_10), (.ref b5), (.ref b5)])) (fun _ k => XS.iload X10.here hx rfl (hb hby at_84) rfl k) ?_
      refine own_go (st' := T10.setTop (mkF m 87 #[.val (.long j0), .second, .val (.long j1), .second, .val (.long j2), .second, .val (.long bb), .second, .val (.int sl), .val (.int (0 : Int32)), .val (.long (0 : Int64)), .second, .val (.long bd), .second, .unset, .unset] [(.long (0 : Int64)), (.int (0 : Int32)), (.ref r_10), (.ref b5), (.ref b5)])) (fun _ k => XS.lconst X10.here hx rfl (hb hby at_86) k) ?_
      refine own_go (st' := T10.setTop (mkF m 88 #[.val (.long j0), .second, .val (.long j1), .second, .val (.long j2), .second, .val (.long bb), .second, .val (.int sl), .val (.int (0 : Int32)), .val (.long (0 : Int64)), .second, .val (.long bd), .second, .unset, .unset] [(.long (0 : Int64)), (.long (0 : Int64)), (.int (0 : Int32)), (.ref r_10), (.ref b5), (.ref b5)])) (fun _ k => XS.lconst X10.here hx rfl (hb hby at_87) k) ?_
      refine own_go (st' := T10.setTop (mkF m 89 #[.val (.long j0), .second, .val (.long j1), .second, .val (.long j2), .second, .val (.long bb), .second, .val (.int sl), .val (.int (0 : Int32)), .val (.long (0 : Int64)), .second, .val (.long bd), .second, .unset, .unset] [(.long (0 : Int64)), (.long (0 : Int64)), (.long (0 : Int64)), (.int (0 : Int32)), (.ref r_10), (.ref b5), (.ref b5)])) (fun _ k => XS.lconst X10.here hx rfl (hb hby at_88) k) ?_
      obtain ⟨_, _, ⟨T11, LC11, kC11, nC11⟩, -, X11, ⟨Lc11, hQ11, lq11, yq11, zq11⟩, st11⟩ := Jvm.LawKit.callS X10 hx (y := (⟨"com/example/millwright/millwright/jobshop/JobShopSolutionOptimalPinLaw", "longs", "(IJJJ)[J"⟩ : MethodName)) hown (mvT hZ (hw _ (List.mem_of_getElem? (i := 12) rfl))) (mvT hZ (hw _ (List.mem_of_getElem? (i := 13) rfl))) (mvT hZ (hw _ (List.mem_of_getElem? (i := 9) rfl))) (mvT hZ (hw _ (List.mem_of_getElem? (i := 14) rfl))) (by decide) (backOf (W := 3) (rm3_0 l Z a0 hw [] (0 : Int64) (0 : Int64) (0 : Int64) h10 n0 (by omega) ) hZ (hw _ (List.mem_of_getElem? (i := 14) rfl)) (hw _ (List.mem_of_getElem? (i := 9) rfl)) (by decide) (by decide)) (g := (mkF m 89 #[.val (.long j0), .second, .val (.long j1), .second, .val (.long j2), .second, .val (.long bb), .second, .val (.int sl), .val (.int (0 : Int32)), .val (.long (0 : Int64)), .second, .val (.long bd), .second, .unset, .unset] [(.long (0 : Int64)), (.long (0 : Int64)), (.long (0 : Int64)), (.int (0 : Int32)), (.ref r_10), (.ref b5), (.ref b5)])) rfl (by rw [hml]; rfl) (argsL := [(.int (0 : Int32)), (.long (0 : Int64)), (.long (0 : Int64)), (.long (0 : Int64))]) (rest := [(.ref r_10), (.ref b5), (.ref b5)]) (lenOf pd_3 rfl) rfl (by show 2 * 0 + _ ≤ _; exact Nat.le_of_eq rfl) (hb hby at_89) (fun _ _ => ⟨rfl, e10, (by decide : 2 + 1 ≤ _), (by decide : 4 + 0 ≤ _)⟩)
      dsimp only [Pt.U, Pt.locs, Pt.cells, Pt.slots] at X11 lq11 yq11 zq11 st11 hQ11
      subst lq11 yq11 zq11
      obtain ⟨h11, e11⟩ : ∃ z, T11.heap = z := ⟨_, rfl⟩
      rw [e11] at hQ11
      obtain ⟨r_11, kr_11, rfl, Nq11, K11, g11_0, g11_1⟩ := hQ11
      have sz11 : h10.size ≤ h11.size := K11.1
      have N11 := Fr.app N10 Nq11
      have lt11_1 : @LT.lt Nat _ r_11 h11.size := g11_0.lt
      refine own_go (st' := T11.setTop (mkF m 92 #[.val (.long j0), .second, .val (.long j1), .second, .val (.long j2), .second, .val (.long bb), .second, .val (.int sl), .val (.int (0 : Int32)), .val (.long (0 : Int64)), .second, .val (.long bd), .second, .unset, .unset] [(.ref r_11), (.ref r_10), (.ref b5), (.ref b5)])) (fun t k => st11 t k) ?_
      refine own_go (st' := T11.setTop (mkF m 94 #[.val (.long j0), .second, .val (.long j1), .second, .val (.long j2), .second, .val (.long bb), .second, .val (.int sl), .val (.int (0 : Int32)), .val (.long (0 : Int64)), .second, .val (.long bd), .second, .unset, .unset] [(.int (0 : Int32)), (.ref r_11), (.ref r_10), (.ref b5), (.ref b5)])) (fun _ k => XS.iload X11.here hx rfl (hb hby at_92) rfl k) ?_
      refine own_go (st' := T11.setTop (mkF m 95 #[.val (.long j0), .second, .val (.long j1), .second, .val (.long j2), .second, .val (.long bb), .second, .val (.int sl), .val (.int (0 : Int32)), .val (.long (0 : Int64)), .second, .val (.long bd), .second, .unset, .unset] [(.long j0), (.int (0 : Int32)), (.ref r_11), (.ref r_10), (.ref b5), (.ref b5)])) (fun _ k => XS.lloadN X11.here hx rfl (hb hby at_94) rfl k) ?_
      refine own_go (st' := T11.setTop (mkF m 96 #[.val (.long j0), .second, .val (.long j1), .second, .val (.long j2), .second, .val (.long bb), .second, .val (.int sl), .val (.int (0 : Int32)), .val (.long (0 : Int64)), .second, .val (.long bd), .second, .unset, .unset] [(.long j1), (.long j0), (.int (0 : Int32)), (.ref r_11), (.ref r_10), (.ref b5), (.ref b5)])) (fun _ k => XS.lloadN X11.here hx rfl (hb hby at_95) rfl k) ?_
      refine own_go (st' := T11.setTop (mkF m 98 #[.val (.long j0), .second, .val (.long j1), .second, .val (.long j2), .second, .val (.long bb), .second, .val (.int sl), .val (.int (0 : Int32)), .val (.long (0 : Int64)), .second, .val (.long bd), .second, .unset, .unset] [(.long j2), (.long j1), (.long j0), (.int (0 : Int32)), (.ref r_11), (.ref r_10), (.ref b5), (.ref b5)])) (fun _ k => XS.lload X11.here hx rfl (hb hby at_96) rfl k) ?_
      obtain ⟨_, _, ⟨T12, LC12, kC12, nC12⟩, -, X12, ⟨Lc12, hQ12, lq12, yq12, zq12⟩, st12⟩ := Jvm.LawKit.callS X11 hx (y := (⟨"com/example/millwright/millwright/jobshop/JobShopSolutionOptimalPinLaw", "longs", "(IJJJ)[J"⟩ : MethodName)) hown (mvT hZ (hw _ (List.mem_of_getElem? (i := 12) rfl))) (mvT hZ (hw _ (List.mem_of_getElem? (i := 13) rfl))) (mvT hZ (hw _ (List.mem_of_getElem? (i := 9) rfl))) (mvT hZ (hw _ (List.mem_of_getElem? (i := 14) rfl))) (by decide) (backOf (W := 4) (rm3_0 l Z a0 hw [] j0 j1 j2 h11 n0 (by omega) ) hZ (hw _ (List.mem_of_getElem? (i := 14) rfl)) (hw _ (List.mem_of_getElem? (i := 9) rfl)) (by decide) (by decide)) (g := (mkF m 98 #[.val (.long j0), .second, .val (.long j1), .second, .val (.long j2), .second, .val (.long bb), .second, .val (.int sl), .val (.int (0 : Int32)), .val (.long (0 : Int64)), .second, .val (.long bd), .second, .unset, .unset] [(.long j2), (.long j1), (.long j0), (.int (0 : Int32)), (.ref r_11), (.ref r_10), (.ref b5), (.ref b5)])) rfl (by rw [hml]; rfl) (argsL := [(.int (0 : Int32)), (.long j0), (.long j1), (.long j2)]) (rest := [(.ref r_11), (.ref r_10), (.ref b5), (.ref b5)]) (lenOf pd_3 rfl) rfl (by show 2 * 0 + _ ≤ _; exact Nat.le_of_eq rfl) (hb hby at_98) (fun _ _ => ⟨rfl, e11, (by decide : 3 + 1 ≤ _), (by decide : 4 + 0 ≤ _)⟩)
      dsimp only [Pt.U, Pt.locs, Pt.cells, Pt.slots] at X12 lq12 yq12 zq12 st12 hQ12
      subst lq12 yq12 zq12
      obtain ⟨h12, e12⟩ : ∃ z, T12.heap = z := ⟨_, rfl⟩
      rw [e12] at hQ12
      obtain ⟨r_12, kr_12, rfl, Nq12, K12, g12_0, g12_1⟩ := hQ12
      have sz12 : h11.size ≤ h12.size := K12.1
      have N12 := Fr.app N11 Nq12
      have lt12_1 : @LT.lt Nat _ r_12 h12.size := g12_0.lt
      refine own_go (st' := T12.setTop (mkF m 101 #[.val (.long j0), .second, .val (.long j1), .second, .val (.long j2), .second, .val (.long bb), .second, .val (.int sl), .val (.int (0 : Int32)), .val (.long (0 : Int64)), .second, .val (.long bd), .second, .unset, .unset] [(.ref r_12), (.ref r_11), (.ref r_10), (.ref b5), (.ref b5)])) (fun t k => st12 t k) ?_
      have c14 : Exa Z h12 b5 "com/example/millwright/millwright/jobshop/Plan" := (((A5.keep K10).keep K11).keep K12)
      have c15 : Fld Z h12 b5 "com/example/millwright/millwright/jobshop/Plan" "machine" "[I" .null := (((f6.keep K10 nin0).keep K11 nin0).keep K12 nin0)
      have c16 : Fld Z h12 b5 "com/example/millwright/millwright/jobshop/Plan" "start" "[J" .null := (((f7.keep K10 nin0).keep K11 nin0).keep K12 nin0)
      have c17 : Fld Z h12 b5 "com/example/millwright/millwright/jobshop/Plan" "end" "[J" .null := (((f8.keep K10 nin0).keep K11 nin0).keep K12 nin0)
      have c18 : Fld Z h12 b5 "com/example/millwright/millwright/jobshop/Plan" "makespan" "J" (.long (0 : Int64)) := (((f9.keep K10 nin0).keep K11 nin0).keep K12 nin0)
      obtain ⟨_, _, ⟨T13, LC13, kC13, nC13⟩, -, X13, ⟨Lc13, hQ13, lq13, yq13, zq13⟩, st13⟩ := X12.specialBack hx (y := (⟨"com/example/millwright/millwright/jobshop/Plan", "<init>", "([I[J[J)V"⟩ : MethodName)) rfl hown (mvT hZ (hw _ (List.mem_of_getElem? (i := 16) rfl))) (mvT hZ (hw _ (List.mem_of_getElem? (i := 17) rfl))) (mvT hZ (hw _ (List.mem_of_getElem? (i := 18) rfl))) (by decide) (backOf (W := 1) (rm4_0 l Z a0 hw [] b5 r_10 r_11 r_12 kr_12 (0 : Int64) h12 n0 (by omega) c14 c15 c16 c17 c18 g12_0 (by omega) (by first | assumption | exact Ne.symm (by assumption) | (apply Nat.ne_of_lt; omega) | (apply Nat.ne_of_gt; omega))) hZ (hw _ (List.mem_of_getElem? (i := 18) rfl)) (hw _ (List.mem_of_getElem? (i := 6) rfl)) (by decide) (by decide)) (g := (mkF m 101 #[.val (.long j0), .second, .val (.long j1), .second, .val (.long j2), .second, .val (.long bb), .second, .val (.int sl), .val (.int (0 : Int32)), .val (.long (0 : Int64)), .second, .val (.long bd), .second, .unset, .unset] [(.ref r_12), (.ref r_11), (.ref r_10), (.ref b5), (.ref b5)])) rfl (by rw [hml]; rfl) (Steps.refl _) (a := b5) (argsL := [(.ref r_10), (.ref r_11), (.ref r_12)]) (rest := [(.ref b5)]) (lenOf pd_4 rfl) rfl (by show 2 * 0 + _ ≤ _; exact Nat.le_of_eq rfl) (hb hby at_101) (fun _ _ => ⟨rfl, e12, (by decide : 4 + 0 ≤ _), (by decide : 4 + 0 ≤ _)⟩)
      dsimp only [Pt.U, Pt.locs, Pt.cells, Pt.slots] at X13 lq13 yq13 zq13 st13 hQ13
      subst lq13 yq13 zq13
      obtain ⟨h13, e13⟩ : ∃ z, T13.heap = z := ⟨_, rfl⟩
      rw [e13] at hQ13
      obtain ⟨rfl, Nq13, K13, g13_0, g13_1⟩ := hQ13
      have sz13 : h12.size ≤ h13.size := K13.1
      have N13 := Fr.app N12 Nq13
      have lt13_1 : @LT.lt Nat _ b5 h13.size := g13_0.lt
      refine own_go (st' := T13.setTop (mkF m 104 #[.val (.long j0), .second, .val (.long j1), .second, .val (.long j2), .second, .val (.long bb), .second, .val (.int sl), .val (.int (0 : Int32)), .val (.long (0 : Int64)), .second, .val (.long bd), .second, .unset, .unset] [(.ref b5)])) (fun _ k => st13.trans k) ?_
      refine own_go (st' := T13.setTop (mkF m 106 #[.val (.long j0), .second, .val (.long j1), .second, .val (.long j2), .second, .val (.long bb), .second, .val (.int sl), .val (.int (0 : Int32)), .val (.long (0 : Int64)), .second, .val (.long bd), .second, .val (.ref b5), .unset] [])) (fun _ k => XS.astore X13.here hx rfl (hb hby at_104) rfl rfl (l' := #[.val (.long j0), .second, .val (.long j1), .second, .val (.long j2), .second, .val (.long bb), .second, .val (.int sl), .val (.int (0 : Int32)), .val (.long (0 : Int64)), .second, .val (.long bd), .second, .val (.ref b5), .unset]) rfl k) ?_
      obtain ⟨T19, h19, X19, e19, E19, A19, D19, -, st19⟩ := newO X13 hx hZ hown (hw _ (List.mem_of_getElem? (i := 31) rfl)) (hw _ (List.mem_of_getElem? (i := 32) rfl)) (hw _ (List.mem_of_getElem? (i := 33) rfl)) e13 (g := (mkF m 106 #[.val (.long j0), .second, .val (.long j1), .second, .val (.long j2), .second, .val (.long bb), .second, .val (.int sl), .val (.int (0 : Int32)), .val (.long (0 : Int64)), .second, .val (.long bd), .second, .val (.ref b5), .unset] [])) rfl (hb hby at_106) (by decide) (by decide)
      obtain ⟨b19, g19⟩ : ∃ z, z = h13.size := ⟨_, rfl⟩
      rw [← g19] at A19 D19 st19
      have sz19 : h13.size ≤ h19.size := E19.1
      have lt19 : @LT.lt Nat _ b19 h19.size := A19.lt
      have f20 : Fld Z h19 b19 "com/example/millwright/millwright/jobshop/JobShopSolution" "plan" "Lcom/example/millwright/millwright/jobshop/Plan;" .null := D19 (Or.inr (hw _ (List.mem_of_getElem? (i := 44) rfl))) (ty := (.object "com/example/millwright/millwright/jobshop/Plan")) (by decide)
      have f21 : Fld Z h19 b19 "com/example/millwright/millwright/jobshop/JobShopSolution" "bound" "J" (.long (0 : Int64)) := D19 (Or.inr (hw _ (List.mem_of_getElem? (i := 46) rfl))) (ty := .long) (by decide)
      refine own_go (st' := T19.setTop (mkF m 109 #[.val (.long j0), .second, .val (.long j1), .second, .val (.long j2), .second, .val (.long bb), .second, .val (.int sl), .val (.int (0 : Int32)), .val (.long (0 : Int64)), .second, .val (.long bd), .second, .val (.ref b5), .unset] [(.ref b19)])) (st19) ?_
      refine own_go (st' := T19.setTop (mkF m 110 #[.val (.long j0), .second, .val (.long j1), .second, .val (.long j2), .second, .val (.long bb), .second, .val (.int sl), .val (.int (0 : Int32)), .val (.long (0 : Int64)), .second, .val (.long bd), .second, .val (.ref b5), .unset] [(.ref b19), (.ref b19)])) (fun _ k => XS.dup X19.here hx rfl (hb hby at_109) rfl rfl k) ?_
      refine own_go (st' := T19.setTop (mkF m 112 #[.val (.long j0), .second, .val (.long j1), .second, .val (.long j2), .second, .val (.long bb), .second, .val (.int sl), .val (.int (0 : Int32)), .val (.long (0 : Int64)), .second, .val (.long bd), .second, .val (.ref b5), .unset] [(.ref b5), (.ref b19), (.ref b19)])) (fun _ k => XS.aload X19.here hx rfl (hb hby at_110) rfl rfl k) ?_
      refine own_go (st' := T19.setTop (mkF m 114 #[.val (.long j0), .second, .val (.long j1), .second, .val (.long j2), .second, .val (.long bb), .second, .val (.int sl), .val (.int (0 : Int32)), .val (.long (0 : Int64)), .second, .val (.long bd), .second, .val (.ref b5), .unset] [(.long bd), (.ref b5), (.ref b19), (.ref b19)])) (fun _ k => XS.lload X19.here hx rfl (hb hby at_112) rfl k) ?_
      have c23 : Exa Z h19 b5 "com/example/millwright/millwright/jobshop/Plan" := (g13_0.ext E19)
      have c24 : Fld Z h19 b5 "com/example/millwright/millwright/jobshop/Plan" "makespan" "J" (.long (0 : Int64)) := (g13_1.ext E19)
      obtain ⟨_, _, ⟨T22, LC22, kC22, nC22⟩, -, X22, ⟨Lc22, hQ22, lq22, yq22, zq22⟩, st22⟩ := X19.specialBack hx (y := (⟨"com/example/millwright/millwright/jobshop/JobShopSolution", "<init>", "(Lcom/example/millwright/millwright/jobshop/Plan;J)V"⟩ : MethodName)) rfl hown (mvT hZ (hw _ (List.mem_of_getElem? (i := 34) rfl))) (mvT hZ (hw _ (List.mem_of_getElem? (i := 35) rfl))) (mvT hZ (hw _ (List.mem_of_getElem? (i := 36) rfl))) (by decide) (backOf (W := 1) (rm6 l Z a0 hw [] b19 b5 bd (0 : Int64) (0 : Int64) h19 n0 (by omega) A19 f20 f21 c23 c24 (by omega) (by first | assumption | exact Ne.symm (by assumption) | (apply Nat.ne_of_lt; omega) | (apply Nat.ne_of_gt; omega)) hbd) hZ (hw _ (List.mem_of_getElem? (i := 36) rfl)) (hw _ (List.mem_of_getElem? (i := 33) rfl)) (by decide) (by decide)) (g := (mkF m 114 #[.val (.long j0), .second, .val (.long j1), .second, .val (.long j2), .second, .val (.long bb), .second, .val (.int sl), .val (.int (0 : Int32)), .val (.long (0 : Int64)), .second, .val (.long bd), .second, .val (.ref b5), .unset] [(.long bd), (.ref b5), (.ref b19), (.ref b19)])) rfl (by rw [hml]; rfl) (Steps.refl _) (a := b19) (argsL := [(.ref b5), (.long bd)]) (rest := [(.ref b19)]) (lenOf pd_5 rfl) rfl (by show 2 * 0 + _ ≤ _; exact Nat.le_of_eq rfl) (hb hby at_114) (fun _ _ => ⟨rfl, e19, (by decide : 5 + 0 ≤ _), (by decide : 6 + 0 ≤ _)⟩)
      dsimp only [Pt.U, Pt.locs, Pt.cells, Pt.slots] at X22 lq22 yq22 zq22 st22 hQ22
      subst lq22 yq22 zq22
      obtain ⟨h22, e22⟩ : ∃ z, T22.heap = z := ⟨_, rfl⟩
      rw [e22] at hQ22
      obtain ⟨rfl, Nq22, K22, g22_0, g22_1, g22_2⟩ := hQ22
      have sz22 : h19.size ≤ h22.size := K22.1
      have N22 := Fr.app N13 Nq22
      have lt22_1 : @LT.lt Nat _ b19 h22.size := g22_0.lt
      refine own_go (st' := T22.setTop (mkF m 117 #[.val (.long j0), .second, .val (.long j1), .second, .val (.long j2), .second, .val (.long bb), .second, .val (.int sl), .val (.int (0 : Int32)), .val (.long (0 : Int64)), .second, .val (.long bd), .second, .val (.ref b5), .unset] [(.ref b19)])) (fun _ k => st22.trans k) ?_
      refine own_go (st' := T22.setTop (mkF m 119 #[.val (.long j0), .second, .val (.long j1), .second, .val (.long j2), .second, .val (.long bb), .second, .val (.int sl), .val (.int (0 : Int32)), .val (.long (0 : Int64)), .second, .val (.long bd), .second, .val (.ref b5), .val (.ref b19)] [])) (fun _ k => XS.astore X22.here hx rfl (hb hby at_117) rfl rfl (l' := #[.val (.long j0), .second, .val (.long j1), .second, .val (.long j2), .second, .val (.long bb), .second, .val (.int sl), .val (.int (0 : Int32)), .val (.long (0 : Int64)), .second, .val (.long bd), .second, .val (.ref b5), .val (.ref b19)]) rfl k) ?_
      refine own_go (st' := T22.setTop (mkF m 121 #[.val (.long j0), .second, .val (.long j1), .second, .val (.long j2), .second, .val (.long bb), .second, .val (.int sl), .val (.int (0 : Int32)), .val (.long (0 : Int64)), .second, .val (.long bd), .second, .val (.ref b5), .val (.ref b19)] [(.ref b19)])) (fun _ k => XS.aload X22.here hx rfl (hb hby at_119) rfl rfl k) ?_
      have c26 : Exa Z h22 b5 "com/example/millwright/millwright/jobshop/Plan" := (c23.keep K22)
      have c27 : Fld Z h22 b5 "com/example/millwright/millwright/jobshop/Plan" "makespan" "J" (.long (0 : Int64)) := (c24.keep K22 (ninS (by first | assumption | exact Ne.symm (by assumption) | (apply Nat.ne_of_lt; omega) | (apply Nat.ne_of_gt; omega)) nin0))
      obtain ⟨cq25, kq25, q25a, q25b, q25c⟩ := isOf hZ e22 g22_0
      obtain ⟨_, _, ⟨T25, LC25, kC25, nC25⟩, -, X25, ⟨Lc25, hQ25, lq25, yq25, zq25⟩, st25⟩ := X22.virtualBack hx (y := (⟨"com/example/millwright/millwright/jobshop/JobShopSolution", "optimal", "()Z"⟩ : MethodName)) (z := (⟨"com/example/millwright/millwright/jobshop/JobShopSolution", "optimal", "()Z"⟩ : MethodName)) hown (mvT hZ (hw _ (List.mem_of_getElem? (i := 47) rfl))) (mvT hZ (hw _ (List.mem_of_getElem? (i := 48) rfl))) (notFace_of_selects (args := #[]) (mvT hZ (hw _ (List.mem_of_getElem? (i := 50) rfl)))) (mvT hZ (hw _ (List.mem_of_getElem? (i := 50) rfl))) (mvT hZ (hw _ (List.mem_of_getElem? (i := 49) rfl))) (by decide) (backOf (W := 0) (rm8 l Z a0 hw [] b19 b5 bd (0 : Int64) h22 n0 (by omega) g22_1 g22_2 c26 c27) hZ (hw _ (List.mem_of_getElem? (i := 51) rfl)) (hw _ (List.mem_of_getElem? (i := 33) rfl)) (by decide) (by decide)) q25a q25c (g := (mkF m 121 #[.val (.long j0), .second, .val (.long j1), .second, .val (.long j2), .second, .val (.long bb), .second, .val (.int sl), .val (.int (0 : Int32)), .val (.long (0 : Int64)), .second, .val (.long bd), .second, .val (.ref b5), .val (.ref b19)] [(.ref b19)])) rfl (by rw [hml]; rfl) (Steps.refl _) (argsL := []) (rest := []) (lenOf pd_6 rfl) rfl (by show 2 * 0 + _ ≤ _; exact Nat.le_of_eq rfl) (hb hby at_121) (fun _ _ => ⟨rfl, e22, (by decide : 5 + 0 ≤ _), (by decide : 6 + 0 ≤ _)⟩)
      dsimp only [Pt.U, Pt.locs, Pt.cells, Pt.slots] at X25 lq25 yq25 zq25 st25 hQ25
      subst lq25 yq25 zq25
      obtain ⟨rfl, Nq25, eq25⟩ := hQ25
      have N25 := Fr.app N22 Nq25
      refine own_go (st' := T25.setTop (mkF m 124 #[.val (.long j0), .second, .val (.long j1), .second, .val (.long j2), .second, .val (.long bb), .second, .val (.int sl), .val (.int (0 : Int32)), .val (.long (0 : Int64)), .second, .val (.long bd), .second, .val (.ref b5), .val (.ref b19)] [(.int (own_opt bd (0 : Int64)))])) (fun _ k => st25.trans k) ?_
      refine own_go (st' := T25.setTop (mkF m 126 #[.val (.long j0), .second, .val (.long j1), .second, .val (.long j2), .second, .val (.long bb), .second, .val (.int sl), .val (.int (0 : Int32)), .val (.long (0 : Int64)), .second, .val (.long bd), .second, .val (.ref b5), .val (.ref b19)] [(.long bd), (.int (own_opt bd (0 : Int64)))])) (fun _ k => XS.lload X25.here hx rfl (hb hby at_124) rfl k) ?_
      refine own_go (st' := T25.setTop (mkF m 128 #[.val (.long j0), .second, .val (.long j1), .second, .val (.long j2), .second, .val (.long bb), .second, .val (.int sl), .val (.int (0 : Int32)), .val (.long (0 : Int64)), .second, .val (.long bd), .second, .val (.ref b5), .val (.ref b19)] [(.long (0 : Int64)), (.long bd), (.int (own_opt bd (0 : Int64)))])) (fun _ k => XS.lload X25.here hx rfl (hb hby at_126) rfl k) ?_
      refine own_go (st' := T25.setTop (mkF m 129 #[.val (.long j0), .second, .val (.long j1), .second, .val (.long j2), .second, .val (.long bb), .second, .val (.int sl), .val (.int (0 : Int32)), .val (.long (0 : Int64)), .second, .val (.long bd), .second, .val (.ref b5), .val (.ref b19)] [(.int (lcmpW bd (0 : Int64))), (.int (own_opt bd (0 : Int64)))])) (fun _ k => XS.lcmp X25.here hx rfl (hb hby at_128) rfl k) ?_
      by_cases hc28 : bd = (0 : Int64)
      · --
        refine own_go (st' := T25.setTop (mkF m 132 #[.val (.long j0), .second, .val (.long j1), .second, .val (.long j2), .second, .val (.long bb), .second, .val (.int sl), .val (.int (0 : Int32)), .val (.long (0 : Int64)), .second, .val (.long bd), .second, .val (.ref b5), .val (.ref b19)] [(.int (own_opt bd (0 : Int64)))])) (fun _ k => XS.ifNo X25.here hx rfl (hb hby at_129) rfl ((if0 _ _).trans (teq ((lw_eq bd (0 : Int64)).mpr hc28)).2) k) ?_
        refine own_go (st' := T25.setTop (mkF m 133 #[.val (.long j0), .second, .val (.long j1), .second, .val (.long j2), .second, .val (.long bb), .second, .val (.int sl), .val (.int (0 : Int32)), .val (.long (0 : Int64)), .second, .val (.long bd), .second, .val (.ref b5), .val (.ref b19)] [(.int (1 : Int32)), (.int (own_opt bd (0 : Int64)))])) (fun _ k => XS.iconst X25.here hx rfl (hb hby at_132) k) ?_
        refine own_go (st' := T25.setTop (mkF m 137 #[.val (.long j0), .second, .val (.long j1), .second, .val (.long j2), .second, .val (.long bb), .second, .val (.int sl), .val (.int (0 : Int32)), .val (.long (0 : Int64)), .second, .val (.long bd), .second, .val (.ref b5), .val (.ref b19)] [(.int (1 : Int32)), (.int (own_opt bd (0 : Int64)))])) (fun _ k => XS.goto X25.here hx rfl (pc0 := 133) (pc' := 137) rfl (hb hby at_133) (by decide) (by decide) k) ?_
        have hc29 : (own_opt bd (0 : Int64)) = (1 : Int32) := if_pos hc28
        refine own_go (st' := T25.setTop (mkF m 140 #[.val (.long j0), .second, .val (.long j1), .second, .val (.long j2), .second, .val (.long bb), .second, .val (.int sl), .val (.int (0 : Int32)), .val (.long (0 : Int64)), .second, .val (.long bd), .second, .val (.ref b5), .val (.ref b19)] [])) (fun _ k => XS.icmpNo X25.here hx rfl (hb hby at_137) rfl (teq hc29).2 k) ?_
        refine own_go (st' := T25.setTop (mkF m 142 #[.val (.long j0), .second, .val (.long j1), .second, .val (.long j2), .second, .val (.long bb), .second, .val (.int sl), .val (.int (0 : Int32)), .val (.long (0 : Int64)), .second, .val (.long bd), .second, .val (.ref b5), .val (.ref b19)] [(.ref b19)])) (fun _ k => XS.aload X25.here hx rfl (hb hby at_140) rfl rfl k) ?_
        obtain ⟨cq30, kq30, q30a, q30b, q30c⟩ := isOf hZ eq25 g22_0
        obtain ⟨_, _, ⟨T30, LC30, kC30, nC30⟩, -, X30, ⟨Lc30, hQ30, lq30, yq30, zq30⟩, st30⟩ := X25.virtualBack hx (y := (⟨"com/example/millwright/millwright/jobshop/JobShopSolution", "bound", "()J"⟩ : MethodName)) (z := (⟨"com/example/millwright/millwright/jobshop/JobShopSolution", "bound", "()J"⟩ : MethodName)) hown (mvT hZ (hw _ (List.mem_of_getElem? (i := 52) rfl))) (mvT hZ (hw _ (List.mem_of_getElem? (i := 53) rfl))) (notFace_of_selects (args := #[]) (mvT hZ (hw _ (List.mem_of_getElem? (i := 55) rfl)))) (mvT hZ (hw _ (List.mem_of_getElem? (i := 55) rfl))) (mvT hZ (hw _ (List.mem_of_getElem? (i := 54) rfl))) (by decide) (backOf (W := 0) (rm9 l Z a0 hw [] b19 bd h22 n0 (by omega) g22_2) hZ (hw _ (List.mem_of_getElem? (i := 56) rfl)) (hw _ (List.mem_of_getElem? (i := 33) rfl)) (by decide) (by decide)) q30a q30c (g := (mkF m 142 #[.val (.long j0), .second, .val (.long j1), .second, .val (.long j2), .second, .val (.long bb), .second, .val (.int sl), .val (.int (0 : Int32)), .val (.long (0 : Int64)), .second, .val (.long bd), .second, .val (.ref b5), .val (.ref b19)] [(.ref b19)])) rfl (by rw [hml]; rfl) (Steps.refl _) (argsL := []) (rest := []) (lenOf pd_1 rfl) rfl (by show 2 * 0 + _ ≤ _; exact Nat.le_of_eq rfl) (hb hby at_142) (fun _ _ => ⟨rfl, eq25, (by decide : 5 + 0 ≤ _), (by decide : 6 + 0 ≤ _)⟩)
        dsimp only [Pt.U, Pt.locs, Pt.cells, Pt.slots] at X30 lq30 yq30 zq30 st30 hQ30
        subst lq30 yq30 zq30
        obtain ⟨rfl, Nq30, eq30⟩ := hQ30
        have N30 := Fr.app N25 Nq30
        refine own_go (st' := T30.setTop (mkF m 145 #[.val (.long j0), .second, .val (.long j1), .second, .val (.long j2), .second, .val (.long bb), .second, .val (.int sl), .val (.int (0 : Int32)), .val (.long (0 : Int64)), .second, .val (.long bd), .second, .val (.ref b5), .val (.ref b19)] [(.long bd)])) (fun _ k => st30.trans k) ?_
        refine own_go (st' := T30.setTop (mkF m 147 #[.val (.long j0), .second, .val (.long j1), .second, .val (.long j2), .second, .val (.long bb), .second, .val (.int sl), .val (.int (0 : Int32)), .val (.long (0 : Int64)), .second, .val (.long bd), .second, .val (.ref b5), .val (.ref b19)] [(.long bd), (.long bd)])) (fun _ k => XS.lload X30.here hx rfl (hb hby at_145) rfl k) ?_
        refine own_go (st' := T30.setTop (mkF m 148 #[.val (.long j0), .second, .val (.long j1), .second, .val (.long j2), .second, .val (.long bb), .second, .val (.int sl), .val (.int (0 : Int32)), .val (.long (0 : Int64)), .second, .val (.long bd), .second, .val (.ref b5), .val (.ref b19)] [(.int (lcmpW bd bd))])) (fun _ k => XS.lcmp X30.here hx rfl (hb hby at_147) rfl k) ?_
        have hc31 : bd = bd := rfl
        refine own_go (st' := T30.setTop (mkF m 151 #[.val (.long j0), .second, .val (.long j1), .second, .val (.long j2), .second, .val (.long bb), .second, .val (.int sl), .val (.int (0 : Int32)), .val (.long (0 : Int64)), .second, .val (.long bd), .second, .val (.ref b5), .val (.ref b19)] [])) (fun _ k => XS.ifNo X30.here hx rfl (hb hby at_148) rfl ((if0 _ _).trans (teq ((lw_eq bd bd).mpr hc31)).2) k) ?_
        refine own_go (st' := T30.setTop (mkF m 152 #[.val (.long j0), .second, .val (.long j1), .second, .val (.long j2), .second, .val (.long bb), .second, .val (.int sl), .val (.int (0 : Int32)), .val (.long (0 : Int64)), .second, .val (.long bd), .second, .val (.ref b5), .val (.ref b19)] [(.int (1 : Int32))])) (fun _ k => XS.iconst X30.here hx rfl (hb hby at_151) k) ?_
        refine own_go (st' := T30.setTop (mkF m 156 #[.val (.long j0), .second, .val (.long j1), .second, .val (.long j2), .second, .val (.long bb), .second, .val (.int sl), .val (.int (0 : Int32)), .val (.long (0 : Int64)), .second, .val (.long bd), .second, .val (.ref b5), .val (.ref b19)] [(.int (1 : Int32))])) (fun _ k => XS.goto X30.here hx rfl (pc0 := 152) (pc' := 156) rfl (hb hby at_152) (by decide) (by decide) k) ?_
        obtain ⟨fs, hr, hrun, hended, hW, hsame⟩ := X30.leave (v := some (.int (1 : Int32))) (fun h => by rw [Bd.returns] at h; cases h)
        refine ⟨_, _, ?_, hP _ _ hrun hended ⟨_, _, rfl, ?_, ⟨_, rfl⟩, hW, hsame.mono (by decide) (by decide)⟩⟩
        · exact retN X30 hx (t := .boolean) Bd.returns (by simp) (hb hby at_156) hr
        · show Qrm0 Z j0 j1 j2 bb sl h0 n0 _ T30.heap _
          rw [eq30]
          exact ⟨rfl, N30, trivial⟩
      · --
        refine own_go (st' := T25.setTop (mkF m 136 #[.val (.long j0), .second, .val (.long j1), .second, .val (.long j2), .second, .val (.long bb), .second, .val (.int sl), .val (.int (0 : Int32)), .val (.long (0 : Int64)), .second, .val (.long bd), .second, .val (.ref b5), .val (.ref b19)] [(.int (own_opt bd (0 : Int64)))])) (fun _ k => XS.ifYes X25.here hx rfl (pc0 := 129) (pc' := 136) rfl (hb hby at_129) rfl ((if0 _ _).trans (feq (fun q_ => hc28 ((lw_eq bd (0 : Int64)).mp q_))).2) (by decide) (by decide) k) ?_
        refine own_go (st' := T25.setTop (mkF m 137 #[.val (.long j0), .second, .val (.long j1), .second, .val (.long j2), .second, .val (.long bb), .second, .val (.int sl), .val (.int (0 : Int32)), .val (.long (0 : Int64)), .second, .val (.long bd), .second, .val (.ref b5), .val (.ref b19)] [(.int (0 : Int32)), (.int (own_opt bd (0 : Int64)))])) (fun _ k => XS.iconst X25.here hx rfl (hb hby at_136) k) ?_
        have hc33 : (own_opt bd (0 : Int64)) = (0 : Int32) := if_neg hc28
        refine own_go (st' := T25.setTop (mkF m 140 #[.val (.long j0), .second, .val (.long j1), .second, .val (.long j2), .second, .val (.long bb), .second, .val (.int sl), .val (.int (0 : Int32)), .val (.long (0 : Int64)), .second, .val (.long bd), .second, .val (.ref b5), .val (.ref b19)] [])) (fun _ k => XS.icmpNo X25.here hx rfl (hb hby at_137) rfl (teq hc33).2 k) ?_
        refine own_go (st' := T25.setTop (mkF m 142 #[.val (.long j0), .second, .val (.long j1), .second, .val (.long j2), .second, .val (.long bb), .second, .val (.int sl), .val (.int (0 : Int32)), .val (.long (0 : Int64)), .second, .val (.long bd), .second, .val (.ref b5), .val (.ref b19)] [(.ref b19)])) (fun _ k => XS.aload X25.here hx rfl (hb hby at_140) rfl rfl k) ?_
        obtain ⟨cq34, kq34, q34a, q34b, q34c⟩ := isOf hZ eq25 g22_0
        obtain ⟨_, _, ⟨T34, LC34, kC34, nC34⟩, -, X34, ⟨Lc34, hQ34, lq34, yq34, zq34⟩, st34⟩ := X25.virtualBack hx (y := (⟨"com/example/millwright/millwright/jobshop/JobShopSolution", "bound", "()J"⟩ : MethodName)) (z := (⟨"com/example/millwright/millwright/jobshop/JobShopSolution", "bound", "()J"⟩ : MethodName)) hown (mvT hZ (hw _ (List.mem_of_getElem? (i := 52) rfl))) (mvT hZ (hw _ (List.mem_of_getElem? (i := 53) rfl))) (notFace_of_selects (args := #[]) (mvT hZ (hw _ (List.mem_of_getElem? (i := 55) rfl)))) (mvT hZ (hw _ (List.mem_of_getElem? (i := 55) rfl))) (mvT hZ (hw _ (List.mem_of_getElem? (i := 54) rfl))) (by decide) (backOf (W := 0) (rm9 l Z a0 hw [] b19 bd h22 n0 (by omega) g22_2) hZ (hw _ (List.mem_of_getElem? (i := 56) rfl)) (hw _ (List.mem_of_getElem? (i := 33) rfl)) (by decide) (by decide)) q34a q34c (g := (mkF m 142 #[.val (.long j0), .second, .val (.long j1), .second, .val (.long j2), .second, .val (.long bb), .second, .val (.int sl), .val (.int (0 : Int32)), .val (.long (0 : Int64)), .second, .val (.long bd), .second, .val (.ref b5), .val (.ref b19)] [(.ref b19)])) rfl (by rw [hml]; rfl) (Steps.refl _) (argsL := []) (rest := []) (lenOf pd_1 rfl) rfl (by show 2 * 0 + _ ≤ _; exact Nat.le_of_eq rfl) (hb hby at_142) (fun _ _ => ⟨rfl, eq25, (by decide : 5 + 0 ≤ _), (by decide : 6 + 0 ≤ _)⟩)
        dsimp only [Pt.U, Pt.locs, Pt.cells, Pt.slots] at X34 lq34 yq34 zq34 st34 hQ34
        subst lq34 yq34 zq34
        obtain ⟨rfl, Nq34, eq34⟩ := hQ34
        have N34 := Fr.app N25 Nq34
        refine own_go (st' := T34.setTop (mkF m 145 #[.val (.long j0), .second, .val (.long j1), .second, .val (.long j2), .second, .val (.long bb), .second, .val (.int sl), .val (.int (0 : Int32)), .val (.long (0 : Int64)), .second, .val (.long bd), .second, .val (.ref b5), .val (.ref b19)] [(.long bd)])) (fun _ k => st34.trans k) ?_
        refine own_go (st' := T34.setTop (mkF m 147 #[.val (.long j0), .second, .val (.long j1), .second, .val (.long j2), .second, .val (.long bb), .second, .val (.int sl), .val (.int (0 : Int32)), .val (.long (0 : Int64)), .second, .val (.long bd), .second, .val (.ref b5), .val (.ref b19)] [(.long bd), (.long bd)])) (fun _ k => XS.lload X34.here hx rfl (hb hby at_145) rfl k) ?_
        refine own_go (st' := T34.setTop (mkF m 148 #[.val (.long j0), .second, .val (.long j1), .second, .val (.long j2), .second, .val (.long bb), .second, .val (.int sl), .val (.int (0 : Int32)), .val (.long (0 : Int64)), .second, .val (.long bd), .second, .val (.ref b5), .val (.ref b19)] [(.int (lcmpW bd bd))])) (fun _ k => XS.lcmp X34.here hx rfl (hb hby at_147) rfl k) ?_
        have hc35 : bd = bd := rfl
        refine own_go (st' := T34.setTop (mkF m 151 #[.val (.long j0), .second, .val (.long j1), .second, .val (.long j2), .second, .val (.long bb), .second, .val (.int sl), .val (.int (0 : Int32)), .val (.long (0 : Int64)), .second, .val (.long bd), .second, .val (.ref b5), .val (.ref b19)] [])) (fun _ k => XS.ifNo X34.here hx rfl (hb hby at_148) rfl ((if0 _ _).trans (teq ((lw_eq bd bd).mpr hc35)).2) k) ?_
        refine own_go (st' := T34.setTop (mkF m 152 #[.val (.long j0), .second, .val (.long j1), .second, .val (.long j2), .second, .val (.long bb), .second, .val (.int sl), .val (.int (0 : Int32)), .val (.long (0 : Int64)), .second, .val (.long bd), .second, .val (.ref b5), .val (.ref b19)] [(.int (1 : Int32))])) (fun _ k => XS.iconst X34.here hx rfl (hb hby at_151) k) ?_
        refine own_go (st' := T34.setTop (mkF m 156 #[.val (.long j0), .second, .val (.long j1), .second, .val (.long j2), .second, .val (.long bb), .second, .val (.int sl), .val (.int (0 : Int32)), .val (.long (0 : Int64)), .second, .val (.long bd), .second, .val (.ref b5), .val (.ref b19)] [(.int (1 : Int32))])) (fun _ k => XS.goto X34.here hx rfl (pc0 := 152) (pc' := 156) rfl (hb hby at_152) (by decide) (by decide) k) ?_
        obtain ⟨fs, hr, hrun, hended, hW, hsame⟩ := X34.leave (v := some (.int (1 : Int32))) (fun h => by rw [Bd.returns] at h; cases h)
        refine ⟨_, _, ?_, hP _ _ hrun hended ⟨_, _, rfl, ?_, ⟨_, rfl⟩, hW, hsame.mono (by decide) (by decide)⟩⟩
        · exact retN X34 hx (t := .boolean) Bd.returns (by simp) (hb hby at_156) hr
        · show Qrm0 Z j0 j1 j2 bb sl h0 n0 _ T34.heap _
          rw [eq34]
          exact ⟨rfl, N34, trivial⟩
    refine own_go (st' := s₁.setTop (mkF m 56 #[.val (.long j0), .second, .val (.long j1), .second, .val (.long j2), .second, .val (.long bb), .second, .val (.int sl), .val (.int (0 : Int32)), .val (.long (0 : Int64)), .second, .unset, .unset, .unset, .unset] [(.int sl)])) (fun _ k => XS.iload X0.here hx rfl (hb hby at_54) rfl k) ?_
    refine own_go (st' := s₁.setTop (mkF m 57 #[.val (.long j0), .second, .val (.long j1), .second, .val (.long j2), .second, .val (.long bb), .second, .val (.int sl), .val (.int (0 : Int32)), .val (.long (0 : Int64)), .second, .unset, .unset, .unset, .unset] [(.int (1 : Int32)), (.int sl)])) (fun _ k => XS.iconst X0.here hx rfl (hb hby at_56) k) ?_
    refine own_go (st' := s₁.setTop (mkF m 58 #[.val (.long j0), .second, .val (.long j1), .second, .val (.long j2), .second, .val (.long bb), .second, .val (.int sl), .val (.int (0 : Int32)), .val (.long (0 : Int64)), .second, .unset, .unset, .unset, .unset] [(.int (sl &&& (1 : Int32)))])) (fun _ k => XS.iand X0.here hx rfl (hb hby at_57) rfl k) ?_
    by_cases hc37 : (sl &&& (1 : Int32)) = (0 : Int32)
    · --
      refine own_go (st' := s₁.setTop (mkF m 66 #[.val (.long j0), .second, .val (.long j1), .second, .val (.long j2), .second, .val (.long bb), .second, .val (.int sl), .val (.int (0 : Int32)), .val (.long (0 : Int64)), .second, .unset, .unset, .unset, .unset] [])) (fun _ k => XS.ifYes X0.here hx rfl (pc0 := 58) (pc' := 66) rfl (hb hby at_58) rfl ((if0 _ _).trans (teq hc37).1) (by decide) (by decide) k) ?_
      refine own_go (st' := s₁.setTop (mkF m 68 #[.val (.long j0), .second, .val (.long j1), .second, .val (.long j2), .second, .val (.long bb), .second, .val (.int sl), .val (.int (0 : Int32)), .val (.long (0 : Int64)), .second, .unset, .unset, .unset, .unset] [(.long bb)])) (fun _ k => XS.lload X0.here hx rfl (hb hby at_66) rfl k) ?_
      refine own_go (st' := s₁.setTop (mkF m 70 #[.val (.long j0), .second, .val (.long j1), .second, .val (.long j2), .second, .val (.long bb), .second, .val (.int sl), .val (.int (0 : Int32)), .val (.long (0 : Int64)), .second, .unset, .unset, .unset, .unset] [(.long (0 : Int64)), (.long bb)])) (fun _ k => XS.lload X0.here hx rfl (hb hby at_68) rfl k) ?_
      obtain ⟨_, _, ⟨T38, LC38, kC38, nC38⟩, -, X38, ⟨Lc38, hQ38, lq38, yq38, zq38⟩, st38⟩ := Jvm.LawKit.callS X0 hx (y := (⟨"java/lang/Math", "min", "(JJ)J"⟩ : MethodName)) hown (mvT hZ (hw _ (List.mem_of_getElem? (i := 57) rfl))) (mvT hZ (hw _ (List.mem_of_getElem? (i := 58) rfl))) (mvT hZ (hw _ (List.mem_of_getElem? (i := 2) rfl))) (mvT hZ (hw _ (List.mem_of_getElem? (i := 59) rfl))) (by decide) (backOf (W := 0) (rm10 l Z a0 hw [] bb (0 : Int64) h0 n0 (by omega) ) hZ (hw _ (List.mem_of_getElem? (i := 59) rfl)) (hw _ (List.mem_of_getElem? (i := 2) rfl)) (by decide) (by decide)) (g := (mkF m 70 #[.val (.long j0), .second, .val (.long j1), .second, .val (.long j2), .second, .val (.long bb), .second, .val (.int sl), .val (.int (0 : Int32)), .val (.long (0 : Int64)), .second, .unset, .unset, .unset, .unset] [(.long (0 : Int64)), (.long bb)])) rfl (by rw [hml]; rfl) (argsL := [(.long bb), (.long (0 : Int64))]) (rest := []) (lenOf pd_0 rfl) rfl (by show 2 * 0 + _ ≤ _; exact Nat.le_of_eq rfl) (hb hby at_70) (fun _ _ => ⟨rfl, e0, (by decide : 0 + 0 ≤ _), (by decide : 0 + 0 ≤ _)⟩)
      dsimp only [Pt.U, Pt.locs, Pt.cells, Pt.slots] at X38 lq38 yq38 zq38 st38 hQ38
      subst lq38 yq38 zq38
      obtain ⟨rfl, Nq38, eq38⟩ := hQ38
      have N38 := Fr.app N0 Nq38
      refine own_go (st' := T38.setTop (mkF m 73 #[.val (.long j0), .second, .val (.long j1), .second, .val (.long j2), .second, .val (.long bb), .second, .val (.int sl), .val (.int (0 : Int32)), .val (.long (0 : Int64)), .second, .unset, .unset, .unset, .unset] [(.long (own_lmin bb (0 : Int64)))])) (fun t k => st38 t k) ?_
      exact J73_4 _ _ (own_lmin bb (0 : Int64)) X38 eq38 N38 (own_min_le _ _)
    · --
      refine own_go (st' := s₁.setTop (mkF m 61 #[.val (.long j0), .second, .val (.long j1), .second, .val (.long j2), .second, .val (.long bb), .second, .val (.int sl), .val (.int (0 : Int32)), .val (.long (0 : Int64)), .second, .unset, .unset, .unset, .unset] [])) (fun _ k => XS.ifNo X0.here hx rfl (hb hby at_58) rfl ((if0 _ _).trans (feq hc37).1) k) ?_
      refine own_go (st' := s₁.setTop (mkF m 63 #[.val (.long j0), .second, .val (.long j1), .second, .val (.long j2), .second, .val (.long bb), .second, .val (.int sl), .val (.int (0 : Int32)), .val (.long (0 : Int64)), .second, .unset, .unset, .unset, .unset] [(.long (0 : Int64))])) (fun _ k => XS.lload X0.here hx rfl (hb hby at_61) rfl k) ?_
      refine own_go (st' := s₁.setTop (mkF m 73 #[.val (.long j0), .second, .val (.long j1), .second, .val (.long j2), .second, .val (.long bb), .second, .val (.int sl), .val (.int (0 : Int32)), .val (.long (0 : Int64)), .second, .unset, .unset, .unset, .unset] [(.long (0 : Int64))])) (fun _ k => XS.goto X0.here hx rfl (pc0 := 63) (pc' := 73) rfl (hb hby at_63) (by decide) (by decide) k) ?_
      exact J73_4 _ _ (0 : Int64) X0 e0 N0 (own_irr _)
  · --
    rw [hm]
    refine own_go (st' := s₁.setTop (mkF m 8 #[.val (.long j0), .second, .val (.long j1), .second, .val (.long j2), .second, .val (.long bb), .second, .val (.int sl), .val (.int (1 : Int32)), .unset, .unset, .unset, .unset, .unset, .unset] [])) (fun _ k => XS.istore X0.here hx rfl (hb hby at_6) rfl (l' := #[.val (.long j0), .second, .val (.long j1), .second, .val (.long j2), .second, .val (.long bb), .second, .val (.int sl), .val (.int (1 : Int32)), .unset, .unset, .unset, .unset, .unset, .unset]) rfl k) ?_
    refine own_go (st' := s₁.setTop (mkF m 9 #[.val (.long j0), .second, .val (.long j1), .second, .val (.long j2), .second, .val (.long bb), .second, .val (.int sl), .val (.int (1 : Int32)), .unset, .unset, .unset, .unset, .unset, .unset] [(.long (0 : Int64))])) (fun _ k => XS.lconst X0.here hx rfl (hb hby at_8) k) ?_
    refine own_go (st' := s₁.setTop (mkF m 11 #[.val (.long j0), .second, .val (.long j1), .second, .val (.long j2), .second, .val (.long bb), .second, .val (.int sl), .val (.int (1 : Int32)), .val (.long (0 : Int64)), .second, .unset, .unset, .unset, .unset] [])) (fun _ k => XS.lstore X0.here hx rfl (hb hby at_9) rfl (l' := #[.val (.long j0), .second, .val (.long j1), .second, .val (.long j2), .second, .val (.long bb), .second, .val (.int sl), .val (.int (1 : Int32)), .val (.long (0 : Int64)), .second, .unset, .unset, .unset, .unset]) rfl k) ?_
    refine own_go (st' := s₁.setTop (mkF m 13 #[.val (.long j0), .second, .val (.long j1), .second, .val (.long j2), .second, .val (.long bb), .second, .val (.int sl), .val (.int (1 : Int32)), .val (.long (0 : Int64)), .second, .unset, .unset, .unset, .unset] [(.int (1 : Int32))])) (fun _ k => XS.iload X0.here hx rfl (hb hby at_11) rfl k) ?_
    refine own_go (st' := s₁.setTop (mkF m 14 #[.val (.long j0), .second, .val (.long j1), .second, .val (.long j2), .second, .val (.long bb), .second, .val (.int sl), .val (.int (1 : Int32)), .val (.long (0 : Int64)), .second, .unset, .unset, .unset, .unset] [(.int (1 : Int32)), (.int (1 : Int32))])) (fun _ k => XS.iconst X0.here hx rfl (hb hby at_13) k) ?_
    have hc39 : ¬ ((1 : Int32) < (1 : Int32)) := by decide
    refine own_go (st' := s₁.setTop (mkF m 17 #[.val (.long j0), .second, .val (.long j1), .second, .val (.long j2), .second, .val (.long bb), .second, .val (.int sl), .val (.int (1 : Int32)), .val (.long (0 : Int64)), .second, .unset, .unset, .unset, .unset] [])) (fun _ k => XS.icmpNo X0.here hx rfl (hb hby at_14) rfl (flt hc39).1 k) ?_
    refine own_go (st' := s₁.setTop (mkF m 19 #[.val (.long j0), .second, .val (.long j1), .second, .val (.long j2), .second, .val (.long bb), .second, .val (.int sl), .val (.int (1 : Int32)), .val (.long (0 : Int64)), .second, .unset, .unset, .unset, .unset] [(.long (0 : Int64))])) (fun _ k => XS.lload X0.here hx rfl (hb hby at_17) rfl k) ?_
    refine own_go (st' := s₁.setTop (mkF m 20 #[.val (.long j0), .second, .val (.long j1), .second, .val (.long j2), .second, .val (.long bb), .second, .val (.int sl), .val (.int (1 : Int32)), .val (.long (0 : Int64)), .second, .unset, .unset, .unset, .unset] [(.long j0), (.long (0 : Int64))])) (fun _ k => XS.lloadN X0.here hx rfl (hb hby at_19) rfl k) ?_
    obtain ⟨_, _, ⟨T40, LC40, kC40, nC40⟩, -, X40, ⟨Lc40, hQ40, lq40, yq40, zq40⟩, st40⟩ := Jvm.LawKit.callS X0 hx (y := (⟨"java/lang/Math", "max", "(JJ)J"⟩ : MethodName)) hown (mvT hZ (hw _ (List.mem_of_getElem? (i := 0) rfl))) (mvT hZ (hw _ (List.mem_of_getElem? (i := 1) rfl))) (mvT hZ (hw _ (List.mem_of_getElem? (i := 2) rfl))) (mvT hZ (hw _ (List.mem_of_getElem? (i := 3) rfl))) (by decide) (backOf (W := 0) (rm1 l Z a0 hw [] (0 : Int64) j0 h0 n0 (by omega) ) hZ (hw _ (List.mem_of_getElem? (i := 3) rfl)) (hw _ (List.mem_of_getElem? (i := 2) rfl)) (by decide) (by decide)) (g := (mkF m 20 #[.val (.long j0), .second, .val (.long j1), .second, .val (.long j2), .second, .val (.long bb), .second, .val (.int sl), .val (.int (1 : Int32)), .val (.long (0 : Int64)), .second, .unset, .unset, .unset, .unset] [(.long j0), (.long (0 : Int64))])) rfl (by rw [hml]; rfl) (argsL := [(.long (0 : Int64)), (.long j0)]) (rest := []) (lenOf pd_0 rfl) rfl (by show 2 * 0 + _ ≤ _; exact Nat.le_of_eq rfl) (hb hby at_20) (fun _ _ => ⟨rfl, e0, (by decide : 0 + 0 ≤ _), (by decide : 0 + 0 ≤ _)⟩)
    dsimp only [Pt.U, Pt.locs, Pt.cells, Pt.slots] at X40 lq40 yq40 zq40 st40 hQ40
    subst lq40 yq40 zq40
    obtain ⟨rfl, Nq40, eq40⟩ := hQ40
    have N40 := Fr.app N0 Nq40
    refine own_go (st' := T40.setTop (mkF m 23 #[.val (.long j0), .second, .val (.long j1), .second, .val (.long j2), .second, .val (.long bb), .second, .val (.int sl), .val (.int (1 : Int32)), .val (.long (0 : Int64)), .second, .unset, .unset, .unset, .unset] [(.long (own_lmax (0 : Int64) j0))])) (fun t k => st40 t k) ?_
    refine own_go (st' := T40.setTop (mkF m 25 #[.val (.long j0), .second, .val (.long j1), .second, .val (.long j2), .second, .val (.long bb), .second, .val (.int sl), .val (.int (1 : Int32)), .val (.long (own_lmax (0 : Int64) j0)), .second, .unset, .unset, .unset, .unset] [])) (fun _ k => XS.lstore X40.here hx rfl (hb hby at_23) rfl (l' := #[.val (.long j0), .second, .val (.long j1), .second, .val (.long j2), .second, .val (.long bb), .second, .val (.int sl), .val (.int (1 : Int32)), .val (.long (own_lmax (0 : Int64) j0)), .second, .unset, .unset, .unset, .unset]) rfl k) ?_
    refine own_go (st' := T40.setTop (mkF m 27 #[.val (.long j0), .second, .val (.long j1), .second, .val (.long j2), .second, .val (.long bb), .second, .val (.int sl), .val (.int (1 : Int32)), .val (.long (own_lmax (0 : Int64) j0)), .second, .unset, .unset, .unset, .unset] [(.int (1 : Int32))])) (fun _ k => XS.iload X40.here hx rfl (hb hby at_25) rfl k) ?_
    refine own_go (st' := T40.setTop (mkF m 28 #[.val (.long j0), .second, .val (.long j1), .second, .val (.long j2), .second, .val (.long bb), .second, .val (.int sl), .val (.int (1 : Int32)), .val (.long (own_lmax (0 : Int64) j0)), .second, .unset, .unset, .unset, .unset] [(.int (2 : Int32)), (.int (1 : Int32))])) (fun _ k => XS.iconst X40.here hx rfl (hb hby at_27) k) ?_
    have hc41 : (1 : Int32) < (2 : Int32) := by decide
    refine own_go (st' := T40.setTop (mkF m 39 #[.val (.long j0), .second, .val (.long j1), .second, .val (.long j2), .second, .val (.long bb), .second, .val (.int sl), .val (.int (1 : Int32)), .val (.long (own_lmax (0 : Int64) j0)), .second, .unset, .unset, .unset, .unset] [])) (fun _ k => XS.icmpYes X40.here hx rfl (pc0 := 28) (pc' := 39) rfl (hb hby at_28) rfl (tlt hc41).1 (by decide) (by decide) k) ?_
    refine own_go (st' := T40.setTop (mkF m 41 #[.val (.long j0), .second, .val (.long j1), .second, .val (.long j2), .second, .val (.long bb), .second, .val (.int sl), .val (.int (1 : Int32)), .val (.long (own_lmax (0 : Int64) j0)), .second, .unset, .unset, .unset, .unset] [(.int (1 : Int32))])) (fun _ k => XS.iload X40.here hx rfl (hb hby at_39) rfl k) ?_
    refine own_go (st' := T40.setTop (mkF m 42 #[.val (.long j0), .second, .val (.long j1), .second, .val (.long j2), .second, .val (.long bb), .second, .val (.int sl), .val (.int (1 : Int32)), .val (.long (own_lmax (0 : Int64) j0)), .second, .unset, .unset, .unset, .unset] [(.int (3 : Int32)), (.int (1 : Int32))])) (fun _ k => XS.iconst X40.here hx rfl (hb hby at_41) k) ?_
    have hc42 : (1 : Int32) < (3 : Int32) := by decide
    refine own_go (st' := T40.setTop (mkF m 54 #[.val (.long j0), .second, .val (.long j1), .second, .val (.long j2), .second, .val (.long bb), .second, .val (.int sl), .val (.int (1 : Int32)), .val (.long (own_lmax (0 : Int64) j0)), .second, .unset, .unset, .unset, .unset] [])) (fun _ k => XS.icmpYes X40.here hx rfl (pc0 := 42) (pc' := 54) rfl (hb hby at_42) rfl (tlt hc42).1 (by decide) (by decide) k) ?_
    have J73_43 : ∀ (Tj43 : State) (lj43 : List Loc) (bd : Int64) (Xj43 : Stand p l e room_1 s m #[(.long j0), (.long j1), (.long j2), (.long bb), (.int sl)] below meth c Tj43 lj43 0 0) (ej43 : Tj43.heap = h0) (Nj43 : Fr n0 lj43) (hbd : ¬ (own_lmax (0 : Int64) j0) < bd), own_Go p.tables e below P (Tj43.setTop (mkF m 73 #[.val (.long j0), .second, .val (.long j1), .second, .val (.long j2), .second, .val (.long bb), .second, .val (.int sl), .val (.int (1 : Int32)), .val (.long (own_lmax (0 : Int64) j0)), .second, .unset, .unset, .unset, .unset] [(.long bd)])) := by
      intro Tj43 lj43 bd Xj43 ej43 Nj43 hbd
      refine own_go (st' := Tj43.setTop (mkF m 75 #[.val (.long j0), .second, .val (.long j1), .second, .val (.long j2), .second, .val (.long bb), .second, .val (.int sl), .val (.int (1 : Int32)), .val (.long (own_lmax (0 : Int64) j0)), .second, .val (.long bd), .second, .unset, .unset] [])) (fun _ k => XS.lstore Xj43.here hx rfl (hb hby at_73) rfl (l' := #[.val (.long j0), .second, .val (.long j1), .second, .val (.long j2), .second, .val (.long bb), .second, .val (.int sl), .val (.int (1 : Int32)), .val (.long (own_lmax (0 : Int64) j0)), .second, .val (.long bd), .second, .unset, .unset]) rfl k) ?_
      obtain ⟨T44, h44, X44, e44, E44, A44, D44, -, st44⟩ := newO Xj43 hx hZ hown (hw _ (List.mem_of_getElem? (i := 4) rfl)) (hw _ (List.mem_of_getElem? (i := 5) rfl)) (hw _ (List.mem_of_getElem? (i := 6) rfl)) ej43 (g := (mkF m 75 #[.val (.long j0), .second, .val (.long j1), .second, .val (.long j2), .second, .val (.long bb), .second, .val (.int sl), .val (.int (1 : Int32)), .val (.long (own_lmax (0 : Int64) j0)), .second, .val (.long bd), .second, .unset, .unset] [])) rfl (hb hby at_75) (by decide) (by decide)
      obtain ⟨b44, g44⟩ : ∃ z, z = h0.size := ⟨_, rfl⟩
      rw [← g44] at A44 D44 st44
      have sz44 : h0.size ≤ h44.size := E44.1
      have lt44 : @LT.lt Nat _ b44 h44.size := A44.lt
      have f45 : Fld Z h44 b44 "com/example/millwright/millwright/jobshop/Plan" "machine" "[I" .null := D44 (Or.inr (hw _ (List.mem_of_getElem? (i := 23) rfl))) (ty := (.array .int)) (by decide)
      have f46 : Fld Z h44 b44 "com/example/millwright/millwright/jobshop/Plan" "start" "[J" .null := D44 (Or.inr (hw _ (List.mem_of_getElem? (i := 25) rfl))) (ty := (.array .long)) (by decide)
      have f47 : Fld Z h44 b44 "com/example/millwright/millwright/jobshop/Plan" "end" "[J" .null := D44 (Or.inr (hw _ (List.mem_of_getElem? (i := 27) rfl))) (ty := (.array .long)) (by decide)
      have f48 : Fld Z h44 b44 "com/example/millwright/millwright/jobshop/Plan" "makespan" "J" (.long (0 : Int64)) := D44 (Or.inr (hw _ (List.mem_of_getElem? (i := 30) rfl))) (ty := .long) (by decide)
      refine own_go (st' := T44.setTop (mkF m 78 #[.val (.long j0), .second, .val (.long j1), .second, .val (.long j2), .second, .val (.long bb), .second, .val (.int sl), .val (.int (1 : Int32)), .val (.long (own_lmax (0 : Int64) j0)), .second, .val (.long bd), .second, .unset, .unset] [(.ref b44)])) (st44) ?_
      refine own_go (st' := T44.setTop (mkF m 79 #[.val (.long j0), .second, .val (.long j1), .second, .val (.long j2), .second, .val (.long bb), .second, .val (.int sl), .val (.int (1 : Int32)), .val (.long (own_lmax (0 : Int64) j0)), .second, .val (.long bd), .second, .unset, .unset] [(.ref b44), (.ref b44)])) (fun _ k => XS.dup X44.here hx rfl (hb hby at_78) rfl rfl k) ?_
      refine own_go (st' := T44.setTop (mkF m 81 #[.val (.long j0), .second, .val (.long j1), .second, .val (.long j2), .second, .val (.long bb), .second, .val (.int sl), .val (.int (1 : Int32)), .val (.long (own_lmax (0 : Int64) j0)), .second, .val (.long bd), .second, .unset, .unset] [(.int (1 : Int32)), (.ref b44), (.ref b44)])) (fun _ k => XS.iload X44.here hx rfl (hb hby at_79) rfl k) ?_
      obtain ⟨_, _, ⟨T49, LC49, kC49, nC49⟩, -, X49, ⟨Lc49, hQ49, lq49, yq49, zq49⟩, st49⟩ := Jvm.LawKit.callS X44 hx (y := (⟨"com/example/millwright/millwright/jobshop/JobShopSolutionOptimalPinLaw", "machines", "(I)[I"⟩ : MethodName)) hown (mvT hZ (hw _ (List.mem_of_getElem? (i := 7) rfl))) (mvT hZ (hw _ (List.mem_of_getElem? (i := 8) rfl))) (mvT hZ (hw _ (List.mem_of_getElem? (i := 9) rfl))) (mvT hZ (hw _ (List.mem_of_getElem? (i := 10) rfl))) (by decide) (backOf (W := 2) (rm2_1 l Z a0 hw []  h44 n0 (by omega) ) hZ (hw _ (List.mem_of_getElem? (i := 10) rfl)) (hw _ (List.mem_of_getElem? (i := 9) rfl)) (by decide) (by decide)) (g := (mkF m 81 #[.val (.long j0), .second, .val (.long j1), .second, .val (.long j2), .second, .val (.long bb), .second, .val (.int sl), .val (.int (1 : Int32)), .val (.long (own_lmax (0 : Int64) j0)), .second, .val (.long bd), .second, .unset, .unset] [(.int (1 : Int32)), (.ref b44), (.ref b44)])) rfl (by rw [hml]; rfl) (argsL := [(.int (1 : Int32))]) (rest := [(.ref b44), (.ref b44)]) (lenOf pd_2 rfl) rfl (by show 2 * 0 + _ ≤ _; exact Nat.le_of_eq rfl) (hb hby at_81) (fun _ _ => ⟨rfl, e44, (by decide : 1 + 1 ≤ _), (by decide : 4 + 1 ≤ _)⟩)
      dsimp only [Pt.U, Pt.locs, Pt.cells, Pt.slots] at X49 lq49 yq49 zq49 st49 hQ49
      subst lq49 yq49 zq49
      obtain ⟨h49, e49⟩ : ∃ z, T49.heap = z := ⟨_, rfl⟩
      rw [e49] at hQ49
      obtain ⟨r_49, kr_49, rfl, Nq49, K49, g49_0, g49_1⟩ := hQ49
      have sz49 : h44.size ≤ h49.size := K49.1
      have N49 := Fr.app Nj43 Nq49
      have lt49_1 : @LT.lt Nat _ r_49 h49.size := g49_0.lt
      refine own_go (st' := T49.setTop (mkF m 84 #[.val (.long j0), .second, .val (.long j1), .second, .val (.long j2), .second, .val (.long bb), .second, .val (.int sl), .val (.int (1 : Int32)), .val (.long (own_lmax (0 : Int64) j0)), .second, .val (.long bd), .second, .unset, .unset] [(.ref r_49), (.ref b44), (.ref b44)])) (fun t k => st49 t k) ?_
      refine own_go (st' := T49.setTop (mkF m 86 #[.val (.long j0), .second, .val (.long j1), .second, .val (.long j2), .second, .val (.long bb), .second, .val (.int sl), .val (.int (1 : Int32)), .val (.long (own_lmax (0 : Int64) j0)), .second, .val (.long bd), .second, .unset, .unset] [(.int (1 : Int32)), (.ref r_49), (.ref b44), (.ref b44)])) (fun _ k => XS.iload X49.here hx rfl (hb hby at_84) rfl k) ?_
      refine own_go (st' := T49.setTop (mkF m 87 #[.val (.long j0), .second, .val (.long j1), .second, .val (.long j2), .second, .val (.long bb), .second, .val (.int sl), .val (.int (1 : Int32)), .val (.long (own_lmax (0 : Int64) j0)), .second, .val (.long bd), .second, .unset, .unset] [(.long (0 : Int64)), (.int (1 : Int32)), (.ref r_49), (.ref b44), (.ref b44)])) (fun _ k => XS.lconst X49.here hx rfl (hb hby at_86) k) ?_
      refine own_go (st' := T49.setTop (mkF m 88 #[.val (.long j0), .second, .val (.long j1), .second, .val (.long j2), .second, .val (.long bb), .second, .val (.int sl), .val (.int (1 : Int32)), .val (.long (own_lmax (0 : Int64) j0)), .second, .val (.long bd), .second, .unset, .unset] [(.long (0 : Int64)), (.long (0 : Int64)), (.int (1 : Int32)), (.ref r_49), (.ref b44), (.ref b44)])) (fun _ k => XS.lconst X49.here hx rfl (hb hby at_87) k) ?_
      refine own_go (st' := T49.setTop (mkF m 89 #[.val (.long j0), .second, .val (.long j1), .second, .val (.long j2), .second, .val (.long bb), .second, .val (.int sl), .val (.int (1 : Int32)), .val (.long (own_lmax (0 : Int64) j0)), .second, .val (.long bd), .second, .unset, .unset] [(.long (0 : Int64)), (.long (0 : Int64)), (.long (0 : Int64)), (.int (1 : Int32)), (.ref r_49), (.ref b44), (.ref b44)])) (fun _ k => XS.lconst X49.here hx rfl (hb hby at_88) k) ?_
      obtain ⟨_, _, ⟨T50, LC50, kC50, nC50⟩, -, X50, ⟨Lc50, hQ50, lq50, yq50, zq50⟩, st50⟩ := Jvm.LawKit.callS X49 hx (y := (⟨"com/example/millwright/millwright/jobshop/JobShopSolutionOptimalPinLaw", "longs", "(IJJJ)[J"⟩ : MethodName)) hown (mvT hZ (hw _ (List.mem_of_getElem? (i := 12) rfl))) (mvT hZ (hw _ (List.mem_of_getElem? (i := 13) rfl))) (mvT hZ (hw _ (List.mem_of_getElem? (i := 9) rfl))) (mvT hZ (hw _ (List.mem_of_getElem? (i := 14) rfl))) (by decide) (backOf (W := 3) (rm3_1 l Z a0 hw [] (0 : Int64) (0 : Int64) (0 : Int64) h49 n0 (by omega) ) hZ (hw _ (List.mem_of_getElem? (i := 14) rfl)) (hw _ (List.mem_of_getElem? (i := 9) rfl)) (by decide) (by decide)) (g := (mkF m 89 #[.val (.long j0), .second, .val (.long j1), .second, .val (.long j2), .second, .val (.long bb), .second, .val (.int sl), .val (.int (1 : Int32)), .val (.long (own_lmax (0 : Int64) j0)), .second, .val (.long bd), .second, .unset, .unset] [(.long (0 : Int64)), (.long (0 : Int64)), (.long (0 : Int64)), (.int (1 : Int32)), (.ref r_49), (.ref b44), (.ref b44)])) rfl (by rw [hml]; rfl) (argsL := [(.int (1 : Int32)), (.long (0 : Int64)), (.long (0 : Int64)), (.long (0 : Int64))]) (rest := [(.ref r_49), (.ref b44), (.ref b44)]) (lenOf pd_3 rfl) rfl (by show 2 * 0 + _ ≤ _; exact Nat.le_of_eq rfl) (hb hby at_89) (fun _ _ => ⟨rfl, e49, (by decide : 2 + 1 ≤ _), (by decide : 5 + 1 ≤ _)⟩)
      dsimp only [Pt.U, Pt.locs, Pt.cells, Pt.slots] at X50 lq50 yq50 zq50 st50 hQ50
      subst lq50 yq50 zq50
      obtain ⟨h50, e50⟩ : ∃ z, T50.heap = z := ⟨_, rfl⟩
      rw [e50] at hQ50
      obtain ⟨r_50, kr_50, rfl, Nq50, K50, g50_0, g50_1⟩ := hQ50
      have sz50 : h49.size ≤ h50.size := K50.1
      have N50 := Fr.app N49 Nq50
      have lt50_1 : @LT.lt Nat _ r_50 h50.size := g50_0.lt
      refine own_go (st' := T50.setTop (mkF m 92 #[.val (.long j0), .second, .val (.long j1), .second, .val (.long j2), .second, .val (.long bb), .second, .val (.int sl), .val (.int (1 : Int32)), .val (.long (own_lmax (0 : Int64) j0)), .second, .val (.long bd), .second, .unset, .unset] [(.ref r_50), (.ref r_49), (.ref b44), (.ref b44)])) (fun t k => st50 t k) ?_
      refine own_go (st' := T50.setTop (mkF m 94 #[.val (.long j0), .second, .val (.long j1), .second, .val (.long j2), .second, .val (.long bb), .second, .val (.int sl), .val (.int (1 : Int32)), .val (.long (own_lmax (0 : Int64) j0)), .second, .val (.long bd), .second, .unset, .unset] [(.int (1 : Int32)), (.ref r_50), (.ref r_49), (.ref b44), (.ref b44)])) (fun _ k => XS.iload X50.here hx rfl (hb hby at_92) rfl k) ?_
      refine own_go (st' := T50.setTop (mkF m 95 #[.val (.long j0), .second, .val (.long j1), .second, .val (.long j2), .second, .val (.long bb), .second, .val (.int sl), .val (.int (1 : Int32)), .val (.long (own_lmax (0 : Int64) j0)), .second, .val (.long bd), .second, .unset, .unset] [(.long j0), (.int (1 : Int32)), (.ref r_50), (.ref r_49), (.ref b44), (.ref b44)])) (fun _ k => XS.lloadN X50.here hx rfl (hb hby at_94) rfl k) ?_
      refine own_go (st' := T50.setTop (mkF m 96 #[.val (.long j0), .second, .val (.long j1), .second, .val (.long j2), .second, .val (.long bb), .second, .val (.int sl), .val (.int (1 : Int32)), .val (.long (own_lmax (0 : Int64) j0)), .second, .val (.long bd), .second, .unset, .unset] [(.long j1), (.long j0), (.int (1 : Int32)), (.ref r_50), (.ref r_49), (.ref b44), (.ref b44)])) (fun _ k => XS.lloadN X50.here hx rfl (hb hby at_95) rfl k) ?_
      refine own_go (st' := T50.setTop (mkF m 98 #[.val (.long j0), .second, .val (.long j1), .second, .val (.long j2), .second, .val (.long bb), .second, .val (.int sl), .val (.int (1 : Int32)), .val (.long (own_lmax (0 : Int64) j0)), .second, .val (.long bd), .second, .unset, .unset] [(.long j2), (.long j1), (.long j0), (.int (1 : Int32)), (.ref r_50), (.ref r_49), (.ref b44), (.ref b44)])) (fun _ k => XS.lload X50.here hx rfl (hb hby at_96) rfl k) ?_
      obtain ⟨_, _, ⟨T51, LC51, kC51, nC51⟩, -, X51, ⟨Lc51, hQ51, lq51, yq51, zq51⟩, st51⟩ := Jvm.LawKit.callS X50 hx (y := (⟨"com/example/millwright/millwright/jobshop/JobShopSolutionOptimalPinLaw", "longs", "(IJJJ)[J"⟩ : MethodName)) hown (mvT hZ (hw _ (List.mem_of_getElem? (i := 12) rfl))) (mvT hZ (hw _ (List.mem_of_getElem? (i := 13) rfl))) (mvT hZ (hw _ (List.mem_of_getElem? (i := 9) rfl))) (mvT hZ (hw _ (List.mem_of_getElem? (i := 14) rfl))) (by decide) (backOf (W := 4) (rm3_1 l Z a0 hw [] j0 j1 j2 h50 n0 (by omega) ) hZ (hw _ (List.mem_of_getElem? (i := 14) rfl)) (hw _ (List.mem_of_getElem? (i := 9) rfl)) (by decide) (by decide)) (g := (mkF m 98 #[.val (.long j0), .second, .val (.long j1), .second, .val (.long j2), .second, .val (.long bb), .second, .val (.int sl), .val (.int (1 : Int32)), .val (.long (own_lmax (0 : Int64) j0)), .second, .val (.long bd), .second, .unset, .unset] [(.long j2), (.long j1), (.long j0), (.int (1 : Int32)), (.ref r_50), (.ref r_49), (.ref b44), (.ref b44)])) rfl (by rw [hml]; rfl) (argsL := [(.int (1 : Int32)), (.long j0), (.long j1), (.long j2)]) (rest := [(.ref r_50), (.ref r_49), (.ref b44), (.ref b44)]) (lenOf pd_3 rfl) rfl (by show 2 * 0 + _ ≤ _; exact Nat.le_of_eq rfl) (hb hby at_98) (fun _ _ => ⟨rfl, e50, (by decide : 3 + 1 ≤ _), (by decide : 6 + 1 ≤ _)⟩)
      dsimp only [Pt.U, Pt.locs, Pt.cells, Pt.slots] at X51 lq51 yq51 zq51 st51 hQ51
      subst lq51 yq51 zq51
      obtain ⟨h51, e51⟩ : ∃ z, T51.heap = z := ⟨_, rfl⟩
      rw [e51] at hQ51
      obtain ⟨r_51, kr_51, rfl, Nq51, K51, g51_0, g51_1⟩ := hQ51
      have sz51 : h50.size ≤ h51.size := K51.1
      have N51 := Fr.app N50 Nq51
      have lt51_1 : @LT.lt Nat _ r_51 h51.size := g51_0.lt
      refine own_go (st' := T51.setTop (mkF m 101 #[.val (.long j0), .second, .val (.long j1), .second, .val (.long j2), .second, .val (.long bb), .second, .val (.int sl), .val (.int (1 : Int32)), .val (.long (own_lmax (0 : Int64) j0)), .second, .val (.long bd), .second, .unset, .unset] [(.ref r_51), (.ref r_50), (.ref r_49), (.ref b44), (.ref b44)])) (fun t k => st51 t k) ?_
      have c53 : Exa Z h51 b44 "com/example/millwright/millwright/jobshop/Plan" := (((A44.keep K49).keep K50).keep K51)
      have c54 : Fld Z h51 b44 "com/example/millwright/millwright/jobshop/Plan" "machine" "[I" .null := (((f45.keep K49 nin0).keep K50 nin0).keep K51 nin0)
      have c55 : Fld Z h51 b44 "com/example/millwright/millwright/jobshop/Plan" "start" "[J" .null := (((f46.keep K49 nin0).keep K50 nin0).keep K51 nin0)
      have c56 : Fld Z h51 b44 "com/example/millwright/millwright/jobshop/Plan" "end" "[J" .null := (((f47.keep K49 nin0).keep K50 nin0).keep K51 nin0)
      have c57 : Fld Z h51 b44 "com/example/millwright/millwright/jobshop/Plan" "makespan" "J" (.long (0 : Int64)) := (((f48.keep K49 nin0).keep K50 nin0).keep K51 nin0)
      obtain ⟨_, _, ⟨T52, LC52, kC52, nC52⟩, -, X52, ⟨Lc52, hQ52, lq52, yq52, zq52⟩, st52⟩ := X51.specialBack hx (y := (⟨"com/example/millwright/millwright/jobshop/Plan", "<init>", "([I[J[J)V"⟩ : MethodName)) rfl hown (mvT hZ (hw _ (List.mem_of_getElem? (i := 16) rfl))) (mvT hZ (hw _ (List.mem_of_getElem? (i := 17) rfl))) (mvT hZ (hw _ (List.mem_of_getElem? (i := 18) rfl))) (by decide) (backOf (W := 1) (rm4_1 l Z a0 hw [] b44 r_49 r_50 r_51 kr_51 (0 : Int64) j0 h51 n0 (by omega) c53 c54 c55 c56 c57 g51_0 (by omega) (by first | assumption | exact Ne.symm (by assumption) | (apply Nat.ne_of_lt; omega) | (apply Nat.ne_of_gt; omega))) hZ (hw _ (List.mem_of_getElem? (i := 18) rfl)) (hw _ (List.mem_of_getElem? (i := 6) rfl)) (by decide) (by decide)) (g := (mkF m 101 #[.val (.long j0), .second, .val (.long j1), .second, .val (.long j2), .second, .val (.long bb), .second, .val (.int sl), .val (.int (1 : Int32)), .val (.long (own_lmax (0 : Int64) j0)), .second, .val (.long bd), .second, .unset, .unset] [(.ref r_51), (.ref r_50), (.ref r_49), (.ref b44), (.ref b44)])) rfl (by rw [hml]; rfl) (Steps.refl _) (a := b44) (argsL := [(.ref r_49), (.ref r_50), (.ref r_51)]) (rest := [(.ref b44)]) (lenOf pd_4 rfl) rfl (by show 2 * 0 + _ ≤ _; exact Nat.le_of_eq rfl) (hb hby at_101) (fun _ _ => ⟨rfl, e51, (by decide : 4 + 0 ≤ _), (by decide : 7 + 0 ≤ _)⟩)
      dsimp only [Pt.U, Pt.locs, Pt.cells, Pt.slots] at X52 lq52 yq52 zq52 st52 hQ52
      subst lq52 yq52 zq52
      obtain ⟨h52, e52⟩ : ∃ z, T52.heap = z := ⟨_, rfl⟩
      rw [e52] at hQ52
      obtain ⟨rfl, Nq52, K52, g52_0, g52_1⟩ := hQ52
      have sz52 : h51.size ≤ h52.size := K52.1
      have N52 := Fr.app N51 Nq52
      have lt52_1 : @LT.lt Nat _ b44 h52.size := g52_0.lt
      refine own_go (st' := T52.setTop (mkF m 104 #[.val (.long j0), .second, .val (.long j1), .second, .val (.long j2), .second, .val (.long bb), .second, .val (.int sl), .val (.int (1 : Int32)), .val (.long (own_lmax (0 : Int64) j0)), .second, .val (.long bd), .second, .unset, .unset] [(.ref b44)])) (fun _ k => st52.trans k) ?_
      refine own_go (st' := T52.setTop (mkF m 106 #[.val (.long j0), .second, .val (.long j1), .second, .val (.long j2), .second, .val (.long bb), .second, .val (.int sl), .val (.int (1 : Int32)), .val (.long (own_lmax (0 : Int64) j0)), .second, .val (.long bd), .second, .val (.ref b44), .unset] [])) (fun _ k => XS.astore X52.here hx rfl (hb hby at_104) rfl rfl (l' := #[.val (.long j0), .second, .val (.long j1), .second, .val (.long j2), .second, .val (.long bb), .second, .val (.int sl), .val (.int (1 : Int32)), .val (.long (own_lmax (0 : Int64) j0)), .second, .val (.long bd), .second, .val (.ref b44), .unset]) rfl k) ?_
      obtain ⟨T58, h58, X58, e58, E58, A58, D58, -, st58⟩ := newO X52 hx hZ hown (hw _ (List.mem_of_getElem? (i := 31) rfl)) (hw _ (List.mem_of_getElem? (i := 32) rfl)) (hw _ (List.mem_of_getElem? (i := 33) rfl)) e52 (g := (mkF m 106 #[.val (.long j0), .second, .val (.long j1), .second, .val (.long j2), .second, .val (.long bb), .second, .val (.int sl), .val (.int (1 : Int32)), .val (.long (own_lmax (0 : Int64) j0)), .second, .val (.long bd), .second, .val (.ref b44), .unset] [])) rfl (hb hby at_106) (by decide) (by decide)
      obtain ⟨b58, g58⟩ : ∃ z, z = h52.size := ⟨_, rfl⟩
      rw [← g58] at A58 D58 st58
      have sz58 : h52.size ≤ h58.size := E58.1
      have lt58 : @LT.lt Nat _ b58 h58.size := A58.lt
      have f59 : Fld Z h58 b58 "com/example/millwright/millwright/jobshop/JobShopSolution" "plan" "Lcom/example/millwright/millwright/jobshop/Plan;" .null := D58 (Or.inr (hw _ (List.mem_of_getElem? (i := 44) rfl))) (ty := (.object "com/example/millwright/millwright/jobshop/Plan")) (by decide)
      have f60 : Fld Z h58 b58 "com/example/millwright/millwright/jobshop/JobShopSolution" "bound" "J" (.long (0 : Int64)) := D58 (Or.inr (hw _ (List.mem_of_getElem? (i := 46) rfl))) (ty := .long) (by decide)
      refine own_go (st' := T58.setTop (mkF m 109 #[.val (.long j0), .second, .val (.long j1), .second, .val (.long j2), .second, .val (.long bb), .second, .val (.int sl), .val (.int (1 : Int32)), .val (.long (own_lmax (0 : Int64) j0)), .second, .val (.long bd), .second, .val (.ref b44), .unset] [(.ref b58)])) (st58) ?_
      refine own_go (st' := T58.setTop (mkF m 110 #[.val (.long j0), .second, .val (.long j1), .second, .val (.long j2), .second, .val (.long bb), .second, .val (.int sl), .val (.int (1 : Int32)), .val (.long (own_lmax (0 : Int64) j0)), .second, .val (.long bd), .second, .val (.ref b44), .unset] [(.ref b58), (.ref b58)])) (fun _ k => XS.dup X58.here hx rfl (hb hby at_109) rfl rfl k) ?_
      refine own_go (st' := T58.setTop (mkF m 112 #[.val (.long j0), .second, .val (.long j1), .second, .val (.long j2), .second, .val (.long bb), .second, .val (.int sl), .val (.int (1 : Int32)), .val (.long (own_lmax (0 : Int64) j0)), .second, .val (.long bd), .second, .val (.ref b44), .unset] [(.ref b44), (.ref b58), (.ref b58)])) (fun _ k => XS.aload X58.here hx rfl (hb hby at_110) rfl rfl k) ?_
      refine own_go (st' := T58.setTop (mkF m 114 #[.val (.long j0), .second, .val (.long j1), .second, .val (.long j2), .second, .val (.long bb), .second, .val (.int sl), .val (.int (1 : Int32)), .val (.long (own_lmax (0 : Int64) j0)), .second, .val (.long bd), .second, .val (.ref b44), .unset] [(.long bd), (.ref b44), (.ref b58), (.ref b58)])) (fun _ k => XS.lload X58.here hx rfl (hb hby at_112) rfl k) ?_
      have c62 : Exa Z h58 b44 "com/example/millwright/millwright/jobshop/Plan" := (g52_0.ext E58)
      have c63 : Fld Z h58 b44 "com/example/millwright/millwright/jobshop/Plan" "makespan" "J" (.long (own_lmax (0 : Int64) j0)) := (g52_1.ext E58)
      obtain ⟨_, _, ⟨T61, LC61, kC61, nC61⟩, -, X61, ⟨Lc61, hQ61, lq61, yq61, zq61⟩, st61⟩ := X58.specialBack hx (y := (⟨"com/example/millwright/millwright/jobshop/JobShopSolution", "<init>", "(Lcom/example/millwright/millwright/jobshop/Plan;J)V"⟩ : MethodName)) rfl hown (mvT hZ (hw _ (List.mem_of_getElem? (i := 34) rfl))) (mvT hZ (hw _ (List.mem_of_getElem? (i := 35) rfl))) (mvT hZ (hw _ (List.mem_of_getElem? (i := 36) rfl))) (by decide) (backOf (W := 1) (rm6 l Z a0 hw [] b58 b44 bd (own_lmax (0 : Int64) j0) (0 : Int64) h58 n0 (by omega) A58 f59 f60 c62 c63 (by omega) (by first | assumption | exact Ne.symm (by assumption) | (apply Nat.ne_of_lt; omega) | (apply Nat.ne_of_gt; omega)) hbd) hZ (hw _ (List.mem_of_getElem? (i := 36) rfl)) (hw _ (List.mem_of_getElem? (i := 33) rfl)) (by decide) (by decide)) (g := (mkF m 114 #[.val (.long j0), .second, .val (.long j1), .second, .val (.long j2), .second, .val (.long bb), .second, .val (.int sl), .val (.int (1 : Int32)), .val (.long (own_lmax (0 : Int64) j0)), .second, .val (.long bd), .second, .val (.ref b44), .unset] [(.long bd), (.ref b44), (.ref b58), (.ref b58)])) rfl (by rw [hml]; rfl) (Steps.refl _) (a := b58) (argsL := [(.ref b44), (.long bd)]) (rest := [(.ref b58)]) (lenOf pd_5 rfl) rfl (by show 2 * 0 + _ ≤ _; exact Nat.le_of_eq rfl) (hb hby at_114) (fun _ _ => ⟨rfl, e58, (by decide : 5 + 0 ≤ _), (by decide : 9 + 0 ≤ _)⟩)
      dsimp only [Pt.U, Pt.locs, Pt.cells, Pt.slots] at X61 lq61 yq61 zq61 st61 hQ61
      subst lq61 yq61 zq61
      obtain ⟨h61, e61⟩ : ∃ z, T61.heap = z := ⟨_, rfl⟩
      rw [e61] at hQ61
      obtain ⟨rfl, Nq61, K61, g61_0, g61_1, g61_2⟩ := hQ61
      have sz61 : h58.size ≤ h61.size := K61.1
      have N61 := Fr.app N52 Nq61
      have lt61_1 : @LT.lt Nat _ b58 h61.size := g61_0.lt
      refine own_go (st' := T61.setTop (mkF m 117 #[.val (.long j0), .second, .val (.long j1), .second, .val (.long j2), .second, .val (.long bb), .second, .val (.int sl), .val (.int (1 : Int32)), .val (.long (own_lmax (0 : Int64) j0)), .second, .val (.long bd), .second, .val (.ref b44), .unset] [(.ref b58)])) (fun _ k => st61.trans k) ?_
      refine own_go (st' := T61.setTop (mkF m 119 #[.val (.long j0), .second, .val (.long j1), .second, .val (.long j2), .second, .val (.long bb), .second, .val (.int sl), .val (.int (1 : Int32)), .val (.long (own_lmax (0 : Int64) j0)), .second, .val (.long bd), .second, .val (.ref b44), .val (.ref b58)] [])) (fun _ k => XS.astore X61.here hx rfl (hb hby at_117) rfl rfl (l' := #[.val (.long j0), .second, .val (.long j1), .second, .val (.long j2), .second, .val (.long bb), .second, .val (.int sl), .val (.int (1 : Int32)), .val (.long (own_lmax (0 : Int64) j0)), .second, .val (.long bd), .second, .val (.ref b44), .val (.ref b58)]) rfl k) ?_
      refine own_go (st' := T61.setTop (mkF m 121 #[.val (.long j0), .second, .val (.long j1), .second, .val (.long j2), .second, .val (.long bb), .second, .val (.int sl), .val (.int (1 : Int32)), .val (.long (own_lmax (0 : Int64) j0)), .second, .val (.long bd), .second, .val (.ref b44), .val (.ref b58)] [(.ref b58)])) (fun _ k => XS.aload X61.here hx rfl (hb hby at_119) rfl rfl k) ?_
      have c65 : Exa Z h61 b44 "com/example/millwright/millwright/jobshop/Plan" := (c62.keep K61)
      have c66 : Fld Z h61 b44 "com/example/millwright/millwright/jobshop/Plan" "makespan" "J" (.long (own_lmax (0 : Int64) j0)) := (c63.keep K61 (ninS (by first | assumption | exact Ne.symm (by assumption) | (apply Nat.ne_of_lt; omega) | (apply Nat.ne_of_gt; omega)) nin0))
      obtain ⟨cq64, kq64, q64a, q64b, q64c⟩ := isOf hZ e61 g61_0
      obtain ⟨_, _, ⟨T64, LC64, kC64, nC64⟩, -, X64, ⟨Lc64, hQ64, lq64, yq64, zq64⟩, st64⟩ := X61.virtualBack hx (y := (⟨"com/example/millwright/millwright/jobshop/JobShopSolution", "optimal", "()Z"⟩ : MethodName)) (z := (⟨"com/example/millwright/millwright/jobshop/JobShopSolution", "optimal", "()Z"⟩ : MethodName)) hown (mvT hZ (hw _ (List.mem_of_getElem? (i := 47) rfl))) (mvT hZ (hw _ (List.mem_of_getElem? (i := 48) rfl))) (notFace_of_selects (args := #[]) (mvT hZ (hw _ (List.mem_of_getElem? (i := 50) rfl)))) (mvT hZ (hw _ (List.mem_of_getElem? (i := 50) rfl))) (mvT hZ (hw _ (List.mem_of_getElem? (i := 49) rfl))) (by decide) (backOf (W := 0) (rm8 l Z a0 hw [] b58 b44 bd (own_lmax (0 : Int64) j0) h61 n0 (by omega) g61_1 g61_2 c65 c66) hZ (hw _ (List.mem_of_getElem? (i := 51) rfl)) (hw _ (List.mem_of_getElem? (i := 33) rfl)) (by decide) (by decide)) q64a q64c (g := (mkF m 121 #[.val (.long j0), .second, .val (.long j1), .second, .val (.long j2), .second, .val (.long bb), .second, .val (.int sl), .val (.int (1 : Int32)), .val (.long (own_lmax (0 : Int64) j0)), .second, .val (.long bd), .second, .val (.ref b44), .val (.ref b58)] [(.ref b58)])) rfl (by rw [hml]; rfl) (Steps.refl _) (argsL := []) (rest := []) (lenOf pd_6 rfl) rfl (by show 2 * 0 + _ ≤ _; exact Nat.le_of_eq rfl) (hb hby at_121) (fun _ _ => ⟨rfl, e61, (by decide : 5 + 0 ≤ _), (by decide : 9 + 0 ≤ _)⟩)
      dsimp only [Pt.U, Pt.locs, Pt.cells, Pt.slots] at X64 lq64 yq64 zq64 st64 hQ64
      subst lq64 yq64 zq64
      obtain ⟨rfl, Nq64, eq64⟩ := hQ64
      have N64 := Fr.app N61 Nq64
      refine own_go (st' := T64.setTop (mkF m 124 #[.val (.long j0), .second, .val (.long j1), .second, .val (.long j2), .second, .val (.long bb), .second, .val (.int sl), .val (.int (1 : Int32)), .val (.long (own_lmax (0 : Int64) j0)), .second, .val (.long bd), .second, .val (.ref b44), .val (.ref b58)] [(.int (own_opt bd (own_lmax (0 : Int64) j0)))])) (fun _ k => st64.trans k) ?_
      refine own_go (st' := T64.setTop (mkF m 126 #[.val (.long j0), .second, .val (.long j1), .second, .val (.long j2), .second, .val (.long bb), .second, .val (.int sl), .val (.int (1 : Int32)), .val (.long (own_lmax (0 : Int64) j0)), .second, .val (.long bd), .second, .val (.ref b44), .val (.ref b58)] [(.long bd), (.int (own_opt bd (own_lmax (0 : Int64) j0)))])) (fun _ k => XS.lload X64.here hx rfl (hb hby at_124) rfl k) ?_
      refine own_go (st' := T64.setTop (mkF m 128 #[.val (.long j0), .second, .val (.long j1), .second, .val (.long j2), .second, .val (.long bb), .second, .val (.int sl), .val (.int (1 : Int32)), .val (.long (own_lmax (0 : Int64) j0)), .second, .val (.long bd), .second, .val (.ref b44), .val (.ref b58)] [(.long (own_lmax (0 : Int64) j0)), (.long bd), (.int (own_opt bd (own_lmax (0 : Int64) j0)))])) (fun _ k => XS.lload X64.here hx rfl (hb hby at_126) rfl k) ?_
      refine own_go (st' := T64.setTop (mkF m 129 #[.val (.long j0), .second, .val (.long j1), .second, .val (.long j2), .second, .val (.long bb), .second, .val (.int sl), .val (.int (1 : Int32)), .val (.long (own_lmax (0 : Int64) j0)), .second, .val (.long bd), .second, .val (.ref b44), .val (.ref b58)] [(.int (lcmpW bd (own_lmax (0 : Int64) j0))), (.int (own_opt bd (own_lmax (0 : Int64) j0)))])) (fun _ k => XS.lcmp X64.here hx rfl (hb hby at_128) rfl k) ?_
      by_cases hc67 : bd = (own_lmax (0 : Int64) j0)
      · --
        refine own_go (st' := T64.setTop (mkF m 132 #[.val (.long j0), .second, .val (.long j1), .second, .val (.long j2), .second, .val (.long bb), .second, .val (.int sl), .val (.int (1 : Int32)), .val (.long (own_lmax (0 : Int64) j0)), .second, .val (.long bd), .second, .val (.ref b44), .val (.ref b58)] [(.int (own_opt bd (own_lmax (0 : Int64) j0)))])) (fun _ k => XS.ifNo X64.here hx rfl (hb hby at_129) rfl ((if0 _ _).trans (teq ((lw_eq bd (own_lmax (0 : Int64) j0)).mpr hc67)).2) k) ?_
        refine own_go (st' := T64.setTop (mkF m 133 #[.val (.long j0), .second, .val (.long j1), .second, .val (.long j2), .second, .val (.long bb), .second, .val (.int sl), .val (.int (1 : Int32)), .val (.long (own_lmax (0 : Int64) j0)), .second, .val (.long bd), .second, .val (.ref b44), .val (.ref b58)] [(.int (1 : Int32)), (.int (own_opt bd (own_lmax (0 : Int64) j0)))])) (fun _ k => XS.iconst X64.here hx rfl (hb hby at_132) k) ?_
        refine own_go (st' := T64.setTop (mkF m 137 #[.val (.long j0), .second, .val (.long j1), .second, .val (.long j2), .second, .val (.long bb), .second, .val (.int sl), .val (.int (1 : Int32)), .val (.long (own_lmax (0 : Int64) j0)), .second, .val (.long bd), .second, .val (.ref b44), .val (.ref b58)] [(.int (1 : Int32)), (.int (own_opt bd (own_lmax (0 : Int64) j0)))])) (fun _ k => XS.goto X64.here hx rfl (pc0 := 133) (pc' := 137) rfl (hb hby at_133) (by decide) (by decide) k) ?_
        have hc68 : (own_opt bd (own_lmax (0 : Int64) j0)) = (1 : Int32) := if_pos hc67
        refine own_go (st' := T64.setTop (mkF m 140 #[.val (.long j0), .second, .val (.long j1), .second, .val (.long j2), .second, .val (.long bb), .second, .val (.int sl), .val (.int (1 : Int32)), .val (.long (own_lmax (0 : Int64) j0)), .second, .val (.long bd), .second, .val (.ref b44), .val (.ref b58)] [])) (fun _ k => XS.icmpNo X64.here hx rfl (hb hby at_137) rfl (teq hc68).2 k) ?_
        refine own_go (st' := T64.setTop (mkF m 142 #[.val (.long j0), .second, .val (.long j1), .second, .val (.long j2), .second, .val (.long bb), .second, .val (.int sl), .val (.int (1 : Int32)), .val (.long (own_lmax (0 : Int64) j0)), .second, .val (.long bd), .second, .val (.ref b44), .val (.ref b58)] [(.ref b58)])) (fun _ k => XS.aload X64.here hx rfl (hb hby at_140) rfl rfl k) ?_
        obtain ⟨cq69, kq69, q69a, q69b, q69c⟩ := isOf hZ eq64 g61_0
        obtain ⟨_, _, ⟨T69, LC69, kC69, nC69⟩, -, X69, ⟨Lc69, hQ69, lq69, yq69, zq69⟩, st69⟩ := X64.virtualBack hx (y := (⟨"com/example/millwright/millwright/jobshop/JobShopSolution", "bound", "()J"⟩ : MethodName)) (z := (⟨"com/example/millwright/millwright/jobshop/JobShopSolution", "bound", "()J"⟩ : MethodName)) hown (mvT hZ (hw _ (List.mem_of_getElem? (i := 52) rfl))) (mvT hZ (hw _ (List.mem_of_getElem? (i := 53) rfl))) (notFace_of_selects (args := #[]) (mvT hZ (hw _ (List.mem_of_getElem? (i := 55) rfl)))) (mvT hZ (hw _ (List.mem_of_getElem? (i := 55) rfl))) (mvT hZ (hw _ (List.mem_of_getElem? (i := 54) rfl))) (by decide) (backOf (W := 0) (rm9 l Z a0 hw [] b58 bd h61 n0 (by omega) g61_2) hZ (hw _ (List.mem_of_getElem? (i := 56) rfl)) (hw _ (List.mem_of_getElem? (i := 33) rfl)) (by decide) (by decide)) q69a q69c (g := (mkF m 142 #[.val (.long j0), .second, .val (.long j1), .second, .val (.long j2), .second, .val (.long bb), .second, .val (.int sl), .val (.int (1 : Int32)), .val (.long (own_lmax (0 : Int64) j0)), .second, .val (.long bd), .second, .val (.ref b44), .val (.ref b58)] [(.ref b58)])) rfl (by rw [hml]; rfl) (Steps.refl _) (argsL := []) (rest := []) (lenOf pd_1 rfl) rfl (by show 2 * 0 + _ ≤ _; exact Nat.le_of_eq rfl) (hb hby at_142) (fun _ _ => ⟨rfl, eq64, (by decide : 5 + 0 ≤ _), (by decide : 9 + 0 ≤ _)⟩)
        dsimp only [Pt.U, Pt.locs, Pt.cells, Pt.slots] at X69 lq69 yq69 zq69 st69 hQ69
        subst lq69 yq69 zq69
        obtain ⟨rfl, Nq69, eq69⟩ := hQ69
        have N69 := Fr.app N64 Nq69
        refine own_go (st' := T69.setTop (mkF m 145 #[.val (.long j0), .second, .val (.long j1), .second, .val (.long j2), .second, .val (.long bb), .second, .val (.int sl), .val (.int (1 : Int32)), .val (.long (own_lmax (0 : Int64) j0)), .second, .val (.long bd), .second, .val (.ref b44), .val (.ref b58)] [(.long bd)])) (fun _ k => st69.trans k) ?_
        refine own_go (st' := T69.setTop (mkF m 147 #[.val (.long j0), .second, .val (.long j1), .second, .val (.long j2), .second, .val (.long bb), .second, .val (.int sl), .val (.int (1 : Int32)), .val (.long (own_lmax (0 : Int64) j0)), .second, .val (.long bd), .second, .val (.ref b44), .val (.ref b58)] [(.long bd), (.long bd)])) (fun _ k => XS.lload X69.here hx rfl (hb hby at_145) rfl k) ?_
        refine own_go (st' := T69.setTop (mkF m 148 #[.val (.long j0), .second, .val (.long j1), .second, .val (.long j2), .second, .val (.long bb), .second, .val (.int sl), .val (.int (1 : Int32)), .val (.long (own_lmax (0 : Int64) j0)), .second, .val (.long bd), .second, .val (.ref b44), .val (.ref b58)] [(.int (lcmpW bd bd))])) (fun _ k => XS.lcmp X69.here hx rfl (hb hby at_147) rfl k) ?_
        have hc70 : bd = bd := rfl
        refine own_go (st' := T69.setTop (mkF m 151 #[.val (.long j0), .second, .val (.long j1), .second, .val (.long j2), .second, .val (.long bb), .second, .val (.int sl), .val (.int (1 : Int32)), .val (.long (own_lmax (0 : Int64) j0)), .second, .val (.long bd), .second, .val (.ref b44), .val (.ref b58)] [])) (fun _ k => XS.ifNo X69.here hx rfl (hb hby at_148) rfl ((if0 _ _).trans (teq ((lw_eq bd bd).mpr hc70)).2) k) ?_
        refine own_go (st' := T69.setTop (mkF m 152 #[.val (.long j0), .second, .val (.long j1), .second, .val (.long j2), .second, .val (.long bb), .second, .val (.int sl), .val (.int (1 : Int32)), .val (.long (own_lmax (0 : Int64) j0)), .second, .val (.long bd), .second, .val (.ref b44), .val (.ref b58)] [(.int (1 : Int32))])) (fun _ k => XS.iconst X69.here hx rfl (hb hby at_151) k) ?_
        refine own_go (st' := T69.setTop (mkF m 156 #[.val (.long j0), .second, .val (.long j1), .second, .val (.long j2), .second, .val (.long bb), .second, .val (.int sl), .val (.int (1 : Int32)), .val (.long (own_lmax (0 : Int64) j0)), .second, .val (.long bd), .second, .val (.ref b44), .val (.ref b58)] [(.int (1 : Int32))])) (fun _ k => XS.goto X69.here hx rfl (pc0 := 152) (pc' := 156) rfl (hb hby at_152) (by decide) (by decide) k) ?_
        obtain ⟨fs, hr, hrun, hended, hW, hsame⟩ := X69.leave (v := some (.int (1 : Int32))) (fun h => by rw [Bd.returns] at h; cases h)
        refine ⟨_, _, ?_, hP _ _ hrun hended ⟨_, _, rfl, ?_, ⟨_, rfl⟩, hW, hsame.mono (by decide) (by decide)⟩⟩
        · exact retN X69 hx (t := .boolean) Bd.returns (by simp) (hb hby at_156) hr
        · show Qrm0 Z j0 j1 j2 bb sl h0 n0 _ T69.heap _
          rw [eq69]
          exact ⟨rfl, N69, trivial⟩
      · --
        refine own_go (st' := T64.setTop (mkF m 136 #[.val (.long j0), .second, .val (.long j1), .second, .val (.long j2), .second, .val (.long bb), .second, .val (.int sl), .val (.int (1 : Int32)), .val (.long (own_lmax (0 : Int64) j0)), .second, .val (.long bd), .second, .val (.ref b44), .val (.ref b58)] [(.int (own_opt bd (own_lmax (0 : Int64) j0)))])) (fun _ k => XS.ifYes X64.here hx rfl (pc0 := 129) (pc' := 136) rfl (hb hby at_129) rfl ((if0 _ _).trans (feq (fun q_ => hc67 ((lw_eq bd (own_lmax (0 : Int64) j0)).mp q_))).2) (by decide) (by decide) k) ?_
        refine own_go (st' := T64.setTop (mkF m 137 #[.val (.long j0), .second, .val (.long j1), .second, .val (.long j2), .second, .val (.long bb), .second, .val (.int sl), .val (.int (1 : Int32)), .val (.long (own_lmax (0 : Int64) j0)), .second, .val (.long bd), .second, .val (.ref b44), .val (.ref b58)] [(.int (0 : Int32)), (.int (own_opt bd (own_lmax (0 : Int64) j0)))])) (fun _ k => XS.iconst X64.here hx rfl (hb hby at_136) k) ?_
        have hc72 : (own_opt bd (own_lmax (0 : Int64) j0)) = (0 : Int32) := if_neg hc67
        refine own_go (st' := T64.setTop (mkF m 140 #[.val (.long j0), .second, .val (.long j1), .second, .val (.long j2), .second, .val (.long bb), .second, .val (.int sl), .val (.int (1 : Int32)), .val (.long (own_lmax (0 : Int64) j0)), .second, .val (.long bd), .second, .val (.ref b44), .val (.ref b58)] [])) (fun _ k => XS.icmpNo X64.here hx rfl (hb hby at_137) rfl (teq hc72).2 k) ?_
        refine own_go (st' := T64.setTop (mkF m 142 #[.val (.long j0), .second, .val (.long j1), .second, .val (.long j2), .second, .val (.long bb), .second, .val (.int sl), .val (.int (1 : Int32)), .val (.long (own_lmax (0 : Int64) j0)), .second, .val (.long bd), .second, .val (.ref b44), .val (.ref b58)] [(.ref b58)])) (fun _ k => XS.aload X64.here hx rfl (hb hby at_140) rfl rfl k) ?_
        obtain ⟨cq73, kq73, q73a, q73b, q73c⟩ := isOf hZ eq64 g61_0
        obtain ⟨_, _, ⟨T73, LC73, kC73, nC73⟩, -, X73, ⟨Lc73, hQ73, lq73, yq73, zq73⟩, st73⟩ := X64.virtualBack hx (y := (⟨"com/example/millwright/millwright/jobshop/JobShopSolution", "bound", "()J"⟩ : MethodName)) (z := (⟨"com/example/millwright/millwright/jobshop/JobShopSolution", "bound", "()J"⟩ : MethodName)) hown (mvT hZ (hw _ (List.mem_of_getElem? (i := 52) rfl))) (mvT hZ (hw _ (List.mem_of_getElem? (i := 53) rfl))) (notFace_of_selects (args := #[]) (mvT hZ (hw _ (List.mem_of_getElem? (i := 55) rfl)))) (mvT hZ (hw _ (List.mem_of_getElem? (i := 55) rfl))) (mvT hZ (hw _ (List.mem_of_getElem? (i := 54) rfl))) (by decide) (backOf (W := 0) (rm9 l Z a0 hw [] b58 bd h61 n0 (by omega) g61_2) hZ (hw _ (List.mem_of_getElem? (i := 56) rfl)) (hw _ (List.mem_of_getElem? (i := 33) rfl)) (by decide) (by decide)) q73a q73c (g := (mkF m 142 #[.val (.long j0), .second, .val (.long j1), .second, .val (.long j2), .second, .val (.long bb), .second, .val (.int sl), .val (.int (1 : Int32)), .val (.long (own_lmax (0 : Int64) j0)), .second, .val (.long bd), .second, .val (.ref b44), .val (.ref b58)] [(.ref b58)])) rfl (by rw [hml]; rfl) (Steps.refl _) (argsL := []) (rest := []) (lenOf pd_1 rfl) rfl (by show 2 * 0 + _ ≤ _; exact Nat.le_of_eq rfl) (hb hby at_142) (fun _ _ => ⟨rfl, eq64, (by decide : 5 + 0 ≤ _), (by decide : 9 + 0 ≤ _)⟩)
        dsimp only [Pt.U, Pt.locs, Pt.cells, Pt.slots] at X73 lq73 yq73 zq73 st73 hQ73
        subst lq73 yq73 zq73
        obtain ⟨rfl, Nq73, eq73⟩ := hQ73
        have N73 := Fr.app N64 Nq73
        refine own_go (st' := T73.setTop (mkF m 145 #[.val (.long j0), .second, .val (.long j1), .second, .val (.long j2), .second, .val (.long bb), .second, .val (.int sl), .val (.int (1 : Int32)), .val (.long (own_lmax (0 : Int64) j0)), .second, .val (.long bd), .second, .val (.ref b44), .val (.ref b58)] [(.long bd)])) (fun _ k => st73.trans k) ?_
        refine own_go (st' := T73.setTop (mkF m 147 #[.val (.long j0), .second, .val (.long j1), .second, .val (.long j2), .second, .val (.long bb), .second, .val (.int sl), .val (.int (1 : Int32)), .val (.long (own_lmax (0 : Int64) j0)), .second, .val (.long bd), .second, .val (.ref b44), .val (.ref b58)] [(.long bd), (.long bd)])) (fun _ k => XS.lload X73.here hx rfl (hb hby at_145) rfl k) ?_
        refine own_go (st' := T73.setTop (mkF m 148 #[.val (.long j0), .second, .val (.long j1), .second, .val (.long j2), .second, .val (.long bb), .second, .val (.int sl), .val (.int (1 : Int32)), .val (.long (own_lmax (0 : Int64) j0)), .second, .val (.long bd), .second, .val (.ref b44), .val (.ref b58)] [(.int (lcmpW bd bd))])) (fun _ k => XS.lcmp X73.here hx rfl (hb hby at_147) rfl k) ?_
        have hc74 : bd = bd := rfl
        refine own_go (st' := T73.setTop (mkF m 151 #[.val (.long j0), .second, .val (.long j1), .second, .val (.long j2), .second, .val (.long bb), .second, .val (.int sl), .val (.int (1 : Int32)), .val (.long (own_lmax (0 : Int64) j0)), .second, .val (.long bd), .second, .val (.ref b44), .val (.ref b58)] [])) (fun _ k => XS.ifNo X73.here hx rfl (hb hby at_148) rfl ((if0 _ _).trans (teq ((lw_eq bd bd).mpr hc74)).2) k) ?_
        refine own_go (st' := T73.setTop (mkF m 152 #[.val (.long j0), .second, .val (.long j1), .second, .val (.long j2), .second, .val (.long bb), .second, .val (.int sl), .val (.int (1 : Int32)), .val (.long (own_lmax (0 : Int64) j0)), .second, .val (.long bd), .second, .val (.ref b44), .val (.ref b58)] [(.int (1 : Int32))])) (fun _ k => XS.iconst X73.here hx rfl (hb hby at_151) k) ?_
        refine own_go (st' := T73.setTop (mkF m 156 #[.val (.long j0), .second, .val (.long j1), .second, .val (.long j2), .second, .val (.long bb), .second, .val (.int sl), .val (.int (1 : Int32)), .val (.long (own_lmax (0 : Int64) j0)), .second, .val (.long bd), .second, .val (.ref b44), .val (.ref b58)] [(.int (1 : Int32))])) (fun _ k => XS.goto X73.here hx rfl (pc0 := 152) (pc' := 156) rfl (hb hby at_152) (by decide) (by decide) k) ?_
        obtain ⟨fs, hr, hrun, hended, hW, hsame⟩ := X73.leave (v := some (.int (1 : Int32))) (fun h => by rw [Bd.returns] at h; cases h)
        refine ⟨_, _, ?_, hP _ _ hrun hended ⟨_, _, rfl, ?_, ⟨_, rfl⟩, hW, hsame.mono (by decide) (by decide)⟩⟩
        · exact retN X73 hx (t := .boolean) Bd.returns (by simp) (hb hby at_156) hr
        · show Qrm0 Z j0 j1 j2 bb sl h0 n0 _ T73.heap _
          rw [eq73]
          exact ⟨rfl, N73, trivial⟩
    refine own_go (st' := T40.setTop (mkF m 56 #[.val (.long j0), .second, .val (.long j1), .second, .val (.long j2), .second, .val (.long bb), .second, .val (.int sl), .val (.int (1 : Int32)), .val (.long (own_lmax (0 : Int64) j0)), .second, .unset, .unset, .unset, .unset] [(.int sl)])) (fun _ k => XS.iload X40.here hx rfl (hb hby at_54) rfl k) ?_
    refine own_go (st' := T40.setTop (mkF m 57 #[.val (.long j0), .second, .val (.long j1), .second, .val (.long j2), .second, .val (.long bb), .second, .val (.int sl), .val (.int (1 : Int32)), .val (.long (own_lmax (0 : Int64) j0)), .second, .unset, .unset, .unset, .unset] [(.int (1 : Int32)), (.int sl)])) (fun _ k => XS.iconst X40.here hx rfl (hb hby at_56) k) ?_
    refine own_go (st' := T40.setTop (mkF m 58 #[.val (.long j0), .second, .val (.long j1), .second, .val (.long j2), .second, .val (.long bb), .second, .val (.int sl), .val (.int (1 : Int32)), .val (.long (own_lmax (0 : Int64) j0)), .second, .unset, .unset, .unset, .unset] [(.int (sl &&& (1 : Int32)))])) (fun _ k => XS.iand X40.here hx rfl (hb hby at_57) rfl k) ?_
    by_cases hc76 : (sl &&& (1 : Int32)) = (0 : Int32)
    · --
      refine own_go (st' := T40.setTop (mkF m 66 #[.val (.long j0), .second, .val (.long j1), .second, .val (.long j2), .second, .val (.long bb), .second, .val (.int sl), .val (.int (1 : Int32)), .val (.long (own_lmax (0 : Int64) j0)), .second, .unset, .unset, .unset, .unset] [])) (fun _ k => XS.ifYes X40.here hx rfl (pc0 := 58) (pc' := 66) rfl (hb hby at_58) rfl ((if0 _ _).trans (teq hc76).1) (by decide) (by decide) k) ?_
      refine own_go (st' := T40.setTop (mkF m 68 #[.val (.long j0), .second, .val (.long j1), .second, .val (.long j2), .second, .val (.long bb), .second, .val (.int sl), .val (.int (1 : Int32)), .val (.long (own_lmax (0 : Int64) j0)), .second, .unset, .unset, .unset, .unset] [(.long bb)])) (fun _ k => XS.lload X40.here hx rfl (hb hby at_66) rfl k) ?_
      refine own_go (st' := T40.setTop (mkF m 70 #[.val (.long j0), .second, .val (.long j1), .second, .val (.long j2), .second, .val (.long bb), .second, .val (.int sl), .val (.int (1 : Int32)), .val (.long (own_lmax (0 : Int64) j0)), .second, .unset, .unset, .unset, .unset] [(.long (own_lmax (0 : Int64) j0)), (.long bb)])) (fun _ k => XS.lload X40.here hx rfl (hb hby at_68) rfl k) ?_
      obtain ⟨_, _, ⟨T77, LC77, kC77, nC77⟩, -, X77, ⟨Lc77, hQ77, lq77, yq77, zq77⟩, st77⟩ := Jvm.LawKit.callS X40 hx (y := (⟨"java/lang/Math", "min", "(JJ)J"⟩ : MethodName)) hown (mvT hZ (hw _ (List.mem_of_getElem? (i := 57) rfl))) (mvT hZ (hw _ (List.mem_of_getElem? (i := 58) rfl))) (mvT hZ (hw _ (List.mem_of_getElem? (i := 2) rfl))) (mvT hZ (hw _ (List.mem_of_getElem? (i := 59) rfl))) (by decide) (backOf (W := 0) (rm10 l Z a0 hw [] bb (own_lmax (0 : Int64) j0) h0 n0 (by omega) ) hZ (hw _ (List.mem_of_getElem? (i := 59) rfl)) (hw _ (List.mem_of_getElem? (i := 2) rfl)) (by decide) (by decide)) (g := (mkF m 70 #[.val (.long j0), .second, .val (.long j1), .second, .val (.long j2), .second, .val (.long bb), .second, .val (.int sl), .val (.int (1 : Int32)), .val (.long (own_lmax (0 : Int64) j0)), .second, .unset, .unset, .unset, .unset] [(.long (own_lmax (0 : Int64) j0)), (.long bb)])) rfl (by rw [hml]; rfl) (argsL := [(.long bb), (.long (own_lmax (0 : Int64) j0))]) (rest := []) (lenOf pd_0 rfl) rfl (by show 2 * 0 + _ ≤ _; exact Nat.le_of_eq rfl) (hb hby at_70) (fun _ _ => ⟨rfl, eq40, (by decide : 0 + 0 ≤ _), (by decide : 0 + 0 ≤ _)⟩)
      dsimp only [Pt.U, Pt.locs, Pt.cells, Pt.slots] at X77 lq77 yq77 zq77 st77 hQ77
      subst lq77 yq77 zq77
      obtain ⟨rfl, Nq77, eq77⟩ := hQ77
      have N77 := Fr.app N40 Nq77
      refine own_go (st' := T77.setTop (mkF m 73 #[.val (.long j0), .second, .val (.long j1), .second, .val (.long j2), .second, .val (.long bb), .second, .val (.int sl), .val (.int (1 : Int32)), .val (.long (own_lmax (0 : Int64) j0)), .second, .unset, .unset, .unset, .unset] [(.long (own_lmin bb (own_lmax (0 : Int64) j0)))])) (fun t k => st77 t k) ?_
      exact J73_43 _ _ (own_lmin bb (own_lmax (0 : Int64) j0)) X77 eq77 N77 (own_min_le _ _)
    · --
      refine own_go (st' := T40.setTop (mkF m 61 #[.val (.long j0), .second, .val (.long j1), .second, .val (.long j2), .second, .val (.long bb), .second, .val (.int sl), .val (.int (1 : Int32)), .val (.long (own_lmax (0 : Int64) j0)), .second, .unset, .unset, .unset, .unset] [])) (fun _ k => XS.ifNo X40.here hx rfl (hb hby at_58) rfl ((if0 _ _).trans (feq hc76).1) k) ?_
      refine own_go (st' := T40.setTop (mkF m 63 #[.val (.long j0), .second, .val (.long j1), .second, .val (.long j2), .second, .val (.long bb), .second, .val (.int sl), .val (.int (1 : Int32)), .val (.long (own_lmax (0 : Int64) j0)), .second, .unset, .unset, .unset, .unset] [(.long (own_lmax (0 : Int64) j0))])) (fun _ k => XS.lload X40.here hx rfl (hb hby at_61) rfl k) ?_
      refine own_go (st' := T40.setTop (mkF m 73 #[.val (.long j0), .second, .val (.long j1), .second, .val (.long j2), .second, .val (.long bb), .second, .val (.int sl), .val (.int (1 : Int32)), .val (.long (own_lmax (0 : Int64) j0)), .second, .unset, .unset, .unset, .unset] [(.long (own_lmax (0 : Int64) j0))])) (fun _ k => XS.goto X40.here hx rfl (pc0 := 63) (pc' := 73) rfl (hb hby at_63) (by decide) (by decide) k) ?_
      exact J73_43 _ _ (own_lmax (0 : Int64) j0) X40 eq40 N40 (own_irr _)
  · --
    rw [hm]
    refine own_go (st' := s₁.setTop (mkF m 8 #[.val (.long j0), .second, .val (.long j1), .second, .val (.long j2), .second, .val (.long bb), .second, .val (.int sl), .val (.int (2 : Int32)), .unset, .unset, .unset, .unset, .unset, .unset] [])) (fun _ k => XS.istore X0.here hx rfl (hb hby at_6) rfl (l' := #[.val (.long j0), .second, .val (.long j1), .second, .val (.long j2), .second, .val (.long bb), .second, .val (.int sl), .val (.int (2 : Int32)), .unset, .unset, .unset, .unset, .unset, .unset]) rfl k) ?_
    refine own_go (st' := s₁.setTop (mkF m 9 #[.val (.long j0), .second, .val (.long j1), .second, .val (.long j2), .second, .val (.long bb), .second, .val (.int sl), .val (.int (2 : Int32)), .unset, .unset, .unset, .unset, .unset, .unset] [(.long (0 : Int64))])) (fun _ k => XS.lconst X0.here hx rfl (hb hby at_8) k) ?_
    refine own_go (st' := s₁.setTop (mkF m 11 #[.val (.long j0), .second, .val (.long j1), .second, .val (.long j2), .second, .val (.long bb), .second, .val (.int sl), .val (.int (2 : Int32)), .val (.long (0 : Int64)), .second, .unset, .unset, .unset, .unset] [])) (fun _ k => XS.lstore X0.here hx rfl (hb hby at_9) rfl (l' := #[.val (.long j0), .second, .val (.long j1), .second, .val (.long j2), .second, .val (.long bb), .second, .val (.int sl), .val (.int (2 : Int32)), .val (.long (0 : Int64)), .second, .unset, .unset, .unset, .unset]) rfl k) ?_
    refine own_go (st' := s₁.setTop (mkF m 13 #[.val (.long j0), .second, .val (.long j1), .second, .val (.long j2), .second, .val (.long bb), .second, .val (.int sl), .val (.int (2 : Int32)), .val (.long (0 : Int64)), .second, .unset, .unset, .unset, .unset] [(.int (2 : Int32))])) (fun _ k => XS.iload X0.here hx rfl (hb hby at_11) rfl k) ?_
    refine own_go (st' := s₁.setTop (mkF m 14 #[.val (.long j0), .second, .val (.long j1), .second, .val (.long j2), .second, .val (.long bb), .second, .val (.int sl), .val (.int (2 : Int32)), .val (.long (0 : Int64)), .second, .unset, .unset, .unset, .unset] [(.int (1 : Int32)), (.int (2 : Int32))])) (fun _ k => XS.iconst X0.here hx rfl (hb hby at_13) k) ?_
    have hc78 : ¬ ((2 : Int32) < (1 : Int32)) := by decide
    refine own_go (st' := s₁.setTop (mkF m 17 #[.val (.long j0), .second, .val (.long j1), .second, .val (.long j2), .second, .val (.long bb), .second, .val (.int sl), .val (.int (2 : Int32)), .val (.long (0 : Int64)), .second, .unset, .unset, .unset, .unset] [])) (fun _ k => XS.icmpNo X0.here hx rfl (hb hby at_14) rfl (flt hc78).1 k) ?_
    refine own_go (st' := s₁.setTop (mkF m 19 #[.val (.long j0), .second, .val (.long j1), .second, .val (.long j2), .second, .val (.long bb), .second, .val (.int sl), .val (.int (2 : Int32)), .val (.long (0 : Int64)), .second, .unset, .unset, .unset, .unset] [(.long (0 : Int64))])) (fun _ k => XS.lload X0.here hx rfl (hb hby at_17) rfl k) ?_
    refine own_go (st' := s₁.setTop (mkF m 20 #[.val (.long j0), .second, .val (.long j1), .second, .val (.long j2), .second, .val (.long bb), .second, .val (.int sl), .val (.int (2 : Int32)), .val (.long (0 : Int64)), .second, .unset, .unset, .unset, .unset] [(.long j0), (.long (0 : Int64))])) (fun _ k => XS.lloadN X0.here hx rfl (hb hby at_19) rfl k) ?_
    obtain ⟨_, _, ⟨T79, LC79, kC79, nC79⟩, -, X79, ⟨Lc79, hQ79, lq79, yq79, zq79⟩, st79⟩ := Jvm.LawKit.callS X0 hx (y := (⟨"java/lang/Math", "max", "(JJ)J"⟩ : MethodName)) hown (mvT hZ (hw _ (List.mem_of_getElem? (i := 0) rfl))) (mvT hZ (hw _ (List.mem_of_getElem? (i := 1) rfl))) (mvT hZ (hw _ (List.mem_of_getElem? (i := 2) rfl))) (mvT hZ (hw _ (List.mem_of_getElem? (i := 3) rfl))) (by decide) (backOf (W := 0) (rm1 l Z a0 hw [] (0 : Int64) j0 h0 n0 (by omega) ) hZ (hw _ (List.mem_of_getElem? (i := 3) rfl)) (hw _ (List.mem_of_getElem? (i := 2) rfl)) (by decide) (by decide)) (g := (mkF m 20 #[.val (.long j0), .second, .val (.long j1), .second, .val (.long j2), .second, .val (.long bb), .second, .val (.int sl), .val (.int (2 : Int32)), .val (.long (0 : Int64)), .second, .unset, .unset, .unset, .unset] [(.long j0), (.long (0 : Int64))])) rfl (by rw [hml]; rfl) (argsL := [(.long (0 : Int64)), (.long j0)]) (rest := []) (lenOf pd_0 rfl) rfl (by show 2 * 0 + _ ≤ _; exact Nat.le_of_eq rfl) (hb hby at_20) (fun _ _ => ⟨rfl, e0, (by decide : 0 + 0 ≤ _), (by decide : 0 + 0 ≤ _)⟩)
    dsimp only [Pt.U, Pt.locs, Pt.cells, Pt.slots] at X79 lq79 yq79 zq79 st79 hQ79
    subst lq79 yq79 zq79
    obtain ⟨rfl, Nq79, eq79⟩ := hQ79
    have N79 := Fr.app N0 Nq79
    refine own_go (st' := T79.setTop (mkF m 23 #[.val (.long j0), .second, .val (.long j1), .second, .val (.long j2), .second, .val (.long bb), .second, .val (.int sl), .val (.int (2 : Int32)), .val (.long (0 : Int64)), .second, .unset, .unset, .unset, .unset] [(.long (own_lmax (0 : Int64) j0))])) (fun t k => st79 t k) ?_
    refine own_go (st' := T79.setTop (mkF m 25 #[.val (.long j0), .second, .val (.long j1), .second, .val (.long j2), .second, .val (.long bb), .second, .val (.int sl), .val (.int (2 : Int32)), .val (.long (own_lmax (0 : Int64) j0)), .second, .unset, .unset, .unset, .unset] [])) (fun _ k => XS.lstore X79.here hx rfl (hb hby at_23) rfl (l' := #[.val (.long j0), .second, .val (.long j1), .second, .val (.long j2), .second, .val (.long bb), .second, .val (.int sl), .val (.int (2 : Int32)), .val (.long (own_lmax (0 : Int64) j0)), .second, .unset, .unset, .unset, .unset]) rfl k) ?_
    refine own_go (st' := T79.setTop (mkF m 27 #[.val (.long j0), .second, .val (.long j1), .second, .val (.long j2), .second, .val (.long bb), .second, .val (.int sl), .val (.int (2 : Int32)), .val (.long (own_lmax (0 : Int64) j0)), .second, .unset, .unset, .unset, .unset] [(.int (2 : Int32))])) (fun _ k => XS.iload X79.here hx rfl (hb hby at_25) rfl k) ?_
    refine own_go (st' := T79.setTop (mkF m 28 #[.val (.long j0), .second, .val (.long j1), .second, .val (.long j2), .second, .val (.long bb), .second, .val (.int sl), .val (.int (2 : Int32)), .val (.long (own_lmax (0 : Int64) j0)), .second, .unset, .unset, .unset, .unset] [(.int (2 : Int32)), (.int (2 : Int32))])) (fun _ k => XS.iconst X79.here hx rfl (hb hby at_27) k) ?_
    have hc80 : ¬ ((2 : Int32) < (2 : Int32)) := by decide
    refine own_go (st' := T79.setTop (mkF m 31 #[.val (.long j0), .second, .val (.long j1), .second, .val (.long j2), .second, .val (.long bb), .second, .val (.int sl), .val (.int (2 : Int32)), .val (.long (own_lmax (0 : Int64) j0)), .second, .unset, .unset, .unset, .unset] [])) (fun _ k => XS.icmpNo X79.here hx rfl (hb hby at_28) rfl (flt hc80).1 k) ?_
    refine own_go (st' := T79.setTop (mkF m 33 #[.val (.long j0), .second, .val (.long j1), .second, .val (.long j2), .second, .val (.long bb), .second, .val (.int sl), .val (.int (2 : Int32)), .val (.long (own_lmax (0 : Int64) j0)), .second, .unset, .unset, .unset, .unset] [(.long (own_lmax (0 : Int64) j0))])) (fun _ k => XS.lload X79.here hx rfl (hb hby at_31) rfl k) ?_
    refine own_go (st' := T79.setTop (mkF m 34 #[.val (.long j0), .second, .val (.long j1), .second, .val (.long j2), .second, .val (.long bb), .second, .val (.int sl), .val (.int (2 : Int32)), .val (.long (own_lmax (0 : Int64) j0)), .second, .unset, .unset, .unset, .unset] [(.long j1), (.long (own_lmax (0 : Int64) j0))])) (fun _ k => XS.lloadN X79.here hx rfl (hb hby at_33) rfl k) ?_
    obtain ⟨_, _, ⟨T81, LC81, kC81, nC81⟩, -, X81, ⟨Lc81, hQ81, lq81, yq81, zq81⟩, st81⟩ := Jvm.LawKit.callS X79 hx (y := (⟨"java/lang/Math", "max", "(JJ)J"⟩ : MethodName)) hown (mvT hZ (hw _ (List.mem_of_getElem? (i := 0) rfl))) (mvT hZ (hw _ (List.mem_of_getElem? (i := 1) rfl))) (mvT hZ (hw _ (List.mem_of_getElem? (i := 2) rfl))) (mvT hZ (hw _ (List.mem_of_getElem? (i := 3) rfl))) (by decide) (backOf (W := 0) (rm1 l Z a0 hw [] (own_lmax (0 : Int64) j0) j1 h0 n0 (by omega) ) hZ (hw _ (List.mem_of_getElem? (i := 3) rfl)) (hw _ (List.mem_of_getElem? (i := 2) rfl)) (by decide) (by decide)) (g := (mkF m 34 #[.val (.long j0), .second, .val (.long j1), .second, .val (.long j2), .second, .val (.long bb), .second, .val (.int sl), .val (.int (2 : Int32)), .val (.long (own_lmax (0 : Int64) j0)), .second, .unset, .unset, .unset, .unset] [(.long j1), (.long (own_lmax (0 : Int64) j0))])) rfl (by rw [hml]; rfl) (argsL := [(.long (own_lmax (0 : Int64) j0)), (.long j1)]) (rest := []) (lenOf pd_0 rfl) rfl (by show 2 * 0 + _ ≤ _; exact Nat.le_of_eq rfl) (hb hby at_34) (fun _ _ => ⟨rfl, eq79, (by decide : 0 + 0 ≤ _), (by decide : 0 + 0 ≤ _)⟩)
    dsimp only [Pt.U, Pt.locs, Pt.cells, Pt.slots] at X81 lq81 yq81 zq81 st81 hQ81
    subst lq81 yq81 zq81
    obtain ⟨rfl, Nq81, eq81⟩ := hQ81
    have N81 := Fr.app N79 Nq81
    refine own_go (st' := T81.setTop (mkF m 37 #[.val (.long j0), .second, .val (.long j1), .second, .val (.long j2), .second, .val (.long bb), .second, .val (.int sl), .val (.int (2 : Int32)), .val (.long (own_lmax (0 : Int64) j0)), .second, .unset, .unset, .unset, .unset] [(.long (own_lmax (own_lmax (0 : Int64) j0) j1))])) (fun t k => st81 t k) ?_
    refine own_go (st' := T81.setTop (mkF m 39 #[.val (.long j0), .second, .val (.long j1), .second, .val (.long j2), .second, .val (.long bb), .second, .val (.int sl), .val (.int (2 : Int32)), .val (.long (own_lmax (own_lmax (0 : Int64) j0) j1)), .second, .unset, .unset, .unset, .unset] [])) (fun _ k => XS.lstore X81.here hx rfl (hb hby at_37) rfl (l' := #[.val (.long j0), .second, .val (.long j1), .second, .val (.long j2), .second, .val (.long bb), .second, .val (.int sl), .val (.int (2 : Int32)), .val (.long (own_lmax (own_lmax (0 : Int64) j0) j1)), .second, .unset, .unset, .unset, .unset]) rfl k) ?_
    refine own_go (st' := T81.setTop (mkF m 41 #[.val (.long j0), .second, .val (.long j1), .second, .val (.long j2), .second, .val (.long bb), .second, .val (.int sl), .val (.int (2 : Int32)), .val (.long (own_lmax (own_lmax (0 : Int64) j0) j1)), .second, .unset, .unset, .unset, .unset] [(.int (2 : Int32))])) (fun _ k => XS.iload X81.here hx rfl (hb hby at_39) rfl k) ?_
    refine own_go (st' := T81.setTop (mkF m 42 #[.val (.long j0), .second, .val (.long j1), .second, .val (.long j2), .second, .val (.long bb), .second, .val (.int sl), .val (.int (2 : Int32)), .val (.long (own_lmax (own_lmax (0 : Int64) j0) j1)), .second, .unset, .unset, .unset, .unset] [(.int (3 : Int32)), (.int (2 : Int32))])) (fun _ k => XS.iconst X81.here hx rfl (hb hby at_41) k) ?_
    have hc82 : (2 : Int32) < (3 : Int32) := by decide
    refine own_go (st' := T81.setTop (mkF m 54 #[.val (.long j0), .second, .val (.long j1), .second, .val (.long j2), .second, .val (.long bb), .second, .val (.int sl), .val (.int (2 : Int32)), .val (.long (own_lmax (own_lmax (0 : Int64) j0) j1)), .second, .unset, .unset, .unset, .unset] [])) (fun _ k => XS.icmpYes X81.here hx rfl (pc0 := 42) (pc' := 54) rfl (hb hby at_42) rfl (tlt hc82).1 (by decide) (by decide) k) ?_
    have J73_83 : ∀ (Tj83 : State) (lj83 : List Loc) (bd : Int64) (Xj83 : Stand p l e room_1 s m #[(.long j0), (.long j1), (.long j2), (.long bb), (.int sl)] below meth c Tj83 lj83 0 0) (ej83 : Tj83.heap = h0) (Nj83 : Fr n0 lj83) (hbd : ¬ (own_lmax (own_lmax (0 : Int64) j0) j1) < bd), own_Go p.tables e below P (Tj83.setTop (mkF m 73 #[.val (.long j0), .second, .val (.long j1), .second, .val (.long j2), .second, .val (.long bb), .second, .val (.int sl), .val (.int (2 : Int32)), .val (.long (own_lmax (own_lmax (0 : Int64) j0) j1)), .second, .unset, .unset, .unset, .unset] [(.long bd)])) := by
      intro Tj83 lj83 bd Xj83 ej83 Nj83 hbd
      refine own_go (st' := Tj83.setTop (mkF m 75 #[.val (.long j0), .second, .val (.long j1), .second, .val (.long j2), .second, .val (.long bb), .second, .val (.int sl), .val (.int (2 : Int32)), .val (.long (own_lmax (own_lmax (0 : Int64) j0) j1)), .second, .val (.long bd), .second, .unset, .unset] [])) (fun _ k => XS.lstore Xj83.here hx rfl (hb hby at_73) rfl (l' := #[.val (.long j0), .second, .val (.long j1), .second, .val (.long j2), .second, .val (.long bb), .second, .val (.int sl), .val (.int (2 : Int32)), .val (.long (own_lmax (own_lmax (0 : Int64) j0) j1)), .second, .val (.long bd), .second, .unset, .unset]) rfl k) ?_
      obtain ⟨T84, h84, X84, e84, E84, A84, D84, -, st84⟩ := newO Xj83 hx hZ hown (hw _ (List.mem_of_getElem? (i := 4) rfl)) (hw _ (List.mem_of_getElem? (i := 5) rfl)) (hw _ (List.mem_of_getElem? (i := 6) rfl)) ej83 (g := (mkF m 75 #[.val (.long j0), .second, .val (.long j1), .second, .val (.long j2), .second, .val (.long bb), .second, .val (.int sl), .val (.int (2 : Int32)), .val (.long (own_lmax (own_lmax (0 : Int64) j0) j1)), .second, .val (.long bd), .second, .unset, .unset] [])) rfl (hb hby at_75) (by decide) (by decide)
      obtain ⟨b84, g84⟩ : ∃ z, z = h0.size := ⟨_, rfl⟩
      rw [← g84] at A84 D84 st84
      have sz84 : h0.size ≤ h84.size := E84.1
      have lt84 : @LT.lt Nat _ b84 h84.size := A84.lt
      have f85 : Fld Z h84 b84 "com/example/millwright/millwright/jobshop/Plan" "machine" "[I" .null := D84 (Or.inr (hw _ (List.mem_of_getElem? (i := 23) rfl))) (ty := (.array .int)) (by decide)
      have f86 : Fld Z h84 b84 "com/example/millwright/millwright/jobshop/Plan" "start" "[J" .null := D84 (Or.inr (hw _ (List.mem_of_getElem? (i := 25) rfl))) (ty := (.array .long)) (by decide)
      have f87 : Fld Z h84 b84 "com/example/millwright/millwright/jobshop/Plan" "end" "[J" .null := D84 (Or.inr (hw _ (List.mem_of_getElem? (i := 27) rfl))) (ty := (.array .long)) (by decide)
      have f88 : Fld Z h84 b84 "com/example/millwright/millwright/jobshop/Plan" "makespan" "J" (.long (0 : Int64)) := D84 (Or.inr (hw _ (List.mem_of_getElem? (i := 30) rfl))) (ty := .long) (by decide)
      refine own_go (st' := T84.setTop (mkF m 78 #[.val (.long j0), .second, .val (.long j1), .second, .val (.long j2), .second, .val (.long bb), .second, .val (.int sl), .val (.int (2 : Int32)), .val (.long (own_lmax (own_lmax (0 : Int64) j0) j1)), .second, .val (.long bd), .second, .unset, .unset] [(.ref b84)])) (st84) ?_
      refine own_go (st' := T84.setTop (mkF m 79 #[.val (.long j0), .second, .val (.long j1), .second, .val (.long j2), .second, .val (.long bb), .second, .val (.int sl), .val (.int (2 : Int32)), .val (.long (own_lmax (own_lmax (0 : Int64) j0) j1)), .second, .val (.long bd), .second, .unset, .unset] [(.ref b84), (.ref b84)])) (fun _ k => XS.dup X84.here hx rfl (hb hby at_78) rfl rfl k) ?_
      refine own_go (st' := T84.setTop (mkF m 81 #[.val (.long j0), .second, .val (.long j1), .second, .val (.long j2), .second, .val (.long bb), .second, .val (.int sl), .val (.int (2 : Int32)), .val (.long (own_lmax (own_lmax (0 : Int64) j0) j1)), .second, .val (.long bd), .second, .unset, .unset] [(.int (2 : Int32)), (.ref b84), (.ref b84)])) (fun _ k => XS.iload X84.here hx rfl (hb hby at_79) rfl k) ?_
      obtain ⟨_, _, ⟨T89, LC89, kC89, nC89⟩, -, X89, ⟨Lc89, hQ89, lq89, yq89, zq89⟩, st89⟩ := Jvm.LawKit.callS X84 hx (y := (⟨"com/example/millwright/millwright/jobshop/JobShopSolutionOptimalPinLaw", "machines", "(I)[I"⟩ : MethodName)) hown (mvT hZ (hw _ (List.mem_of_getElem? (i := 7) rfl))) (mvT hZ (hw _ (List.mem_of_getElem? (i := 8) rfl))) (mvT hZ (hw _ (List.mem_of_getElem? (i := 9) rfl))) (mvT hZ (hw _ (List.mem_of_getElem? (i := 10) rfl))) (by decide) (backOf (W := 2) (rm2_2 l Z a0 hw []  h84 n0 (by omega) ) hZ (hw _ (List.mem_of_getElem? (i := 10) rfl)) (hw _ (List.mem_of_getElem? (i := 9) rfl)) (by decide) (by decide)) (g := (mkF m 81 #[.val (.long j0), .second, .val (.long j1), .second, .val (.long j2), .second, .val (.long bb), .second, .val (.int sl), .val (.int (2 : Int32)), .val (.long (own_lmax (own_lmax (0 : Int64) j0) j1)), .second, .val (.long bd), .second, .unset, .unset] [(.int (2 : Int32)), (.ref b84), (.ref b84)])) rfl (by rw [hml]; rfl) (argsL := [(.int (2 : Int32))]) (rest := [(.ref b84), (.ref b84)]) (lenOf pd_2 rfl) rfl (by show 2 * 0 + _ ≤ _; exact Nat.le_of_eq rfl) (hb hby at_81) (fun _ _ => ⟨rfl, e84, (by decide : 1 + 1 ≤ _), (by decide : 4 + 2 ≤ _)⟩)
      dsimp only [Pt.U, Pt.locs, Pt.cells, Pt.slots] at X89 lq89 yq89 zq89 st89 hQ89
      subst lq89 yq89 zq89
      obtain ⟨h89, e89⟩ : ∃ z, T89.heap = z := ⟨_, rfl⟩
      rw [e89] at hQ89
      obtain ⟨r_89, kr_89, rfl, Nq89, K89, g89_0, g89_1⟩ := hQ89
      have sz89 : h84.size ≤ h89.size := K89.1
      have N89 := Fr.app Nj83 Nq89
      have lt89_1 : @LT.lt Nat _ r_89 h89.size := g89_0.lt
      refine own_go (st' := T89.setTop (mkF m 84 #[.val (.long j0), .second, .val (.long j1), .second, .val (.long j2), .second, .val (.long bb), .second, .val (.int sl), .val (.int (2 : Int32)), .val (.long (own_lmax (own_lmax (0 : Int64) j0) j1)), .second, .val (.long bd), .second, .unset, .unset] [(.ref r_89), (.ref b84), (.ref b84)])) (fun t k => st89 t k) ?_
      refine own_go (st' := T89.setTop (mkF m 86 #[.val (.long j0), .second, .val (.long j1), .second, .val (.long j2), .second, .val (.long bb), .second, .val (.int sl), .val (.int (2 : Int32)), .val (.long (own_lmax (own_lmax (0 : Int64) j0) j1)), .second, .val (.long bd), .second, .unset, .unset] [(.int (2 : Int32)), (.ref r_89), (.ref b84), (.ref b84)])) (fun _ k => XS.iload X89.here hx rfl (hb hby at_84) rfl k) ?_
      refine own_go (st' := T89.setTop (mkF m 87 #[.val (.long j0), .second, .val (.long j1), .second, .val (.long j2), .second, .val (.long bb), .second, .val (.int sl), .val (.int (2 : Int32)), .val (.long (own_lmax (own_lmax (0 : Int64) j0) j1)), .second, .val (.long bd), .second, .unset, .unset] [(.long (0 : Int64)), (.int (2 : Int32)), (.ref r_89), (.ref b84), (.ref b84)])) (fun _ k => XS.lconst X89.here hx rfl (hb hby at_86) k) ?_
      refine own_go (st' := T89.setTop (mkF m 88 #[.val (.long j0), .second, .val (.long j1), .second, .val (.long j2), .second, .val (.long bb), .second, .val (.int sl), .val (.int (2 : Int32)), .val (.long (own_lmax (own_lmax (0 : Int64) j0) j1)), .second, .val (.long bd), .second, .unset, .unset] [(.long (0 : Int64)), (.long (0 : Int64)), (.int (2 : Int32)), (.ref r_89), (.ref b84), (.ref b84)])) (fun _ k => XS.lconst X89.here hx rfl (hb hby at_87) k) ?_
      refine own_go (st' := T89.setTop (mkF m 89 #[.val (.long j0), .second, .val (.long j1), .second, .val (.long j2), .second, .val (.long bb), .second, .val (.int sl), .val (.int (2 : Int32)), .val (.long (own_lmax (own_lmax (0 : Int64) j0) j1)), .second, .val (.long bd), .second, .unset, .unset] [(.long (0 : Int64)), (.long (0 : Int64)), (.long (0 : Int64)), (.int (2 : Int32)), (.ref r_89), (.ref b84), (.ref b84)])) (fun _ k => XS.lconst X89.here hx rfl (hb hby at_88) k) ?_
      obtain ⟨_, _, ⟨T90, LC90, kC90, nC90⟩, -, X90, ⟨Lc90, hQ90, lq90, yq90, zq90⟩, st90⟩ := Jvm.LawKit.callS X89 hx (y := (⟨"com/example/millwright/millwright/jobshop/JobShopSolutionOptimalPinLaw", "longs", "(IJJJ)[J"⟩ : MethodName)) hown (mvT hZ (hw _ (List.mem_of_getElem? (i := 12) rfl))) (mvT hZ (hw _ (List.mem_of_getElem? (i := 13) rfl))) (mvT hZ (hw _ (List.mem_of_getElem? (i := 9) rfl))) (mvT hZ (hw _ (List.mem_of_getElem? (i := 14) rfl))) (by decide) (backOf (W := 3) (rm3_2 l Z a0 hw [] (0 : Int64) (0 : Int64) (0 : Int64) h89 n0 (by omega) ) hZ (hw _ (List.mem_of_getElem? (i := 14) rfl)) (hw _ (List.mem_of_getElem? (i := 9) rfl)) (by decide) (by decide)) (g := (mkF m 89 #[.val (.long j0), .second, .val (.long j1), .second, .val (.long j2), .second, .val (.long bb), .second, .val (.int sl), .val (.int (2 : Int32)), .val (.long (own_lmax (own_lmax (0 : Int64) j0) j1)), .second, .val (.long bd), .second, .unset, .unset] [(.long (0 : Int64)), (.long (0 : Int64)), (.long (0 : Int64)), (.int (2 : Int32)), (.ref r_89), (.ref b84), (.ref b84)])) rfl (by rw [hml]; rfl) (argsL := [(.int (2 : Int32)), (.long (0 : Int64)), (.long (0 : Int64)), (.long (0 : Int64))]) (rest := [(.ref r_89), (.ref b84), (.ref b84)]) (lenOf pd_3 rfl) rfl (by show 2 * 0 + _ ≤ _; exact Nat.le_of_eq rfl) (hb hby at_89) (fun _ _ => ⟨rfl, e89, (by decide : 2 + 1 ≤ _), (by decide : 6 + 2 ≤ _)⟩)
      dsimp only [Pt.U, Pt.locs, Pt.cells, Pt.slots] at X90 lq90 yq90 zq90 st90 hQ90
      subst lq90 yq90 zq90
      obtain ⟨h90, e90⟩ : ∃ z, T90.heap = z := ⟨_, rfl⟩
      rw [e90] at hQ90
      obtain ⟨r_90, kr_90, rfl, Nq90, K90, g90_0, g90_1⟩ := hQ90
      have sz90 : h89.size ≤ h90.size := K90.1
      have N90 := Fr.app N89 Nq90
      have lt90_1 : @LT.lt Nat _ r_90 h90.size := g90_0.lt
      refine own_go (st' := T90.setTop (mkF m 92 #[.val (.long j0), .second, .val (.long j1), .second, .val (.long j2), .second, .val (.long bb), .second, .val (.int sl), .val (.int (2 : Int32)), .val (.long (own_lmax (own_lmax (0 : Int64) j0) j1)), .second, .val (.long bd), .second, .unset, .unset] [(.ref r_90), (.ref r_89), (.ref b84), (.ref b84)])) (fun t k => st90 t k) ?_
      refine own_go (st' := T90.setTop (mkF m 94 #[.val (.long j0), .second, .val (.long j1), .second, .val (.long j2), .second, .val (.long bb), .second, .val (.int sl), .val (.int (2 : Int32)), .val (.long (own_lmax (own_lmax (0 : Int64) j0) j1)), .second, .val (.long bd), .second, .unset, .unset] [(.int (2 : Int32)), (.ref r_90), (.ref r_89), (.ref b84), (.ref b84)])) (fun _ k => XS.iload X90.here hx rfl (hb hby at_92) rfl k) ?_
      refine own_go (st' := T90.setTop (mkF m 95 #[.val (.long j0), .second, .val (.long j1), .second, .val (.long j2), .second, .val (.long bb), .second, .val (.int sl), .val (.int (2 : Int32)), .val (.long (own_lmax (own_lmax (0 : Int64) j0) j1)), .second, .val (.long bd), .second, .unset, .unset] [(.long j0), (.int (2 : Int32)), (.ref r_90), (.ref r_89), (.ref b84), (.ref b84)])) (fun _ k => XS.lloadN X90.here hx rfl (hb hby at_94) rfl k) ?_
      refine own_go (st' := T90.setTop (mkF m 96 #[.val (.long j0), .second, .val (.long j1), .second, .val (.long j2), .second, .val (.long bb), .second, .val (.int sl), .val (.int (2 : Int32)), .val (.long (own_lmax (own_lmax (0 : Int64) j0) j1)), .second, .val (.long bd), .second, .unset, .unset] [(.long j1), (.long j0), (.int (2 : Int32)), (.ref r_90), (.ref r_89), (.ref b84), (.ref b84)])) (fun _ k => XS.lloadN X90.here hx rfl (hb hby at_95) rfl k) ?_
      refine own_go (st' := T90.setTop (mkF m 98 #[.val (.long j0), .second, .val (.long j1), .second, .val (.long j2), .second, .val (.long bb), .second, .val (.int sl), .val (.int (2 : Int32)), .val (.long (own_lmax (own_lmax (0 : Int64) j0) j1)), .second, .val (.long bd), .second, .unset, .unset] [(.long j2), (.long j1), (.long j0), (.int (2 : Int32)), (.ref r_90), (.ref r_89), (.ref b84), (.ref b84)])) (fun _ k => XS.lload X90.here hx rfl (hb hby at_96) rfl k) ?_
      obtain ⟨_, _, ⟨T91, LC91, kC91, nC91⟩, -, X91, ⟨Lc91, hQ91, lq91, yq91, zq91⟩, st91⟩ := Jvm.LawKit.callS X90 hx (y := (⟨"com/example/millwright/millwright/jobshop/JobShopSolutionOptimalPinLaw", "longs", "(IJJJ)[J"⟩ : MethodName)) hown (mvT hZ (hw _ (List.mem_of_getElem? (i := 12) rfl))) (mvT hZ (hw _ (List.mem_of_getElem? (i := 13) rfl))) (mvT hZ (hw _ (List.mem_of_getElem? (i := 9) rfl))) (mvT hZ (hw _ (List.mem_of_getElem? (i := 14) rfl))) (by decide) (backOf (W := 4) (rm3_2 l Z a0 hw [] j0 j1 j2 h90 n0 (by omega) ) hZ (hw _ (List.mem_of_getElem? (i := 14) rfl)) (hw _ (List.mem_of_getElem? (i := 9) rfl)) (by decide) (by decide)) (g := (mkF m 98 #[.val (.long j0), .second, .val (.long j1), .second, .val (.long j2), .second, .val (.long bb), .second, .val (.int sl), .val (.int (2 : Int32)), .val (.long (own_lmax (own_lmax (0 : Int64) j0) j1)), .second, .val (.long bd), .second, .unset, .unset] [(.long j2), (.long j1), (.long j0), (.int (2 : Int32)), (.ref r_90), (.ref r_89), (.ref b84), (.ref b84)])) rfl (by rw [hml]; rfl) (argsL := [(.int (2 : Int32)), (.long j0), (.long j1), (.long j2)]) (rest := [(.ref r_90), (.ref r_89), (.ref b84), (.ref b84)]) (lenOf pd_3 rfl) rfl (by show 2 * 0 + _ ≤ _; exact Nat.le_of_eq rfl) (hb hby at_98) (fun _ _ => ⟨rfl, e90, (by decide : 3 + 1 ≤ _), (by decide : 8 + 2 ≤ _)⟩)
      dsimp only [Pt.U, Pt.locs, Pt.cells, Pt.slots] at X91 lq91 yq91 zq91 st91 hQ91
      subst lq91 yq91 zq91
      obtain ⟨h91, e91⟩ : ∃ z, T91.heap = z := ⟨_, rfl⟩
      rw [e91] at hQ91
      obtain ⟨r_91, kr_91, rfl, Nq91, K91, g91_0, g91_1⟩ := hQ91
      have sz91 : h90.size ≤ h91.size := K91.1
      have N91 := Fr.app N90 Nq91
      have lt91_1 : @LT.lt Nat _ r_91 h91.size := g91_0.lt
      refine own_go (st' := T91.setTop (mkF m 101 #[.val (.long j0), .second, .val (.long j1), .second, .val (.long j2), .second, .val (.long bb), .second, .val (.int sl), .val (.int (2 : Int32)), .val (.long (own_lmax (own_lmax (0 : Int64) j0) j1)), .second, .val (.long bd), .second, .unset, .unset] [(.ref r_91), (.ref r_90), (.ref r_89), (.ref b84), (.ref b84)])) (fun t k => st91 t k) ?_
      have c93 : Exa Z h91 b84 "com/example/millwright/millwright/jobshop/Plan" := (((A84.keep K89).keep K90).keep K91)
      have c94 : Fld Z h91 b84 "com/example/millwright/millwright/jobshop/Plan" "machine" "[I" .null := (((f85.keep K89 nin0).keep K90 nin0).keep K91 nin0)
      have c95 : Fld Z h91 b84 "com/example/millwright/millwright/jobshop/Plan" "start" "[J" .null := (((f86.keep K89 nin0).keep K90 nin0).keep K91 nin0)
      have c96 : Fld Z h91 b84 "com/example/millwright/millwright/jobshop/Plan" "end" "[J" .null := (((f87.keep K89 nin0).keep K90 nin0).keep K91 nin0)
      have c97 : Fld Z h91 b84 "com/example/millwright/millwright/jobshop/Plan" "makespan" "J" (.long (0 : Int64)) := (((f88.keep K89 nin0).keep K90 nin0).keep K91 nin0)
      obtain ⟨_, _, ⟨T92, LC92, kC92, nC92⟩, -, X92, ⟨Lc92, hQ92, lq92, yq92, zq92⟩, st92⟩ := X91.specialBack hx (y := (⟨"com/example/millwright/millwright/jobshop/Plan", "<init>", "([I[J[J)V"⟩ : MethodName)) rfl hown (mvT hZ (hw _ (List.mem_of_getElem? (i := 16) rfl))) (mvT hZ (hw _ (List.mem_of_getElem? (i := 17) rfl))) (mvT hZ (hw _ (List.mem_of_getElem? (i := 18) rfl))) (by decide) (backOf (W := 1) (rm4_2 l Z a0 hw [] b84 r_89 r_90 r_91 kr_91 (0 : Int64) j0 j1 h91 n0 (by omega) c93 c94 c95 c96 c97 g91_0 (by omega) (by first | assumption | exact Ne.symm (by assumption) | (apply Nat.ne_of_lt; omega) | (apply Nat.ne_of_gt; omega))) hZ (hw _ (List.mem_of_getElem? (i := 18) rfl)) (hw _ (List.mem_of_getElem? (i := 6) rfl)) (by decide) (by decide)) (g := (mkF m 101 #[.val (.long j0), .second, .val (.long j1), .second, .val (.long j2), .second, .val (.long bb), .second, .val (.int sl), .val (.int (2 : Int32)), .val (.long (own_lmax (own_lmax (0 : Int64) j0) j1)), .second, .val (.long bd), .second, .unset, .unset] [(.ref r_91), (.ref r_90), (.ref r_89), (.ref b84), (.ref b84)])) rfl (by rw [hml]; rfl) (Steps.refl _) (a := b84) (argsL := [(.ref r_89), (.ref r_90), (.ref r_91)]) (rest := [(.ref b84)]) (lenOf pd_4 rfl) rfl (by show 2 * 0 + _ ≤ _; exact Nat.le_of_eq rfl) (hb hby at_101) (fun _ _ => ⟨rfl, e91, (by decide : 4 + 0 ≤ _), (by decide : 10 + 0 ≤ _)⟩)
      dsimp only [Pt.U, Pt.locs, Pt.cells, Pt.slots] at X92 lq92 yq92 zq92 st92 hQ92
      subst lq92 yq92 zq92
      obtain ⟨h92, e92⟩ : ∃ z, T92.heap = z := ⟨_, rfl⟩
      rw [e92] at hQ92
      obtain ⟨rfl, Nq92, K92, g92_0, g92_1⟩ := hQ92
      have sz92 : h91.size ≤ h92.size := K92.1
      have N92 := Fr.app N91 Nq92
      have lt92_1 : @LT.lt Nat _ b84 h92.size := g92_0.lt
      refine own_go (st' := T92.setTop (mkF m 104 #[.val (.long j0), .second, .val (.long j1), .second, .val (.long j2), .second, .val (.long bb), .second, .val (.int sl), .val (.int (2 : Int32)), .val (.long (own_lmax (own_lmax (0 : Int64) j0) j1)), .second, .val (.long bd), .second, .unset, .unset] [(.ref b84)])) (fun _ k => st92.trans k) ?_
      refine own_go (st' := T92.setTop (mkF m 106 #[.val (.long j0), .second, .val (.long j1), .second, .val (.long j2), .second, .val (.long bb), .second, .val (.int sl), .val (.int (2 : Int32)), .val (.long (own_lmax (own_lmax (0 : Int64) j0) j1)), .second, .val (.long bd), .second, .val (.ref b84), .unset] [])) (fun _ k => XS.astore X92.here hx rfl (hb hby at_104) rfl rfl (l' := #[.val (.long j0), .second, .val (.long j1), .second, .val (.long j2), .second, .val (.long bb), .second, .val (.int sl), .val (.int (2 : Int32)), .val (.long (own_lmax (own_lmax (0 : Int64) j0) j1)), .second, .val (.long bd), .second, .val (.ref b84), .unset]) rfl k) ?_
      obtain ⟨T98, h98, X98, e98, E98, A98, D98, -, st98⟩ := newO X92 hx hZ hown (hw _ (List.mem_of_getElem? (i := 31) rfl)) (hw _ (List.mem_of_getElem? (i := 32) rfl)) (hw _ (List.mem_of_getElem? (i := 33) rfl)) e92 (g := (mkF m 106 #[.val (.long j0), .second, .val (.long j1), .second, .val (.long j2), .second, .val (.long bb), .second, .val (.int sl), .val (.int (2 : Int32)), .val (.long (own_lmax (own_lmax (0 : Int64) j0) j1)), .second, .val (.long bd), .second, .val (.ref b84), .unset] [])) rfl (hb hby at_106) (by decide) (by decide)
      obtain ⟨b98, g98⟩ : ∃ z, z = h92.size := ⟨_, rfl⟩
      rw [← g98] at A98 D98 st98
      have sz98 : h92.size ≤ h98.size := E98.1
      have lt98 : @LT.lt Nat _ b98 h98.size := A98.lt
      have f99 : Fld Z h98 b98 "com/example/millwright/millwright/jobshop/JobShopSolution" "plan" "Lcom/example/millwright/millwright/jobshop/Plan;" .null := D98 (Or.inr (hw _ (List.mem_of_getElem? (i := 44) rfl))) (ty := (.object "com/example/millwright/millwright/jobshop/Plan")) (by decide)
      have f100 : Fld Z h98 b98 "com/example/millwright/millwright/jobshop/JobShopSolution" "bound" "J" (.long (0 : Int64)) := D98 (Or.inr (hw _ (List.mem_of_getElem? (i := 46) rfl))) (ty := .long) (by decide)
      refine own_go (st' := T98.setTop (mkF m 109 #[.val (.long j0), .second, .val (.long j1), .second, .val (.long j2), .second, .val (.long bb), .second, .val (.int sl), .val (.int (2 : Int32)), .val (.long (own_lmax (own_lmax (0 : Int64) j0) j1)), .second, .val (.long bd), .second, .val (.ref b84), .unset] [(.ref b98)])) (st98) ?_
      refine own_go (st' := T98.setTop (mkF m 110 #[.val (.long j0), .second, .val (.long j1), .second, .val (.long j2), .second, .val (.long bb), .second, .val (.int sl), .val (.int (2 : Int32)), .val (.long (own_lmax (own_lmax (0 : Int64) j0) j1)), .second, .val (.long bd), .second, .val (.ref b84), .unset] [(.ref b98), (.ref b98)])) (fun _ k => XS.dup X98.here hx rfl (hb hby at_109) rfl rfl k) ?_
      refine own_go (st' := T98.setTop (mkF m 112 #[.val (.long j0), .second, .val (.long j1), .second, .val (.long j2), .second, .val (.long bb), .second, .val (.int sl), .val (.int (2 : Int32)), .val (.long (own_lmax (own_lmax (0 : Int64) j0) j1)), .second, .val (.long bd), .second, .val (.ref b84), .unset] [(.ref b84), (.ref b98), (.ref b98)])) (fun _ k => XS.aload X98.here hx rfl (hb hby at_110) rfl rfl k) ?_
      refine own_go (st' := T98.setTop (mkF m 114 #[.val (.long j0), .second, .val (.long j1), .second, .val (.long j2), .second, .val (.long bb), .second, .val (.int sl), .val (.int (2 : Int32)), .val (.long (own_lmax (own_lmax (0 : Int64) j0) j1)), .second, .val (.long bd), .second, .val (.ref b84), .unset] [(.long bd), (.ref b84), (.ref b98), (.ref b98)])) (fun _ k => XS.lload X98.here hx rfl (hb hby at_112) rfl k) ?_
      have c102 : Exa Z h98 b84 "com/example/millwright/millwright/jobshop/Plan" := (g92_0.ext E98)
      have c103 : Fld Z h98 b84 "com/example/millwright/millwright/jobshop/Plan" "makespan" "J" (.long (own_lmax (own_lmax (0 : Int64) j0) j1)) := (g92_1.ext E98)
      obtain ⟨_, _, ⟨T101, LC101, kC101, nC101⟩, -, X101, ⟨Lc101, hQ101, lq101, yq101, zq101⟩, st101⟩ := X98.specialBack hx (y := (⟨"com/example/millwright/millwright/jobshop/JobShopSolution", "<init>", "(Lcom/example/millwright/millwright/jobshop/Plan;J)V"⟩ : MethodName)) rfl hown (mvT hZ (hw _ (List.mem_of_getElem? (i := 34) rfl))) (mvT hZ (hw _ (List.mem_of_getElem? (i := 35) rfl))) (mvT hZ (hw _ (List.mem_of_getElem? (i := 36) rfl))) (by decide) (backOf (W := 1) (rm6 l Z a0 hw [] b98 b84 bd (own_lmax (own_lmax (0 : Int64) j0) j1) (0 : Int64) h98 n0 (by omega) A98 f99 f100 c102 c103 (by omega) (by first | assumption | exact Ne.symm (by assumption) | (apply Nat.ne_of_lt; omega) | (apply Nat.ne_of_gt; omega)) hbd) hZ (hw _ (List.mem_of_getElem? (i := 36) rfl)) (hw _ (List.mem_of_getElem? (i := 33) rfl)) (by decide) (by decide)) (g := (mkF m 114 #[.val (.long j0), .second, .val (.long j1), .second, .val (.long j2), .second, .val (.long bb), .second, .val (.int sl), .val (.int (2 : Int32)), .val (.long (own_lmax (own_lmax (0 : Int64) j0) j1)), .second, .val (.long bd), .second, .val (.ref b84), .unset] [(.long bd), (.ref b84), (.ref b98), (.ref b98)])) rfl (by rw [hml]; rfl) (Steps.refl _) (a := b98) (argsL := [(.ref b84), (.long bd)]) (rest := [(.ref b98)]) (lenOf pd_5 rfl) rfl (by show 2 * 0 + _ ≤ _; exact Nat.le_of_eq rfl) (hb hby at_114) (fun _ _ => ⟨rfl, e98, (by decide : 5 + 0 ≤ _), (by decide : 12 + 0 ≤ _)⟩)
      dsimp only [Pt.U, Pt.locs, Pt.cells, Pt.slots] at X101 lq101 yq101 zq101 st101 hQ101
      subst lq101 yq101 zq101
      obtain ⟨h101, e101⟩ : ∃ z, T101.heap = z := ⟨_, rfl⟩
      rw [e101] at hQ101
      obtain ⟨rfl, Nq101, K101, g101_0, g101_1, g101_2⟩ := hQ101
      have sz101 : h98.size ≤ h101.size := K101.1
      have N101 := Fr.app N92 Nq101
      have lt101_1 : @LT.lt Nat _ b98 h101.size := g101_0.lt
      refine own_go (st' := T101.setTop (mkF m 117 #[.val (.long j0), .second, .val (.long j1), .second, .val (.long j2), .second, .val (.long bb), .second, .val (.int sl), .val (.int (2 : Int32)), .val (.long (own_lmax (own_lmax (0 : Int64) j0) j1)), .second, .val (.long bd), .second, .val (.ref b84), .unset] [(.ref b98)])) (fun _ k => st101.trans k) ?_
      refine own_go (st' := T101.setTop (mkF m 119 #[.val (.long j0), .second, .val (.long j1), .second, .val (.long j2), .second, .val (.long bb), .second, .val (.int sl), .val (.int (2 : Int32)), .val (.long (own_lmax (own_lmax (0 : Int64) j0) j1)), .second, .val (.long bd), .second, .val (.ref b84), .val (.ref b98)] [])) (fun _ k => XS.astore X101.here hx rfl (hb hby at_117) rfl rfl (l' := #[.val (.long j0), .second, .val (.long j1), .second, .val (.long j2), .second, .val (.long bb), .second, .val (.int sl), .val (.int (2 : Int32)), .val (.long (own_lmax (own_lmax (0 : Int64) j0) j1)), .second, .val (.long bd), .second, .val (.ref b84), .val (.ref b98)]) rfl k) ?_
      refine own_go (st' := T101.setTop (mkF m 121 #[.val (.long j0), .second, .val (.long j1), .second, .val (.long j2), .second, .val (.long bb), .second, .val (.int sl), .val (.int (2 : Int32)), .val (.long (own_lmax (own_lmax (0 : Int64) j0) j1)), .second, .val (.long bd), .second, .val (.ref b84), .val (.ref b98)] [(.ref b98)])) (fun _ k => XS.aload X101.here hx rfl (hb hby at_119) rfl rfl k) ?_
      have c105 : Exa Z h101 b84 "com/example/millwright/millwright/jobshop/Plan" := (c102.keep K101)
      have c106 : Fld Z h101 b84 "com/example/millwright/millwright/jobshop/Plan" "makespan" "J" (.long (own_lmax (own_lmax (0 : Int64) j0) j1)) := (c103.keep K101 (ninS (by first | assumption | exact Ne.symm (by assumption) | (apply Nat.ne_of_lt; omega) | (apply Nat.ne_of_gt; omega)) nin0))
      obtain ⟨cq104, kq104, q104a, q104b, q104c⟩ := isOf hZ e101 g101_0
      obtain ⟨_, _, ⟨T104, LC104, kC104, nC104⟩, -, X104, ⟨Lc104, hQ104, lq104, yq104, zq104⟩, st104⟩ := X101.virtualBack hx (y := (⟨"com/example/millwright/millwright/jobshop/JobShopSolution", "optimal", "()Z"⟩ : MethodName)) (z := (⟨"com/example/millwright/millwright/jobshop/JobShopSolution", "optimal", "()Z"⟩ : MethodName)) hown (mvT hZ (hw _ (List.mem_of_getElem? (i := 47) rfl))) (mvT hZ (hw _ (List.mem_of_getElem? (i := 48) rfl))) (notFace_of_selects (args := #[]) (mvT hZ (hw _ (List.mem_of_getElem? (i := 50) rfl)))) (mvT hZ (hw _ (List.mem_of_getElem? (i := 50) rfl))) (mvT hZ (hw _ (List.mem_of_getElem? (i := 49) rfl))) (by decide) (backOf (W := 0) (rm8 l Z a0 hw [] b98 b84 bd (own_lmax (own_lmax (0 : Int64) j0) j1) h101 n0 (by omega) g101_1 g101_2 c105 c106) hZ (hw _ (List.mem_of_getElem? (i := 51) rfl)) (hw _ (List.mem_of_getElem? (i := 33) rfl)) (by decide) (by decide)) q104a q104c (g := (mkF m 121 #[.val (.long j0), .second, .val (.long j1), .second, .val (.long j2), .second, .val (.long bb), .second, .val (.int sl), .val (.int (2 : Int32)), .val (.long (own_lmax (own_lmax (0 : Int64) j0) j1)), .second, .val (.long bd), .second, .val (.ref b84), .val (.ref b98)] [(.ref b98)])) rfl (by rw [hml]; rfl) (Steps.refl _) (argsL := []) (rest := []) (lenOf pd_6 rfl) rfl (by show 2 * 0 + _ ≤ _; exact Nat.le_of_eq rfl) (hb hby at_121) (fun _ _ => ⟨rfl, e101, (by decide : 5 + 0 ≤ _), (by decide : 12 + 0 ≤ _)⟩)
      dsimp only [Pt.U, Pt.locs, Pt.cells, Pt.slots] at X104 lq104 yq104 zq104 st104 hQ104
      subst lq104 yq104 zq104
      obtain ⟨rfl, Nq104, eq104⟩ := hQ104
      have N104 := Fr.app N101 Nq104
      refine own_go (st' := T104.setTop (mkF m 124 #[.val (.long j0), .second, .val (.long j1), .second, .val (.long j2), .second, .val (.long bb), .second, .val (.int sl), .val (.int (2 : Int32)), .val (.long (own_lmax (own_lmax (0 : Int64) j0) j1)), .second, .val (.long bd), .second, .val (.ref b84), .val (.ref b98)] [(.int (own_opt bd (own_lmax (own_lmax (0 : Int64) j0) j1)))])) (fun _ k => st104.trans k) ?_
      refine own_go (st' := T104.setTop (mkF m 126 #[.val (.long j0), .second, .val (.long j1), .second, .val (.long j2), .second, .val (.long bb), .second, .val (.int sl), .val (.int (2 : Int32)), .val (.long (own_lmax (own_lmax (0 : Int64) j0) j1)), .second, .val (.long bd), .second, .val (.ref b84), .val (.ref b98)] [(.long bd), (.int (own_opt bd (own_lmax (own_lmax (0 : Int64) j0) j1)))])) (fun _ k => XS.lload X104.here hx rfl (hb hby at_124) rfl k) ?_
      refine own_go (st' := T104.setTop (mkF m 128 #[.val (.long j0), .second, .val (.long j1), .second, .val (.long j2), .second, .val (.long bb), .second, .val (.int sl), .val (.int (2 : Int32)), .val (.long (own_lmax (own_lmax (0 : Int64) j0) j1)), .second, .val (.long bd), .second, .val (.ref b84), .val (.ref b98)] [(.long (own_lmax (own_lmax (0 : Int64) j0) j1)), (.long bd), (.int (own_opt bd (own_lmax (own_lmax (0 : Int64) j0) j1)))])) (fun _ k => XS.lload X104.here hx rfl (hb hby at_126) rfl k) ?_
      refine own_go (st' := T104.setTop (mkF m 129 #[.val (.long j0), .second, .val (.long j1), .second, .val (.long j2), .second, .val (.long bb), .second, .val (.int sl), .val (.int (2 : Int32)), .val (.long (own_lmax (own_lmax (0 : Int64) j0) j1)), .second, .val (.long bd), .second, .val (.ref b84), .val (.ref b98)] [(.int (lcmpW bd (own_lmax (own_lmax (0 : Int64) j0) j1))), (.int (own_opt bd (own_lmax (own_lmax (0 : Int64) j0) j1)))])) (fun _ k => XS.lcmp X104.here hx rfl (hb hby at_128) rfl k) ?_
      by_cases hc107 : bd = (own_lmax (own_lmax (0 : Int64) j0) j1)
      · --
        refine own_go (st' := T104.setTop (mkF m 132 #[.val (.long j0), .second, .val (.long j1), .second, .val (.long j2), .second, .val (.long bb), .second, .val (.int sl), .val (.int (2 : Int32)), .val (.long (own_lmax (own_lmax (0 : Int64) j0) j1)), .second, .val (.long bd), .second, .val (.ref b84), .val (.ref b98)] [(.int (own_opt bd (own_lmax (own_lmax (0 : Int64) j0) j1)))])) (fun _ k => XS.ifNo X104.here hx rfl (hb hby at_129) rfl ((if0 _ _).trans (teq ((lw_eq bd (own_lmax (own_lmax (0 : Int64) j0) j1)).mpr hc107)).2) k) ?_
        refine own_go (st' := T104.setTop (mkF m 133 #[.val (.long j0), .second, .val (.long j1), .second, .val (.long j2), .second, .val (.long bb), .second, .val (.int sl), .val (.int (2 : Int32)), .val (.long (own_lmax (own_lmax (0 : Int64) j0) j1)), .second, .val (.long bd), .second, .val (.ref b84), .val (.ref b98)] [(.int (1 : Int32)), (.int (own_opt bd (own_lmax (own_lmax (0 : Int64) j0) j1)))])) (fun _ k => XS.iconst X104.here hx rfl (hb hby at_132) k) ?_
        refine own_go (st' := T104.setTop (mkF m 137 #[.val (.long j0), .second, .val (.long j1), .second, .val (.long j2), .second, .val (.long bb), .second, .val (.int sl), .val (.int (2 : Int32)), .val (.long (own_lmax (own_lmax (0 : Int64) j0) j1)), .second, .val (.long bd), .second, .val (.ref b84), .val (.ref b98)] [(.int (1 : Int32)), (.int (own_opt bd (own_lmax (own_lmax (0 : Int64) j0) j1)))])) (fun _ k => XS.goto X104.here hx rfl (pc0 := 133) (pc' := 137) rfl (hb hby at_133) (by decide) (by decide) k) ?_
        have hc108 : (own_opt bd (own_lmax (own_lmax (0 : Int64) j0) j1)) = (1 : Int32) := if_pos hc107
        refine own_go (st' := T104.setTop (mkF m 140 #[.val (.long j0), .second, .val (.long j1), .second, .val (.long j2), .second, .val (.long bb), .second, .val (.int sl), .val (.int (2 : Int32)), .val (.long (own_lmax (own_lmax (0 : Int64) j0) j1)), .second, .val (.long bd), .second, .val (.ref b84), .val (.ref b98)] [])) (fun _ k => XS.icmpNo X104.here hx rfl (hb hby at_137) rfl (teq hc108).2 k) ?_
        refine own_go (st' := T104.setTop (mkF m 142 #[.val (.long j0), .second, .val (.long j1), .second, .val (.long j2), .second, .val (.long bb), .second, .val (.int sl), .val (.int (2 : Int32)), .val (.long (own_lmax (own_lmax (0 : Int64) j0) j1)), .second, .val (.long bd), .second, .val (.ref b84), .val (.ref b98)] [(.ref b98)])) (fun _ k => XS.aload X104.here hx rfl (hb hby at_140) rfl rfl k) ?_
        obtain ⟨cq109, kq109, q109a, q109b, q109c⟩ := isOf hZ eq104 g101_0
        obtain ⟨_, _, ⟨T109, LC109, kC109, nC109⟩, -, X109, ⟨Lc109, hQ109, lq109, yq109, zq109⟩, st109⟩ := X104.virtualBack hx (y := (⟨"com/example/millwright/millwright/jobshop/JobShopSolution", "bound", "()J"⟩ : MethodName)) (z := (⟨"com/example/millwright/millwright/jobshop/JobShopSolution", "bound", "()J"⟩ : MethodName)) hown (mvT hZ (hw _ (List.mem_of_getElem? (i := 52) rfl))) (mvT hZ (hw _ (List.mem_of_getElem? (i := 53) rfl))) (notFace_of_selects (args := #[]) (mvT hZ (hw _ (List.mem_of_getElem? (i := 55) rfl)))) (mvT hZ (hw _ (List.mem_of_getElem? (i := 55) rfl))) (mvT hZ (hw _ (List.mem_of_getElem? (i := 54) rfl))) (by decide) (backOf (W := 0) (rm9 l Z a0 hw [] b98 bd h101 n0 (by omega) g101_2) hZ (hw _ (List.mem_of_getElem? (i := 56) rfl)) (hw _ (List.mem_of_getElem? (i := 33) rfl)) (by decide) (by decide)) q109a q109c (g := (mkF m 142 #[.val (.long j0), .second, .val (.long j1), .second, .val (.long j2), .second, .val (.long bb), .second, .val (.int sl), .val (.int (2 : Int32)), .val (.long (own_lmax (own_lmax (0 : Int64) j0) j1)), .second, .val (.long bd), .second, .val (.ref b84), .val (.ref b98)] [(.ref b98)])) rfl (by rw [hml]; rfl) (Steps.refl _) (argsL := []) (rest := []) (lenOf pd_1 rfl) rfl (by show 2 * 0 + _ ≤ _; exact Nat.le_of_eq rfl) (hb hby at_142) (fun _ _ => ⟨rfl, eq104, (by decide : 5 + 0 ≤ _), (by decide : 12 + 0 ≤ _)⟩)
        dsimp only [Pt.U, Pt.locs, Pt.cells, Pt.slots] at X109 lq109 yq109 zq109 st109 hQ109
        subst lq109 yq109 zq109
        obtain ⟨rfl, Nq109, eq109⟩ := hQ109
        have N109 := Fr.app N104 Nq109
        refine own_go (st' := T109.setTop (mkF m 145 #[.val (.long j0), .second, .val (.long j1), .second, .val (.long j2), .second, .val (.long bb), .second, .val (.int sl), .val (.int (2 : Int32)), .val (.long (own_lmax (own_lmax (0 : Int64) j0) j1)), .second, .val (.long bd), .second, .val (.ref b84), .val (.ref b98)] [(.long bd)])) (fun _ k => st109.trans k) ?_
        refine own_go (st' := T109.setTop (mkF m 147 #[.val (.long j0), .second, .val (.long j1), .second, .val (.long j2), .second, .val (.long bb), .second, .val (.int sl), .val (.int (2 : Int32)), .val (.long (own_lmax (own_lmax (0 : Int64) j0) j1)), .second, .val (.long bd), .second, .val (.ref b84), .val (.ref b98)] [(.long bd), (.long bd)])) (fun _ k => XS.lload X109.here hx rfl (hb hby at_145) rfl k) ?_
        refine own_go (st' := T109.setTop (mkF m 148 #[.val (.long j0), .second, .val (.long j1), .second, .val (.long j2), .second, .val (.long bb), .second, .val (.int sl), .val (.int (2 : Int32)), .val (.long (own_lmax (own_lmax (0 : Int64) j0) j1)), .second, .val (.long bd), .second, .val (.ref b84), .val (.ref b98)] [(.int (lcmpW bd bd))])) (fun _ k => XS.lcmp X109.here hx rfl (hb hby at_147) rfl k) ?_
        have hc110 : bd = bd := rfl
        refine own_go (st' := T109.setTop (mkF m 151 #[.val (.long j0), .second, .val (.long j1), .second, .val (.long j2), .second, .val (.long bb), .second, .val (.int sl), .val (.int (2 : Int32)), .val (.long (own_lmax (own_lmax (0 : Int64) j0) j1)), .second, .val (.long bd), .second, .val (.ref b84), .val (.ref b98)] [])) (fun _ k => XS.ifNo X109.here hx rfl (hb hby at_148) rfl ((if0 _ _).trans (teq ((lw_eq bd bd).mpr hc110)).2) k) ?_
        refine own_go (st' := T109.setTop (mkF m 152 #[.val (.long j0), .second, .val (.long j1), .second, .val (.long j2), .second, .val (.long bb), .second, .val (.int sl), .val (.int (2 : Int32)), .val (.long (own_lmax (own_lmax (0 : Int64) j0) j1)), .second, .val (.long bd), .second, .val (.ref b84), .val (.ref b98)] [(.int (1 : Int32))])) (fun _ k => XS.iconst X109.here hx rfl (hb hby at_151) k) ?_
        refine own_go (st' := T109.setTop (mkF m 156 #[.val (.long j0), .second, .val (.long j1), .second, .val (.long j2), .second, .val (.long bb), .second, .val (.int sl), .val (.int (2 : Int32)), .val (.long (own_lmax (own_lmax (0 : Int64) j0) j1)), .second, .val (.long bd), .second, .val (.ref b84), .val (.ref b98)] [(.int (1 : Int32))])) (fun _ k => XS.goto X109.here hx rfl (pc0 := 152) (pc' := 156) rfl (hb hby at_152) (by decide) (by decide) k) ?_
        obtain ⟨fs, hr, hrun, hended, hW, hsame⟩ := X109.leave (v := some (.int (1 : Int32))) (fun h => by rw [Bd.returns] at h; cases h)
        refine ⟨_, _, ?_, hP _ _ hrun hended ⟨_, _, rfl, ?_, ⟨_, rfl⟩, hW, hsame.mono (by decide) (by decide)⟩⟩
        · exact retN X109 hx (t := .boolean) Bd.returns (by simp) (hb hby at_156) hr
        · show Qrm0 Z j0 j1 j2 bb sl h0 n0 _ T109.heap _
          rw [eq109]
          exact ⟨rfl, N109, trivial⟩
      · --
        refine own_go (st' := T104.setTop (mkF m 136 #[.val (.long j0), .second, .val (.long j1), .second, .val (.long j2), .second, .val (.long bb), .second, .val (.int sl), .val (.int (2 : Int32)), .val (.long (own_lmax (own_lmax (0 : Int64) j0) j1)), .second, .val (.long bd), .second, .val (.ref b84), .val (.ref b98)] [(.int (own_opt bd (own_lmax (own_lmax (0 : Int64) j0) j1)))])) (fun _ k => XS.ifYes X104.here hx rfl (pc0 := 129) (pc' := 136) rfl (hb hby at_129) rfl ((if0 _ _).trans (feq (fun q_ => hc107 ((lw_eq bd (own_lmax (own_lmax (0 : Int64) j0) j1)).mp q_))).2) (by decide) (by decide) k) ?_
        refine own_go (st' := T104.setTop (mkF m 137 #[.val (.long j0), .second, .val (.long j1), .second, .val (.long j2), .second, .val (.long bb), .second, .val (.int sl), .val (.int (2 : Int32)), .val (.long (own_lmax (own_lmax (0 : Int64) j0) j1)), .second, .val (.long bd), .second, .val (.ref b84), .val (.ref b98)] [(.int (0 : Int32)), (.int (own_opt bd (own_lmax (own_lmax (0 : Int64) j0) j1)))])) (fun _ k => XS.iconst X104.here hx rfl (hb hby at_136) k) ?_
        have hc112 : (own_opt bd (own_lmax (own_lmax (0 : Int64) j0) j1)) = (0 : Int32) := if_neg hc107
        refine own_go (st' := T104.setTop (mkF m 140 #[.val (.long j0), .second, .val (.long j1), .second, .val (.long j2), .second, .val (.long bb), .second, .val (.int sl), .val (.int (2 : Int32)), .val (.long (own_lmax (own_lmax (0 : Int64) j0) j1)), .second, .val (.long bd), .second, .val (.ref b84), .val (.ref b98)] [])) (fun _ k => XS.icmpNo X104.here hx rfl (hb hby at_137) rfl (teq hc112).2 k) ?_
        refine own_go (st' := T104.setTop (mkF m 142 #[.val (.long j0), .second, .val (.long j1), .second, .val (.long j2), .second, .val (.long bb), .second, .val (.int sl), .val (.int (2 : Int32)), .val (.long (own_lmax (own_lmax (0 : Int64) j0) j1)), .second, .val (.long bd), .second, .val (.ref b84), .val (.ref b98)] [(.ref b98)])) (fun _ k => XS.aload X104.here hx rfl (hb hby at_140) rfl rfl k) ?_
        obtain ⟨cq113, kq113, q113a, q113b, q113c⟩ := isOf hZ eq104 g101_0
        obtain ⟨_, _, ⟨T113, LC113, kC113, nC113⟩, -, X113, ⟨Lc113, hQ113, lq113, yq113, zq113⟩, st113⟩ := X104.virtualBack hx (y := (⟨"com/example/millwright/millwright/jobshop/JobShopSolution", "bound", "()J"⟩ : MethodName)) (z := (⟨"com/example/millwright/millwright/jobshop/JobShopSolution", "bound", "()J"⟩ : MethodName)) hown (mvT hZ (hw _ (List.mem_of_getElem? (i := 52) rfl))) (mvT hZ (hw _ (List.mem_of_getElem? (i := 53) rfl))) (notFace_of_selects (args := #[]) (mvT hZ (hw _ (List.mem_of_getElem? (i := 55) rfl)))) (mvT hZ (hw _ (List.mem_of_getElem? (i := 55) rfl))) (mvT hZ (hw _ (List.mem_of_getElem? (i := 54) rfl))) (by decide) (backOf (W := 0) (rm9 l Z a0 hw [] b98 bd h101 n0 (by omega) g101_2) hZ (hw _ (List.mem_of_getElem? (i := 56) rfl)) (hw _ (List.mem_of_getElem? (i := 33) rfl)) (by decide) (by decide)) q113a q113c (g := (mkF m 142 #[.val (.long j0), .second, .val (.long j1), .second, .val (.long j2), .second, .val (.long bb), .second, .val (.int sl), .val (.int (2 : Int32)), .val (.long (own_lmax (own_lmax (0 : Int64) j0) j1)), .second, .val (.long bd), .second, .val (.ref b84), .val (.ref b98)] [(.ref b98)])) rfl (by rw [hml]; rfl) (Steps.refl _) (argsL := []) (rest := []) (lenOf pd_1 rfl) rfl (by show 2 * 0 + _ ≤ _; exact Nat.le_of_eq rfl) (hb hby at_142) (fun _ _ => ⟨rfl, eq104, (by decide : 5 + 0 ≤ _), (by decide : 12 + 0 ≤ _)⟩)
        dsimp only [Pt.U, Pt.locs, Pt.cells, Pt.slots] at X113 lq113 yq113 zq113 st113 hQ113
        subst lq113 yq113 zq113
        obtain ⟨rfl, Nq113, eq113⟩ := hQ113
        have N113 := Fr.app N104 Nq113
        refine own_go (st' := T113.setTop (mkF m 145 #[.val (.long j0), .second, .val (.long j1), .second, .val (.long j2), .second, .val (.long bb), .second, .val (.int sl), .val (.int (2 : Int32)), .val (.long (own_lmax (own_lmax (0 : Int64) j0) j1)), .second, .val (.long bd), .second, .val (.ref b84), .val (.ref b98)] [(.long bd)])) (fun _ k => st113.trans k) ?_
        refine own_go (st' := T113.setTop (mkF m 147 #[.val (.long j0), .second, .val (.long j1), .second, .val (.long j2), .second, .val (.long bb), .second, .val (.int sl), .val (.int (2 : Int32)), .val (.long (own_lmax (own_lmax (0 : Int64) j0) j1)), .second, .val (.long bd), .second, .val (.ref b84), .val (.ref b98)] [(.long bd), (.long bd)])) (fun _ k => XS.lload X113.here hx rfl (hb hby at_145) rfl k) ?_
        refine own_go (st' := T113.setTop (mkF m 148 #[.val (.long j0), .second, .val (.long j1), .second, .val (.long j2), .second, .val (.long bb), .second, .val (.int sl), .val (.int (2 : Int32)), .val (.long (own_lmax (own_lmax (0 : Int64) j0) j1)), .second, .val (.long bd), .second, .val (.ref b84), .val (.ref b98)] [(.int (lcmpW bd bd))])) (fun _ k => XS.lcmp X113.here hx rfl (hb hby at_147) rfl k) ?_
        have hc114 : bd = bd := rfl
        refine own_go (st' := T113.setTop (mkF m 151 #[.val (.long j0), .second, .val (.long j1), .second, .val (.long j2), .second, .val (.long bb), .second, .val (.int sl), .val (.int (2 : Int32)), .val (.long (own_lmax (own_lmax (0 : Int64) j0) j1)), .second, .val (.long bd), .second, .val (.ref b84), .val (.ref b98)] [])) (fun _ k => XS.ifNo X113.here hx rfl (hb hby at_148) rfl ((if0 _ _).trans (teq ((lw_eq bd bd).mpr hc114)).2) k) ?_
        refine own_go (st' := T113.setTop (mkF m 152 #[.val (.long j0), .second, .val (.long j1), .second, .val (.long j2), .second, .val (.long bb), .second, .val (.int sl), .val (.int (2 : Int32)), .val (.long (own_lmax (own_lmax (0 : Int64) j0) j1)), .second, .val (.long bd), .second, .val (.ref b84), .val (.ref b98)] [(.int (1 : Int32))])) (fun _ k => XS.iconst X113.here hx rfl (hb hby at_151) k) ?_
        refine own_go (st' := T113.setTop (mkF m 156 #[.val (.long j0), .second, .val (.long j1), .second, .val (.long j2), .second, .val (.long bb), .second, .val (.int sl), .val (.int (2 : Int32)), .val (.long (own_lmax (own_lmax (0 : Int64) j0) j1)), .second, .val (.long bd), .second, .val (.ref b84), .val (.ref b98)] [(.int (1 : Int32))])) (fun _ k => XS.goto X113.here hx rfl (pc0 := 152) (pc' := 156) rfl (hb hby at_152) (by decide) (by decide) k) ?_
        obtain ⟨fs, hr, hrun, hended, hW, hsame⟩ := X113.leave (v := some (.int (1 : Int32))) (fun h => by rw [Bd.returns] at h; cases h)
        refine ⟨_, _, ?_, hP _ _ hrun hended ⟨_, _, rfl, ?_, ⟨_, rfl⟩, hW, hsame.mono (by decide) (by decide)⟩⟩
        · exact retN X113 hx (t := .boolean) Bd.returns (by simp) (hb hby at_156) hr
        · show Qrm0 Z j0 j1 j2 bb sl h0 n0 _ T113.heap _
          rw [eq113]
          exact ⟨rfl, N113, trivial⟩
    refine own_go (st' := T81.setTop (mkF m 56 #[.val (.long j0), .second, .val (.long j1), .second, .val (.long j2), .second, .val (.long bb), .second, .val (.int sl), .val (.int (2 : Int32)), .val (.long (own_lmax (own_lmax (0 : Int64) j0) j1)), .second, .unset, .unset, .unset, .unset] [(.int sl)])) (fun _ k => XS.iload X81.here hx rfl (hb hby at_54) rfl k) ?_
    refine own_go (st' := T81.setTop (mkF m 57 #[.val (.long j0), .second, .val (.long j1), .second, .val (.long j2), .second, .val (.long bb), .second, .val (.int sl), .val (.int (2 : Int32)), .val (.long (own_lmax (own_lmax (0 : Int64) j0) j1)), .second, .unset, .unset, .unset, .unset] [(.int (1 : Int32)), (.int sl)])) (fun _ k => XS.iconst X81.here hx rfl (hb hby at_56) k) ?_
    refine own_go (st' := T81.setTop (mkF m 58 #[.val (.long j0), .second, .val (.long j1), .second, .val (.long j2), .second, .val (.long bb), .second, .val (.int sl), .val (.int (2 : Int32)), .val (.long (own_lmax (own_lmax (0 : Int64) j0) j1)), .second, .unset, .unset, .unset, .unset] [(.int (sl &&& (1 : Int32)))])) (fun _ k => XS.iand X81.here hx rfl (hb hby at_57) rfl k) ?_
    by_cases hc116 : (sl &&& (1 : Int32)) = (0 : Int32)
    · --
      refine own_go (st' := T81.setTop (mkF m 66 #[.val (.long j0), .second, .val (.long j1), .second, .val (.long j2), .second, .val (.long bb), .second, .val (.int sl), .val (.int (2 : Int32)), .val (.long (own_lmax (own_lmax (0 : Int64) j0) j1)), .second, .unset, .unset, .unset, .unset] [])) (fun _ k => XS.ifYes X81.here hx rfl (pc0 := 58) (pc' := 66) rfl (hb hby at_58) rfl ((if0 _ _).trans (teq hc116).1) (by decide) (by decide) k) ?_
      refine own_go (st' := T81.setTop (mkF m 68 #[.val (.long j0), .second, .val (.long j1), .second, .val (.long j2), .second, .val (.long bb), .second, .val (.int sl), .val (.int (2 : Int32)), .val (.long (own_lmax (own_lmax (0 : Int64) j0) j1)), .second, .unset, .unset, .unset, .unset] [(.long bb)])) (fun _ k => XS.lload X81.here hx rfl (hb hby at_66) rfl k) ?_
      refine own_go (st' := T81.setTop (mkF m 70 #[.val (.long j0), .second, .val (.long j1), .second, .val (.long j2), .second, .val (.long bb), .second, .val (.int sl), .val (.int (2 : Int32)), .val (.long (own_lmax (own_lmax (0 : Int64) j0) j1)), .second, .unset, .unset, .unset, .unset] [(.long (own_lmax (own_lmax (0 : Int64) j0) j1)), (.long bb)])) (fun _ k => XS.lload X81.here hx rfl (hb hby at_68) rfl k) ?_
      obtain ⟨_, _, ⟨T117, LC117, kC117, nC117⟩, -, X117, ⟨Lc117, hQ117, lq117, yq117, zq117⟩, st117⟩ := Jvm.LawKit.callS X81 hx (y := (⟨"java/lang/Math", "min", "(JJ)J"⟩ : MethodName)) hown (mvT hZ (hw _ (List.mem_of_getElem? (i := 57) rfl))) (mvT hZ (hw _ (List.mem_of_getElem? (i := 58) rfl))) (mvT hZ (hw _ (List.mem_of_getElem? (i := 2) rfl))) (mvT hZ (hw _ (List.mem_of_getElem? (i := 59) rfl))) (by decide) (backOf (W := 0) (rm10 l Z a0 hw [] bb (own_lmax (own_lmax (0 : Int64) j0) j1) h0 n0 (by omega) ) hZ (hw _ (List.mem_of_getElem? (i := 59) rfl)) (hw _ (List.mem_of_getElem? (i := 2) rfl)) (by decide) (by decide)) (g := (mkF m 70 #[.val (.long j0), .second, .val (.long j1), .second, .val (.long j2), .second, .val (.long bb), .second, .val (.int sl), .val (.int (2 : Int32)), .val (.long (own_lmax (own_lmax (0 : Int64) j0) j1)), .second, .unset, .unset, .unset, .unset] [(.long (own_lmax (own_lmax (0 : Int64) j0) j1)), (.long bb)])) rfl (by rw [hml]; rfl) (argsL := [(.long bb), (.long (own_lmax (own_lmax (0 : Int64) j0) j1))]) (rest := []) (lenOf pd_0 rfl) rfl (by show 2 * 0 + _ ≤ _; exact Nat.le_of_eq rfl) (hb hby at_70) (fun _ _ => ⟨rfl, eq81, (by decide : 0 + 0 ≤ _), (by decide : 0 + 0 ≤ _)⟩)
      dsimp only [Pt.U, Pt.locs, Pt.cells, Pt.slots] at X117 lq117 yq117 zq117 st117 hQ117
      subst lq117 yq117 zq117
      obtain ⟨rfl, Nq117, eq117⟩ := hQ117
      have N117 := Fr.app N81 Nq117
      refine own_go (st' := T117.setTop (mkF m 73 #[.val (.long j0), .second, .val (.long j1), .second, .val (.long j2), .second, .val (.long bb), .second, .val (.int sl), .val (.int (2 : Int32)), .val (.long (own_lmax (own_lmax (0 : Int64) j0) j1)), .second, .unset, .unset, .unset, .unset] [(.long (own_lmin bb (own_lmax (own_lmax (0 : Int64) j0) j1)))])) (fun t k => st117 t k) ?_
      exact J73_83 _ _ (own_lmin bb (own_lmax (own_lmax (0 : Int64) j0) j1)) X117 eq117 N117 (own_min_le _ _)
    · --
      refine own_go (st' := T81.setTop (mkF m 61 #[.val (.long j0), .second, .val (.long j1), .second, .val (.long j2), .second, .val (.long bb), .second, .val (.int sl), .val (.int (2 : Int32)), .val (.long (own_lmax (own_lmax (0 : Int64) j0) j1)), .second, .unset, .unset, .unset, .unset] [])) (fun _ k => XS.ifNo X81.here hx rfl (hb hby at_58) rfl ((if0 _ _).trans (feq hc116).1) k) ?_
      refine own_go (st' := T81.setTop (mkF m 63 #[.val (.long j0), .second, .val (.long j1), .second, .val (.long j2), .second, .val (.long bb), .second, .val (.int sl), .val (.int (2 : Int32)), .val (.long (own_lmax (own_lmax (0 : Int64) j0) j1)), .second, .unset, .unset, .unset, .unset] [(.long (own_lmax (own_lmax (0 : Int64) j0) j1))])) (fun _ k => XS.lload X81.here hx rfl (hb hby at_61) rfl k) ?_
      refine own_go (st' := T81.setTop (mkF m 73 #[.val (.long j0), .second, .val (.long j1), .second, .val (.long j2), .second, .val (.long bb), .second, .val (.int sl), .val (.int (2 : Int32)), .val (.long (own_lmax (own_lmax (0 : Int64) j0) j1)), .second, .unset, .unset, .unset, .unset] [(.long (own_lmax (own_lmax (0 : Int64) j0) j1))])) (fun _ k => XS.goto X81.here hx rfl (pc0 := 63) (pc' := 73) rfl (hb hby at_63) (by decide) (by decide) k) ?_
      exact J73_83 _ _ (own_lmax (own_lmax (0 : Int64) j0) j1) X81 eq81 N81 (own_irr _)
  · --
    rw [hm]
    refine own_go (st' := s₁.setTop (mkF m 8 #[.val (.long j0), .second, .val (.long j1), .second, .val (.long j2), .second, .val (.long bb), .second, .val (.int sl), .val (.int (3 : Int32)), .unset, .unset, .unset, .unset, .unset, .unset] [])) (fun _ k => XS.istore X0.here hx rfl (hb hby at_6) rfl (l' := #[.val (.long j0), .second, .val (.long j1), .second, .val (.long j2), .second, .val (.long bb), .second, .val (.int sl), .val (.int (3 : Int32)), .unset, .unset, .unset, .unset, .unset, .unset]) rfl k) ?_
    refine own_go (st' := s₁.setTop (mkF m 9 #[.val (.long j0), .second, .val (.long j1), .second, .val (.long j2), .second, .val (.long bb), .second, .val (.int sl), .val (.int (3 : Int32)), .unset, .unset, .unset, .unset, .unset, .unset] [(.long (0 : Int64))])) (fun _ k => XS.lconst X0.here hx rfl (hb hby at_8) k) ?_
    refine own_go (st' := s₁.setTop (mkF m 11 #[.val (.long j0), .second, .val (.long j1), .second, .val (.long j2), .second, .val (.long bb), .second, .val (.int sl), .val (.int (3 : Int32)), .val (.long (0 : Int64)), .second, .unset, .unset, .unset, .unset] [])) (fun _ k => XS.lstore X0.here hx rfl (hb hby at_9) rfl (l' := #[.val (.long j0), .second, .val (.long j1), .second, .val (.long j2), .second, .val (.long bb), .second, .val (.int sl), .val (.int (3 : Int32)), .val (.long (0 : Int64)), .second, .unset, .unset, .unset, .unset]) rfl k) ?_
    refine own_go (st' := s₁.setTop (mkF m 13 #[.val (.long j0), .second, .val (.long j1), .second, .val (.long j2), .second, .val (.long bb), .second, .val (.int sl), .val (.int (3 : Int32)), .val (.long (0 : Int64)), .second, .unset, .unset, .unset, .unset] [(.int (3 : Int32))])) (fun _ k => XS.iload X0.here hx rfl (hb hby at_11) rfl k) ?_
    refine own_go (st' := s₁.setTop (mkF m 14 #[.val (.long j0), .second, .val (.long j1), .second, .val (.long j2), .second, .val (.long bb), .second, .val (.int sl), .val (.int (3 : Int32)), .val (.long (0 : Int64)), .second, .unset, .unset, .unset, .unset] [(.int (1 : Int32)), (.int (3 : Int32))])) (fun _ k => XS.iconst X0.here hx rfl (hb hby at_13) k) ?_
    have hc118 : ¬ ((3 : Int32) < (1 : Int32)) := by decide
    refine own_go (st' := s₁.setTop (mkF m 17 #[.val (.long j0), .second, .val (.long j1), .second, .val (.long j2), .second, .val (.long bb), .second, .val (.int sl), .val (.int (3 : Int32)), .val (.long (0 : Int64)), .second, .unset, .unset, .unset, .unset] [])) (fun _ k => XS.icmpNo X0.here hx rfl (hb hby at_14) rfl (flt hc118).1 k) ?_
    refine own_go (st' := s₁.setTop (mkF m 19 #[.val (.long j0), .second, .val (.long j1), .second, .val (.long j2), .second, .val (.long bb), .second, .val (.int sl), .val (.int (3 : Int32)), .val (.long (0 : Int64)), .second, .unset, .unset, .unset, .unset] [(.long (0 : Int64))])) (fun _ k => XS.lload X0.here hx rfl (hb hby at_17) rfl k) ?_
    refine own_go (st' := s₁.setTop (mkF m 20 #[.val (.long j0), .second, .val (.long j1), .second, .val (.long j2), .second, .val (.long bb), .second, .val (.int sl), .val (.int (3 : Int32)), .val (.long (0 : Int64)), .second, .unset, .unset, .unset, .unset] [(.long j0), (.long (0 : Int64))])) (fun _ k => XS.lloadN X0.here hx rfl (hb hby at_19) rfl k) ?_
    obtain ⟨_, _, ⟨T119, LC119, kC119, nC119⟩, -, X119, ⟨Lc119, hQ119, lq119, yq119, zq119⟩, st119⟩ := Jvm.LawKit.callS X0 hx (y := (⟨"java/lang/Math", "max", "(JJ)J"⟩ : MethodName)) hown (mvT hZ (hw _ (List.mem_of_getElem? (i := 0) rfl))) (mvT hZ (hw _ (List.mem_of_getElem? (i := 1) rfl))) (mvT hZ (hw _ (List.mem_of_getElem? (i := 2) rfl))) (mvT hZ (hw _ (List.mem_of_getElem? (i := 3) rfl))) (by decide) (backOf (W := 0) (rm1 l Z a0 hw [] (0 : Int64) j0 h0 n0 (by omega) ) hZ (hw _ (List.mem_of_getElem? (i := 3) rfl)) (hw _ (List.mem_of_getElem? (i := 2) rfl)) (by decide) (by decide)) (g := (mkF m 20 #[.val (.long j0), .second, .val (.long j1), .second, .val (.long j2), .second, .val (.long bb), .second, .val (.int sl), .val (.int (3 : Int32)), .val (.long (0 : Int64)), .second, .unset, .unset, .unset, .unset] [(.long j0), (.long (0 : Int64))])) rfl (by rw [hml]; rfl) (argsL := [(.long (0 : Int64)), (.long j0)]) (rest := []) (lenOf pd_0 rfl) rfl (by show 2 * 0 + _ ≤ _; exact Nat.le_of_eq rfl) (hb hby at_20) (fun _ _ => ⟨rfl, e0, (by decide : 0 + 0 ≤ _), (by decide : 0 + 0 ≤ _)⟩)
    dsimp only [Pt.U, Pt.locs, Pt.cells, Pt.slots] at X119 lq119 yq119 zq119 st119 hQ119
    subst lq119 yq119 zq119
    obtain ⟨rfl, Nq119, eq119⟩ := hQ119
    have N119 := Fr.app N0 Nq119
    refine own_go (st' := T119.setTop (mkF m 23 #[.val (.long j0), .second, .val (.long j1), .second, .val (.long j2), .second, .val (.long bb), .second, .val (.int sl), .val (.int (3 : Int32)), .val (.long (0 : Int64)), .second, .unset, .unset, .unset, .unset] [(.long (own_lmax (0 : Int64) j0))])) (fun t k => st119 t k) ?_
    refine own_go (st' := T119.setTop (mkF m 25 #[.val (.long j0), .second, .val (.long j1), .second, .val (.long j2), .second, .val (.long bb), .second, .val (.int sl), .val (.int (3 : Int32)), .val (.long (own_lmax (0 : Int64) j0)), .second, .unset, .unset, .unset, .unset] [])) (fun _ k => XS.lstore X119.here hx rfl (hb hby at_23) rfl (l' := #[.val (.long j0), .second, .val (.long j1), .second, .val (.long j2), .second, .val (.long bb), .second, .val (.int sl), .val (.int (3 : Int32)), .val (.long (own_lmax (0 : Int64) j0)), .second, .unset, .unset, .unset, .unset]) rfl k) ?_
    refine own_go (st' := T119.setTop (mkF m 27 #[.val (.long j0), .second, .val (.long j1), .second, .val (.long j2), .second, .val (.long bb), .second, .val (.int sl), .val (.int (3 : Int32)), .val (.long (own_lmax (0 : Int64) j0)), .second, .unset, .unset, .unset, .unset] [(.int (3 : Int32))])) (fun _ k => XS.iload X119.here hx rfl (hb hby at_25) rfl k) ?_
    refine own_go (st' := T119.setTop (mkF m 28 #[.val (.long j0), .second, .val (.long j1), .second, .val (.long j2), .second, .val (.long bb), .second, .val (.int sl), .val (.int (3 : Int32)), .val (.long (own_lmax (0 : Int64) j0)), .second, .unset, .unset, .unset, .unset] [(.int (2 : Int32)), (.int (3 : Int32))])) (fun _ k => XS.iconst X119.here hx rfl (hb hby at_27) k) ?_
    have hc120 : ¬ ((3 : Int32) < (2 : Int32)) := by decide
    refine own_go (st' := T119.setTop (mkF m 31 #[.val (.long j0), .second, .val (.long j1), .second, .val (.long j2), .second, .val (.long bb), .second, .val (.int sl), .val (.int (3 : Int32)), .val (.long (own_lmax (0 : Int64) j0)), .second, .unset, .unset, .unset, .unset] [])) (fun _ k => XS.icmpNo X119.here hx rfl (hb hby at_28) rfl (flt hc120).1 k) ?_
    refine own_go (st' := T119.setTop (mkF m 33 #[.val (.long j0), .second, .val (.long j1), .second, .val (.long j2), .second, .val (.long bb), .second, .val (.int sl), .val (.int (3 : Int32)), .val (.long (own_lmax (0 : Int64) j0)), .second, .unset, .unset, .unset, .unset] [(.long (own_lmax (0 : Int64) j0))])) (fun _ k => XS.lload X119.here hx rfl (hb hby at_31) rfl k) ?_
    refine own_go (st' := T119.setTop (mkF m 34 #[.val (.long j0), .second, .val (.long j1), .second, .val (.long j2), .second, .val (.long bb), .second, .val (.int sl), .val (.int (3 : Int32)), .val (.long (own_lmax (0 : Int64) j0)), .second, .unset, .unset, .unset, .unset] [(.long j1), (.long (own_lmax (0 : Int64) j0))])) (fun _ k => XS.lloadN X119.here hx rfl (hb hby at_33) rfl k) ?_
    obtain ⟨_, _, ⟨T121, LC121, kC121, nC121⟩, -, X121, ⟨Lc121, hQ121, lq121, yq121, zq121⟩, st121⟩ := Jvm.LawKit.callS X119 hx (y := (⟨"java/lang/Math", "max", "(JJ)J"⟩ : MethodName)) hown (mvT hZ (hw _ (List.mem_of_getElem? (i := 0) rfl))) (mvT hZ (hw _ (List.mem_of_getElem? (i := 1) rfl))) (mvT hZ (hw _ (List.mem_of_getElem? (i := 2) rfl))) (mvT hZ (hw _ (List.mem_of_getElem? (i := 3) rfl))) (by decide) (backOf (W := 0) (rm1 l Z a0 hw [] (own_lmax (0 : Int64) j0) j1 h0 n0 (by omega) ) hZ (hw _ (List.mem_of_getElem? (i := 3) rfl)) (hw _ (List.mem_of_getElem? (i := 2) rfl)) (by decide) (by decide)) (g := (mkF m 34 #[.val (.long j0), .second, .val (.long j1), .second, .val (.long j2), .second, .val (.long bb), .second, .val (.int sl), .val (.int (3 : Int32)), .val (.long (own_lmax (0 : Int64) j0)), .second, .unset, .unset, .unset, .unset] [(.long j1), (.long (own_lmax (0 : Int64) j0))])) rfl (by rw [hml]; rfl) (argsL := [(.long (own_lmax (0 : Int64) j0)), (.long j1)]) (rest := []) (lenOf pd_0 rfl) rfl (by show 2 * 0 + _ ≤ _; exact Nat.le_of_eq rfl) (hb hby at_34) (fun _ _ => ⟨rfl, eq119, (by decide : 0 + 0 ≤ _), (by decide : 0 + 0 ≤ _)⟩)
    dsimp only [Pt.U, Pt.locs, Pt.cells, Pt.slots] at X121 lq121 yq121 zq121 st121 hQ121
    subst lq121 yq121 zq121
    obtain ⟨rfl, Nq121, eq121⟩ := hQ121
    have N121 := Fr.app N119 Nq121
    refine own_go (st' := T121.setTop (mkF m 37 #[.val (.long j0), .second, .val (.long j1), .second, .val (.long j2), .second, .val (.long bb), .second, .val (.int sl), .val (.int (3 : Int32)), .val (.long (own_lmax (0 : Int64) j0)), .second, .unset, .unset, .unset, .unset] [(.long (own_lmax (own_lmax (0 : Int64) j0) j1))])) (fun t k => st121 t k) ?_
    refine own_go (st' := T121.setTop (mkF m 39 #[.val (.long j0), .second, .val (.long j1), .second, .val (.long j2), .second, .val (.long bb), .second, .val (.int sl), .val (.int (3 : Int32)), .val (.long (own_lmax (own_lmax (0 : Int64) j0) j1)), .second, .unset, .unset, .unset, .unset] [])) (fun _ k => XS.lstore X121.here hx rfl (hb hby at_37) rfl (l' := #[.val (.long j0), .second, .val (.long j1), .second, .val (.long j2), .second, .val (.long bb), .second, .val (.int sl), .val (.int (3 : Int32)), .val (.long (own_lmax (own_lmax (0 : Int64) j0) j1)), .second, .unset, .unset, .unset, .unset]) rfl k) ?_
    refine own_go (st' := T121.setTop (mkF m 41 #[.val (.long j0), .second, .val (.long j1), .second, .val (.long j2), .second, .val (.long bb), .second, .val (.int sl), .val (.int (3 : Int32)), .val (.long (own_lmax (own_lmax (0 : Int64) j0) j1)), .second, .unset, .unset, .unset, .unset] [(.int (3 : Int32))])) (fun _ k => XS.iload X121.here hx rfl (hb hby at_39) rfl k) ?_
    refine own_go (st' := T121.setTop (mkF m 42 #[.val (.long j0), .second, .val (.long j1), .second, .val (.long j2), .second, .val (.long bb), .second, .val (.int sl), .val (.int (3 : Int32)), .val (.long (own_lmax (own_lmax (0 : Int64) j0) j1)), .second, .unset, .unset, .unset, .unset] [(.int (3 : Int32)), (.int (3 : Int32))])) (fun _ k => XS.iconst X121.here hx rfl (hb hby at_41) k) ?_
    have hc122 : ¬ ((3 : Int32) < (3 : Int32)) := by decide
    refine own_go (st' := T121.setTop (mkF m 45 #[.val (.long j0), .second, .val (.long j1), .second, .val (.long j2), .second, .val (.long bb), .second, .val (.int sl), .val (.int (3 : Int32)), .val (.long (own_lmax (own_lmax (0 : Int64) j0) j1)), .second, .unset, .unset, .unset, .unset] [])) (fun _ k => XS.icmpNo X121.here hx rfl (hb hby at_42) rfl (flt hc122).1 k) ?_
    refine own_go (st' := T121.setTop (mkF m 47 #[.val (.long j0), .second, .val (.long j1), .second, .val (.long j2), .second, .val (.long bb), .second, .val (.int sl), .val (.int (3 : Int32)), .val (.long (own_lmax (own_lmax (0 : Int64) j0) j1)), .second, .unset, .unset, .unset, .unset] [(.long (own_lmax (own_lmax (0 : Int64) j0) j1))])) (fun _ k => XS.lload X121.here hx rfl (hb hby at_45) rfl k) ?_
    refine own_go (st' := T121.setTop (mkF m 49 #[.val (.long j0), .second, .val (.long j1), .second, .val (.long j2), .second, .val (.long bb), .second, .val (.int sl), .val (.int (3 : Int32)), .val (.long (own_lmax (own_lmax (0 : Int64) j0) j1)), .second, .unset, .unset, .unset, .unset] [(.long j2), (.long (own_lmax (own_lmax (0 : Int64) j0) j1))])) (fun _ k => XS.lload X121.here hx rfl (hb hby at_47) rfl k) ?_
    obtain ⟨_, _, ⟨T123, LC123, kC123, nC123⟩, -, X123, ⟨Lc123, hQ123, lq123, yq123, zq123⟩, st123⟩ := Jvm.LawKit.callS X121 hx (y := (⟨"java/lang/Math", "max", "(JJ)J"⟩ : MethodName)) hown (mvT hZ (hw _ (List.mem_of_getElem? (i := 0) rfl))) (mvT hZ (hw _ (List.mem_of_getElem? (i := 1) rfl))) (mvT hZ (hw _ (List.mem_of_getElem? (i := 2) rfl))) (mvT hZ (hw _ (List.mem_of_getElem? (i := 3) rfl))) (by decide) (backOf (W := 0) (rm1 l Z a0 hw [] (own_lmax (own_lmax (0 : Int64) j0) j1) j2 h0 n0 (by omega) ) hZ (hw _ (List.mem_of_getElem? (i := 3) rfl)) (hw _ (List.mem_of_getElem? (i := 2) rfl)) (by decide) (by decide)) (g := (mkF m 49 #[.val (.long j0), .second, .val (.long j1), .second, .val (.long j2), .second, .val (.long bb), .second, .val (.int sl), .val (.int (3 : Int32)), .val (.long (own_lmax (own_lmax (0 : Int64) j0) j1)), .second, .unset, .unset, .unset, .unset] [(.long j2), (.long (own_lmax (own_lmax (0 : Int64) j0) j1))])) rfl (by rw [hml]; rfl) (argsL := [(.long (own_lmax (own_lmax (0 : Int64) j0) j1)), (.long j2)]) (rest := []) (lenOf pd_0 rfl) rfl (by show 2 * 0 + _ ≤ _; exact Nat.le_of_eq rfl) (hb hby at_49) (fun _ _ => ⟨rfl, eq121, (by decide : 0 + 0 ≤ _), (by decide : 0 + 0 ≤ _)⟩)
    dsimp only [Pt.U, Pt.locs, Pt.cells, Pt.slots] at X123 lq123 yq123 zq123 st123 hQ123
    subst lq123 yq123 zq123
    obtain ⟨rfl, Nq123, eq123⟩ := hQ123
    have N123 := Fr.app N121 Nq123
    refine own_go (st' := T123.setTop (mkF m 52 #[.val (.long j0), .second, .val (.long j1), .second, .val (.long j2), .second, .val (.long bb), .second, .val (.int sl), .val (.int (3 : Int32)), .val (.long (own_lmax (own_lmax (0 : Int64) j0) j1)), .second, .unset, .unset, .unset, .unset] [(.long (own_lmax (own_lmax (own_lmax (0 : Int64) j0) j1) j2))])) (fun t k => st123 t k) ?_
    refine own_go (st' := T123.setTop (mkF m 54 #[.val (.long j0), .second, .val (.long j1), .second, .val (.long j2), .second, .val (.long bb), .second, .val (.int sl), .val (.int (3 : Int32)), .val (.long (own_lmax (own_lmax (own_lmax (0 : Int64) j0) j1) j2)), .second, .unset, .unset, .unset, .unset] [])) (fun _ k => XS.lstore X123.here hx rfl (hb hby at_52) rfl (l' := #[.val (.long j0), .second, .val (.long j1), .second, .val (.long j2), .second, .val (.long bb), .second, .val (.int sl), .val (.int (3 : Int32)), .val (.long (own_lmax (own_lmax (own_lmax (0 : Int64) j0) j1) j2)), .second, .unset, .unset, .unset, .unset]) rfl k) ?_
    have J73_124 : ∀ (Tj124 : State) (lj124 : List Loc) (bd : Int64) (Xj124 : Stand p l e room_1 s m #[(.long j0), (.long j1), (.long j2), (.long bb), (.int sl)] below meth c Tj124 lj124 0 0) (ej124 : Tj124.heap = h0) (Nj124 : Fr n0 lj124) (hbd : ¬ (own_lmax (own_lmax (own_lmax (0 : Int64) j0) j1) j2) < bd), own_Go p.tables e below P (Tj124.setTop (mkF m 73 #[.val (.long j0), .second, .val (.long j1), .second, .val (.long j2), .second, .val (.long bb), .second, .val (.int sl), .val (.int (3 : Int32)), .val (.long (own_lmax (own_lmax (own_lmax (0 : Int64) j0) j1) j2)), .second, .unset, .unset, .unset, .unset] [(.long bd)])) := by
      intro Tj124 lj124 bd Xj124 ej124 Nj124 hbd
      refine own_go (st' := Tj124.setTop (mkF m 75 #[.val (.long j0), .second, .val (.long j1), .second, .val (.long j2), .second, .val (.long bb), .second, .val (.int sl), .val (.int (3 : Int32)), .val (.long (own_lmax (own_lmax (own_lmax (0 : Int64) j0) j1) j2)), .second, .val (.long bd), .second, .unset, .unset] [])) (fun _ k => XS.lstore Xj124.here hx rfl (hb hby at_73) rfl (l' := #[.val (.long j0), .second, .val (.long j1), .second, .val (.long j2), .second, .val (.long bb), .second, .val (.int sl), .val (.int (3 : Int32)), .val (.long (own_lmax (own_lmax (own_lmax (0 : Int64) j0) j1) j2)), .second, .val (.long bd), .second, .unset, .unset]) rfl k) ?_
      obtain ⟨T125, h125, X125, e125, E125, A125, D125, -, st125⟩ := newO Xj124 hx hZ hown (hw _ (List.mem_of_getElem? (i := 4) rfl)) (hw _ (List.mem_of_getElem? (i := 5) rfl)) (hw _ (List.mem_of_getElem? (i := 6) rfl)) ej124 (g := (mkF m 75 #[.val (.long j0), .second, .val (.long j1), .second, .val (.long j2), .second, .val (.long bb), .second, .val (.int sl), .val (.int (3 : Int32)), .val (.long (own_lmax (own_lmax (own_lmax (0 : Int64) j0) j1) j2)), .second, .val (.long bd), .second, .unset, .unset] [])) rfl (hb hby at_75) (by decide) (by decide)
      obtain ⟨b125, g125⟩ : ∃ z, z = h0.size := ⟨_, rfl⟩
      rw [← g125] at A125 D125 st125
      have sz125 : h0.size ≤ h125.size := E125.1
      have lt125 : @LT.lt Nat _ b125 h125.size := A125.lt
      have f126 : Fld Z h125 b125 "com/example/millwright/millwright/jobshop/Plan" "machine" "[I" .null := D125 (Or.inr (hw _ (List.mem_of_getElem? (i := 23) rfl))) (ty := (.array .int)) (by decide)
      have f127 : Fld Z h125 b125 "com/example/millwright/millwright/jobshop/Plan" "start" "[J" .null := D125 (Or.inr (hw _ (List.mem_of_getElem? (i := 25) rfl))) (ty := (.array .long)) (by decide)
      have f128 : Fld Z h125 b125 "com/example/millwright/millwright/jobshop/Plan" "end" "[J" .null := D125 (Or.inr (hw _ (List.mem_of_getElem? (i := 27) rfl))) (ty := (.array .long)) (by decide)
      have f129 : Fld Z h125 b125 "com/example/millwright/millwright/jobshop/Plan" "makespan" "J" (.long (0 : Int64)) := D125 (Or.inr (hw _ (List.mem_of_getElem? (i := 30) rfl))) (ty := .long) (by decide)
      refine own_go (st' := T125.setTop (mkF m 78 #[.val (.long j0), .second, .val (.long j1), .second, .val (.long j2), .second, .val (.long bb), .second, .val (.int sl), .val (.int (3 : Int32)), .val (.long (own_lmax (own_lmax (own_lmax (0 : Int64) j0) j1) j2)), .second, .val (.long bd), .second, .unset, .unset] [(.ref b125)])) (st125) ?_
      refine own_go (st' := T125.setTop (mkF m 79 #[.val (.long j0), .second, .val (.long j1), .second, .val (.long j2), .second, .val (.long bb), .second, .val (.int sl), .val (.int (3 : Int32)), .val (.long (own_lmax (own_lmax (own_lmax (0 : Int64) j0) j1) j2)), .second, .val (.long bd), .second, .unset, .unset] [(.ref b125), (.ref b125)])) (fun _ k => XS.dup X125.here hx rfl (hb hby at_78) rfl rfl k) ?_
      refine own_go (st' := T125.setTop (mkF m 81 #[.val (.long j0), .second, .val (.long j1), .second, .val (.long j2), .second, .val (.long bb), .second, .val (.int sl), .val (.int (3 : Int32)), .val (.long (own_lmax (own_lmax (own_lmax (0 : Int64) j0) j1) j2)), .second, .val (.long bd), .second, .unset, .unset] [(.int (3 : Int32)), (.ref b125), (.ref b125)])) (fun _ k => XS.iload X125.here hx rfl (hb hby at_79) rfl k) ?_
      obtain ⟨_, _, ⟨T130, LC130, kC130, nC130⟩, -, X130, ⟨Lc130, hQ130, lq130, yq130, zq130⟩, st130⟩ := Jvm.LawKit.callS X125 hx (y := (⟨"com/example/millwright/millwright/jobshop/JobShopSolutionOptimalPinLaw", "machines", "(I)[I"⟩ : MethodName)) hown (mvT hZ (hw _ (List.mem_of_getElem? (i := 7) rfl))) (mvT hZ (hw _ (List.mem_of_getElem? (i := 8) rfl))) (mvT hZ (hw _ (List.mem_of_getElem? (i := 9) rfl))) (mvT hZ (hw _ (List.mem_of_getElem? (i := 10) rfl))) (by decide) (backOf (W := 2) (rm2_3 l Z a0 hw []  h125 n0 (by omega) ) hZ (hw _ (List.mem_of_getElem? (i := 10) rfl)) (hw _ (List.mem_of_getElem? (i := 9) rfl)) (by decide) (by decide)) (g := (mkF m 81 #[.val (.long j0), .second, .val (.long j1), .second, .val (.long j2), .second, .val (.long bb), .second, .val (.int sl), .val (.int (3 : Int32)), .val (.long (own_lmax (own_lmax (own_lmax (0 : Int64) j0) j1) j2)), .second, .val (.long bd), .second, .unset, .unset] [(.int (3 : Int32)), (.ref b125), (.ref b125)])) rfl (by rw [hml]; rfl) (argsL := [(.int (3 : Int32))]) (rest := [(.ref b125), (.ref b125)]) (lenOf pd_2 rfl) rfl (by show 2 * 0 + _ ≤ _; exact Nat.le_of_eq rfl) (hb hby at_81) (fun _ _ => ⟨rfl, e125, (by decide : 1 + 1 ≤ _), (by decide : 4 + 3 ≤ _)⟩)
      dsimp only [Pt.U, Pt.locs, Pt.cells, Pt.slots] at X130 lq130 yq130 zq130 st130 hQ130
      subst lq130 yq130 zq130
      obtain ⟨h130, e130⟩ : ∃ z, T130.heap = z := ⟨_, rfl⟩
      rw [e130] at hQ130
      obtain ⟨r_130, kr_130, rfl, Nq130, K130, g130_0, g130_1⟩ := hQ130
      have sz130 : h125.size ≤ h130.size := K130.1
      have N130 := Fr.app Nj124 Nq130
      have lt130_1 : @LT.lt Nat _ r_130 h130.size := g130_0.lt
      refine own_go (st' := T130.setTop (mkF m 84 #[.val (.long j0), .second, .val (.long j1), .second, .val (.long j2), .second, .val (.long bb), .second, .val (.int sl), .val (.int (3 : Int32)), .val (.long (own_lmax (own_lmax (own_lmax (0 : Int64) j0) j1) j2)), .second, .val (.long bd), .second, .unset, .unset] [(.ref r_130), (.ref b125), (.ref b125)])) (fun t k => st130 t k) ?_
      refine own_go (st' := T130.setTop (mkF m 86 #[.val (.long j0), .second, .val (.long j1), .second, .val (.long j2), .second, .val (.long bb), .second, .val (.int sl), .val (.int (3 : Int32)), .val (.long (own_lmax (own_lmax (own_lmax (0 : Int64) j0) j1) j2)), .second, .val (.long bd), .second, .unset, .unset] [(.int (3 : Int32)), (.ref r_130), (.ref b125), (.ref b125)])) (fun _ k => XS.iload X130.here hx rfl (hb hby at_84) rfl k) ?_
      refine own_go (st' := T130.setTop (mkF m 87 #[.val (.long j0), .second, .val (.long j1), .second, .val (.long j2), .second, .val (.long bb), .second, .val (.int sl), .val (.int (3 : Int32)), .val (.long (own_lmax (own_lmax (own_lmax (0 : Int64) j0) j1) j2)), .second, .val (.long bd), .second, .unset, .unset] [(.long (0 : Int64)), (.int (3 : Int32)), (.ref r_130), (.ref b125), (.ref b125)])) (fun _ k => XS.lconst X130.here hx rfl (hb hby at_86) k) ?_
      refine own_go (st' := T130.setTop (mkF m 88 #[.val (.long j0), .second, .val (.long j1), .second, .val (.long j2), .second, .val (.long bb), .second, .val (.int sl), .val (.int (3 : Int32)), .val (.long (own_lmax (own_lmax (own_lmax (0 : Int64) j0) j1) j2)), .second, .val (.long bd), .second, .unset, .unset] [(.long (0 : Int64)), (.long (0 : Int64)), (.int (3 : Int32)), (.ref r_130), (.ref b125), (.ref b125)])) (fun _ k => XS.lconst X130.here hx rfl (hb hby at_87) k) ?_
      refine own_go (st' := T130.setTop (mkF m 89 #[.val (.long j0), .second, .val (.long j1), .second, .val (.long j2), .second, .val (.long bb), .second, .val (.int sl), .val (.int (3 : Int32)), .val (.long (own_lmax (own_lmax (own_lmax (0 : Int64) j0) j1) j2)), .second, .val (.long bd), .second, .unset, .unset] [(.long (0 : Int64)), (.long (0 : Int64)), (.long (0 : Int64)), (.int (3 : Int32)), (.ref r_130), (.ref b125), (.ref b125)])) (fun _ k => XS.lconst X130.here hx rfl (hb hby at_88) k) ?_
      obtain ⟨_, _, ⟨T131, LC131, kC131, nC131⟩, -, X131, ⟨Lc131, hQ131, lq131, yq131, zq131⟩, st131⟩ := Jvm.LawKit.callS X130 hx (y := (⟨"com/example/millwright/millwright/jobshop/JobShopSolutionOptimalPinLaw", "longs", "(IJJJ)[J"⟩ : MethodName)) hown (mvT hZ (hw _ (List.mem_of_getElem? (i := 12) rfl))) (mvT hZ (hw _ (List.mem_of_getElem? (i := 13) rfl))) (mvT hZ (hw _ (List.mem_of_getElem? (i := 9) rfl))) (mvT hZ (hw _ (List.mem_of_getElem? (i := 14) rfl))) (by decide) (backOf (W := 3) (rm3_3 l Z a0 hw [] (0 : Int64) (0 : Int64) (0 : Int64) h130 n0 (by omega) ) hZ (hw _ (List.mem_of_getElem? (i := 14) rfl)) (hw _ (List.mem_of_getElem? (i := 9) rfl)) (by decide) (by decide)) (g := (mkF m 89 #[.val (.long j0), .second, .val (.long j1), .second, .val (.long j2), .second, .val (.long bb), .second, .val (.int sl), .val (.int (3 : Int32)), .val (.long (own_lmax (own_lmax (own_lmax (0 : Int64) j0) j1) j2)), .second, .val (.long bd), .second, .unset, .unset] [(.long (0 : Int64)), (.long (0 : Int64)), (.long (0 : Int64)), (.int (3 : Int32)), (.ref r_130), (.ref b125), (.ref b125)])) rfl (by rw [hml]; rfl) (argsL := [(.int (3 : Int32)), (.long (0 : Int64)), (.long (0 : Int64)), (.long (0 : Int64))]) (rest := [(.ref r_130), (.ref b125), (.ref b125)]) (lenOf pd_3 rfl) rfl (by show 2 * 0 + _ ≤ _; exact Nat.le_of_eq rfl) (hb hby at_89) (fun _ _ => ⟨rfl, e130, (by decide : 2 + 1 ≤ _), (by decide : 7 + 3 ≤ _)⟩)
      dsimp only [Pt.U, Pt.locs, Pt.cells, Pt.slots] at X131 lq131 yq131 zq131 st131 hQ131
      subst lq131 yq131 zq131
      obtain ⟨h131, e131⟩ : ∃ z, T131.heap = z := ⟨_, rfl⟩
      rw [e131] at hQ131
      obtain ⟨r_131, kr_131, rfl, Nq131, K131, g131_0, g131_1⟩ := hQ131
      have sz131 : h130.size ≤ h131.size := K131.1
      have N131 := Fr.app N130 Nq131
      have lt131_1 : @LT.lt Nat _ r_131 h131.size := g131_0.lt
      refine own_go (st' := T131.setTop (mkF m 92 #[.val (.long j0), .second, .val (.long j1), .second, .val (.long j2), .second, .val (.long bb), .second, .val (.int sl), .val (.int (3 : Int32)), .val (.long (own_lmax (own_lmax (own_lmax (0 : Int64) j0) j1) j2)), .second, .val (.long bd), .second, .unset, .unset] [(.ref r_131), (.ref r_130), (.ref b125), (.ref b125)])) (fun t k => st131 t k) ?_
      refine own_go (st' := T131.setTop (mkF m 94 #[.val (.long j0), .second, .val (.long j1), .second, .val (.long j2), .second, .val (.long bb), .second, .val (.int sl), .val (.int (3 : Int32)), .val (.long (own_lmax (own_lmax (own_lmax (0 : Int64) j0) j1) j2)), .second, .val (.long bd), .second, .unset, .unset] [(.int (3 : Int32)), (.ref r_131), (.ref r_130), (.ref b125), (.ref b125)])) (fun _ k => XS.iload X131.here hx rfl (hb hby at_92) rfl k) ?_
      refine own_go (st' := T131.setTop (mkF m 95 #[.val (.long j0), .second, .val (.long j1), .second, .val (.long j2), .second, .val (.long bb), .second, .val (.int sl), .val (.int (3 : Int32)), .val (.long (own_lmax (own_lmax (own_lmax (0 : Int64) j0) j1) j2)), .second, .val (.long bd), .second, .unset, .unset] [(.long j0), (.int (3 : Int32)), (.ref r_131), (.ref r_130), (.ref b125), (.ref b125)])) (fun _ k => XS.lloadN X131.here hx rfl (hb hby at_94) rfl k) ?_
      refine own_go (st' := T131.setTop (mkF m 96 #[.val (.long j0), .second, .val (.long j1), .second, .val (.long j2), .second, .val (.long bb), .second, .val (.int sl), .val (.int (3 : Int32)), .val (.long (own_lmax (own_lmax (own_lmax (0 : Int64) j0) j1) j2)), .second, .val (.long bd), .second, .unset, .unset] [(.long j1), (.long j0), (.int (3 : Int32)), (.ref r_131), (.ref r_130), (.ref b125), (.ref b125)])) (fun _ k => XS.lloadN X131.here hx rfl (hb hby at_95) rfl k) ?_
      refine own_go (st' := T131.setTop (mkF m 98 #[.val (.long j0), .second, .val (.long j1), .second, .val (.long j2), .second, .val (.long bb), .second, .val (.int sl), .val (.int (3 : Int32)), .val (.long (own_lmax (own_lmax (own_lmax (0 : Int64) j0) j1) j2)), .second, .val (.long bd), .second, .unset, .unset] [(.long j2), (.long j1), (.long j0), (.int (3 : Int32)), (.ref r_131), (.ref r_130), (.ref b125), (.ref b125)])) (fun _ k => XS.lload X131.here hx rfl (hb hby at_96) rfl k) ?_
      obtain ⟨_, _, ⟨T132, LC132, kC132, nC132⟩, -, X132, ⟨Lc132, hQ132, lq132, yq132, zq132⟩, st132⟩ := Jvm.LawKit.callS X131 hx (y := (⟨"com/example/millwright/millwright/jobshop/JobShopSolutionOptimalPinLaw", "longs", "(IJJJ)[J"⟩ : MethodName)) hown (mvT hZ (hw _ (List.mem_of_getElem? (i := 12) rfl))) (mvT hZ (hw _ (List.mem_of_getElem? (i := 13) rfl))) (mvT hZ (hw _ (List.mem_of_getElem? (i := 9) rfl))) (mvT hZ (hw _ (List.mem_of_getElem? (i := 14) rfl))) (by decide) (backOf (W := 4) (rm3_3 l Z a0 hw [] j0 j1 j2 h131 n0 (by omega) ) hZ (hw _ (List.mem_of_getElem? (i := 14) rfl)) (hw _ (List.mem_of_getElem? (i := 9) rfl)) (by decide) (by decide)) (g := (mkF m 98 #[.val (.long j0), .second, .val (.long j1), .second, .val (.long j2), .second, .val (.long bb), .second, .val (.int sl), .val (.int (3 : Int32)), .val (.long (own_lmax (own_lmax (own_lmax (0 : Int64) j0) j1) j2)), .second, .val (.long bd), .second, .unset, .unset] [(.long j2), (.long j1), (.long j0), (.int (3 : Int32)), (.ref r_131), (.ref r_130), (.ref b125), (.ref b125)])) rfl (by rw [hml]; rfl) (argsL := [(.int (3 : Int32)), (.long j0), (.long j1), (.long j2)]) (rest := [(.ref r_131), (.ref r_130), (.ref b125), (.ref b125)]) (lenOf pd_3 rfl) rfl (by show 2 * 0 + _ ≤ _; exact Nat.le_of_eq rfl) (hb hby at_98) (fun _ _ => ⟨rfl, e131, (by decide : 3 + 1 ≤ _), (by decide : 10 + 3 ≤ _)⟩)
      dsimp only [Pt.U, Pt.locs, Pt.cells, Pt.slots] at X132 lq132 yq132 zq132 st132 hQ132
      subst lq132 yq132 zq132
      obtain ⟨h132, e132⟩ : ∃ z, T132.heap = z := ⟨_, rfl⟩
      rw [e132] at hQ132
      obtain ⟨r_132, kr_132, rfl, Nq132, K132, g132_0, g132_1⟩ := hQ132
      have sz132 : h131.size ≤ h132.size := K132.1
      have N132 := Fr.app N131 Nq132
      have lt132_1 : @LT.lt Nat _ r_132 h132.size := g132_0.lt
      refine own_go (st' := T132.setTop (mkF m 101 #[.val (.long j0), .second, .val (.long j1), .second, .val (.long j2), .second, .val (.long bb), .second, .val (.int sl), .val (.int (3 : Int32)), .val (.long (own_lmax (own_lmax (own_lmax (0 : Int64) j0) j1) j2)), .second, .val (.long bd), .second, .unset, .unset] [(.ref r_132), (.ref r_131), (.ref r_130), (.ref b125), (.ref b125)])) (fun t k => st132 t k) ?_
      have c134 : Exa Z h132 b125 "com/example/millwright/millwright/jobshop/Plan" := (((A125.keep K130).keep K131).keep K132)
      have c135 : Fld Z h132 b125 "com/example/millwright/millwright/jobshop/Plan" "machine" "[I" .null := (((f126.keep K130 nin0).keep K131 nin0).keep K132 nin0)
      have c136 : Fld Z h132 b125 "com/example/millwright/millwright/jobshop/Plan" "start" "[J" .null := (((f127.keep K130 nin0).keep K131 nin0).keep K132 nin0)
      have c137 : Fld Z h132 b125 "com/example/millwright/millwright/jobshop/Plan" "end" "[J" .null := (((f128.keep K130 nin0).keep K131 nin0).keep K132 nin0)
      have c138 : Fld Z h132 b125 "com/example/millwright/millwright/jobshop/Plan" "makespan" "J" (.long (0 : Int64)) := (((f129.keep K130 nin0).keep K131 nin0).keep K132 nin0)
      obtain ⟨_, _, ⟨T133, LC133, kC133, nC133⟩, -, X133, ⟨Lc133, hQ133, lq133, yq133, zq133⟩, st133⟩ := X132.specialBack hx (y := (⟨"com/example/millwright/millwright/jobshop/Plan", "<init>", "([I[J[J)V"⟩ : MethodName)) rfl hown (mvT hZ (hw _ (List.mem_of_getElem? (i := 16) rfl))) (mvT hZ (hw _ (List.mem_of_getElem? (i := 17) rfl))) (mvT hZ (hw _ (List.mem_of_getElem? (i := 18) rfl))) (by decide) (backOf (W := 1) (rm4_3 l Z a0 hw [] b125 r_130 r_131 r_132 kr_132 (0 : Int64) j0 j1 j2 h132 n0 (by omega) c134 c135 c136 c137 c138 g132_0 (by omega) (by first | assumption | exact Ne.symm (by assumption) | (apply Nat.ne_of_lt; omega) | (apply Nat.ne_of_gt; omega))) hZ (hw _ (List.mem_of_getElem? (i := 18) rfl)) (hw _ (List.mem_of_getElem? (i := 6) rfl)) (by decide) (by decide)) (g := (mkF m 101 #[.val (.long j0), .second, .val (.long j1), .second, .val (.long j2), .second, .val (.long bb), .second, .val (.int sl), .val (.int (3 : Int32)), .val (.long (own_lmax (own_lmax (own_lmax (0 : Int64) j0) j1) j2)), .second, .val (.long bd), .second, .unset, .unset] [(.ref r_132), (.ref r_131), (.ref r_130), (.ref b125), (.ref b125)])) rfl (by rw [hml]; rfl) (Steps.refl _) (a := b125) (argsL := [(.ref r_130), (.ref r_131), (.ref r_132)]) (rest := [(.ref b125)]) (lenOf pd_4 rfl) rfl (by show 2 * 0 + _ ≤ _; exact Nat.le_of_eq rfl) (hb hby at_101) (fun _ _ => ⟨rfl, e132, (by decide : 4 + 0 ≤ _), (by decide : 13 + 0 ≤ _)⟩)
      dsimp only [Pt.U, Pt.locs, Pt.cells, Pt.slots] at X133 lq133 yq133 zq133 st133 hQ133
      subst lq133 yq133 zq133
      obtain ⟨h133, e133⟩ : ∃ z, T133.heap = z := ⟨_, rfl⟩
      rw [e133] at hQ133
      obtain ⟨rfl, Nq133, K133, g133_0, g133_1⟩ := hQ133
      have sz133 : h132.size ≤ h133.size := K133.1
      have N133 := Fr.app N132 Nq133
      have lt133_1 : @LT.lt Nat _ b125 h133.size := g133_0.lt
      refine own_go (st' := T133.setTop (mkF m 104 #[.val (.long j0), .second, .val (.long j1), .second, .val (.long j2), .second, .val (.long bb), .second, .val (.int sl), .val (.int (3 : Int32)), .val (.long (own_lmax (own_lmax (own_lmax (0 : Int64) j0) j1) j2)), .second, .val (.long bd), .second, .unset, .unset] [(.ref b125)])) (fun _ k => st133.trans k) ?_
      refine own_go (st' := T133.setTop (mkF m 106 #[.val (.long j0), .second, .val (.long j1), .second, .val (.long j2), .second, .val (.long bb), .second, .val (.int sl), .val (.int (3 : Int32)), .val (.long (own_lmax (own_lmax (own_lmax (0 : Int64) j0) j1) j2)), .second, .val (.long bd), .second, .val (.ref b125), .unset] [])) (fun _ k => XS.astore X133.here hx rfl (hb hby at_104) rfl rfl (l' := #[.val (.long j0), .second, .val (.long j1), .second, .val (.long j2), .second, .val (.long bb), .second, .val (.int sl), .val (.int (3 : Int32)), .val (.long (own_lmax (own_lmax (own_lmax (0 : Int64) j0) j1) j2)), .second, .val (.long bd), .second, .val (.ref b125), .unset]) rfl k) ?_
      obtain ⟨T139, h139, X139, e139, E139, A139, D139, -, st139⟩ := newO X133 hx hZ hown (hw _ (List.mem_of_getElem? (i := 31) rfl)) (hw _ (List.mem_of_getElem? (i := 32) rfl)) (hw _ (List.mem_of_getElem? (i := 33) rfl)) e133 (g := (mkF m 106 #[.val (.long j0), .second, .val (.long j1), .second, .val (.long j2), .second, .val (.long bb), .second, .val (.int sl), .val (.int (3 : Int32)), .val (.long (own_lmax (own_lmax (own_lmax (0 : Int64) j0) j1) j2)), .second, .val (.long bd), .second, .val (.ref b125), .unset] [])) rfl (hb hby at_106) (by decide) (by decide)
      obtain ⟨b139, g139⟩ : ∃ z, z = h133.size := ⟨_, rfl⟩
      rw [← g139] at A139 D139 st139
      have sz139 : h133.size ≤ h139.size := E139.1
      have lt139 : @LT.lt Nat _ b139 h139.size := A139.lt
      have f140 : Fld Z h139 b139 "com/example/millwright/millwright/jobshop/JobShopSolution" "plan" "Lcom/example/millwright/millwright/jobshop/Plan;" .null := D139 (Or.inr (hw _ (List.mem_of_getElem? (i := 44) rfl))) (ty := (.object "com/example/millwright/millwright/jobshop/Plan")) (by decide)
      have f141 : Fld Z h139 b139 "com/example/millwright/millwright/jobshop/JobShopSolution" "bound" "J" (.long (0 : Int64)) := D139 (Or.inr (hw _ (List.mem_of_getElem? (i := 46) rfl))) (ty := .long) (by decide)
      refine own_go (st' := T139.setTop (mkF m 109 #[.val (.long j0), .second, .val (.long j1), .second, .val (.long j2), .second, .val (.long bb), .second, .val (.int sl), .val (.int (3 : Int32)), .val (.long (own_lmax (own_lmax (own_lmax (0 : Int64) j0) j1) j2)), .second, .val (.long bd), .second, .val (.ref b125), .unset] [(.ref b139)])) (st139) ?_
      refine own_go (st' := T139.setTop (mkF m 110 #[.val (.long j0), .second, .val (.long j1), .second, .val (.long j2), .second, .val (.long bb), .second, .val (.int sl), .val (.int (3 : Int32)), .val (.long (own_lmax (own_lmax (own_lmax (0 : Int64) j0) j1) j2)), .second, .val (.long bd), .second, .val (.ref b125), .unset] [(.ref b139), (.ref b139)])) (fun _ k => XS.dup X139.here hx rfl (hb hby at_109) rfl rfl k) ?_
      refine own_go (st' := T139.setTop (mkF m 112 #[.val (.long j0), .second, .val (.long j1), .second, .val (.long j2), .second, .val (.long bb), .second, .val (.int sl), .val (.int (3 : Int32)), .val (.long (own_lmax (own_lmax (own_lmax (0 : Int64) j0) j1) j2)), .second, .val (.long bd), .second, .val (.ref b125), .unset] [(.ref b125), (.ref b139), (.ref b139)])) (fun _ k => XS.aload X139.here hx rfl (hb hby at_110) rfl rfl k) ?_
      refine own_go (st' := T139.setTop (mkF m 114 #[.val (.long j0), .second, .val (.long j1), .second, .val (.long j2), .second, .val (.long bb), .second, .val (.int sl), .val (.int (3 : Int32)), .val (.long (own_lmax (own_lmax (own_lmax (0 : Int64) j0) j1) j2)), .second, .val (.long bd), .second, .val (.ref b125), .unset] [(.long bd), (.ref b125), (.ref b139), (.ref b139)])) (fun _ k => XS.lload X139.here hx rfl (hb hby at_112) rfl k) ?_
      have c143 : Exa Z h139 b125 "com/example/millwright/millwright/jobshop/Plan" := (g133_0.ext E139)
      have c144 : Fld Z h139 b125 "com/example/millwright/millwright/jobshop/Plan" "makespan" "J" (.long (own_lmax (own_lmax (own_lmax (0 : Int64) j0) j1) j2)) := (g133_1.ext E139)
      obtain ⟨_, _, ⟨T142, LC142, kC142, nC142⟩, -, X142, ⟨Lc142, hQ142, lq142, yq142, zq142⟩, st142⟩ := X139.specialBack hx (y := (⟨"com/example/millwright/millwright/jobshop/JobShopSolution", "<init>", "(Lcom/example/millwright/millwright/jobshop/Plan;J)V"⟩ : MethodName)) rfl hown (mvT hZ (hw _ (List.mem_of_getElem? (i := 34) rfl))) (mvT hZ (hw _ (List.mem_of_getElem? (i := 35) rfl))) (mvT hZ (hw _ (List.mem_of_getElem? (i := 36) rfl))) (by decide) (backOf (W := 1) (rm6 l Z a0 hw [] b139 b125 bd (own_lmax (own_lmax (own_lmax (0 : Int64) j0) j1) j2) (0 : Int64) h139 n0 (by omega) A139 f140 f141 c143 c144 (by omega) (by first | assumption | exact Ne.symm (by assumption) | (apply Nat.ne_of_lt; omega) | (apply Nat.ne_of_gt; omega)) hbd) hZ (hw _ (List.mem_of_getElem? (i := 36) rfl)) (hw _ (List.mem_of_getElem? (i := 33) rfl)) (by decide) (by decide)) (g := (mkF m 114 #[.val (.long j0), .second, .val (.long j1), .second, .val (.long j2), .second, .val (.long bb), .second, .val (.int sl), .val (.int (3 : Int32)), .val (.long (own_lmax (own_lmax (own_lmax (0 : Int64) j0) j1) j2)), .second, .val (.long bd), .second, .val (.ref b125), .unset] [(.long bd), (.ref b125), (.ref b139), (.ref b139)])) rfl (by rw [hml]; rfl) (Steps.refl _) (a := b139) (argsL := [(.ref b125), (.long bd)]) (rest := [(.ref b139)]) (lenOf pd_5 rfl) rfl (by show 2 * 0 + _ ≤ _; exact Nat.le_of_eq rfl) (hb hby at_114) (fun _ _ => ⟨rfl, e139, (by decide : 5 + 0 ≤ _), (by decide : 15 + 0 ≤ _)⟩)
      dsimp only [Pt.U, Pt.locs, Pt.cells, Pt.slots] at X142 lq142 yq142 zq142 st142 hQ142
      subst lq142 yq142 zq142
      obtain ⟨h142, e142⟩ : ∃ z, T142.heap = z := ⟨_, rfl⟩
      rw [e142] at hQ142
      obtain ⟨rfl, Nq142, K142, g142_0, g142_1, g142_2⟩ := hQ142
      have sz142 : h139.size ≤ h142.size := K142.1
      have N142 := Fr.app N133 Nq142
      have lt142_1 : @LT.lt Nat _ b139 h142.size := g142_0.lt
      refine own_go (st' := T142.setTop (mkF m 117 #[.val (.long j0), .second, .val (.long j1), .second, .val (.long j2), .second, .val (.long bb), .second, .val (.int sl), .val (.int (3 : Int32)), .val (.long (own_lmax (own_lmax (own_lmax (0 : Int64) j0) j1) j2)), .second, .val (.long bd), .second, .val (.ref b125), .unset] [(.ref b139)])) (fun _ k => st142.trans k) ?_
      refine own_go (st' := T142.setTop (mkF m 119 #[.val (.long j0), .second, .val (.long j1), .second, .val (.long j2), .second, .val (.long bb), .second, .val (.int sl), .val (.int (3 : Int32)), .val (.long (own_lmax (own_lmax (own_lmax (0 : Int64) j0) j1) j2)), .second, .val (.long bd), .second, .val (.ref b125), .val (.ref b139)] [])) (fun _ k => XS.astore X142.here hx rfl (hb hby at_117) rfl rfl (l' := #[.val (.long j0), .second, .val (.long j1), .second, .val (.long j2), .second, .val (.long bb), .second, .val (.int sl), .val (.int (3 : Int32)), .val (.long (own_lmax (own_lmax (own_lmax (0 : Int64) j0) j1) j2)), .second, .val (.long bd), .second, .val (.ref b125), .val (.ref b139)]) rfl k) ?_
      refine own_go (st' := T142.setTop (mkF m 121 #[.val (.long j0), .second, .val (.long j1), .second, .val (.long j2), .second, .val (.long bb), .second, .val (.int sl), .val (.int (3 : Int32)), .val (.long (own_lmax (own_lmax (own_lmax (0 : Int64) j0) j1) j2)), .second, .val (.long bd), .second, .val (.ref b125), .val (.ref b139)] [(.ref b139)])) (fun _ k => XS.aload X142.here hx rfl (hb hby at_119) rfl rfl k) ?_
      have c146 : Exa Z h142 b125 "com/example/millwright/millwright/jobshop/Plan" := (c143.keep K142)
      have c147 : Fld Z h142 b125 "com/example/millwright/millwright/jobshop/Plan" "makespan" "J" (.long (own_lmax (own_lmax (own_lmax (0 : Int64) j0) j1) j2)) := (c144.keep K142 (ninS (by first | assumption | exact Ne.symm (by assumption) | (apply Nat.ne_of_lt; omega) | (apply Nat.ne_of_gt; omega)) nin0))
      obtain ⟨cq145, kq145, q145a, q145b, q145c⟩ := isOf hZ e142 g142_0
      obtain ⟨_, _, ⟨T145, LC145, kC145, nC145⟩, -, X145, ⟨Lc145, hQ145, lq145, yq145, zq145⟩, st145⟩ := X142.virtualBack hx (y := (⟨"com/example/millwright/millwright/jobshop/JobShopSolution", "optimal", "()Z"⟩ : MethodName)) (z := (⟨"com/example/millwright/millwright/jobshop/JobShopSolution", "optimal", "()Z"⟩ : MethodName)) hown (mvT hZ (hw _ (List.mem_of_getElem? (i := 47) rfl))) (mvT hZ (hw _ (List.mem_of_getElem? (i := 48) rfl))) (notFace_of_selects (args := #[]) (mvT hZ (hw _ (List.mem_of_getElem? (i := 50) rfl)))) (mvT hZ (hw _ (List.mem_of_getElem? (i := 50) rfl))) (mvT hZ (hw _ (List.mem_of_getElem? (i := 49) rfl))) (by decide) (backOf (W := 0) (rm8 l Z a0 hw [] b139 b125 bd (own_lmax (own_lmax (own_lmax (0 : Int64) j0) j1) j2) h142 n0 (by omega) g142_1 g142_2 c146 c147) hZ (hw _ (List.mem_of_getElem? (i := 51) rfl)) (hw _ (List.mem_of_getElem? (i := 33) rfl)) (by decide) (by decide)) q145a q145c (g := (mkF m 121 #[.val (.long j0), .second, .val (.long j1), .second, .val (.long j2), .second, .val (.long bb), .second, .val (.int sl), .val (.int (3 : Int32)), .val (.long (own_lmax (own_lmax (own_lmax (0 : Int64) j0) j1) j2)), .second, .val (.long bd), .second, .val (.ref b125), .val (.ref b139)] [(.ref b139)])) rfl (by rw [hml]; rfl) (Steps.refl _) (argsL := []) (rest := []) (lenOf pd_6 rfl) rfl (by show 2 * 0 + _ ≤ _; exact Nat.le_of_eq rfl) (hb hby at_121) (fun _ _ => ⟨rfl, e142, (by decide : 5 + 0 ≤ _), (by decide : 15 + 0 ≤ _)⟩)
      dsimp only [Pt.U, Pt.locs, Pt.cells, Pt.slots] at X145 lq145 yq145 zq145 st145 hQ145
      subst lq145 yq145 zq145
      obtain ⟨rfl, Nq145, eq145⟩ := hQ145
      have N145 := Fr.app N142 Nq145
      refine own_go (st' := T145.setTop (mkF m 124 #[.val (.long j0), .second, .val (.long j1), .second, .val (.long j2), .second, .val (.long bb), .second, .val (.int sl), .val (.int (3 : Int32)), .val (.long (own_lmax (own_lmax (own_lmax (0 : Int64) j0) j1) j2)), .second, .val (.long bd), .second, .val (.ref b125), .val (.ref b139)] [(.int (own_opt bd (own_lmax (own_lmax (own_lmax (0 : Int64) j0) j1) j2)))])) (fun _ k => st145.trans k) ?_
      refine own_go (st' := T145.setTop (mkF m 126 #[.val (.long j0), .second, .val (.long j1), .second, .val (.long j2), .second, .val (.long bb), .second, .val (.int sl), .val (.int (3 : Int32)), .val (.long (own_lmax (own_lmax (own_lmax (0 : Int64) j0) j1) j2)), .second, .val (.long bd), .second, .val (.ref b125), .val (.ref b139)] [(.long bd), (.int (own_opt bd (own_lmax (own_lmax (own_lmax (0 : Int64) j0) j1) j2)))])) (fun _ k => XS.lload X145.here hx rfl (hb hby at_124) rfl k) ?_
      refine own_go (st' := T145.setTop (mkF m 128 #[.val (.long j0), .second, .val (.long j1), .second, .val (.long j2), .second, .val (.long bb), .second, .val (.int sl), .val (.int (3 : Int32)), .val (.long (own_lmax (own_lmax (own_lmax (0 : Int64) j0) j1) j2)), .second, .val (.long bd), .second, .val (.ref b125), .val (.ref b139)] [(.long (own_lmax (own_lmax (own_lmax (0 : Int64) j0) j1) j2)), (.long bd), (.int (own_opt bd (own_lmax (own_lmax (own_lmax (0 : Int64) j0) j1) j2)))])) (fun _ k => XS.lload X145.here hx rfl (hb hby at_126) rfl k) ?_
      refine own_go (st' := T145.setTop (mkF m 129 #[.val (.long j0), .second, .val (.long j1), .second, .val (.long j2), .second, .val (.long bb), .second, .val (.int sl), .val (.int (3 : Int32)), .val (.long (own_lmax (own_lmax (own_lmax (0 : Int64) j0) j1) j2)), .second, .val (.long bd), .second, .val (.ref b125), .val (.ref b139)] [(.int (lcmpW bd (own_lmax (own_lmax (own_lmax (0 : Int64) j0) j1) j2))), (.int (own_opt bd (own_lmax (own_lmax (own_lmax (0 : Int64) j0) j1) j2)))])) (fun _ k => XS.lcmp X145.here hx rfl (hb hby at_128) rfl k) ?_
      by_cases hc148 : bd = (own_lmax (own_lmax (own_lmax (0 : Int64) j0) j1) j2)
      · --
        refine own_go (st' := T145.setTop (mkF m 132 #[.val (.long j0), .second, .val (.long j1), .second, .val (.long j2), .second, .val (.long bb), .second, .val (.int sl), .val (.int (3 : Int32)), .val (.long (own_lmax (own_lmax (own_lmax (0 : Int64) j0) j1) j2)), .second, .val (.long bd), .second, .val (.ref b125), .val (.ref b139)] [(.int (own_opt bd (own_lmax (own_lmax (own_lmax (0 : Int64) j0) j1) j2)))])) (fun _ k => XS.ifNo X145.here hx rfl (hb hby at_129) rfl ((if0 _ _).trans (teq ((lw_eq bd (own_lmax (own_lmax (own_lmax (0 : Int64) j0) j1) j2)).mpr hc148)).2) k) ?_
        refine own_go (st' := T145.setTop (mkF m 133 #[.val (.long j0), .second, .val (.long j1), .second, .val (.long j2), .second, .val (.long bb), .second, .val (.int sl), .val (.int (3 : Int32)), .val (.long (own_lmax (own_lmax (own_lmax (0 : Int64) j0) j1) j2)), .second, .val (.long bd), .second, .val (.ref b125), .val (.ref b139)] [(.int (1 : Int32)), (.int (own_opt bd (own_lmax (own_lmax (own_lmax (0 : Int64) j0) j1) j2)))])) (fun _ k => XS.iconst X145.here hx rfl (hb hby at_132) k) ?_
        refine own_go (st' := T145.setTop (mkF m 137 #[.val (.long j0), .second, .val (.long j1), .second, .val (.long j2), .second, .val (.long bb), .second, .val (.int sl), .val (.int (3 : Int32)), .val (.long (own_lmax (own_lmax (own_lmax (0 : Int64) j0) j1) j2)), .second, .val (.long bd), .second, .val (.ref b125), .val (.ref b139)] [(.int (1 : Int32)), (.int (own_opt bd (own_lmax (own_lmax (own_lmax (0 : Int64) j0) j1) j2)))])) (fun _ k => XS.goto X145.here hx rfl (pc0 := 133) (pc' := 137) rfl (hb hby at_133) (by decide) (by decide) k) ?_
        have hc149 : (own_opt bd (own_lmax (own_lmax (own_lmax (0 : Int64) j0) j1) j2)) = (1 : Int32) := if_pos hc148
        refine own_go (st' := T145.setTop (mkF m 140 #[.val (.long j0), .second, .val (.long j1), .second, .val (.long j2), .second, .val (.long bb), .second, .val (.int sl), .val (.int (3 : Int32)), .val (.long (own_lmax (own_lmax (own_lmax (0 : Int64) j0) j1) j2)), .second, .val (.long bd), .second, .val (.ref b125), .val (.ref b139)] [])) (fun _ k => XS.icmpNo X145.here hx rfl (hb hby at_137) rfl (teq hc149).2 k) ?_
        refine own_go (st' := T145.setTop (mkF m 142 #[.val (.long j0), .second, .val (.long j1), .second, .val (.long j2), .second, .val (.long bb), .second, .val (.int sl), .val (.int (3 : Int32)), .val (.long (own_lmax (own_lmax (own_lmax (0 : Int64) j0) j1) j2)), .second, .val (.long bd), .second, .val (.ref b125), .val (.ref b139)] [(.ref b139)])) (fun _ k => XS.aload X145.here hx rfl (hb hby at_140) rfl rfl k) ?_
        obtain ⟨cq150, kq150, q150a, q150b, q150c⟩ := isOf hZ eq145 g142_0
        obtain ⟨_, _, ⟨T150, LC150, kC150, nC150⟩, -, X150, ⟨Lc150, hQ150, lq150, yq150, zq150⟩, st150⟩ := X145.virtualBack hx (y := (⟨"com/example/millwright/millwright/jobshop/JobShopSolution", "bound", "()J"⟩ : MethodName)) (z := (⟨"com/example/millwright/millwright/jobshop/JobShopSolution", "bound", "()J"⟩ : MethodName)) hown (mvT hZ (hw _ (List.mem_of_getElem? (i := 52) rfl))) (mvT hZ (hw _ (List.mem_of_getElem? (i := 53) rfl))) (notFace_of_selects (args := #[]) (mvT hZ (hw _ (List.mem_of_getElem? (i := 55) rfl)))) (mvT hZ (hw _ (List.mem_of_getElem? (i := 55) rfl))) (mvT hZ (hw _ (List.mem_of_getElem? (i := 54) rfl))) (by decide) (backOf (W := 0) (rm9 l Z a0 hw [] b139 bd h142 n0 (by omega) g142_2) hZ (hw _ (List.mem_of_getElem? (i := 56) rfl)) (hw _ (List.mem_of_getElem? (i := 33) rfl)) (by decide) (by decide)) q150a q150c (g := (mkF m 142 #[.val (.long j0), .second, .val (.long j1), .second, .val (.long j2), .second, .val (.long bb), .second, .val (.int sl), .val (.int (3 : Int32)), .val (.long (own_lmax (own_lmax (own_lmax (0 : Int64) j0) j1) j2)), .second, .val (.long bd), .second, .val (.ref b125), .val (.ref b139)] [(.ref b139)])) rfl (by rw [hml]; rfl) (Steps.refl _) (argsL := []) (rest := []) (lenOf pd_1 rfl) rfl (by show 2 * 0 + _ ≤ _; exact Nat.le_of_eq rfl) (hb hby at_142) (fun _ _ => ⟨rfl, eq145, (by decide : 5 + 0 ≤ _), (by decide : 15 + 0 ≤ _)⟩)
        dsimp only [Pt.U, Pt.locs, Pt.cells, Pt.slots] at X150 lq150 yq150 zq150 st150 hQ150
        subst lq150 yq150 zq150
        obtain ⟨rfl, Nq150, eq150⟩ := hQ150
        have N150 := Fr.app N145 Nq150
        refine own_go (st' := T150.setTop (mkF m 145 #[.val (.long j0), .second, .val (.long j1), .second, .val (.long j2), .second, .val (.long bb), .second, .val (.int sl), .val (.int (3 : Int32)), .val (.long (own_lmax (own_lmax (own_lmax (0 : Int64) j0) j1) j2)), .second, .val (.long bd), .second, .val (.ref b125), .val (.ref b139)] [(.long bd)])) (fun _ k => st150.trans k) ?_
        refine own_go (st' := T150.setTop (mkF m 147 #[.val (.long j0), .second, .val (.long j1), .second, .val (.long j2), .second, .val (.long bb), .second, .val (.int sl), .val (.int (3 : Int32)), .val (.long (own_lmax (own_lmax (own_lmax (0 : Int64) j0) j1) j2)), .second, .val (.long bd), .second, .val (.ref b125), .val (.ref b139)] [(.long bd), (.long bd)])) (fun _ k => XS.lload X150.here hx rfl (hb hby at_145) rfl k) ?_
        refine own_go (st' := T150.setTop (mkF m 148 #[.val (.long j0), .second, .val (.long j1), .second, .val (.long j2), .second, .val (.long bb), .second, .val (.int sl), .val (.int (3 : Int32)), .val (.long (own_lmax (own_lmax (own_lmax (0 : Int64) j0) j1) j2)), .second, .val (.long bd), .second, .val (.ref b125), .val (.ref b139)] [(.int (lcmpW bd bd))])) (fun _ k => XS.lcmp X150.here hx rfl (hb hby at_147) rfl k) ?_
        have hc151 : bd = bd := rfl
        refine own_go (st' := T150.setTop (mkF m 151 #[.val (.long j0), .second, .val (.long j1), .second, .val (.long j2), .second, .val (.long bb), .second, .val (.int sl), .val (.int (3 : Int32)), .val (.long (own_lmax (own_lmax (own_lmax (0 : Int64) j0) j1) j2)), .second, .val (.long bd), .second, .val (.ref b125), .val (.ref b139)] [])) (fun _ k => XS.ifNo X150.here hx rfl (hb hby at_148) rfl ((if0 _ _).trans (teq ((lw_eq bd bd).mpr hc151)).2) k) ?_
        refine own_go (st' := T150.setTop (mkF m 152 #[.val (.long j0), .second, .val (.long j1), .second, .val (.long j2), .second, .val (.long bb), .second, .val (.int sl), .val (.int (3 : Int32)), .val (.long (own_lmax (own_lmax (own_lmax (0 : Int64) j0) j1) j2)), .second, .val (.long bd), .second, .val (.ref b125), .val (.ref b139)] [(.int (1 : Int32))])) (fun _ k => XS.iconst X150.here hx rfl (hb hby at_151) k) ?_
        refine own_go (st' := T150.setTop (mkF m 156 #[.val (.long j0), .second, .val (.long j1), .second, .val (.long j2), .second, .val (.long bb), .second, .val (.int sl), .val (.int (3 : Int32)), .val (.long (own_lmax (own_lmax (own_lmax (0 : Int64) j0) j1) j2)), .second, .val (.long bd), .second, .val (.ref b125), .val (.ref b139)] [(.int (1 : Int32))])) (fun _ k => XS.goto X150.here hx rfl (pc0 := 152) (pc' := 156) rfl (hb hby at_152) (by decide) (by decide) k) ?_
        obtain ⟨fs, hr, hrun, hended, hW, hsame⟩ := X150.leave (v := some (.int (1 : Int32))) (fun h => by rw [Bd.returns] at h; cases h)
        refine ⟨_, _, ?_, hP _ _ hrun hended ⟨_, _, rfl, ?_, ⟨_, rfl⟩, hW, hsame.mono (by decide) (by decide)⟩⟩
        · exact retN X150 hx (t := .boolean) Bd.returns (by simp) (hb hby at_156) hr
        · show Qrm0 Z j0 j1 j2 bb sl h0 n0 _ T150.heap _
          rw [eq150]
          exact ⟨rfl, N150, trivial⟩
      · --
        refine own_go (st' := T145.setTop (mkF m 136 #[.val (.long j0), .second, .val (.long j1), .second, .val (.long j2), .second, .val (.long bb), .second, .val (.int sl), .val (.int (3 : Int32)), .val (.long (own_lmax (own_lmax (own_lmax (0 : Int64) j0) j1) j2)), .second, .val (.long bd), .second, .val (.ref b125), .val (.ref b139)] [(.int (own_opt bd (own_lmax (own_lmax (own_lmax (0 : Int64) j0) j1) j2)))])) (fun _ k => XS.ifYes X145.here hx rfl (pc0 := 129) (pc' := 136) rfl (hb hby at_129) rfl ((if0 _ _).trans (feq (fun q_ => hc148 ((lw_eq bd (own_lmax (own_lmax (own_lmax (0 : Int64) j0) j1) j2)).mp q_))).2) (by decide) (by decide) k) ?_
        refine own_go (st' := T145.setTop (mkF m 137 #[.val (.long j0), .second, .val (.long j1), .second, .val (.long j2), .second, .val (.long bb), .second, .val (.int sl), .val (.int (3 : Int32)), .val (.long (own_lmax (own_lmax (own_lmax (0 : Int64) j0) j1) j2)), .second, .val (.long bd), .second, .val (.ref b125), .val (.ref b139)] [(.int (0 : Int32)), (.int (own_opt bd (own_lmax (own_lmax (own_lmax (0 : Int64) j0) j1) j2)))])) (fun _ k => XS.iconst X145.here hx rfl (hb hby at_136) k) ?_
        have hc153 : (own_opt bd (own_lmax (own_lmax (own_lmax (0 : Int64) j0) j1) j2)) = (0 : Int32) := if_neg hc148
        refine own_go (st' := T145.setTop (mkF m 140 #[.val (.long j0), .second, .val (.long j1), .second, .val (.long j2), .second, .val (.long bb), .second, .val (.int sl), .val (.int (3 : Int32)), .val (.long (own_lmax (own_lmax (own_lmax (0 : Int64) j0) j1) j2)), .second, .val (.long bd), .second, .val (.ref b125), .val (.ref b139)] [])) (fun _ k => XS.icmpNo X145.here hx rfl (hb hby at_137) rfl (teq hc153).2 k) ?_
        refine own_go (st' := T145.setTop (mkF m 142 #[.val (.long j0), .second, .val (.long j1), .second, .val (.long j2), .second, .val (.long bb), .second, .val (.int sl), .val (.int (3 : Int32)), .val (.long (own_lmax (own_lmax (own_lmax (0 : Int64) j0) j1) j2)), .second, .val (.long bd), .second, .val (.ref b125), .val (.ref b139)] [(.ref b139)])) (fun _ k => XS.aload X145.here hx rfl (hb hby at_140) rfl rfl k) ?_
        obtain ⟨cq154, kq154, q154a, q154b, q154c⟩ := isOf hZ eq145 g142_0
        obtain ⟨_, _, ⟨T154, LC154, kC154, nC154⟩, -, X154, ⟨Lc154, hQ154, lq154, yq154, zq154⟩, st154⟩ := X145.virtualBack hx (y := (⟨"com/example/millwright/millwright/jobshop/JobShopSolution", "bound", "()J"⟩ : MethodName)) (z := (⟨"com/example/millwright/millwright/jobshop/JobShopSolution", "bound", "()J"⟩ : MethodName)) hown (mvT hZ (hw _ (List.mem_of_getElem? (i := 52) rfl))) (mvT hZ (hw _ (List.mem_of_getElem? (i := 53) rfl))) (notFace_of_selects (args := #[]) (mvT hZ (hw _ (List.mem_of_getElem? (i := 55) rfl)))) (mvT hZ (hw _ (List.mem_of_getElem? (i := 55) rfl))) (mvT hZ (hw _ (List.mem_of_getElem? (i := 54) rfl))) (by decide) (backOf (W := 0) (rm9 l Z a0 hw [] b139 bd h142 n0 (by omega) g142_2) hZ (hw _ (List.mem_of_getElem? (i := 56) rfl)) (hw _ (List.mem_of_getElem? (i := 33) rfl)) (by decide) (by decide)) q154a q154c (g := (mkF m 142 #[.val (.long j0), .second, .val (.long j1), .second, .val (.long j2), .second, .val (.long bb), .second, .val (.int sl), .val (.int (3 : Int32)), .val (.long (own_lmax (own_lmax (own_lmax (0 : Int64) j0) j1) j2)), .second, .val (.long bd), .second, .val (.ref b125), .val (.ref b139)] [(.ref b139)])) rfl (by rw [hml]; rfl) (Steps.refl _) (argsL := []) (rest := []) (lenOf pd_1 rfl) rfl (by show 2 * 0 + _ ≤ _; exact Nat.le_of_eq rfl) (hb hby at_142) (fun _ _ => ⟨rfl, eq145, (by decide : 5 + 0 ≤ _), (by decide : 15 + 0 ≤ _)⟩)
        dsimp only [Pt.U, Pt.locs, Pt.cells, Pt.slots] at X154 lq154 yq154 zq154 st154 hQ154
        subst lq154 yq154 zq154
        obtain ⟨rfl, Nq154, eq154⟩ := hQ154
        have N154 := Fr.app N145 Nq154
        refine own_go (st' := T154.setTop (mkF m 145 #[.val (.long j0), .second, .val (.long j1), .second, .val (.long j2), .second, .val (.long bb), .second, .val (.int sl), .val (.int (3 : Int32)), .val (.long (own_lmax (own_lmax (own_lmax (0 : Int64) j0) j1) j2)), .second, .val (.long bd), .second, .val (.ref b125), .val (.ref b139)] [(.long bd)])) (fun _ k => st154.trans k) ?_
        refine own_go (st' := T154.setTop (mkF m 147 #[.val (.long j0), .second, .val (.long j1), .second, .val (.long j2), .second, .val (.long bb), .second, .val (.int sl), .val (.int (3 : Int32)), .val (.long (own_lmax (own_lmax (own_lmax (0 : Int64) j0) j1) j2)), .second, .val (.long bd), .second, .val (.ref b125), .val (.ref b139)] [(.long bd), (.long bd)])) (fun _ k => XS.lload X154.here hx rfl (hb hby at_145) rfl k) ?_
        refine own_go (st' := T154.setTop (mkF m 148 #[.val (.long j0), .second, .val (.long j1), .second, .val (.long j2), .second, .val (.long bb), .second, .val (.int sl), .val (.int (3 : Int32)), .val (.long (own_lmax (own_lmax (own_lmax (0 : Int64) j0) j1) j2)), .second, .val (.long bd), .second, .val (.ref b125), .val (.ref b139)] [(.int (lcmpW bd bd))])) (fun _ k => XS.lcmp X154.here hx rfl (hb hby at_147) rfl k) ?_
        have hc155 : bd = bd := rfl
        refine own_go (st' := T154.setTop (mkF m 151 #[.val (.long j0), .second, .val (.long j1), .second, .val (.long j2), .second, .val (.long bb), .second, .val (.int sl), .val (.int (3 : Int32)), .val (.long (own_lmax (own_lmax (own_lmax (0 : Int64) j0) j1) j2)), .second, .val (.long bd), .second, .val (.ref b125), .val (.ref b139)] [])) (fun _ k => XS.ifNo X154.here hx rfl (hb hby at_148) rfl ((if0 _ _).trans (teq ((lw_eq bd bd).mpr hc155)).2) k) ?_
        refine own_go (st' := T154.setTop (mkF m 152 #[.val (.long j0), .second, .val (.long j1), .second, .val (.long j2), .second, .val (.long bb), .second, .val (.int sl), .val (.int (3 : Int32)), .val (.long (own_lmax (own_lmax (own_lmax (0 : Int64) j0) j1) j2)), .second, .val (.long bd), .second, .val (.ref b125), .val (.ref b139)] [(.int (1 : Int32))])) (fun _ k => XS.iconst X154.here hx rfl (hb hby at_151) k) ?_
        refine own_go (st' := T154.setTop (mkF m 156 #[.val (.long j0), .second, .val (.long j1), .second, .val (.long j2), .second, .val (.long bb), .second, .val (.int sl), .val (.int (3 : Int32)), .val (.long (own_lmax (own_lmax (own_lmax (0 : Int64) j0) j1) j2)), .second, .val (.long bd), .second, .val (.ref b125), .val (.ref b139)] [(.int (1 : Int32))])) (fun _ k => XS.goto X154.here hx rfl (pc0 := 152) (pc' := 156) rfl (hb hby at_152) (by decide) (by decide) k) ?_
        obtain ⟨fs, hr, hrun, hended, hW, hsame⟩ := X154.leave (v := some (.int (1 : Int32))) (fun h => by rw [Bd.returns] at h; cases h)
        refine ⟨_, _, ?_, hP _ _ hrun hended ⟨_, _, rfl, ?_, ⟨_, rfl⟩, hW, hsame.mono (by decide) (by decide)⟩⟩
        · exact retN X154 hx (t := .boolean) Bd.returns (by simp) (hb hby at_156) hr
        · show Qrm0 Z j0 j1 j2 bb sl h0 n0 _ T154.heap _
          rw [eq154]
          exact ⟨rfl, N154, trivial⟩
    refine own_go (st' := T123.setTop (mkF m 56 #[.val (.long j0), .second, .val (.long j1), .second, .val (.long j2), .second, .val (.long bb), .second, .val (.int sl), .val (.int (3 : Int32)), .val (.long (own_lmax (own_lmax (own_lmax (0 : Int64) j0) j1) j2)), .second, .unset, .unset, .unset, .unset] [(.int sl)])) (fun _ k => XS.iload X123.here hx rfl (hb hby at_54) rfl k) ?_
    refine own_go (st' := T123.setTop (mkF m 57 #[.val (.long j0), .second, .val (.long j1), .second, .val (.long j2), .second, .val (.long bb), .second, .val (.int sl), .val (.int (3 : Int32)), .val (.long (own_lmax (own_lmax (own_lmax (0 : Int64) j0) j1) j2)), .second, .unset, .unset, .unset, .unset] [(.int (1 : Int32)), (.int sl)])) (fun _ k => XS.iconst X123.here hx rfl (hb hby at_56) k) ?_
    refine own_go (st' := T123.setTop (mkF m 58 #[.val (.long j0), .second, .val (.long j1), .second, .val (.long j2), .second, .val (.long bb), .second, .val (.int sl), .val (.int (3 : Int32)), .val (.long (own_lmax (own_lmax (own_lmax (0 : Int64) j0) j1) j2)), .second, .unset, .unset, .unset, .unset] [(.int (sl &&& (1 : Int32)))])) (fun _ k => XS.iand X123.here hx rfl (hb hby at_57) rfl k) ?_
    by_cases hc157 : (sl &&& (1 : Int32)) = (0 : Int32)
    · --
      refine own_go (st' := T123.setTop (mkF m 66 #[.val (.long j0), .second, .val (.long j1), .second, .val (.long j2), .second, .val (.long bb), .second, .val (.int sl), .val (.int (3 : Int32)), .val (.long (own_lmax (own_lmax (own_lmax (0 : Int64) j0) j1) j2)), .second, .unset, .unset, .unset, .unset] [])) (fun _ k => XS.ifYes X123.here hx rfl (pc0 := 58) (pc' := 66) rfl (hb hby at_58) rfl ((if0 _ _).trans (teq hc157).1) (by decide) (by decide) k) ?_
      refine own_go (st' := T123.setTop (mkF m 68 #[.val (.long j0), .second, .val (.long j1), .second, .val (.long j2), .second, .val (.long bb), .second, .val (.int sl), .val (.int (3 : Int32)), .val (.long (own_lmax (own_lmax (own_lmax (0 : Int64) j0) j1) j2)), .second, .unset, .unset, .unset, .unset] [(.long bb)])) (fun _ k => XS.lload X123.here hx rfl (hb hby at_66) rfl k) ?_
      refine own_go (st' := T123.setTop (mkF m 70 #[.val (.long j0), .second, .val (.long j1), .second, .val (.long j2), .second, .val (.long bb), .second, .val (.int sl), .val (.int (3 : Int32)), .val (.long (own_lmax (own_lmax (own_lmax (0 : Int64) j0) j1) j2)), .second, .unset, .unset, .unset, .unset] [(.long (own_lmax (own_lmax (own_lmax (0 : Int64) j0) j1) j2)), (.long bb)])) (fun _ k => XS.lload X123.here hx rfl (hb hby at_68) rfl k) ?_
      obtain ⟨_, _, ⟨T158, LC158, kC158, nC158⟩, -, X158, ⟨Lc158, hQ158, lq158, yq158, zq158⟩, st158⟩ := Jvm.LawKit.callS X123 hx (y := (⟨"java/lang/Math", "min", "(JJ)J"⟩ : MethodName)) hown (mvT hZ (hw _ (List.mem_of_getElem? (i := 57) rfl))) (mvT hZ (hw _ (List.mem_of_getElem? (i := 58) rfl))) (mvT hZ (hw _ (List.mem_of_getElem? (i := 2) rfl))) (mvT hZ (hw _ (List.mem_of_getElem? (i := 59) rfl))) (by decide) (backOf (W := 0) (rm10 l Z a0 hw [] bb (own_lmax (own_lmax (own_lmax (0 : Int64) j0) j1) j2) h0 n0 (by omega) ) hZ (hw _ (List.mem_of_getElem? (i := 59) rfl)) (hw _ (List.mem_of_getElem? (i := 2) rfl)) (by decide) (by decide)) (g := (mkF m 70 #[.val (.long j0), .second, .val (.long j1), .second, .val (.long j2), .second, .val (.long bb), .second, .val (.int sl), .val (.int (3 : Int32)), .val (.long (own_lmax (own_lmax (own_lmax (0 : Int64) j0) j1) j2)), .second, .unset, .unset, .unset, .unset] [(.long (own_lmax (own_lmax (own_lmax (0 : Int64) j0) j1) j2)), (.long bb)])) rfl (by rw [hml]; rfl) (argsL := [(.long bb), (.long (own_lmax (own_lmax (own_lmax (0 : Int64) j0) j1) j2))]) (rest := []) (lenOf pd_0 rfl) rfl (by show 2 * 0 + _ ≤ _; exact Nat.le_of_eq rfl) (hb hby at_70) (fun _ _ => ⟨rfl, eq123, (by decide : 0 + 0 ≤ _), (by decide : 0 + 0 ≤ _)⟩)
      dsimp only [Pt.U, Pt.locs, Pt.cells, Pt.slots] at X158 lq158 yq158 zq158 st158 hQ158
      subst lq158 yq158 zq158
      obtain ⟨rfl, Nq158, eq158⟩ := hQ158
      have N158 := Fr.app N123 Nq158
      refine own_go (st' := T158.setTop (mkF m 73 #[.val (.long j0), .second, .val (.long j1), .second, .val (.long j2), .second, .val (.long bb), .second, .val (.int sl), .val (.int (3 : Int32)), .val (.long (own_lmax (own_lmax (own_lmax (0 : Int64) j0) j1) j2)), .second, .unset, .unset, .unset, .unset] [(.long (own_lmin bb (own_lmax (own_lmax (own_lmax (0 : Int64) j0) j1) j2)))])) (fun t k => st158 t k) ?_
      exact J73_124 _ _ (own_lmin bb (own_lmax (own_lmax (own_lmax (0 : Int64) j0) j1) j2)) X158 eq158 N158 (own_min_le _ _)
    · --
      refine own_go (st' := T123.setTop (mkF m 61 #[.val (.long j0), .second, .val (.long j1), .second, .val (.long j2), .second, .val (.long bb), .second, .val (.int sl), .val (.int (3 : Int32)), .val (.long (own_lmax (own_lmax (own_lmax (0 : Int64) j0) j1) j2)), .second, .unset, .unset, .unset, .unset] [])) (fun _ k => XS.ifNo X123.here hx rfl (hb hby at_58) rfl ((if0 _ _).trans (feq hc157).1) k) ?_
      refine own_go (st' := T123.setTop (mkF m 63 #[.val (.long j0), .second, .val (.long j1), .second, .val (.long j2), .second, .val (.long bb), .second, .val (.int sl), .val (.int (3 : Int32)), .val (.long (own_lmax (own_lmax (own_lmax (0 : Int64) j0) j1) j2)), .second, .unset, .unset, .unset, .unset] [(.long (own_lmax (own_lmax (own_lmax (0 : Int64) j0) j1) j2))])) (fun _ k => XS.lload X123.here hx rfl (hb hby at_61) rfl k) ?_
      refine own_go (st' := T123.setTop (mkF m 73 #[.val (.long j0), .second, .val (.long j1), .second, .val (.long j2), .second, .val (.long bb), .second, .val (.int sl), .val (.int (3 : Int32)), .val (.long (own_lmax (own_lmax (own_lmax (0 : Int64) j0) j1) j2)), .second, .unset, .unset, .unset, .unset] [(.long (own_lmax (own_lmax (own_lmax (0 : Int64) j0) j1) j2))])) (fun _ k => XS.goto X123.here hx rfl (pc0 := 63) (pc' := 73) rfl (hb hby at_63) (by decide) (by decide) k) ?_
      exact J73_124 _ _ (own_lmax (own_lmax (own_lmax (0 : Int64) j0) j1) j2) X123 eq123 N123 (own_irr _)
set_option maxRecDepth 65536 in
set_option maxHeartbeats 40000000 in
theorem comes_1 {Post : Tables → Env → Array Value → State → Outcome → State → Prop} (hpost : ∀ tb e args s v u, (limb_1_1.after args s (.returned v) u = true ∧ limb_1_2.after args s (.returned v) u = true ∧ True) → FrameEnd s (.returned v) u (Jvm.fieldLocs frame_1_writes args s ++ Jvm.arrayLocs frame_1_arrays args s ++ Jvm.staticLocs frame_1_statics s) 24 128 → Post tb e args s (.returned v) u) :
    ArmFor flags0 classFile x code maxLocals ret World_1 tables_1 room_1 Calls_1 rest_1 Pre_1 Post := by
  intro l hfl _ _ p e ha hc hk s m args below hf hA hF happ hP
  obtain ⟨hcalls, hrest, hpre⟩ := hP
  obtain ⟨-, -, -, hnamed, -, -, -, hat⟩ := (Spec.applies_iff hf).mp happ
  obtain ⟨hg, hn⟩ := and_e (Cond.before_iff.mp (show (Jvm.Cond.and given_1 narrow_1).before args s = true from hpre))
  obtain ⟨h1, h2⟩ := and_e hg
  obtain ⟨w0, w1, w2, w3, w4, rfl⟩ : ∃ w0 w1 w2 w3 w4 : Value, args = #[w0, w1, w2, w3, w4] := by
    have hs : args.size = 5 := by simpa [Cond.value, given_1] using h1
    obtain ⟨L⟩ := args
    match L, hs with
    | [w0, w1, w2, w3, w4], _ => exact ⟨w0, w1, w2, w3, w4, rfl⟩
  have hw := fun d (hd : d ∈ tables_1) => atoms_spec (ws := Jvm.Cond.code x code maxLocals ret :: tables_1) hat d (List.mem_cons_of_mem _ hd)
  have hfit : Fit s := fun {y c} hc i hi => by
    obtain ⟨ha, rfl⟩ := Array.getElem?_eq_some_iff.mp hc
    have q := List.all_eq_true.mp ((Array.all_eq_true_iff_forall_mem.mp hF) _ (Array.getElem_mem ha)) i (List.mem_range.mpr hi)
    simpa [Array.getElem?_eq_getElem hi] using q
  obtain ⟨ha0, hr0⟩ := and_e h2
  obtain ⟨j0, ev0⟩ := isL_v ha0
  obtain rfl : w0 = (.long j0) := Option.some.inj ev0
  obtain ⟨ha1, hr1⟩ := and_e hr0
  obtain ⟨j1, ev1⟩ := isL_v ha1
  obtain rfl : w1 = (.long j1) := Option.some.inj ev1
  obtain ⟨ha2, hr2⟩ := and_e hr1
  obtain ⟨j2, ev2⟩ := isL_v ha2
  obtain rfl : w2 = (.long j2) := Option.some.inj ev2
  obtain ⟨ha3, hr3⟩ := and_e hr2
  obtain ⟨bb, ev3⟩ := isL_v ha3
  obtain rfl : w3 = (.long bb) := Option.some.inj ev3
  obtain ⟨sl, ev4⟩ := is_v hr3
  obtain rfl : w4 = (.int sl) := Option.some.inj ev4
  obtain ⟨n, o, h1, h2, h3, _, L, rfl, hQ, hq⟩ := rm0 l s _ hw tables_1 j0 j1 j2 bb sl s.heap s.heap.size (Nat.le_refl _)  p e ha hc hk s m _ below hf ((Spec.applies_iff_loose hf).mp happ).1 ⟨rfl, State.Warmed39.refl s, rfl⟩ trivial
  obtain ⟨rfl, N, -⟩ := hQ
  refine ⟨n, _, h1, h2, h3, hpost _ _ _ _ _ _ ⟨Cond.after_iff.mpr rfl, Cond.after_iff.mpr (eq_i res_at (Term.int_eval (1)) rfl), trivial⟩ ⟨hq.1, hq.2.1, (hq.2.2.sift fun y hy => Or.inr (N y hy)).mono (by decide) (by decide)⟩⟩
theorem main_1_1 : Claimed_1_1 := comes_1 fun _ _ _ _ _ _ h hF => ⟨h.1, hF⟩
theorem main_1_2 : Claimed_1_2 := comes_1 fun _ _ _ _ _ _ h hF => ⟨h.2.1, hF⟩
end Jvm.Pilot.@@N@@
namespace Jvm.Pilot.@@N@@
open Jvm Jvm.ClassFile Sem Op Lib Jvm.Free Jvm.Stand Jvm.Pilot.@@N@@.Jvm.D
/-! MADE BY PROGRAM (witnessworld.py) out of the Statement's table words and the real class files: 13 classes; the members and pool entries that the words name. The judged class is class 1, her method 3. -/
namespace start1
open Jvm.ClassFile
def u (s : String) : CpInfo := .utf8 (stringToUtf16 s)
/-- a pool by its gaps: so many unusable entries, then the entry; so many at the end -/
def gap : Nat → List CpInfo → List CpInfo
  | 0, r => r
  | n + 1, r => .unusable :: gap n r
def poolList (es : List (Nat × CpInfo)) (last : Nat) : List CpInfo := es.foldr (fun e r => gap e.1 (e.2 :: r)) (gap last [])
def pool (es : List (Nat × CpInfo)) (last : Nat) : Array CpInfo := ⟨poolList es last⟩
def fileOf (pool : Array CpInfo) (this : Nat) (attrs : Array Attribute := #[]) (ms : Array MethodInfo := #[]) (fl : Nat := 33) (sup : Nat := 0) (ifs : Array Nat := #[]) (fds : Array FieldInfo := #[]) : ClassFile where
  minorVersion := 0
  majorVersion := 65
  constantPool := pool
  accessFlags := fl
  thisClass := this
  superClass := sup
  interfaces := ifs
  fields := fds
  methods := ms
  attributes := attrs
def plain (name : String) (sup : Option ClassId) : Class where
  name := name
  kind := .ordinary
  loader := none
  accessFlags := 33
  super := sup
  interfaces := #[]
  cf := none
  fields := #[]
  methods := #[]
  instanceTypes := #[]
  staticTypes := #[]
  resolved := #[]
  callSites := []
  init := .initialized
  statics := none
  mirror := none

def pool0 : Array CpInfo := pool [(5, u "<init>"), (0, u "()V"), (1, .class_ 10), (1, u "java/lang/Object")] 113

def k0c0 : Code := { maxStack := 0, maxLocals := 1, code := object_method_1_code, exceptionTable := #[], attributes := #[] }
def k0m0 : Method := { name := "<init>", desc := "()V", sig := { parameters := [], returnType := none }, accessFlags := 1, code := some k0c0 }
/-- java/lang/Object -/
def k0 : Class := { plain "java/lang/Object" none with
  accessFlags := 33
  interfaces := #[]
  cf := some (fileOf pool0 8 #[] #[{ accessFlags := 1, nameIndex := 5, descriptorIndex := 6, attributes := #[] }] 33 0 #[] #[])
  fields := #[]
  methods := #[k0m0]
  instanceTypes := #[]
  staticTypes := #[]
  resolved := Array.replicate 124 none
  statics := none }

def pool1 : Array CpInfo := pool [(2, .class_ 4), (1, u "java/lang/Object"), (0, u "<init>"), (0, u "()V"), (0, .methodref 8 9), (0, .class_ 10), (0, .nameAndType 11 12), (0, u "java/lang/Math"), (0, u "max"), (0, u "(JJ)J"), (0, .methodref 8 14), (0, .nameAndType 15 12), (0, u "min"), (0, .class_ 17), (0, u "com/example/millwright/millwright/jobshop/Plan"), (0, .methodref 19 20), (0, .class_ 21), (0, .nameAndType 22 23), (0, u "com/example/millwright/millwright/jobshop/JobShopSolutionOptimalPinLaw"), (0, u "machines"), (0, u "(I)[I"), (0, .methodref 19 25), (0, .nameAndType 26 27), (0, u "longs"), (0, u "(IJJJ)[J"), (0, .methodref 16 29), (0, .nameAndType 5 30), (0, u "([I[J[J)V"), (0, .class_ 32), (0, u "com/example/millwright/millwright/jobshop/JobShopSolution"), (0, .methodref 31 34), (0, .nameAndType 5 35), (0, u "(Lcom/example/millwright/millwright/jobshop/Plan;J)V"), (0, .methodref 31 37), (0, .nameAndType 38 39), (0, u "optimal"), (0, u "()Z"), (0, .methodref 31 41), (0, .nameAndType 42 43), (0, u "bound"), (0, u "()J"), (3, u "law"), (0, u "(JJJJI)Z")] 2

def k1m0 : Method := { name := "<init>", desc := "()V", sig := { parameters := [], returnType := none }, accessFlags := 1, code := none }
def k1c1 : Code := { maxStack := 5, maxLocals := 7, code := method_2_code, exceptionTable := #[], attributes := #[] }
def k1m1 : Method := { name := "longs", desc := "(IJJJ)[J", sig := { parameters := [.int, .long, .long, .long], returnType := some (.array .long) }, accessFlags := 10, code := some k1c1 }
def k1c2 : Code := { maxStack := 4, maxLocals := 1, code := method_3_code, exceptionTable := #[], attributes := #[] }
def k1m2 : Method := { name := "machines", desc := "(I)[I", sig := { parameters := [.int], returnType := some (.array .int) }, accessFlags := 10, code := some k1c2 }
def k1c3 : Code := { maxStack := 11, maxLocals := 16, code := code, exceptionTable := #[], attributes := #[] }
def k1m3 : Method := { name := "law", desc := "(JJJJI)Z", sig := { parameters := [.long, .long, .long, .long, .int], returnType := some .boolean }, accessFlags := 9, code := some k1c3 }
/-- com/example/millwright/millwright/jobshop/JobShopSolutionOptimalPinLaw -/
def k1 : Class := { plain "com/example/millwright/millwright/jobshop/JobShopSolutionOptimalPinLaw" (some 0) with
  accessFlags := 49
  interfaces := #[]
  cf := some (fileOf pool1 19 #[] #[{ accessFlags := 1, nameIndex := 5, descriptorIndex := 6, attributes := #[] }, { accessFlags := 10, nameIndex := 26, descriptorIndex := 27, attributes := #[] }, { accessFlags := 10, nameIndex := 22, descriptorIndex := 23, attributes := #[] }, { accessFlags := 9, nameIndex := 47, descriptorIndex := 48, attributes := #[] }] 49 2 #[] #[])
  fields := #[]
  methods := #[k1m0, k1m1, k1m2, k1m3]
  instanceTypes := #[]
  staticTypes := #[]
  resolved := Array.replicate 51 none
  statics := none }

def pool2 : Array CpInfo := pool [(1, .class_ 2), (0, u "java/lang/Math"), (1, .class_ 6), (1, u "java/lang/Object"), (0, u "<init>"), (0, u "()V"), (89, .class_ 100), (1, u "java/lang/Math$RandomNumberGeneratorHolder"), (20, u "(JJ)J"), (50, u "negativeZeroFloatBits"), (0, u "J"), (2, u "negativeZeroDoubleBits"), (21, u "max"), (2, u "min"), (43, u "$assertionsDisabled"), (0, u "Z"), (91, u "twoToTheDoubleScaleDown"), (0, u "D"), (4, u "twoToTheDoubleScaleUp"), (9, u "E"), (3, u "PI"), (2, u "TAU"), (2, u "DEGREES_TO_RADIANS"), (0, u "RADIANS_TO_DEGREES")] 94

def k2m0 : Method := { name := "<init>", desc := "()V", sig := { parameters := [], returnType := none }, accessFlags := 2, code := none }
def k2c1 : Code := { maxStack := 4, maxLocals := 4, code := jdk_29_method_66_code, exceptionTable := #[], attributes := #[] }
def k2m1 : Method := { name := "max", desc := "(JJ)J", sig := { parameters := [.long, .long], returnType := some .long }, accessFlags := 9, code := some k2c1 }
def k2c2 : Code := { maxStack := 4, maxLocals := 4, code := jdk_29_method_70_code, exceptionTable := #[], attributes := #[] }
def k2m2 : Method := { name := "min", desc := "(JJ)J", sig := { parameters := [.long, .long], returnType := some .long }, accessFlags := 9, code := some k2c2 }
/-- java/lang/Math -/
def k2 : Class := { plain "java/lang/Math" (some 0) with
  accessFlags := 49
  interfaces := #[]
  cf := some (fileOf pool2 1 #[.nestMembers #[98]] #[{ accessFlags := 2, nameIndex := 7, descriptorIndex := 8, attributes := #[] }, { accessFlags := 9, nameIndex := 198, descriptorIndex := 121, attributes := #[] }, { accessFlags := 9, nameIndex := 201, descriptorIndex := 121, attributes := #[] }] 49 4 #[] #[{ accessFlags := 25, nameIndex := 354, descriptorIndex := 339, attributes := #[] }, { accessFlags := 25, nameIndex := 358, descriptorIndex := 339, attributes := #[] }, { accessFlags := 25, nameIndex := 361, descriptorIndex := 339, attributes := #[] }, { accessFlags := 26, nameIndex := 364, descriptorIndex := 339, attributes := #[] }, { accessFlags := 26, nameIndex := 365, descriptorIndex := 339, attributes := #[] }, { accessFlags := 26, nameIndex := 172, descriptorIndex := 173, attributes := #[] }, { accessFlags := 26, nameIndex := 176, descriptorIndex := 173, attributes := #[] }, { accessFlags := 8, nameIndex := 344, descriptorIndex := 339, attributes := #[] }, { accessFlags := 8, nameIndex := 338, descriptorIndex := 339, attributes := #[] }, { accessFlags := 4120, nameIndex := 245, descriptorIndex := 246, attributes := #[] }])
  fields := #[{ name := "E", type := .double, accessFlags := 25, slot := 0, constantValue := 0 }, { name := "PI", type := .double, accessFlags := 25, slot := 1, constantValue := 0 }, { name := "TAU", type := .double, accessFlags := 25, slot := 2, constantValue := 0 }, { name := "DEGREES_TO_RADIANS", type := .double, accessFlags := 26, slot := 3, constantValue := 0 }, { name := "RADIANS_TO_DEGREES", type := .double, accessFlags := 26, slot := 4, constantValue := 0 }, { name := "negativeZeroFloatBits", type := .long, accessFlags := 26, slot := 5, constantValue := 0 }, { name := "negativeZeroDoubleBits", type := .long, accessFlags := 26, slot := 6, constantValue := 0 }, { name := "twoToTheDoubleScaleUp", type := .double, accessFlags := 8, slot := 7, constantValue := 0 }, { name := "twoToTheDoubleScaleDown", type := .double, accessFlags := 8, slot := 8, constantValue := 0 }, { name := "$assertionsDisabled", type := .boolean, accessFlags := 4120, slot := 9, constantValue := 0 }]
  methods := #[k2m0, k2m1, k2m2]
  instanceTypes := #[]
  staticTypes := #[.double, .double, .double, .double, .double, .long, .long, .double, .double, .boolean]
  resolved := Array.replicate 460 none
  statics := none }

def pool3 : Array CpInfo := pool [(1, .methodref 2 3), (0, .class_ 4), (0, .nameAndType 5 6), (0, u "java/lang/Object"), (0, u "<init>"), (0, u "()V"), (0, .fieldref 8 9), (0, .class_ 10), (0, .nameAndType 11 12), (0, u "com/example/millwright/millwright/jobshop/Plan"), (0, u "machine"), (0, u "[I"), (0, .fieldref 8 14), (0, .nameAndType 15 16), (0, u "start"), (0, u "[J"), (0, .fieldref 8 18), (0, .nameAndType 19 16), (0, u "end"), (0, .methodref 21 22), (0, .class_ 23), (0, .nameAndType 24 25), (0, u "java/lang/Math"), (0, u "max"), (0, u "(JJ)J"), (0, .fieldref 8 27), (0, .nameAndType 28 29), (0, u "makespan"), (0, u "J"), (0, u "([I[J[J)V"), (9, u "()J")] 2

def k3c0 : Code := { maxStack := 4, maxLocals := 11, code := prog_43_method_1_code, exceptionTable := #[], attributes := #[] }
def k3m0 : Method := { name := "<init>", desc := "([I[J[J)V", sig := { parameters := [(.array .int), (.array .long), (.array .long)], returnType := none }, accessFlags := 0, code := some k3c0 }
def k3c1 : Code := { maxStack := 2, maxLocals := 1, code := prog_43_method_6_code, exceptionTable := #[], attributes := #[] }
def k3m1 : Method := { name := "makespan", desc := "()J", sig := { parameters := [], returnType := some .long }, accessFlags := 1, code := some k3c1 }
/-- com/example/millwright/millwright/jobshop/Plan -/
def k3 : Class := { plain "com/example/millwright/millwright/jobshop/Plan" (some 0) with
  accessFlags := 49
  interfaces := #[]
  cf := some (fileOf pool3 8 #[] #[{ accessFlags := 0, nameIndex := 5, descriptorIndex := 30, attributes := #[] }, { accessFlags := 1, nameIndex := 28, descriptorIndex := 40, attributes := #[] }] 49 2 #[] #[{ accessFlags := 18, nameIndex := 11, descriptorIndex := 12, attributes := #[] }, { accessFlags := 18, nameIndex := 15, descriptorIndex := 16, attributes := #[] }, { accessFlags := 18, nameIndex := 19, descriptorIndex := 16, attributes := #[] }, { accessFlags := 18, nameIndex := 28, descriptorIndex := 29, attributes := #[] }])
  fields := #[{ name := "machine", type := (.array .int), accessFlags := 18, slot := 0, constantValue := 0 }, { name := "start", type := (.array .long), accessFlags := 18, slot := 1, constantValue := 0 }, { name := "end", type := (.array .long), accessFlags := 18, slot := 2, constantValue := 0 }, { name := "makespan", type := .long, accessFlags := 18, slot := 3, constantValue := 0 }]
  methods := #[k3m0, k3m1]
  instanceTypes := #[(.array .int), (.array .long), (.array .long), .long]
  staticTypes := #[]
  resolved := Array.replicate 43 none
  statics := none }

def pool4 : Array CpInfo := pool [(1, .methodref 2 3), (0, .class_ 4), (0, .nameAndType 5 6), (0, u "java/lang/Object"), (0, u "<init>"), (0, u "()V"), (0, .methodref 8 9), (0, .class_ 10), (0, .nameAndType 11 12), (0, u "com/example/millwright/millwright/jobshop/Plan"), (0, u "makespan"), (0, u "()J"), (9, .fieldref 23 24), (0, .class_ 25), (0, .nameAndType 26 27), (0, u "com/example/millwright/millwright/jobshop/JobShopSolution"), (0, u "plan"), (0, u "Lcom/example/millwright/millwright/jobshop/Plan;"), (0, .fieldref 23 29), (0, .nameAndType 30 31), (0, u "bound"), (0, u "J"), (0, u "(Lcom/example/millwright/millwright/jobshop/Plan;J)V"), (4, u "optimal"), (0, u "()Z")] 17

def k4c0 : Code := { maxStack := 6, maxLocals := 4, code := prog_37_method_1_code, exceptionTable := #[], attributes := #[] }
def k4m0 : Method := { name := "<init>", desc := "(Lcom/example/millwright/millwright/jobshop/Plan;J)V", sig := { parameters := [(.object "com/example/millwright/millwright/jobshop/Plan"), .long], returnType := none }, accessFlags := 0, code := some k4c0 }
def k4c1 : Code := { maxStack := 2, maxLocals := 1, code := prog_37_method_3_code, exceptionTable := #[], attributes := #[] }
def k4m1 : Method := { name := "bound", desc := "()J", sig := { parameters := [], returnType := some .long }, accessFlags := 1, code := some k4c1 }
def k4c2 : Code := { maxStack := 4, maxLocals := 1, code := prog_37_method_4_code, exceptionTable := #[], attributes := #[] }
def k4m2 : Method := { name := "optimal", desc := "()Z", sig := { parameters := [], returnType := some .boolean }, accessFlags := 1, code := some k4c2 }
/-- com/example/millwright/millwright/jobshop/JobShopSolution -/
def k4 : Class := { plain "com/example/millwright/millwright/jobshop/JobShopSolution" (some 0) with
  accessFlags := 49
  interfaces := #[]
  cf := some (fileOf pool4 23 #[] #[{ accessFlags := 0, nameIndex := 5, descriptorIndex := 32, attributes := #[] }, { accessFlags := 1, nameIndex := 30, descriptorIndex := 12, attributes := #[] }, { accessFlags := 1, nameIndex := 37, descriptorIndex := 38, attributes := #[] }] 49 2 #[] #[{ accessFlags := 18, nameIndex := 26, descriptorIndex := 27, attributes := #[] }, { accessFlags := 18, nameIndex := 30, descriptorIndex := 31, attributes := #[] }])
  fields := #[{ name := "plan", type := (.object "com/example/millwright/millwright/jobshop/Plan"), accessFlags := 18, slot := 0, constantValue := 0 }, { name := "bound", type := .long, accessFlags := 18, slot := 1, constantValue := 0 }]
  methods := #[k4m0, k4m1, k4m2]
  instanceTypes := #[(.object "com/example/millwright/millwright/jobshop/Plan"), .long]
  staticTypes := #[]
  resolved := Array.replicate 56 none
  statics := none }

def pool5 : Array CpInfo := pool [(1, u "java/lang/Cloneable"), (0, .class_ 1), (0, u "java/lang/Object"), (0, .class_ 3)] 3

/-- java/lang/Cloneable -/
def k5 : Class := { plain "java/lang/Cloneable" (some 0) with
  accessFlags := 1537
  interfaces := #[]
  cf := some (fileOf pool5 2 #[] #[] 1537 4 #[] #[])
  fields := #[]
  methods := #[]
  instanceTypes := #[]
  staticTypes := #[]
  resolved := Array.replicate 8 none
  statics := none }

def pool6 : Array CpInfo := pool [(1, u "java/io/Serializable"), (0, .class_ 1), (0, u "java/lang/Object"), (0, .class_ 3)] 3

/-- java/io/Serializable -/
def k6 : Class := { plain "java/io/Serializable" (some 0) with
  accessFlags := 1537
  interfaces := #[]
  cf := some (fileOf pool6 2 #[] #[] 1537 4 #[] #[])
  fields := #[]
  methods := #[]
  instanceTypes := #[]
  staticTypes := #[]
  resolved := Array.replicate 8 none
  statics := none }

/-- the primitive byte -/
def k7 : Class := { plain "byte" none with kind := .primitive 'B', accessFlags := 0x411 }
/-- [B -/
def k8 : Class := { plain "[B" (some 0) with kind := .array 7 .byte, interfaces := #[5, 6], accessFlags := 1041 }

/-- the primitive int -/
def k9 : Class := { plain "int" none with kind := .primitive 'I', accessFlags := 0x411 }
/-- [I -/
def k10 : Class := { plain "[I" (some 0) with kind := .array 9 .int, interfaces := #[5, 6], accessFlags := 1041 }

/-- the primitive long -/
def k11 : Class := { plain "long" none with kind := .primitive 'J', accessFlags := 0x411 }
/-- [J -/
def k12 : Class := { plain "[J" (some 0) with kind := .array 11 .long, interfaces := #[5, 6], accessFlags := 1041 }

def heap : Heap := #[]
def classes : Array Class := #[k0, k1, k2, k3, k4, k5, k6, k7, k8, k9, k10, k11, k12]
def interned : List (Array UInt16 × Addr) := []
def slotsUsed : Nat := 0
def theMethod : MethodId := ⟨1, 3⟩
def args0 : Array Value := #[.long 5, .long 7, .long 8, .long 9, .int 3]
def aboutOver (below : List Frame) : State where
  vm := { classes := classes, interned := interned.toArray }
  heap := heap
  slotsUsed := slotsUsed
  threads := #[{ frames := .invoking theMethod args0 :: below }]
def below0 : List Frame := [.native { method := ⟨0, 0⟩, args := #[] }]
def about1 : State := aboutOver below0
def p0 : Program := .bare "" "" ""
def e0 : Env := launch0.env 0 0 0
theorem w_frames : about1.frames = Frame.invoking theMethod args0 :: below0 := rfl
set_option maxRecDepth 65536 in
theorem w_args : argsFit about1.vm theMethod args0 = true := by decide +kernel
set_option maxRecDepth 65536 in
theorem w_heap : heapFits about1 = true := by decide +kernel
set_option maxRecDepth 65536 in
theorem w_runnable : about1.curStatus? = some .runnable := by decide +kernel
set_option maxRecDepth 65536 in
theorem w_alone : about1.alone = true := by decide +kernel
set_option maxRecDepth 65536 in
theorem w_named : about1.methodNamed? x = some theMethod := by decide +kernel
set_option maxRecDepth 65536 in
theorem w_hears : about1.hears theMethod below0 = true := by decide +kernel
set_option maxRecDepth 65536 in
theorem w_ripe : about1.ripe theMethod args0 below0 = true := by decide +kernel
theorem w_running : about1.status = .running := rfl
set_option maxRecDepth 65536 in
theorem w_room : about1.hasRoom e0.platform room_1 = true :=
  launch0.hasRoom_least _ room_1 (by decide +kernel) (by decide +kernel) (by decide +kernel) (by decide +kernel) (by decide +kernel) (by decide +kernel)
theorem allAtoms_all (ts : List Jvm.Cond) (a : Array Jvm.Value) (st : Jvm.State) : (allAtoms ts).before a st = ts.all (fun c => c.before a st) := by
  induction ts with
  | nil => rfl
  | cons c t ih =>
    show (Jvm.Cond.and c (allAtoms t)).before a st = _
    rw [Jvm.Cond.before_and, ih, List.all_cons]
def words1 : List Jvm.Cond := Jvm.Cond.code x code maxLocals ret :: tables_1
/-- a 'code' word, met by the world's own term for the bytes: nothing is compared byte by byte -/
theorem code_word {y : MethodName} {bytes : ByteArray} {mx : Nat} {rt : Option FieldType} {a : Array Value} {s : State} {m : MethodId} {meth : Method} {c : Code} (h1 : s.methodNamed? y = some m) (h2 : s.vm.method? m = some meth) (h3 : meth.code = some c) (h4 : c.code = bytes)
    (h5 : (c.maxLocals == mx && c.exceptionTable.isEmpty && decide (c.maxStack ≤ mostOperands) && decide (meth.sig.returnType = rt) && !meth.locks && decide (parseMethodDescriptor y.desc = some meth.sig)) = true) : (Jvm.Cond.code y bytes mx rt).before a s = true := by
  simp only [Bool.and_eq_true, beq_iff_eq, Bool.not_eq_true', decide_eq_true_eq] at h5
  obtain ⟨⟨⟨⟨⟨g1, g2⟩, g3⟩, g4⟩, g5⟩, g6⟩ := h5
  simp [Cond.before, Cond.holds, Cond.value, h1, h2, h3, h4, g1, g2, g3, g4, g5, g6]
def isCode : Jvm.Cond → Bool
  | .code _ _ _ _ => true
  | _ => false
theorem all_split {L : List Jvm.Cond} {P : Jvm.Cond → Bool} (h1 : L.all (fun c => isCode c || P c) = true) (h2 : ∀ c ∈ L.filter isCode, P c = true) : L.all P = true := by
  refine List.all_eq_true.mpr fun c hc => ?_
  have h := List.all_eq_true.mp h1 c hc
  rcases Bool.eq_false_or_eq_true (isCode c) with hi | hi
  · exact h2 c (List.mem_filter.mpr ⟨hc, hi⟩)
  · simpa [hi] using h
set_option maxRecDepth 65536 in
theorem w_c0 : (Jvm.Cond.code x code maxLocals ret).before args0 about1 = true := code_word (m := ⟨1, 3⟩) (meth := k1m3) (c := k1c3) (by decide +kernel) rfl rfl rfl (by decide +kernel)
set_option maxRecDepth 65536 in
theorem w_c1 : (Jvm.Cond.code ({ cls := "java/lang/Math", name := "max", desc := "(JJ)J" } : Jvm.MethodName) jdk_29_method_66_code (4 : Nat) (Option.some Jvm.ClassFile.FieldType.long)).before args0 about1 = true := code_word (m := ⟨2, 1⟩) (meth := k2m1) (c := k2c1) (by decide +kernel) rfl rfl rfl (by decide +kernel)
set_option maxRecDepth 65536 in
theorem w_c2 : (Jvm.Cond.code ({ cls := "com/example/millwright/millwright/jobshop/JobShopSolutionOptimalPinLaw", name := "machines", desc := "(I)[I" } : Jvm.MethodName) method_3_code (1 : Nat) (Option.some (Jvm.ClassFile.FieldType.array Jvm.ClassFile.FieldType.int))).before args0 about1 = true := code_word (m := ⟨1, 2⟩) (meth := k1m2) (c := k1c2) (by decide +kernel) rfl rfl rfl (by decide +kernel)
set_option maxRecDepth 65536 in
theorem w_c3 : (Jvm.Cond.code ({ cls := "com/example/millwright/millwright/jobshop/JobShopSolutionOptimalPinLaw", name := "longs", desc := "(IJJJ)[J" } : Jvm.MethodName) method_2_code (7 : Nat) (Option.some (Jvm.ClassFile.FieldType.array Jvm.ClassFile.FieldType.long))).before args0 about1 = true := code_word (m := ⟨1, 1⟩) (meth := k1m1) (c := k1c1) (by decide +kernel) rfl rfl rfl (by decide +kernel)
set_option maxRecDepth 65536 in
theorem w_c4 : (Jvm.Cond.code ({ cls := "com/example/millwright/millwright/jobshop/Plan", name := "<init>", desc := "([I[J[J)V" } : Jvm.MethodName) prog_43_method_1_code (11 : Nat) (Option.none : Option Jvm.ClassFile.FieldType)).before args0 about1 = true := code_word (m := ⟨3, 0⟩) (meth := k3m0) (c := k3c0) (by decide +kernel) rfl rfl rfl (by decide +kernel)
set_option maxRecDepth 65536 in
theorem w_c5 : (Jvm.Cond.code ({ cls := "java/lang/Object", name := "<init>", desc := "()V" } : Jvm.MethodName) object_method_1_code (1 : Nat) (Option.none : Option Jvm.ClassFile.FieldType)).before args0 about1 = true := code_word (m := ⟨0, 0⟩) (meth := k0m0) (c := k0c0) (by decide +kernel) rfl rfl rfl (by decide +kernel)
set_option maxRecDepth 65536 in
theorem w_c6 : (Jvm.Cond.code ({ cls := "com/example/millwright/millwright/jobshop/JobShopSolution", name := "<init>", desc := "(Lcom/example/millwright/millwright/jobshop/Plan;J)V" } : Jvm.MethodName) prog_37_method_1_code (4 : Nat) (Option.none : Option Jvm.ClassFile.FieldType)).before args0 about1 = true := code_word (m := ⟨4, 0⟩) (meth := k4m0) (c := k4c0) (by decide +kernel) rfl rfl rfl (by decide +kernel)
set_option maxRecDepth 65536 in
theorem w_c7 : (Jvm.Cond.code ({ cls := "com/example/millwright/millwright/jobshop/Plan", name := "makespan", desc := "()J" } : Jvm.MethodName) prog_43_method_6_code (1 : Nat) (Option.some Jvm.ClassFile.FieldType.long)).before args0 about1 = true := code_word (m := ⟨3, 1⟩) (meth := k3m1) (c := k3c1) (by decide +kernel) rfl rfl rfl (by decide +kernel)
set_option maxRecDepth 65536 in
theorem w_c8 : (Jvm.Cond.code ({ cls := "com/example/millwright/millwright/jobshop/JobShopSolution", name := "optimal", desc := "()Z" } : Jvm.MethodName) prog_37_method_4_code (1 : Nat) (Option.some Jvm.ClassFile.FieldType.boolean)).before args0 about1 = true := code_word (m := ⟨4, 2⟩) (meth := k4m2) (c := k4c2) (by decide +kernel) rfl rfl rfl (by decide +kernel)
set_option maxRecDepth 65536 in
theorem w_c9 : (Jvm.Cond.code ({ cls := "com/example/millwright/millwright/jobshop/JobShopSolution", name := "bound", desc := "()J" } : Jvm.MethodName) prog_37_method_3_code (1 : Nat) (Option.some Jvm.ClassFile.FieldType.long)).before args0 about1 = true := code_word (m := ⟨4, 1⟩) (meth := k4m1) (c := k4c1) (by decide +kernel) rfl rfl rfl (by decide +kernel)
set_option maxRecDepth 65536 in
theorem w_c10 : (Jvm.Cond.code ({ cls := "java/lang/Math", name := "min", desc := "(JJ)J" } : Jvm.MethodName) jdk_29_method_70_code (4 : Nat) (Option.some Jvm.ClassFile.FieldType.long)).before args0 about1 = true := code_word (m := ⟨2, 2⟩) (meth := k2m2) (c := k2c2) (by decide +kernel) rfl rfl rfl (by decide +kernel)
def codes1 : List Jvm.Cond := [Jvm.Cond.code x code maxLocals ret, Jvm.Cond.code ({ cls := "java/lang/Math", name := "max", desc := "(JJ)J" } : Jvm.MethodName) jdk_29_method_66_code (4 : Nat) (Option.some Jvm.ClassFile.FieldType.long), Jvm.Cond.code ({ cls := "com/example/millwright/millwright/jobshop/JobShopSolutionOptimalPinLaw", name := "machines", desc := "(I)[I" } : Jvm.MethodName) method_3_code (1 : Nat) (Option.some (Jvm.ClassFile.FieldType.array Jvm.ClassFile.FieldType.int)), Jvm.Cond.code ({ cls := "com/example/millwright/millwright/jobshop/JobShopSolutionOptimalPinLaw", name := "longs", desc := "(IJJJ)[J" } : Jvm.MethodName) method_2_code (7 : Nat) (Option.some (Jvm.ClassFile.FieldType.array Jvm.ClassFile.FieldType.long)), Jvm.Cond.code ({ cls := "com/example/millwright/millwright/jobshop/Plan", name := "<init>", desc := "([I[J[J)V" } : Jvm.MethodName) prog_43_method_1_code (11 : Nat) (Option.none : Option Jvm.ClassFile.FieldType), Jvm.Cond.code ({ cls := "java/lang/Object", name := "<init>", desc := "()V" } : Jvm.MethodName) object_method_1_code (1 : Nat) (Option.none : Option Jvm.ClassFile.FieldType), Jvm.Cond.code ({ cls := "com/example/millwright/millwright/jobshop/JobShopSolution", name := "<init>", desc := "(Lcom/example/millwright/millwright/jobshop/Plan;J)V" } : Jvm.MethodName) prog_37_method_1_code (4 : Nat) (Option.none : Option Jvm.ClassFile.FieldType), Jvm.Cond.code ({ cls := "com/example/millwright/millwright/jobshop/Plan", name := "makespan", desc := "()J" } : Jvm.MethodName) prog_43_method_6_code (1 : Nat) (Option.some Jvm.ClassFile.FieldType.long), Jvm.Cond.code ({ cls := "com/example/millwright/millwright/jobshop/JobShopSolution", name := "optimal", desc := "()Z" } : Jvm.MethodName) prog_37_method_4_code (1 : Nat) (Option.some Jvm.ClassFile.FieldType.boolean), Jvm.Cond.code ({ cls := "com/example/millwright/millwright/jobshop/JobShopSolution", name := "bound", desc := "()J" } : Jvm.MethodName) prog_37_method_3_code (1 : Nat) (Option.some Jvm.ClassFile.FieldType.long), Jvm.Cond.code ({ cls := "java/lang/Math", name := "min", desc := "(JJ)J" } : Jvm.MethodName) jdk_29_method_70_code (4 : Nat) (Option.some Jvm.ClassFile.FieldType.long)]
set_option maxRecDepth 65536 in
theorem codes_eq : words1.filter isCode = codes1 := rfl
theorem w_codes : ∀ c ∈ words1.filter isCode, c.before args0 about1 = true := by
  rw [codes_eq]
  intro c hc
  simp only [codes1, List.mem_cons, List.not_mem_nil, or_false] at hc
  rcases hc with rfl | rfl | rfl | rfl | rfl | rfl | rfl | rfl | rfl | rfl | rfl
  · exact w_c0
  · exact w_c1
  · exact w_c2
  · exact w_c3
  · exact w_c4
  · exact w_c5
  · exact w_c6
  · exact w_c7
  · exact w_c8
  · exact w_c9
  · exact w_c10
set_option maxRecDepth 65536 in
theorem w_t1 : (words1.take 24).all (fun c => isCode c || c.before args0 about1) = true := by decide +kernel
set_option maxRecDepth 65536 in
theorem w_t2 : ((words1.drop 24).take 24).all (fun c => isCode c || c.before args0 about1) = true := by decide +kernel
set_option maxRecDepth 65536 in
theorem w_t3 : ((words1.drop 24).drop 24).all (fun c => isCode c || c.before args0 about1) = true := by decide +kernel
theorem w_tables : (allAtoms (Jvm.Cond.code x code maxLocals ret :: tables_1)).before args0 about1 = true := by
  rw [allAtoms_all]
  show words1.all (fun c => c.before args0 about1) = true
  refine all_split ?_ w_codes
  rw [← List.take_append_drop 24 words1, List.all_append, w_t1, ← List.take_append_drop 24 (words1.drop 24), List.all_append, w_t2, w_t3]
  rfl
set_option maxRecDepth 65536 in
theorem w_case : (Jvm.Cond.and given_1 narrow_1).before args0 about1 = true := by decide +kernel
theorem w_applies : (headSpec (Jvm.Cond.code x code maxLocals ret :: tables_1) room_1).applies x e0.platform about1 = true :=
  (Spec.applies_iff w_frames).mpr ⟨w_running, w_runnable, w_alone, w_named, w_hears, w_ripe, w_room, w_tables⟩
theorem atStart : AtStart classFile x code maxLocals ret World_1 tables_1 room_1 Calls_1 rest_1 Pre_1 launch0 p0 e0 about1 theMethod args0 below0 :=
  ⟨lists_1, trivial, launch0.admits_env _ _ _, launch0.least_env, fairChoices_fair.cas, fairChoices_fair.clock, w_frames, w_args, w_heap, w_applies, trivial, trivial, w_case⟩
end start1
theorem witness_1 : WitnessClaimed_1 := ⟨start1.p0, start1.e0, start1.about1, start1.theMethod, start1.args0, start1.below0, start1.atStart⟩
end Jvm.Pilot.@@N@@
