import JvmDerived
import JvmDerived.Pilot.@@N@@Statement
import JvmDerived.Pilot.@@N@@Code
set_option linter.unusedVariables false
set_option linter.unusedSimpArgs false
namespace Jvm.Pilot.@@N@@
open Jvm Jvm.ClassFile Sem Op Lib Jvm.Free Jvm.Stand Jvm.LawKit Jvm.RoadKit Bundle Jvm.Pilot.@@N@@.Jvm.D
abbrev own_Go (tb : Tables) (e : Env) (below : List Frame) (P : State → Outcome → Prop) (st : State) : Prop := ∃ U o, Steps tb e below st U ∧ P U o
theorem own_go {tb : Tables} {e : Env} {below : List Frame} {P : State → Outcome → Prop} {st st' : State} (h : ∀ t, Steps tb e below st' t → Steps tb e below st t) (k : own_Go tb e below P st') : own_Go tb e below P st := by
  obtain ⟨U, o, h1, h2⟩ := k; exact ⟨U, o, h _ h1, h2⟩
theorem own_cat {v : Value} (h : v.isRef = true) : v.category = 1 := by rcases ref_cases h with rfl | ⟨a, rfl⟩ <;> rfl
theorem own_nar_ref {t : FieldType} {v : Value} (h : v.isRef = true) : narrow t v = v := by rcases ref_cases h with rfl | ⟨a, rfl⟩ <;> cases t <;> rfl
theorem own_fit_ref {t : FieldType} {v : Value} (h : v.isRef = true) (ht : t.isReference = true := by rfl) : fits t v = true := by rcases ref_cases h with rfl | ⟨a, rfl⟩ <;> cases t <;> first | rfl | (cases ht)
theorem own_widen {p : Program} {l : Launch} {e : Env} {R : Room} {s : State} {m : MethodId} {args : Array Value} {below : List Frame} {meth : Method} {c : Code} {T : State} {locs : List Loc} {cells slots cells' slots' : Nat} (X : Stand p l e R s m args below meth c T locs cells slots) (h1 : cells ≤ cells') (h2 : slots ≤ slots') : Stand p l e R s m args below meth c T locs cells' slots' :=
  { X with same := X.same.mono h1 h2 }
theorem own_sel_priv {s : State} {args : Array Value} {y : MethodName} {n : Nat} (wi : (Jvm.Cond.instantiable y.cls n).before args s = true) (hp : s.PrivateAt y) (hinst : (Jvm.Cond.instanceMethod y).before args s = true) (hy : y.cls ≠ "java/lang/invoke/MethodHandle" ∧ y.cls ≠ "java/lang/invoke/VarHandle") : (Jvm.Cond.selects y.cls y y).before args s = true := by
  obtain ⟨c, k, h1, h2, -, h4, -⟩ := Cond.instantiable_spec wi
  exact selects_self_of_private h1 h2 (Bool.or_eq_false_iff.mp h4).1 hp hinst hy
theorem own_sta_keep {Z : State} {h h' : Heap} {ws : List Addr} {C n d : String} {v : Value} (F : Sta Z h C n d v) (K : Keep h h' ws) (q : ∀ x ∈ ws, ∀ c : Cell, h[x]? = some c → c.vm.isStatics = false) : Sta Z h' C n d v := by
  obtain ⟨cf, i, k, f, st, cell, h1, h2, h3, h4, h5, h6, h7⟩ := F
  exact ⟨cf, i, k, f, st, cell, h1, h2, h3, h4, K.2.1 st cell h5 (fun z => by rw [q st z cell h5] at h6; cases h6), h6, h7⟩
theorem own_pl_exa {Z : State} {h : Heap} {a : Addr} {C : String} (F : Exa Z h a C) : ∀ c : Cell, h[a]? = some c → c.vm.isStatics = false := fun c hc => by
  obtain ⟨c1, k, h1, -, -, h4, -⟩ := F; cases h1.symm.trans hc; exact h4
theorem own_pl_fld {Z : State} {h : Heap} {a : Addr} {C n d : String} {v : Value} (F : Fld Z h a C n d v) : ∀ c : Cell, h[a]? = some c → c.vm.isStatics = false := old_plain F
theorem own_pl_arv {Z : State} {h : Heap} {a : Addr} {k : ClassId} {ty : FieldType} {n : Int32} {vs : List Value} {d : Value} (F : Arv Z h a k ty n vs d) : ∀ c : Cell, h[a]? = some c → c.vm.isStatics = false := fun c hc => by
  obtain ⟨c1, A, -⟩ := F; cases A.1.symm.trans hc; exact A.plain
theorem own_fld {args : Array Value} {s : State} {t : Term} {C n d : String} {a : Addr} {k : Int32} (ev : t.eval args s none [] s = some (.ref a)) (h : (Jvm.Cond.eq (.field t C n d) (.int k)).value args s none s [] = some true) : Fld s s.heap a C n d (.int k) := by
  obtain ⟨x, y, e1, e2, -, k2⟩ := cmp_v (Or.inl h)
  obtain rfl : Value.int k = y := Option.some.inj e2
  obtain ⟨z, rfl⟩ := k2
  have q : z = k := by
    simp only [Cond.value] at h
    rw [e1, e2] at h
    simpa using h
  subst q
  rw [fld_at ev] at e1
  exact Fld.start e1
theorem own_len {args : Array Value} {s : State} {t : Term} {a : Addr} {cl : Cell} {n : Int32} (ev : t.eval args s none [] s = some (.ref a)) (hc : s.heap[a]? = some cl) (h : (Jvm.Cond.eq (.length t) (.int n)).value args s none s [] = some true) : cl.slots.size < 2 ^ 31 ∧ cl.slots.size.toInt32 = n := by
  obtain ⟨x, y, e1, e2, -, -⟩ := cmp_v (Or.inl h)
  obtain rfl : Value.int n = y := Option.some.inj e2
  obtain ⟨b, cell, g1, g2, rfl⟩ := Term.length_spec e1
  cases ev.symm.trans g1
  have g3 : cell.slots.size < 2 ^ 31 := by
    apply Decidable.byContradiction
    intro q
    simp [Term.eval, ev, g2, q] at e1
  have g4 : cell = cl := by
    simp only [State.arrayAt?, Option.bind_eq_bind, Option.bind_eq_some_iff] at g2
    obtain ⟨c2, q1, k2, q2, q3⟩ := g2
    split at q3
    · cases q3
    · split at q3
      · cases q3; exact Option.some.inj (q1.symm.trans hc)
      · cases q3
  rw [← g4]
  refine ⟨g3, ?_⟩
  simp only [Cond.value] at h
  rw [e1, e2] at h
  simpa using h
theorem own_elem {args : Array Value} {s : State} {t u : Term} {a b : Addr} {cl : Cell} {k : Int32} (ev : t.eval args s none [] s = some (.ref a)) (hc : s.heap[a]? = some cl) (eu : u.eval args s none [] s = some (.ref b)) (h : (Jvm.Cond.eq (.elem t (.int k)) u).value args s none s [] = some true) : cl.slots[k.toNatClampNeg]? = some (.ref b) := by
  obtain ⟨x, y, e1, e2, -, -⟩ := cmp_v (Or.inl h)
  cases eu.symm.trans e2
  have q := (elem_in e1 ev rfl hc).2
  have : x = .ref b := by
    simp only [Cond.value] at h
    rw [e1, e2] at h
    cases x <;> simp at h ⊢
    exact h
  rw [q, this]
theorem d1_0 : decode prog_33_method_4_code 0 = .ok (.aload_n 0, 1) := by decide +kernel
theorem d1_1 : decode prog_33_method_4_code 1 = .ok (.getstatic 3, 3) := by decide +kernel
theorem d1_4 : decode prog_33_method_4_code 4 = .ok (.if_acmp .ne 9, 3) := by decide +kernel
theorem d1_7 : decode prog_33_method_4_code 7 = .ok (.getstatic 7, 3) := by decide +kernel
theorem d1_10 : decode prog_33_method_4_code 10 = .ok (.goto 6, 3) := by decide +kernel
theorem d1_16 : decode prog_33_method_4_code 16 = .ok (.areturn, 1) := by decide +kernel
theorem pn_1 : plainName "com/example/glimmerboard/glimmerboard/pathagon/Side" = true := by first | (simp [plainName, overriddenIn]; done) | decide +kernel
theorem ef_rm1L (m : MethodId) (x0 : Addr) : entryFrame m #[(.ref x0)] 1 = mkF m 0 #[.val (.ref x0)] [] := by first | (simp [entryFrame, mkF, argsToLocals, Value.category]; done) | rfl
def Qrm1L (Z : State) (r1 : Addr) (r2 : Addr) (h0 : Heap) (n0 : Nat) (v : Option Value) (h : Heap) (L : List Loc) : Prop := (v = some (.ref r2)) ∧ (Fr n0 L) ∧ (h = h0)
set_option maxRecDepth 65536 in
set_option maxHeartbeats 40000000 in
theorem rm1L (l : Launch) (Z : State) (a0 : Array Value) (hw : ∀ d ∈ tables_1, d.before a0 Z = true) (ws : List Jvm.Cond) (r1 : Addr) (r2 : Addr) (h0 : Heap) (n0 : Nat) (Z0 : n0 ≤ h0.size) (pr1 : Sta Z h0 "com/example/glimmerboard/glimmerboard/pathagon/Side" "LIGHT" "Lcom/example/glimmerboard/glimmerboard/pathagon/Side;" (.ref r1)) (pr2 : Sta Z h0 "com/example/glimmerboard/glimmerboard/pathagon/Side" "DARK" "Lcom/example/glimmerboard/glimmerboard/pathagon/Side;" (.ref r2)) (pr3 : r1 ≠ r2) :
    MetFree l (⟨"com/example/glimmerboard/glimmerboard/pathagon/Side", "opponent", "()Lcom/example/glimmerboard/glimmerboard/pathagon/Side;"⟩ : MethodName) (head1 (Jvm.Cond.code (⟨"com/example/glimmerboard/glimmerboard/pathagon/Side", "opponent", "()Lcom/example/glimmerboard/glimmerboard/pathagon/Side;"⟩ : MethodName) prog_33_method_4_code 1 (some (.object "com/example/glimmerboard/glimmerboard/pathagon/Side")) :: ws) ({ frames := 0, cells := 0, slots := 0, locals := 0 } : Room)) (fun a U => a = #[(.ref r1)] ∧ Z.Warmed39 U.vm ∧ U.heap = h0) (fun _ _ _ _ _ => True) (fun _ U o U' => ∃ v L, o = .returned v ∧ Qrm1L Z r1 r2 h0 n0 v U'.heap L ∧ FrameEnd U o U' L ({ frames := 0, cells := 0, slots := 0, locals := 0 } : Room).cells ({ frames := 0, cells := 0, slots := 0, locals := 0 } : Room).slots) := by
  refine MetFree.of_bodySF (plainFor_of_name pn_1) hisR ?_
  intro p e s m args below meth c s₁ Bd hml0 hP0 hK
  obtain ⟨rfl, hZ, hh⟩ := hP0
  have hx := Bd.exec
  have hby := Bd.bytes
  have hml : c.maxLocals = 1 := hml0
  have hown : s.vm.findClass "com/example/glimmerboard/glimmerboard/pathagon/Side" = some m.cls := findClass_of_methodNamed Bd.named
  have hnm := (name_of_methodNamed Bd.named Bd.method).1
  have X0 : Stand p l e ({ frames := 0, cells := 0, slots := 0, locals := 0 } : Room) s m #[(.ref r1)] below meth c s₁ [] 0 0 := Stand.of_body Bd
  have e0 : s₁.heap = h0 := by rw [← hh, Bd.state]; rfl
  have N0 := Fr.nil n0
  suffices own_H : ∀ (P : State → Outcome → Prop), (∀ U o, U.status = .running → Ended U below o → (∃ v L, o = .returned v ∧ Qrm1L Z r1 r2 h0 n0 v U.heap L ∧ FrameEnd s o U L ({ frames := 0, cells := 0, slots := 0, locals := 0 } : Room).cells ({ frames := 0, cells := 0, slots := 0, locals := 0 } : Room).slots) → P U o) → own_Go p.tables e below P (s₁.setTop (mkF m 0 #[.val (.ref r1)] [])) from own_go (fun _ k => castTop (ef_rm1L m r1) k) (own_H _ (fun U o h1 h2 h3 => ⟨h1, h2, h3⟩))
  intro P hP
  refine own_go (st' := s₁.setTop (mkF m 1 #[.val (.ref r1)] [(.ref r1)])) (fun _ k => XS.aloadN X0.here hx rfl (hb hby d1_0) rfl rfl k) ?_
  obtain ⟨T1, X1, e1, st1⟩ := getS2 X0 hx hZ hown (host := "") (Or.inl (hw _ (List.mem_of_getElem? (i := 8) rfl))) Via.refl e0 pr1 (g := (mkF m 1 #[.val (.ref r1)] [(.ref r1)])) rfl (hb hby d1_1)
  refine own_go (st' := T1.setTop (mkF m 4 #[.val (.ref r1)] [(.ref r1), (.ref r1)])) (st1) ?_
  refine own_go (st' := T1.setTop (mkF m 7 #[.val (.ref r1)] [])) (fun _ k => Jvm.RoadKit.acmp (g := (mkF m 4 #[.val (.ref r1)] [(.ref r1), (.ref r1)])) X1 hx rfl rfl rfl (pc0 := 4) (pc' := 7) (same := true) rfl (hb hby d1_4) rfl (decide_eq_true rfl) (by decide) (by decide) k) ?_
  obtain ⟨T2, X2, e2, st2⟩ := getS2 X1 hx hZ hown (host := "") (Or.inl (hw _ (List.mem_of_getElem? (i := 9) rfl))) Via.refl e1 pr2 (g := (mkF m 7 #[.val (.ref r1)] [])) rfl (hb hby d1_7)
  refine own_go (st' := T2.setTop (mkF m 10 #[.val (.ref r1)] [(.ref r2)])) (st2) ?_
  refine own_go (st' := T2.setTop (mkF m 16 #[.val (.ref r1)] [(.ref r2)])) (fun _ k => XS.goto X2.here hx rfl (pc0 := 10) (pc' := 16) rfl (hb hby d1_10) (by decide) (by decide) k) ?_
  obtain ⟨fs, hr, hrun, hended, hW, hsame⟩ := X2.leave (v := some (.ref r2)) (fun h => by rw [Bd.returns] at h; cases h)
  refine ⟨_, _, ?_, hP _ _ hrun hended ⟨_, _, rfl, ?_, ⟨_, rfl⟩, hW, hsame.mono (by decide) (by decide)⟩⟩
  · exact retOut X2 hx Bd.returns rfl (Or.inr (Or.inr (Or.inr (Or.inr ⟨rfl, rfl, rfl⟩)))) (hb hby d1_16) hr
  · show Qrm1L Z r1 r2 h0 n0 _ T2.heap _
    rw [e2]
    exact ⟨rfl, N0, rfl⟩
theorem d1_13 : decode prog_33_method_4_code 13 = .ok (.getstatic 3, 3) := by decide +kernel
theorem ef_rm1D (m : MethodId) (x0 : Addr) : entryFrame m #[(.ref x0)] 1 = mkF m 0 #[.val (.ref x0)] [] := by first | (simp [entryFrame, mkF, argsToLocals, Value.category]; done) | rfl
def Qrm1D (Z : State) (r1 : Addr) (r2 : Addr) (h0 : Heap) (n0 : Nat) (v : Option Value) (h : Heap) (L : List Loc) : Prop := (v = some (.ref r1)) ∧ (Fr n0 L) ∧ (h = h0)
set_option maxRecDepth 65536 in
set_option maxHeartbeats 40000000 in
theorem rm1D (l : Launch) (Z : State) (a0 : Array Value) (hw : ∀ d ∈ tables_1, d.before a0 Z = true) (ws : List Jvm.Cond) (r1 : Addr) (r2 : Addr) (h0 : Heap) (n0 : Nat) (Z0 : n0 ≤ h0.size) (pr1 : Sta Z h0 "com/example/glimmerboard/glimmerboard/pathagon/Side" "LIGHT" "Lcom/example/glimmerboard/glimmerboard/pathagon/Side;" (.ref r1)) (pr2 : Sta Z h0 "com/example/glimmerboard/glimmerboard/pathagon/Side" "DARK" "Lcom/example/glimmerboard/glimmerboard/pathagon/Side;" (.ref r2)) (pr3 : r1 ≠ r2) :
    MetFree l (⟨"com/example/glimmerboard/glimmerboard/pathagon/Side", "opponent", "()Lcom/example/glimmerboard/glimmerboard/pathagon/Side;"⟩ : MethodName) (head1 (Jvm.Cond.code (⟨"com/example/glimmerboard/glimmerboard/pathagon/Side", "opponent", "()Lcom/example/glimmerboard/glimmerboard/pathagon/Side;"⟩ : MethodName) prog_33_method_4_code 1 (some (.object "com/example/glimmerboard/glimmerboard/pathagon/Side")) :: ws) ({ frames := 0, cells := 0, slots := 0, locals := 0 } : Room)) (fun a U => a = #[(.ref r2)] ∧ Z.Warmed39 U.vm ∧ U.heap = h0) (fun _ _ _ _ _ => True) (fun _ U o U' => ∃ v L, o = .returned v ∧ Qrm1D Z r1 r2 h0 n0 v U'.heap L ∧ FrameEnd U o U' L ({ frames := 0, cells := 0, slots := 0, locals := 0 } : Room).cells ({ frames := 0, cells := 0, slots := 0, locals := 0 } : Room).slots) := by
  refine MetFree.of_bodySF (plainFor_of_name pn_1) hisR ?_
  intro p e s m args below meth c s₁ Bd hml0 hP0 hK
  obtain ⟨rfl, hZ, hh⟩ := hP0
  have hx := Bd.exec
  have hby := Bd.bytes
  have hml : c.maxLocals = 1 := hml0
  have hown : s.vm.findClass "com/example/glimmerboard/glimmerboard/pathagon/Side" = some m.cls := findClass_of_methodNamed Bd.named
  have hnm := (name_of_methodNamed Bd.named Bd.method).1
  have X0 : Stand p l e ({ frames := 0, cells := 0, slots := 0, locals := 0 } : Room) s m #[(.ref r2)] below meth c s₁ [] 0 0 := Stand.of_body Bd
  have e0 : s₁.heap = h0 := by rw [← hh, Bd.state]; rfl
  have N0 := Fr.nil n0
  suffices own_H : ∀ (P : State → Outcome → Prop), (∀ U o, U.status = .running → Ended U below o → (∃ v L, o = .returned v ∧ Qrm1D Z r1 r2 h0 n0 v U.heap L ∧ FrameEnd s o U L ({ frames := 0, cells := 0, slots := 0, locals := 0 } : Room).cells ({ frames := 0, cells := 0, slots := 0, locals := 0 } : Room).slots) → P U o) → own_Go p.tables e below P (s₁.setTop (mkF m 0 #[.val (.ref r2)] [])) from own_go (fun _ k => castTop (ef_rm1D m r2) k) (own_H _ (fun U o h1 h2 h3 => ⟨h1, h2, h3⟩))
  intro P hP
  refine own_go (st' := s₁.setTop (mkF m 1 #[.val (.ref r2)] [(.ref r2)])) (fun _ k => XS.aloadN X0.here hx rfl (hb hby d1_0) rfl rfl k) ?_
  obtain ⟨T1, X1, e1, st1⟩ := getS2 X0 hx hZ hown (host := "") (Or.inl (hw _ (List.mem_of_getElem? (i := 8) rfl))) Via.refl e0 pr1 (g := (mkF m 1 #[.val (.ref r2)] [(.ref r2)])) rfl (hb hby d1_1)
  refine own_go (st' := T1.setTop (mkF m 4 #[.val (.ref r2)] [(.ref r1), (.ref r2)])) (st1) ?_
  have hc2 : ¬ (r2 = r1) := (by first | assumption | exact Ne.symm (by assumption) | (apply Nat.ne_of_lt; omega) | (apply Nat.ne_of_gt; omega))
  refine own_go (st' := T1.setTop (mkF m 13 #[.val (.ref r2)] [])) (fun _ k => Jvm.RoadKit.acmp (g := (mkF m 4 #[.val (.ref r2)] [(.ref r1), (.ref r2)])) X1 hx rfl rfl rfl (pc0 := 4) (pc' := 13) (same := false) rfl (hb hby d1_4) rfl (decide_eq_false fun q_ => hc2 (Value.ref.inj q_)) (by decide) (by decide) k) ?_
  obtain ⟨T3, X3, e3, st3⟩ := getS2 X1 hx hZ hown (host := "") (Or.inl (hw _ (List.mem_of_getElem? (i := 8) rfl))) Via.refl e1 pr1 (g := (mkF m 13 #[.val (.ref r2)] [])) rfl (hb hby d1_13)
  refine own_go (st' := T3.setTop (mkF m 16 #[.val (.ref r2)] [(.ref r1)])) (st3) ?_
  obtain ⟨fs, hr, hrun, hended, hW, hsame⟩ := X3.leave (v := some (.ref r1)) (fun h => by rw [Bd.returns] at h; cases h)
  refine ⟨_, _, ?_, hP _ _ hrun hended ⟨_, _, rfl, ?_, ⟨_, rfl⟩, hW, hsame.mono (by decide) (by decide)⟩⟩
  · exact retOut X3 hx Bd.returns rfl (Or.inr (Or.inr (Or.inr (Or.inr ⟨rfl, rfl, rfl⟩)))) (hb hby d1_16) hr
  · show Qrm1D Z r1 r2 h0 n0 _ T3.heap _
    rw [e3]
    exact ⟨rfl, N0, rfl⟩
theorem pd_0 : parseMethodDescriptor "()Lcom/example/glimmerboard/glimmerboard/pathagon/Side;" = some ⟨[], some (.object "com/example/glimmerboard/glimmerboard/pathagon/Side")⟩ := by decide +kernel
theorem pn_0 : plainName "com/example/glimmerboard/glimmerboard/pathagon/SideOpponentPinLaw" = true := by first | (simp [plainName, overriddenIn]; done) | decide +kernel
theorem ef_rm0 (m : MethodId) (x0 : Int32) : entryFrame m #[(.int x0)] maxLocals = mkF m 0 #[.val (.int x0), .unset, .unset] [] := by first | (simp [entryFrame, mkF, argsToLocals, Value.category, maxLocals]; done) | rfl
def Qrm0 (Z : State) (pk : Int32) (a_LIGHT : Addr) (a_DARK : Addr) (h0 : Heap) (n0 : Nat) (v : Option Value) (h : Heap) (L : List Loc) : Prop := v = some (.int 1) ∧ Fr n0 L ∧ True
set_option maxRecDepth 65536 in
set_option maxHeartbeats 40000000 in
theorem rm0 (l : Launch) (Z : State) (a0 : Array Value) (hw : ∀ d ∈ tables_1, d.before a0 Z = true) (ws : List Jvm.Cond) (pk : Int32) (a_LIGHT : Addr) (a_DARK : Addr) (h0 : Heap) (n0 : Nat) (Z0 : n0 ≤ h0.size) (pr1 : Sta Z h0 "com/example/glimmerboard/glimmerboard/pathagon/Side" "LIGHT" "Lcom/example/glimmerboard/glimmerboard/pathagon/Side;" (.ref a_LIGHT)) (pr2 : Exa Z h0 a_LIGHT "com/example/glimmerboard/glimmerboard/pathagon/Side") (pr3 : Sta Z h0 "com/example/glimmerboard/glimmerboard/pathagon/Side" "DARK" "Lcom/example/glimmerboard/glimmerboard/pathagon/Side;" (.ref a_DARK)) (pr4 : Exa Z h0 a_DARK "com/example/glimmerboard/glimmerboard/pathagon/Side") (pr5 : Fld Z h0 a_DARK "java/lang/Enum" "ordinal" "I" (.int (1 : Int32))) (pr6 : Fld Z h0 a_LIGHT "java/lang/Enum" "ordinal" "I" (.int (0 : Int32))) (pr7 : a_LIGHT ≠ a_DARK) :
    MetFree l x (head1 (Jvm.Cond.code x code maxLocals ret :: ws) room_1) (fun a U => a = #[(.int pk)] ∧ Z.Warmed39 U.vm ∧ U.heap = h0) (fun _ _ _ _ _ => True) (fun _ U o U' => ∃ v L, o = .returned v ∧ Qrm0 Z pk a_LIGHT a_DARK h0 n0 v U'.heap L ∧ FrameEnd U o U' L 0 0) := by
  refine MetFree.of_bodySF (plainFor_of_name pn_0) hisR ?_
  intro p e s m args below meth c s₁ Bd hml0 hP0 hK
  obtain ⟨rfl, hZ, hh⟩ := hP0
  have hx := Bd.exec
  have hby := Bd.bytes
  have hml : c.maxLocals = 3 := hml0
  have hown : s.vm.findClass "com/example/glimmerboard/glimmerboard/pathagon/SideOpponentPinLaw" = some m.cls := findClass_of_methodNamed Bd.named
  have hnm := (name_of_methodNamed Bd.named Bd.method).1
  have X0 : Stand p l e room_1 s m #[(.int pk)] below meth c s₁ [] 0 0 := Stand.of_body Bd
  have e0 : s₁.heap = h0 := by rw [← hh, Bd.state]; rfl
  have N0 := Fr.nil n0
  suffices own_H : ∀ (P : State → Outcome → Prop), (∀ U o, U.status = .running → Ended U below o → (∃ v L, o = .returned v ∧ Qrm0 Z pk a_LIGHT a_DARK h0 n0 v U.heap L ∧ FrameEnd s o U L 0 0) → P U o) → own_Go p.tables e below P (s₁.setTop (mkF m 0 #[.val (.int pk), .unset, .unset] [])) from own_go (fun _ k => castTop (ef_rm0 m pk) k) (own_H _ (fun U o h1 h2 h3 => ⟨h1, h2, h3⟩))
  intro P hP
  have lt_a_LIGHT : a_LIGHT < h0.size := pr2.lt
  have lt_a_DARK : a_DARK < h0.size := pr4.lt
  refine own_go (st' := s₁.setTop (mkF m 1 #[.val (.int pk), .unset, .unset] [(.int pk)])) (fun _ k => XS.iloadN X0.here hx rfl (hb hby at_0) rfl k) ?_
  refine own_go (st' := s₁.setTop (mkF m 2 #[.val (.int pk), .unset, .unset] [(.int (1 : Int32)), (.int pk)])) (fun _ k => XS.iconst X0.here hx rfl (hb hby at_1) k) ?_
  refine own_go (st' := s₁.setTop (mkF m 3 #[.val (.int pk), .unset, .unset] [(.int (pk &&& (1 : Int32)))])) (fun _ k => XS.iand X0.here hx rfl (hb hby at_2) rfl k) ?_
  by_cases hc1 : (pk &&& (1 : Int32)) = (0 : Int32)
  · --
    refine own_go (st' := s₁.setTop (mkF m 6 #[.val (.int pk), .unset, .unset] [])) (fun _ k => XS.ifNo X0.here hx rfl (hb hby at_3) rfl ((if0 _ _).trans (teq hc1).2) k) ?_
    obtain ⟨T2, X2, e2, st2⟩ := getS2 X0 hx hZ hown (host := "") (Or.inl (hw _ (List.mem_of_getElem? (i := 0) rfl))) Via.refl e0 pr1 (g := (mkF m 6 #[.val (.int pk), .unset, .unset] [])) rfl (hb hby at_6)
    refine own_go (st' := T2.setTop (mkF m 9 #[.val (.int pk), .unset, .unset] [(.ref a_LIGHT)])) (st2) ?_
    refine own_go (st' := T2.setTop (mkF m 15 #[.val (.int pk), .unset, .unset] [(.ref a_LIGHT)])) (fun _ k => XS.goto X2.here hx rfl (pc0 := 9) (pc' := 15) rfl (hb hby at_9) (by decide) (by decide) k) ?_
    refine own_go (st' := T2.setTop (mkF m 16 #[.val (.int pk), .val (.ref a_LIGHT), .unset] [])) (fun _ k => XS.astoreN X2.here hx rfl (hb hby at_15) rfl rfl (l' := #[.val (.int pk), .val (.ref a_LIGHT), .unset]) rfl k) ?_
    refine own_go (st' := T2.setTop (mkF m 17 #[.val (.int pk), .val (.ref a_LIGHT), .unset] [(.ref a_LIGHT)])) (fun _ k => XS.aloadN X2.here hx rfl (hb hby at_16) rfl rfl k) ?_
    obtain ⟨cq3, kq3, q3a, q3b, q3c⟩ := isOf hZ e2 pr2
    obtain ⟨_, _, ⟨T3, LC3, kC3, nC3⟩, -, X3, ⟨Lc3, hQ3, lq3, yq3, zq3⟩, st3⟩ := X2.virtualBack hx (y := (⟨"com/example/glimmerboard/glimmerboard/pathagon/Side", "opponent", "()Lcom/example/glimmerboard/glimmerboard/pathagon/Side;"⟩ : MethodName)) (z := (⟨"com/example/glimmerboard/glimmerboard/pathagon/Side", "opponent", "()Lcom/example/glimmerboard/glimmerboard/pathagon/Side;"⟩ : MethodName)) hown (mvT hZ (hw _ (List.mem_of_getElem? (i := 3) rfl))) (mvT hZ (hw _ (List.mem_of_getElem? (i := 4) rfl))) (notFace_of_selects (args := #[]) (mvT hZ (hw _ (List.mem_of_getElem? (i := 6) rfl)))) (mvT hZ (hw _ (List.mem_of_getElem? (i := 6) rfl))) (mvT hZ (hw _ (List.mem_of_getElem? (i := 5) rfl))) (by decide) (backOf (W := 0) (rm1L l Z a0 hw [] a_LIGHT a_DARK h0 n0 (by omega) pr1 pr3 (by first | assumption | exact Ne.symm (by assumption) | (apply Nat.ne_of_lt; omega) | (apply Nat.ne_of_gt; omega))) hZ (hw _ (List.mem_of_getElem? (i := 7) rfl)) (hw _ (List.mem_of_getElem? (i := 1) rfl)) (by decide) (by decide)) q3a q3c (g := (mkF m 17 #[.val (.int pk), .val (.ref a_LIGHT), .unset] [(.ref a_LIGHT)])) rfl (by rw [hml]; rfl) (Steps.refl _) (argsL := []) (rest := []) (lenOf pd_0 rfl) rfl (by show 2 * 0 + _ ≤ _; exact Nat.le_of_eq rfl) (hb hby at_17) (fun _ _ => ⟨rfl, e2, (by decide : 0 + 0 ≤ _), (by decide : 0 + 0 ≤ _)⟩)
    dsimp only [Pt.U, Pt.locs, Pt.cells, Pt.slots] at X3 lq3 yq3 zq3 st3 hQ3
    subst lq3 yq3 zq3
    obtain ⟨rfl, Nq3, eq3⟩ := hQ3
    have N3 := Fr.app N0 Nq3
    refine own_go (st' := T3.setTop (mkF m 20 #[.val (.int pk), .val (.ref a_LIGHT), .unset] [(.ref a_DARK)])) (fun _ k => st3.trans k) ?_
    refine own_go (st' := T3.setTop (mkF m 21 #[.val (.int pk), .val (.ref a_LIGHT), .val (.ref a_DARK)] [])) (fun _ k => XS.astoreN X3.here hx rfl (hb hby at_20) rfl rfl (l' := #[.val (.int pk), .val (.ref a_LIGHT), .val (.ref a_DARK)]) rfl k) ?_
    refine own_go (st' := T3.setTop (mkF m 22 #[.val (.int pk), .val (.ref a_LIGHT), .val (.ref a_DARK)] [(.ref a_DARK)])) (fun _ k => XS.aloadN X3.here hx rfl (hb hby at_21) rfl rfl k) ?_
    refine own_go (st' := T3.setTop (mkF m 25 #[.val (.int pk), .val (.ref a_LIGHT), .val (.ref a_DARK)] [])) (fun _ k => XS.ifnullNo X3.here hx rfl (hb hby at_22) rfl k) ?_
    refine own_go (st' := T3.setTop (mkF m 26 #[.val (.int pk), .val (.ref a_LIGHT), .val (.ref a_DARK)] [(.ref a_DARK)])) (fun _ k => XS.aloadN X3.here hx rfl (hb hby at_25) rfl rfl k) ?_
    refine own_go (st' := T3.setTop (mkF m 27 #[.val (.int pk), .val (.ref a_LIGHT), .val (.ref a_DARK)] [(.ref a_LIGHT), (.ref a_DARK)])) (fun _ k => XS.aloadN X3.here hx rfl (hb hby at_26) rfl rfl k) ?_
    have hc4 : ¬ (a_DARK = a_LIGHT) := (by first | assumption | exact Ne.symm (by assumption) | (apply Nat.ne_of_lt; omega) | (apply Nat.ne_of_gt; omega))
    refine own_go (st' := T3.setTop (mkF m 30 #[.val (.int pk), .val (.ref a_LIGHT), .val (.ref a_DARK)] [])) (fun _ k => Jvm.RoadKit.acmp (g := (mkF m 27 #[.val (.int pk), .val (.ref a_LIGHT), .val (.ref a_DARK)] [(.ref a_LIGHT), (.ref a_DARK)])) X3 hx rfl rfl rfl (pc0 := 27) (pc' := 30) (same := false) rfl (hb hby at_27) rfl (decide_eq_false fun q_ => hc4 (Value.ref.inj q_)) (by decide) (by decide) k) ?_
    refine own_go (st' := T3.setTop (mkF m 31 #[.val (.int pk), .val (.ref a_LIGHT), .val (.ref a_DARK)] [(.ref a_DARK)])) (fun _ k => XS.aloadN X3.here hx rfl (hb hby at_30) rfl rfl k) ?_
    obtain ⟨cq5, kq5, q5a, q5b, q5c⟩ := isOf hZ eq3 pr4
    obtain ⟨_, _, ⟨T5, LC5, kC5, nC5⟩, -, X5, ⟨Lc5, hQ5, lq5, yq5, zq5⟩, st5⟩ := X3.virtualBack hx (y := (⟨"com/example/glimmerboard/glimmerboard/pathagon/Side", "opponent", "()Lcom/example/glimmerboard/glimmerboard/pathagon/Side;"⟩ : MethodName)) (z := (⟨"com/example/glimmerboard/glimmerboard/pathagon/Side", "opponent", "()Lcom/example/glimmerboard/glimmerboard/pathagon/Side;"⟩ : MethodName)) hown (mvT hZ (hw _ (List.mem_of_getElem? (i := 3) rfl))) (mvT hZ (hw _ (List.mem_of_getElem? (i := 4) rfl))) (notFace_of_selects (args := #[]) (mvT hZ (hw _ (List.mem_of_getElem? (i := 6) rfl)))) (mvT hZ (hw _ (List.mem_of_getElem? (i := 6) rfl))) (mvT hZ (hw _ (List.mem_of_getElem? (i := 5) rfl))) (by decide) (backOf (W := 0) (rm1D l Z a0 hw [] a_LIGHT a_DARK h0 n0 (by omega) pr1 pr3 (by first | assumption | exact Ne.symm (by assumption) | (apply Nat.ne_of_lt; omega) | (apply Nat.ne_of_gt; omega))) hZ (hw _ (List.mem_of_getElem? (i := 7) rfl)) (hw _ (List.mem_of_getElem? (i := 1) rfl)) (by decide) (by decide)) q5a q5c (g := (mkF m 31 #[.val (.int pk), .val (.ref a_LIGHT), .val (.ref a_DARK)] [(.ref a_DARK)])) rfl (by rw [hml]; rfl) (Steps.refl _) (argsL := []) (rest := []) (lenOf pd_0 rfl) rfl (by show 2 * 0 + _ ≤ _; exact Nat.le_of_eq rfl) (hb hby at_31) (fun _ _ => ⟨rfl, eq3, (by decide : 0 + 0 ≤ _), (by decide : 0 + 0 ≤ _)⟩)
    dsimp only [Pt.U, Pt.locs, Pt.cells, Pt.slots] at X5 lq5 yq5 zq5 st5 hQ5
    subst lq5 yq5 zq5
    obtain ⟨rfl, Nq5, eq5⟩ := hQ5
    have N5 := Fr.app N3 Nq5
    refine own_go (st' := T5.setTop (mkF m 34 #[.val (.int pk), .val (.ref a_LIGHT), .val (.ref a_DARK)] [(.ref a_LIGHT)])) (fun _ k => st5.trans k) ?_
    refine own_go (st' := T5.setTop (mkF m 35 #[.val (.int pk), .val (.ref a_LIGHT), .val (.ref a_DARK)] [(.ref a_LIGHT), (.ref a_LIGHT)])) (fun _ k => XS.aloadN X5.here hx rfl (hb hby at_34) rfl rfl k) ?_
    refine own_go (st' := T5.setTop (mkF m 38 #[.val (.int pk), .val (.ref a_LIGHT), .val (.ref a_DARK)] [])) (fun _ k => Jvm.RoadKit.acmp (g := (mkF m 35 #[.val (.int pk), .val (.ref a_LIGHT), .val (.ref a_DARK)] [(.ref a_LIGHT), (.ref a_LIGHT)])) X5 hx rfl rfl rfl (pc0 := 35) (pc' := 38) (same := true) rfl (hb hby at_35) rfl (decide_eq_true rfl) (by decide) (by decide) k) ?_
    refine own_go (st' := T5.setTop (mkF m 39 #[.val (.int pk), .val (.ref a_LIGHT), .val (.ref a_DARK)] [(.int (1 : Int32))])) (fun _ k => XS.iconst X5.here hx rfl (hb hby at_38) k) ?_
    refine own_go (st' := T5.setTop (mkF m 43 #[.val (.int pk), .val (.ref a_LIGHT), .val (.ref a_DARK)] [(.int (1 : Int32))])) (fun _ k => XS.goto X5.here hx rfl (pc0 := 39) (pc' := 43) rfl (hb hby at_39) (by decide) (by decide) k) ?_
    obtain ⟨fs, hr, hrun, hended, hW, hsame⟩ := X5.leave (v := some (.int (1 : Int32))) (fun h => by rw [Bd.returns] at h; cases h)
    refine ⟨_, _, ?_, hP _ _ hrun hended ⟨_, _, rfl, ?_, ⟨_, rfl⟩, hW, hsame.mono (by decide) (by decide)⟩⟩
    · exact retN X5 hx (t := .boolean) Bd.returns (by simp) (hb hby at_43) hr
    · show Qrm0 Z pk a_LIGHT a_DARK h0 n0 _ T5.heap _
      rw [eq5]
      exact ⟨rfl, N5, trivial⟩
  · --
    refine own_go (st' := s₁.setTop (mkF m 12 #[.val (.int pk), .unset, .unset] [])) (fun _ k => XS.ifYes X0.here hx rfl (pc0 := 3) (pc' := 12) rfl (hb hby at_3) rfl ((if0 _ _).trans (feq hc1).2) (by decide) (by decide) k) ?_
    obtain ⟨T7, X7, e7, st7⟩ := getS2 X0 hx hZ hown (host := "") (Or.inl (hw _ (List.mem_of_getElem? (i := 11) rfl))) Via.refl e0 pr3 (g := (mkF m 12 #[.val (.int pk), .unset, .unset] [])) rfl (hb hby at_12)
    refine own_go (st' := T7.setTop (mkF m 15 #[.val (.int pk), .unset, .unset] [(.ref a_DARK)])) (st7) ?_
    refine own_go (st' := T7.setTop (mkF m 16 #[.val (.int pk), .val (.ref a_DARK), .unset] [])) (fun _ k => XS.astoreN X7.here hx rfl (hb hby at_15) rfl rfl (l' := #[.val (.int pk), .val (.ref a_DARK), .unset]) rfl k) ?_
    refine own_go (st' := T7.setTop (mkF m 17 #[.val (.int pk), .val (.ref a_DARK), .unset] [(.ref a_DARK)])) (fun _ k => XS.aloadN X7.here hx rfl (hb hby at_16) rfl rfl k) ?_
    obtain ⟨cq8, kq8, q8a, q8b, q8c⟩ := isOf hZ e7 pr4
    obtain ⟨_, _, ⟨T8, LC8, kC8, nC8⟩, -, X8, ⟨Lc8, hQ8, lq8, yq8, zq8⟩, st8⟩ := X7.virtualBack hx (y := (⟨"com/example/glimmerboard/glimmerboard/pathagon/Side", "opponent", "()Lcom/example/glimmerboard/glimmerboard/pathagon/Side;"⟩ : MethodName)) (z := (⟨"com/example/glimmerboard/glimmerboard/pathagon/Side", "opponent", "()Lcom/example/glimmerboard/glimmerboard/pathagon/Side;"⟩ : MethodName)) hown (mvT hZ (hw _ (List.mem_of_getElem? (i := 3) rfl))) (mvT hZ (hw _ (List.mem_of_getElem? (i := 4) rfl))) (notFace_of_selects (args := #[]) (mvT hZ (hw _ (List.mem_of_getElem? (i := 6) rfl)))) (mvT hZ (hw _ (List.mem_of_getElem? (i := 6) rfl))) (mvT hZ (hw _ (List.mem_of_getElem? (i := 5) rfl))) (by decide) (backOf (W := 0) (rm1D l Z a0 hw [] a_LIGHT a_DARK h0 n0 (by omega) pr1 pr3 (by first | assumption | exact Ne.symm (by assumption) | (apply Nat.ne_of_lt; omega) | (apply Nat.ne_of_gt; omega))) hZ (hw _ (List.mem_of_getElem? (i := 7) rfl)) (hw _ (List.mem_of_getElem? (i := 1) rfl)) (by decide) (by decide)) q8a q8c (g := (mkF m 17 #[.val (.int pk), .val (.ref a_DARK), .unset] [(.ref a_DARK)])) rfl (by rw [hml]; rfl) (Steps.refl _) (argsL := []) (rest := []) (lenOf pd_0 rfl) rfl (by show 2 * 0 + _ ≤ _; exact Nat.le_of_eq rfl) (hb hby at_17) (fun _ _ => ⟨rfl, e7, (by decide : 0 + 0 ≤ _), (by decide : 0 + 0 ≤ _)⟩)
    dsimp only [Pt.U, Pt.locs, Pt.cells, Pt.slots] at X8 lq8 yq8 zq8 st8 hQ8
    subst lq8 yq8 zq8
    obtain ⟨rfl, Nq8, eq8⟩ := hQ8
    have N8 := Fr.app N0 Nq8
    refine own_go (st' := T8.setTop (mkF m 20 #[.val (.int pk), .val (.ref a_DARK), .unset] [(.ref a_LIGHT)])) (fun _ k => st8.trans k) ?_
    refine own_go (st' := T8.setTop (mkF m 21 #[.val (.int pk), .val (.ref a_DARK), .val (.ref a_LIGHT)] [])) (fun _ k => XS.astoreN X8.here hx rfl (hb hby at_20) rfl rfl (l' := #[.val (.int pk), .val (.ref a_DARK), .val (.ref a_LIGHT)]) rfl k) ?_
    refine own_go (st' := T8.setTop (mkF m 22 #[.val (.int pk), .val (.ref a_DARK), .val (.ref a_LIGHT)] [(.ref a_LIGHT)])) (fun _ k => XS.aloadN X8.here hx rfl (hb hby at_21) rfl rfl k) ?_
    refine own_go (st' := T8.setTop (mkF m 25 #[.val (.int pk), .val (.ref a_DARK), .val (.ref a_LIGHT)] [])) (fun _ k => XS.ifnullNo X8.here hx rfl (hb hby at_22) rfl k) ?_
    refine own_go (st' := T8.setTop (mkF m 26 #[.val (.int pk), .val (.ref a_DARK), .val (.ref a_LIGHT)] [(.ref a_LIGHT)])) (fun _ k => XS.aloadN X8.here hx rfl (hb hby at_25) rfl rfl k) ?_
    refine own_go (st' := T8.setTop (mkF m 27 #[.val (.int pk), .val (.ref a_DARK), .val (.ref a_LIGHT)] [(.ref a_DARK), (.ref a_LIGHT)])) (fun _ k => XS.aloadN X8.here hx rfl (hb hby at_26) rfl rfl k) ?_
    have hc9 : ¬ (a_LIGHT = a_DARK) := (by first | assumption | exact Ne.symm (by assumption) | (apply Nat.ne_of_lt; omega) | (apply Nat.ne_of_gt; omega))
    refine own_go (st' := T8.setTop (mkF m 30 #[.val (.int pk), .val (.ref a_DARK), .val (.ref a_LIGHT)] [])) (fun _ k => Jvm.RoadKit.acmp (g := (mkF m 27 #[.val (.int pk), .val (.ref a_DARK), .val (.ref a_LIGHT)] [(.ref a_DARK), (.ref a_LIGHT)])) X8 hx rfl rfl rfl (pc0 := 27) (pc' := 30) (same := false) rfl (hb hby at_27) rfl (decide_eq_false fun q_ => hc9 (Value.ref.inj q_)) (by decide) (by decide) k) ?_
    refine own_go (st' := T8.setTop (mkF m 31 #[.val (.int pk), .val (.ref a_DARK), .val (.ref a_LIGHT)] [(.ref a_LIGHT)])) (fun _ k => XS.aloadN X8.here hx rfl (hb hby at_30) rfl rfl k) ?_
    obtain ⟨cq10, kq10, q10a, q10b, q10c⟩ := isOf hZ eq8 pr2
    obtain ⟨_, _, ⟨T10, LC10, kC10, nC10⟩, -, X10, ⟨Lc10, hQ10, lq10, yq10, zq10⟩, st10⟩ := X8.virtualBack hx (y := (⟨"com/example/glimmerboard/glimmerboard/pathagon/Side", "opponent", "()Lcom/example/glimmerboard/glimmerboard/pathagon/Side;"⟩ : MethodName)) (z := (⟨"com/example/glimmerboard/glimmerboard/pathagon/Side", "opponent", "()Lcom/example/glimmerboard/glimmerboard/pathagon/Side;"⟩ : MethodName)) hown (mvT hZ (hw _ (List.mem_of_getElem? (i := 3) rfl))) (mvT hZ (hw _ (List.mem_of_getElem? (i := 4) rfl))) (notFace_of_selects (args := #[]) (mvT hZ (hw _ (List.mem_of_getElem? (i := 6) rfl)))) (mvT hZ (hw _ (List.mem_of_getElem? (i := 6) rfl))) (mvT hZ (hw _ (List.mem_of_getElem? (i := 5) rfl))) (by decide) (backOf (W := 0) (rm1L l Z a0 hw [] a_LIGHT a_DARK h0 n0 (by omega) pr1 pr3 (by first | assumption | exact Ne.symm (by assumption) | (apply Nat.ne_of_lt; omega) | (apply Nat.ne_of_gt; omega))) hZ (hw _ (List.mem_of_getElem? (i := 7) rfl)) (hw _ (List.mem_of_getElem? (i := 1) rfl)) (by decide) (by decide)) q10a q10c (g := (mkF m 31 #[.val (.int pk), .val (.ref a_DARK), .val (.ref a_LIGHT)] [(.ref a_LIGHT)])) rfl (by rw [hml]; rfl) (Steps.refl _) (argsL := []) (rest := []) (lenOf pd_0 rfl) rfl (by show 2 * 0 + _ ≤ _; exact Nat.le_of_eq rfl) (hb hby at_31) (fun _ _ => ⟨rfl, eq8, (by decide : 0 + 0 ≤ _), (by decide : 0 + 0 ≤ _)⟩)
    dsimp only [Pt.U, Pt.locs, Pt.cells, Pt.slots] at X10 lq10 yq10 zq10 st10 hQ10
    subst lq10 yq10 zq10
    obtain ⟨rfl, Nq10, eq10⟩ := hQ10
    have N10 := Fr.app N8 Nq10
    refine own_go (st' := T10.setTop (mkF m 34 #[.val (.int pk), .val (.ref a_DARK), .val (.ref a_LIGHT)] [(.ref a_DARK)])) (fun _ k => st10.trans k) ?_
    refine own_go (st' := T10.setTop (mkF m 35 #[.val (.int pk), .val (.ref a_DARK), .val (.ref a_LIGHT)] [(.ref a_DARK), (.ref a_DARK)])) (fun _ k => XS.aloadN X10.here hx rfl (hb hby at_34) rfl rfl k) ?_
    refine own_go (st' := T10.setTop (mkF m 38 #[.val (.int pk), .val (.ref a_DARK), .val (.ref a_LIGHT)] [])) (fun _ k => Jvm.RoadKit.acmp (g := (mkF m 35 #[.val (.int pk), .val (.ref a_DARK), .val (.ref a_LIGHT)] [(.ref a_DARK), (.ref a_DARK)])) X10 hx rfl rfl rfl (pc0 := 35) (pc' := 38) (same := true) rfl (hb hby at_35) rfl (decide_eq_true rfl) (by decide) (by decide) k) ?_
    refine own_go (st' := T10.setTop (mkF m 39 #[.val (.int pk), .val (.ref a_DARK), .val (.ref a_LIGHT)] [(.int (1 : Int32))])) (fun _ k => XS.iconst X10.here hx rfl (hb hby at_38) k) ?_
    refine own_go (st' := T10.setTop (mkF m 43 #[.val (.int pk), .val (.ref a_DARK), .val (.ref a_LIGHT)] [(.int (1 : Int32))])) (fun _ k => XS.goto X10.here hx rfl (pc0 := 39) (pc' := 43) rfl (hb hby at_39) (by decide) (by decide) k) ?_
    obtain ⟨fs, hr, hrun, hended, hW, hsame⟩ := X10.leave (v := some (.int (1 : Int32))) (fun h => by rw [Bd.returns] at h; cases h)
    refine ⟨_, _, ?_, hP _ _ hrun hended ⟨_, _, rfl, ?_, ⟨_, rfl⟩, hW, hsame.mono (by decide) (by decide)⟩⟩
    · exact retN X10 hx (t := .boolean) Bd.returns (by simp) (hb hby at_43) hr
    · show Qrm0 Z pk a_LIGHT a_DARK h0 n0 _ T10.heap _
      rw [eq10]
      exact ⟨rfl, N10, trivial⟩
set_option maxRecDepth 65536 in
set_option maxHeartbeats 40000000 in
theorem comes_1 {Post : Tables → Env → Array Value → State → Outcome → State → Prop} (hpost : ∀ tb e args s v u, (limb_1_1.after args s (.returned v) u = true ∧ limb_1_2.after args s (.returned v) u = true ∧ True) → FrameEnd s (.returned v) u (Jvm.fieldLocs frame_1_writes args s ++ Jvm.arrayLocs frame_1_arrays args s ++ Jvm.staticLocs frame_1_statics s) 0 0 → Post tb e args s (.returned v) u) :
    ArmFor flags0 classFile x code maxLocals ret World_1 tables_1 room_1 Calls_1 rest_1 Pre_1 Post := by
  intro l hfl _ _ p e ha hc hk s m args below hf hA hF happ hP
  obtain ⟨hcalls, hrest, hpre⟩ := hP
  obtain ⟨-, -, -, hnamed, -, -, -, hat⟩ := (Spec.applies_iff hf).mp happ
  obtain ⟨hg, hn⟩ := and_e (Cond.before_iff.mp (show (Jvm.Cond.and given_1 narrow_1).before args s = true from hpre))
  obtain ⟨h1, h2⟩ := and_e hg
  obtain ⟨w0, rfl⟩ : ∃ w0 : Value, args = #[w0] := by
    have hs : args.size = 1 := by simpa [Cond.value, given_1] using h1
    obtain ⟨L⟩ := args
    match L, hs with
    | [w0], _ => exact ⟨w0, rfl⟩
  have hw := fun d (hd : d ∈ tables_1) => atoms_spec (ws := Jvm.Cond.code x code maxLocals ret :: tables_1) hat d (List.mem_cons_of_mem _ hd)
  have hfit : Fit s := fun {y c} hc i hi => by
    obtain ⟨ha, rfl⟩ := Array.getElem?_eq_some_iff.mp hc
    have q := List.all_eq_true.mp ((Array.all_eq_true_iff_forall_mem.mp hF) _ (Array.getElem_mem ha)) i (List.mem_range.mpr hi)
    simpa [Array.getElem?_eq_getElem hi] using q
  obtain ⟨pk, ev0⟩ := is_v h2
  obtain rfl : w0 = (.int pk) := Option.some.inj ev0
  obtain ⟨nw0, nr0⟩ := and_e hn
  obtain ⟨nw1, nr1⟩ := and_e nr0
  obtain ⟨nw2, nr2⟩ := and_e nr1
  have nw3 := nr2
  obtain ⟨a_LIGHT, ea_LIGHT⟩ := exa_v nw0
  have sa_LIGHT : Sta s s.heap "com/example/glimmerboard/glimmerboard/pathagon/Side" "LIGHT" "Lcom/example/glimmerboard/glimmerboard/pathagon/Side;" (.ref a_LIGHT) := Sta.start ea_LIGHT (Or.inr ⟨(hw _ (List.mem_of_getElem? (i := 1) rfl)), (hw _ (List.mem_of_getElem? (i := 2) rfl))⟩)
  have xa_LIGHT : Exa s s.heap a_LIGHT "com/example/glimmerboard/glimmerboard/pathagon/Side" := Exa.start ea_LIGHT nw0
  obtain ⟨a_DARK, ea_DARK⟩ := exa_v nw1
  have sa_DARK : Sta s s.heap "com/example/glimmerboard/glimmerboard/pathagon/Side" "DARK" "Lcom/example/glimmerboard/glimmerboard/pathagon/Side;" (.ref a_DARK) := Sta.start ea_DARK (Or.inr ⟨(hw _ (List.mem_of_getElem? (i := 1) rfl)), (hw _ (List.mem_of_getElem? (i := 10) rfl))⟩)
  have xa_DARK : Exa s s.heap a_DARK "com/example/glimmerboard/glimmerboard/pathagon/Side" := Exa.start ea_DARK nw1
  have fa_DARK_ordinal : Fld s s.heap a_DARK "java/lang/Enum" "ordinal" "I" (.int (1 : Int32)) := own_fld ea_DARK nw2
  have fa_LIGHT_ordinal : Fld s s.heap a_LIGHT "java/lang/Enum" "ordinal" "I" (.int (0 : Int32)) := own_fld ea_LIGHT nw3
  obtain ⟨n, o, h1, h2, h3, _, L, rfl, hQ, hq⟩ := rm0 l s _ hw tables_1 pk a_LIGHT a_DARK s.heap s.heap.size (Nat.le_refl _) sa_LIGHT xa_LIGHT sa_DARK xa_DARK fa_DARK_ordinal fa_LIGHT_ordinal (Fld.ne fa_LIGHT_ordinal fa_DARK_ordinal (by simp)) p e ha hc hk s m _ below hf ((Spec.applies_iff_loose hf).mp happ).1 ⟨rfl, State.Warmed39.refl s, rfl⟩ trivial
  obtain ⟨rfl, N, -⟩ := hQ
  refine ⟨n, _, h1, h2, h3, hpost _ _ _ _ _ _ ⟨Cond.after_iff.mpr rfl, Cond.after_iff.mpr (eq_i res_at (Term.int_eval (1)) rfl), trivial⟩ ⟨hq.1, hq.2.1, (hq.2.2.sift fun y hy => Or.inr (N y hy)).mono (by decide) (by decide)⟩⟩
theorem main_1_1 : Claimed_1_1 := comes_1 fun _ _ _ _ _ _ h hF => ⟨h.1, hF⟩
theorem main_1_2 : Claimed_1_2 := comes_1 fun _ _ _ _ _ _ h hF => ⟨h.2.1, hF⟩
end Jvm.Pilot.@@N@@
namespace Jvm.Pilot.@@N@@
open Jvm Jvm.ClassFile Sem Op Lib Jvm.Free Jvm.Stand Jvm.Pilot.@@N@@.Jvm.D
/-! MADE BY PROGRAM (witnessworld.py) out of the Statement's table words and the real class files: 12 classes; the members and pool entries that the words name. The judged class is class 1, her method 1. -/
namespace start1
open Jvm.ClassFile
def u (s : String) : CpInfo := .utf8 (stringToUtf16 s)
/-- a pool by its gaps: so many unusable entries, then the entry; so many at the end -/
def gap : Nat → List CpInfo → List CpInfo
  | 0, r => r
  | n + 1, r => .unusable :: gap n r
def poolList (es : List (Nat × CpInfo)) (last : Nat) : List CpInfo := es.foldr (fun e r => gap e.1 (e.2 :: r)) (gap last [])
def pool (es : List (Nat × CpInfo)) (last : Nat) : Array CpInfo := ⟨poolList es last⟩
def fileOf (pool : Array CpInfo) (this : Nat) (attrs : Array Attribute := #[]) (ms : Array MethodInfo := #[]) (fl : Nat := 33) (sup : Nat := 0) (ifs : Array Nat := #[]) (fds : Array FieldInfo := #[]) : ClassFile where
  minorVersion := 0
  majorVersion := 65
  constantPool := pool
  accessFlags := fl
  thisClass := this
  superClass := sup
  interfaces := ifs
  fields := fds
  methods := ms
  attributes := attrs
def plain (name : String) (sup : Option ClassId) : Class where
  name := name
  kind := .ordinary
  loader := none
  accessFlags := 33
  super := sup
  interfaces := #[]
  cf := none
  fields := #[]
  methods := #[]
  instanceTypes := #[]
  staticTypes := #[]
  resolved := #[]
  callSites := []
  init := .initialized
  statics := none
  mirror := none

def pool0 : Array CpInfo := pool [(5, u "<init>"), (0, u "()V"), (1, .class_ 10), (1, u "java/lang/Object")] 113

def k0m0 : Method := { name := "<init>", desc := "()V", sig := { parameters := [], returnType := none }, accessFlags := 1, code := none }
/-- java/lang/Object -/
def k0 : Class := { plain "java/lang/Object" none with
  accessFlags := 33
  interfaces := #[]
  cf := some (fileOf pool0 8 #[] #[{ accessFlags := 1, nameIndex := 5, descriptorIndex := 6, attributes := #[] }] 33 0 #[] #[])
  fields := #[]
  methods := #[k0m0]
  instanceTypes := #[]
  staticTypes := #[]
  resolved := Array.replicate 124 none
  statics := none }

def pool1 : Array CpInfo := pool [(2, .class_ 4), (1, u "java/lang/Object"), (0, u "<init>"), (0, u "()V"), (0, .fieldref 8 9), (0, .class_ 10), (0, .nameAndType 11 12), (0, u "com/example/glimmerboard/glimmerboard/pathagon/Side"), (0, u "LIGHT"), (0, u "Lcom/example/glimmerboard/glimmerboard/pathagon/Side;"), (0, .fieldref 8 14), (0, .nameAndType 15 12), (0, u "DARK"), (0, .methodref 8 17), (0, .nameAndType 18 19), (0, u "opponent"), (0, u "()Lcom/example/glimmerboard/glimmerboard/pathagon/Side;"), (0, .class_ 21), (0, u "com/example/glimmerboard/glimmerboard/pathagon/SideOpponentPinLaw"), (2, u "law"), (0, u "(I)Z")] 3

def k1m0 : Method := { name := "<init>", desc := "()V", sig := { parameters := [], returnType := none }, accessFlags := 1, code := none }
def k1c1 : Code := { maxStack := 2, maxLocals := 3, code := code, exceptionTable := #[], attributes := #[] }
def k1m1 : Method := { name := "law", desc := "(I)Z", sig := { parameters := [.int], returnType := some .boolean }, accessFlags := 9, code := some k1c1 }
/-- com/example/glimmerboard/glimmerboard/pathagon/SideOpponentPinLaw -/
def k1 : Class := { plain "com/example/glimmerboard/glimmerboard/pathagon/SideOpponentPinLaw" (some 0) with
  accessFlags := 49
  interfaces := #[]
  cf := some (fileOf pool1 20 #[] #[{ accessFlags := 1, nameIndex := 5, descriptorIndex := 6, attributes := #[] }, { accessFlags := 9, nameIndex := 24, descriptorIndex := 25, attributes := #[] }] 49 2 #[] #[])
  fields := #[]
  methods := #[k1m0, k1m1]
  instanceTypes := #[]
  staticTypes := #[]
  resolved := Array.replicate 29 none
  statics := none }

def pool2 : Array CpInfo := pool [(1, .class_ 2), (0, u "java/lang/constant/Constable"), (0, .class_ 4), (0, u "java/lang/Object")] 6

/-- java/lang/constant/Constable -/
def k2 : Class := { plain "java/lang/constant/Constable" (some 0) with
  accessFlags := 1537
  interfaces := #[]
  cf := some (fileOf pool2 1 #[] #[] 1537 3 #[] #[])
  fields := #[]
  methods := #[]
  instanceTypes := #[]
  staticTypes := #[]
  resolved := Array.replicate 11 none
  statics := none }

def pool3 : Array CpInfo := pool [(1, .class_ 2), (0, u "java/lang/Comparable"), (0, .class_ 4), (0, u "java/lang/Object")] 7

/-- java/lang/Comparable -/
def k3 : Class := { plain "java/lang/Comparable" (some 0) with
  accessFlags := 1537
  interfaces := #[]
  cf := some (fileOf pool3 1 #[] #[] 1537 3 #[] #[])
  fields := #[]
  methods := #[]
  instanceTypes := #[]
  staticTypes := #[]
  resolved := Array.replicate 12 none
  statics := none }

def pool4 : Array CpInfo := pool [(1, .class_ 2), (0, u "java/io/Serializable"), (0, .class_ 4), (0, u "java/lang/Object")] 2

/-- java/io/Serializable -/
def k4 : Class := { plain "java/io/Serializable" (some 0) with
  accessFlags := 1537
  interfaces := #[]
  cf := some (fileOf pool4 1 #[] #[] 1537 3 #[] #[])
  fields := #[]
  methods := #[]
  instanceTypes := #[]
  staticTypes := #[]
  resolved := Array.replicate 7 none
  statics := none }

def pool5 : Array CpInfo := pool [(2, .class_ 4), (1, u "java/lang/Enum"), (0, u "name"), (0, u "Ljava/lang/String;"), (2, u "ordinal"), (0, u "I"), (1, .class_ 14), (1, u "java/lang/Object"), (4, u "hash"), (86, .class_ 108), (1, u "java/lang/Enum$EnumDesc"), (2, .class_ 112), (0, u "java/lang/constant/Constable"), (0, .class_ 114), (0, u "java/lang/Comparable"), (0, .class_ 116), (0, u "java/io/Serializable")] 87

/-- java/lang/Enum -/
def k5 : Class := { plain "java/lang/Enum" (some 0) with
  accessFlags := 1057
  interfaces := #[2, 3, 4]
  cf := some (fileOf pool5 2 #[.nestMembers #[106]] #[] 1057 12 #[111, 113, 115] #[{ accessFlags := 18, nameIndex := 5, descriptorIndex := 6, attributes := #[] }, { accessFlags := 18, nameIndex := 9, descriptorIndex := 10, attributes := #[] }, { accessFlags := 2, nameIndex := 19, descriptorIndex := 10, attributes := #[] }])
  fields := #[{ name := "name", type := (.object "java/lang/String"), accessFlags := 18, slot := 0, constantValue := 0 }, { name := "ordinal", type := .int, accessFlags := 18, slot := 1, constantValue := 0 }, { name := "hash", type := .int, accessFlags := 2, slot := 2, constantValue := 0 }]
  methods := #[]
  instanceTypes := #[(.object "java/lang/String"), .int, .int]
  staticTypes := #[]
  resolved := Array.replicate 204 none
  statics := none }

def pool6 : Array CpInfo := pool [(1, .class_ 2), (0, u "com/example/glimmerboard/glimmerboard/pathagon/Side"), (0, .fieldref 1 4), (0, .nameAndType 5 6), (0, u "LIGHT"), (0, u "Lcom/example/glimmerboard/glimmerboard/pathagon/Side;"), (0, .fieldref 1 8), (0, .nameAndType 9 6), (0, u "DARK"), (2, u "$VALUES"), (0, u "[Lcom/example/glimmerboard/glimmerboard/pathagon/Side;"), (6, .class_ 22), (1, u "java/lang/Enum"), (8, u "word"), (0, u "Ljava/lang/String;"), (2, u "mark"), (0, u "C"), (36, u "opponent"), (0, u "()Lcom/example/glimmerboard/glimmerboard/pathagon/Side;")] 10

def k6c0 : Code := { maxStack := 2, maxLocals := 1, code := prog_33_method_4_code, exceptionTable := #[], attributes := #[] }
def k6m0 : Method := { name := "opponent", desc := "()Lcom/example/glimmerboard/glimmerboard/pathagon/Side;", sig := { parameters := [], returnType := some (.object "com/example/glimmerboard/glimmerboard/pathagon/Side") }, accessFlags := 0, code := some k6c0 }
/-- com/example/glimmerboard/glimmerboard/pathagon/Side -/
def k6 : Class := { plain "com/example/glimmerboard/glimmerboard/pathagon/Side" (some 5) with
  accessFlags := 16432
  interfaces := #[]
  cf := some (fileOf pool6 1 #[] #[{ accessFlags := 0, nameIndex := 73, descriptorIndex := 74, attributes := #[] }] 16432 20 #[] #[{ accessFlags := 16409, nameIndex := 5, descriptorIndex := 6, attributes := #[] }, { accessFlags := 16409, nameIndex := 9, descriptorIndex := 6, attributes := #[] }, { accessFlags := 16, nameIndex := 31, descriptorIndex := 32, attributes := #[] }, { accessFlags := 16, nameIndex := 35, descriptorIndex := 36, attributes := #[] }, { accessFlags := 4122, nameIndex := 12, descriptorIndex := 13, attributes := #[] }])
  fields := #[{ name := "LIGHT", type := (.object "com/example/glimmerboard/glimmerboard/pathagon/Side"), accessFlags := 16409, slot := 0, constantValue := 0 }, { name := "DARK", type := (.object "com/example/glimmerboard/glimmerboard/pathagon/Side"), accessFlags := 16409, slot := 1, constantValue := 0 }, { name := "word", type := (.object "java/lang/String"), accessFlags := 16, slot := 3, constantValue := 0 }, { name := "mark", type := .char, accessFlags := 16, slot := 4, constantValue := 0 }, { name := "$VALUES", type := (.array (.object "com/example/glimmerboard/glimmerboard/pathagon/Side")), accessFlags := 4122, slot := 2, constantValue := 0 }]
  methods := #[k6m0]
  instanceTypes := #[(.object "java/lang/String"), .int, .int, (.object "java/lang/String"), .char]
  staticTypes := #[(.object "com/example/glimmerboard/glimmerboard/pathagon/Side"), (.object "com/example/glimmerboard/glimmerboard/pathagon/Side"), (.array (.object "com/example/glimmerboard/glimmerboard/pathagon/Side"))]
  resolved := Array.replicate 85 none
  statics := some 0 }

def pool7 : Array CpInfo := pool [(1, u "java/lang/Cloneable"), (0, .class_ 1), (0, u "java/lang/Object"), (0, .class_ 3)] 3

/-- java/lang/Cloneable -/
def k7 : Class := { plain "java/lang/Cloneable" (some 0) with
  accessFlags := 1537
  interfaces := #[]
  cf := some (fileOf pool7 2 #[] #[] 1537 4 #[] #[])
  fields := #[]
  methods := #[]
  instanceTypes := #[]
  staticTypes := #[]
  resolved := Array.replicate 8 none
  statics := none }

/-- the primitive byte -/
def k8 : Class := { plain "byte" none with kind := .primitive 'B', accessFlags := 0x411 }
/-- [B -/
def k9 : Class := { plain "[B" (some 0) with kind := .array 8 .byte, interfaces := #[7, 4], accessFlags := 1041 }

/-- the primitive int -/
def k10 : Class := { plain "int" none with kind := .primitive 'I', accessFlags := 0x411 }
/-- [I -/
def k11 : Class := { plain "[I" (some 0) with kind := .array 10 .int, interfaces := #[7, 4], accessFlags := 1041 }

def heap : Heap := #[{ cls := 6, slots := #[.ref 1, .ref 2, .null], vm := .statics 6 },
  { cls := 6, slots := #[.null, .int 0, .int 0, .null, .int 0], vm := .none },
  { cls := 6, slots := #[.null, .int 1, .int 0, .null, .int 0], vm := .none }]
def classes : Array Class := #[k0, k1, k2, k3, k4, k5, k6, k7, k8, k9, k10, k11]
def interned : List (Array UInt16 × Addr) := []
def slotsUsed : Nat := 13
def theMethod : MethodId := ⟨1, 1⟩
def args0 : Array Value := #[.int 5]
def aboutOver (below : List Frame) : State where
  vm := { classes := classes, interned := interned.toArray }
  heap := heap
  slotsUsed := slotsUsed
  threads := #[{ frames := .invoking theMethod args0 :: below }]
def below0 : List Frame := [.native { method := ⟨0, 0⟩, args := #[] }]
def about1 : State := aboutOver below0
def p0 : Program := .bare "" "" ""
def e0 : Env := launch0.env 0 0 0
theorem w_frames : about1.frames = Frame.invoking theMethod args0 :: below0 := rfl
set_option maxRecDepth 65536 in
theorem w_args : argsFit about1.vm theMethod args0 = true := by decide +kernel
set_option maxRecDepth 65536 in
theorem w_heap : heapFits about1 = true := by decide +kernel
set_option maxRecDepth 65536 in
theorem w_runnable : about1.curStatus? = some .runnable := by decide +kernel
set_option maxRecDepth 65536 in
theorem w_alone : about1.alone = true := by decide +kernel
set_option maxRecDepth 65536 in
theorem w_named : about1.methodNamed? x = some theMethod := by decide +kernel
set_option maxRecDepth 65536 in
theorem w_hears : about1.hears theMethod below0 = true := by decide +kernel
set_option maxRecDepth 65536 in
theorem w_ripe : about1.ripe theMethod args0 below0 = true := by decide +kernel
theorem w_running : about1.status = .running := rfl
set_option maxRecDepth 65536 in
theorem w_room : about1.hasRoom e0.platform room_1 = true :=
  launch0.hasRoom_least _ room_1 (by decide +kernel) (by decide +kernel) (by decide +kernel) (by decide +kernel) (by decide +kernel) (by decide +kernel)
theorem allAtoms_all (ts : List Jvm.Cond) (a : Array Jvm.Value) (st : Jvm.State) : (allAtoms ts).before a st = ts.all (fun c => c.before a st) := by
  induction ts with
  | nil => rfl
  | cons c t ih =>
    show (Jvm.Cond.and c (allAtoms t)).before a st = _
    rw [Jvm.Cond.before_and, ih, List.all_cons]
def words1 : List Jvm.Cond := Jvm.Cond.code x code maxLocals ret :: tables_1
/-- a 'code' word, met by the world's own term for the bytes: nothing is compared byte by byte -/
theorem code_word {y : MethodName} {bytes : ByteArray} {mx : Nat} {rt : Option FieldType} {a : Array Value} {s : State} {m : MethodId} {meth : Method} {c : Code} (h1 : s.methodNamed? y = some m) (h2 : s.vm.method? m = some meth) (h3 : meth.code = some c) (h4 : c.code = bytes)
    (h5 : (c.maxLocals == mx && c.exceptionTable.isEmpty && decide (c.maxStack ≤ mostOperands) && decide (meth.sig.returnType = rt) && !meth.locks && decide (parseMethodDescriptor y.desc = some meth.sig)) = true) : (Jvm.Cond.code y bytes mx rt).before a s = true := by
  simp only [Bool.and_eq_true, beq_iff_eq, Bool.not_eq_true', decide_eq_true_eq] at h5
  obtain ⟨⟨⟨⟨⟨g1, g2⟩, g3⟩, g4⟩, g5⟩, g6⟩ := h5
  simp [Cond.before, Cond.holds, Cond.value, h1, h2, h3, h4, g1, g2, g3, g4, g5, g6]
def isCode : Jvm.Cond → Bool
  | .code _ _ _ _ => true
  | _ => false
theorem all_split {L : List Jvm.Cond} {P : Jvm.Cond → Bool} (h1 : L.all (fun c => isCode c || P c) = true) (h2 : ∀ c ∈ L.filter isCode, P c = true) : L.all P = true := by
  refine List.all_eq_true.mpr fun c hc => ?_
  have h := List.all_eq_true.mp h1 c hc
  rcases Bool.eq_false_or_eq_true (isCode c) with hi | hi
  · exact h2 c (List.mem_filter.mpr ⟨hc, hi⟩)
  · simpa [hi] using h
set_option maxRecDepth 65536 in
theorem w_c0 : (Jvm.Cond.code x code maxLocals ret).before args0 about1 = true := code_word (m := ⟨1, 1⟩) (meth := k1m1) (c := k1c1) (by decide +kernel) rfl rfl rfl (by decide +kernel)
set_option maxRecDepth 65536 in
theorem w_c1 : (Jvm.Cond.code ({ cls := "com/example/glimmerboard/glimmerboard/pathagon/Side", name := "opponent", desc := "()Lcom/example/glimmerboard/glimmerboard/pathagon/Side;" } : Jvm.MethodName) prog_33_method_4_code (1 : Nat) (Option.some (Jvm.ClassFile.FieldType.object "com/example/glimmerboard/glimmerboard/pathagon/Side"))).before args0 about1 = true := code_word (m := ⟨6, 0⟩) (meth := k6m0) (c := k6c0) (by decide +kernel) rfl rfl rfl (by decide +kernel)
def codes1 : List Jvm.Cond := [Jvm.Cond.code x code maxLocals ret, Jvm.Cond.code ({ cls := "com/example/glimmerboard/glimmerboard/pathagon/Side", name := "opponent", desc := "()Lcom/example/glimmerboard/glimmerboard/pathagon/Side;" } : Jvm.MethodName) prog_33_method_4_code (1 : Nat) (Option.some (Jvm.ClassFile.FieldType.object "com/example/glimmerboard/glimmerboard/pathagon/Side"))]
set_option maxRecDepth 65536 in
theorem codes_eq : words1.filter isCode = codes1 := rfl
theorem w_codes : ∀ c ∈ words1.filter isCode, c.before args0 about1 = true := by
  rw [codes_eq]
  intro c hc
  simp only [codes1, List.mem_cons, List.not_mem_nil, or_false] at hc
  rcases hc with rfl | rfl
  · exact w_c0
  · exact w_c1
set_option maxRecDepth 65536 in
theorem w_t1 : words1.all (fun c => isCode c || c.before args0 about1) = true := by decide +kernel
theorem w_tables : (allAtoms (Jvm.Cond.code x code maxLocals ret :: tables_1)).before args0 about1 = true := by
  rw [allAtoms_all]
  show words1.all (fun c => c.before args0 about1) = true
  refine all_split ?_ w_codes
  rw [w_t1]
set_option maxRecDepth 65536 in
theorem w_case : (Jvm.Cond.and given_1 narrow_1).before args0 about1 = true := by decide +kernel
theorem w_applies : (headSpec (Jvm.Cond.code x code maxLocals ret :: tables_1) room_1).applies x e0.platform about1 = true :=
  (Spec.applies_iff w_frames).mpr ⟨w_running, w_runnable, w_alone, w_named, w_hears, w_ripe, w_room, w_tables⟩
theorem atStart : AtStart classFile x code maxLocals ret World_1 tables_1 room_1 Calls_1 rest_1 Pre_1 launch0 p0 e0 about1 theMethod args0 below0 :=
  ⟨lists_1, trivial, launch0.admits_env _ _ _, launch0.least_env, fairChoices_fair.cas, fairChoices_fair.clock, w_frames, w_args, w_heap, w_applies, trivial, trivial, w_case⟩
end start1
theorem witness_1 : WitnessClaimed_1 := ⟨start1.p0, start1.e0, start1.about1, start1.theMethod, start1.args0, start1.below0, start1.atStart⟩
end Jvm.Pilot.@@N@@
