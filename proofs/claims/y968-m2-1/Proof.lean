import JvmDerived
import JvmDerived.Pilot.@@N@@Statement
import JvmDerived.Pilot.@@N@@Code
set_option linter.unusedVariables false
set_option linter.unusedSimpArgs false
namespace Jvm.Pilot.@@N@@
open Jvm Jvm.ClassFile Sem Op Lib Jvm.Free Jvm.Stand Jvm.LawKit Jvm.RoadKit Bundle Jvm.Pilot.@@N@@.Jvm.D
abbrev own_Go (tb : Tables) (e : Env) (below : List Frame) (P : State → Outcome → Prop) (st : State) : Prop := ∃ U o, Steps tb e below st U ∧ P U o
theorem own_go {tb : Tables} {e : Env} {below : List Frame} {P : State → Outcome → Prop} {st st' : State} (h : ∀ t, Steps tb e below st' t → Steps tb e below st t) (k : own_Go tb e below P st') : own_Go tb e below P st := by
  obtain ⟨U, o, h1, h2⟩ := k; exact ⟨U, o, h _ h1, h2⟩
theorem own_cat {v : Value} (h : v.isRef = true) : v.category = 1 := by rcases ref_cases h with rfl | ⟨a, rfl⟩ <;> rfl
theorem own_nar_ref {t : FieldType} {v : Value} (h : v.isRef = true) : narrow t v = v := by rcases ref_cases h with rfl | ⟨a, rfl⟩ <;> cases t <;> rfl
theorem own_fit_ref {t : FieldType} {v : Value} (h : v.isRef = true) (ht : t.isReference = true := by rfl) : fits t v = true := by rcases ref_cases h with rfl | ⟨a, rfl⟩ <;> cases t <;> first | rfl | (cases ht)
theorem own_widen {p : Program} {l : Launch} {e : Env} {R : Room} {s : State} {m : MethodId} {args : Array Value} {below : List Frame} {meth : Method} {c : Code} {T : State} {locs : List Loc} {cells slots cells' slots' : Nat} (X : Stand p l e R s m args below meth c T locs cells slots) (h1 : cells ≤ cells') (h2 : slots ≤ slots') : Stand p l e R s m args below meth c T locs cells' slots' :=
  { X with same := X.same.mono h1 h2 }
theorem own_sel_priv {s : State} {args : Array Value} {y : MethodName} {n : Nat} (wi : (Jvm.Cond.instantiable y.cls n).before args s = true) (hp : s.PrivateAt y) (hinst : (Jvm.Cond.instanceMethod y).before args s = true) (hy : y.cls ≠ "java/lang/invoke/MethodHandle" ∧ y.cls ≠ "java/lang/invoke/VarHandle") : (Jvm.Cond.selects y.cls y y).before args s = true := by
  obtain ⟨c, k, h1, h2, -, h4, -⟩ := Cond.instantiable_spec wi
  exact selects_self_of_private h1 h2 (Bool.or_eq_false_iff.mp h4).1 hp hinst hy
theorem own_sta_keep {Z : State} {h h' : Heap} {ws : List Addr} {C n d : String} {v : Value} (F : Sta Z h C n d v) (K : Keep h h' ws) (q : ∀ x ∈ ws, ∀ c : Cell, h[x]? = some c → c.vm.isStatics = false) : Sta Z h' C n d v := by
  obtain ⟨cf, i, k, f, st, cell, h1, h2, h3, h4, h5, h6, h7⟩ := F
  exact ⟨cf, i, k, f, st, cell, h1, h2, h3, h4, K.2.1 st cell h5 (fun z => by rw [q st z cell h5] at h6; cases h6), h6, h7⟩
theorem own_pl_exa {Z : State} {h : Heap} {a : Addr} {C : String} (F : Exa Z h a C) : ∀ c : Cell, h[a]? = some c → c.vm.isStatics = false := fun c hc => by
  obtain ⟨c1, k, h1, -, -, h4, -⟩ := F; cases h1.symm.trans hc; exact h4
theorem own_pl_fld {Z : State} {h : Heap} {a : Addr} {C n d : String} {v : Value} (F : Fld Z h a C n d v) : ∀ c : Cell, h[a]? = some c → c.vm.isStatics = false := old_plain F
theorem own_pl_arv {Z : State} {h : Heap} {a : Addr} {k : ClassId} {ty : FieldType} {n : Int32} {vs : List Value} {d : Value} (F : Arv Z h a k ty n vs d) : ∀ c : Cell, h[a]? = some c → c.vm.isStatics = false := fun c hc => by
  obtain ⟨c1, A, -⟩ := F; cases A.1.symm.trans hc; exact A.plain
theorem own_fld {args : Array Value} {s : State} {t : Term} {C n d : String} {a : Addr} {k : Int32} (ev : t.eval args s none [] s = some (.ref a)) (h : (Jvm.Cond.eq (.field t C n d) (.int k)).value args s none s [] = some true) : Fld s s.heap a C n d (.int k) := by
  obtain ⟨x, y, e1, e2, -, k2⟩ := cmp_v (Or.inl h)
  obtain rfl : Value.int k = y := Option.some.inj e2
  obtain ⟨z, rfl⟩ := k2
  have q : z = k := by
    simp only [Cond.value] at h
    rw [e1, e2] at h
    simpa using h
  subst q
  rw [fld_at ev] at e1
  exact Fld.start e1
theorem own_len {args : Array Value} {s : State} {t : Term} {a : Addr} {cl : Cell} {n : Int32} (ev : t.eval args s none [] s = some (.ref a)) (hc : s.heap[a]? = some cl) (h : (Jvm.Cond.eq (.length t) (.int n)).value args s none s [] = some true) : cl.slots.size < 2 ^ 31 ∧ cl.slots.size.toInt32 = n := by
  obtain ⟨x, y, e1, e2, -, -⟩ := cmp_v (Or.inl h)
  obtain rfl : Value.int n = y := Option.some.inj e2
  obtain ⟨b, cell, g1, g2, rfl⟩ := Term.length_spec e1
  cases ev.symm.trans g1
  have g3 : cell.slots.size < 2 ^ 31 := by
    apply Decidable.byContradiction
    intro q
    simp [Term.eval, ev, g2, q] at e1
  have g4 : cell = cl := by
    simp only [State.arrayAt?, Option.bind_eq_bind, Option.bind_eq_some_iff] at g2
    obtain ⟨c2, q1, k2, q2, q3⟩ := g2
    split at q3
    · cases q3
    · split at q3
      · cases q3; exact Option.some.inj (q1.symm.trans hc)
      · cases q3
  rw [← g4]
  refine ⟨g3, ?_⟩
  simp only [Cond.value] at h
  rw [e1, e2] at h
  simpa using h
theorem own_elem {args : Array Value} {s : State} {t u : Term} {a b : Addr} {cl : Cell} {k : Int32} (ev : t.eval args s none [] s = some (.ref a)) (hc : s.heap[a]? = some cl) (eu : u.eval args s none [] s = some (.ref b)) (h : (Jvm.Cond.eq (.elem t (.int k)) u).value args s none s [] = some true) : cl.slots[k.toNatClampNeg]? = some (.ref b) := by
  obtain ⟨x, y, e1, e2, -, -⟩ := cmp_v (Or.inl h)
  cases eu.symm.trans e2
  have q := (elem_in e1 ev rfl hc).2
  have : x = .ref b := by
    simp only [Cond.value] at h
    rw [e1, e2] at h
    cases x <;> simp at h ⊢
    exact h
  rw [q, this]
def own_sel (r0 r1 r2 r3 r4 r5 : Addr) (c : Int32) : Value := if c = 0 then .ref r0 else if c = 1 then .ref r1 else if c = 2 then .ref r2 else if c = 3 then .ref r3 else if c = 4 then .ref r4 else if c = 5 then .ref r5 else .null
theorem own_sel_ref (r0 r1 r2 r3 r4 r5 : Addr) (c : Int32) : (own_sel r0 r1 r2 r3 r4 r5 c).isRef = true := by
  unfold own_sel
  repeat' split
  all_goals rfl
theorem own_rng (c : Int32) (h0 : ¬ c < 0) (h1 : c < 6) : c = 0 ∨ c = 1 ∨ c = 2 ∨ c = 3 ∨ c = 4 ∨ c = 5 := by
  rw [Int32.lt_iff_toInt_lt] at h0 h1
  have e0 : (0 : Int32).toInt = 0 := rfl
  have e1 : (6 : Int32).toInt = 6 := rfl
  have h : c.toInt = 0 ∨ c.toInt = 1 ∨ c.toInt = 2 ∨ c.toInt = 3 ∨ c.toInt = 4 ∨ c.toInt = 5 := by omega
  rcases h with h | h | h | h | h | h
  · exact Or.inl (Int32.toInt_inj.mp h)
  · exact Or.inr (Or.inl (Int32.toInt_inj.mp h))
  · exact Or.inr (Or.inr (Or.inl (Int32.toInt_inj.mp h)))
  · exact Or.inr (Or.inr (Or.inr (Or.inl (Int32.toInt_inj.mp h))))
  · exact Or.inr (Or.inr (Or.inr (Or.inr (Or.inl (Int32.toInt_inj.mp h)))))
  · exact Or.inr (Or.inr (Or.inr (Or.inr (Or.inr ((Int32.toInt_inj.mp h))))))
theorem own_sel_get (r0 r1 r2 r3 r4 r5 : Addr) (c : Int32) (h0 : ¬ c < 0) (h1 : c < 6) : ([(.ref r0), (.ref r1), (.ref r2), (.ref r3), (.ref r4), (.ref r5)] : List Value).getD c.toNatClampNeg .null = own_sel r0 r1 r2 r3 r4 r5 c := by
  rcases own_rng c h0 h1 with rfl | rfl | rfl | rfl | rfl | rfl <;> first | rfl | simp [own_sel]
theorem own_sel_out (r0 r1 r2 r3 r4 r5 : Addr) (c : Int32) (h : c < 0 ∨ ¬ c < 6) : Value.null = own_sel r0 r1 r2 r3 r4 r5 c := by
  unfold own_sel
  rw [if_neg (by rintro rfl; revert h; decide), if_neg (by rintro rfl; revert h; decide), if_neg (by rintro rfl; revert h; decide), if_neg (by rintro rfl; revert h; decide), if_neg (by rintro rfl; revert h; decide), if_neg (by rintro rfl; revert h; decide)]
theorem own_cases (r0 r1 r2 r3 r4 r5 : Addr) (c : Int32) : c = 0 ∨ c = 1 ∨ c = 2 ∨ c = 3 ∨ c = 4 ∨ c = 5 ∨ own_sel r0 r1 r2 r3 r4 r5 c = .null := by
  by_cases h0 : c < 0
  · exact Or.inr (Or.inr (Or.inr (Or.inr (Or.inr (Or.inr ((own_sel_out r0 r1 r2 r3 r4 r5 c (Or.inl h0)).symm))))))
  · by_cases h1 : c < 6
    · rcases own_rng c h0 h1 with h | h | h | h | h | h
      · exact Or.inl h
      · exact Or.inr (Or.inl h)
      · exact Or.inr (Or.inr (Or.inl h))
      · exact Or.inr (Or.inr (Or.inr (Or.inl h)))
      · exact Or.inr (Or.inr (Or.inr (Or.inr (Or.inl h))))
      · exact Or.inr (Or.inr (Or.inr (Or.inr (Or.inr (Or.inl h)))))
    · exact Or.inr (Or.inr (Or.inr (Or.inr (Or.inr (Or.inr ((own_sel_out r0 r1 r2 r3 r4 r5 c (Or.inr h1)).symm))))))
theorem d2_0 : decode prog_91_method_5_code 0 = .ok (.iload_n 0, 1) := by decide +kernel
theorem d2_1 : decode prog_91_method_5_code 1 = .ok (.ifCond .lt 19, 3) := by decide +kernel
theorem d2_4 : decode prog_91_method_5_code 4 = .ok (.iload_n 0, 1) := by decide +kernel
theorem d2_5 : decode prog_91_method_5_code 5 = .ok (.getstatic 45, 3) := by decide +kernel
theorem d2_8 : decode prog_91_method_5_code 8 = .ok (.arraylength, 1) := by decide +kernel
theorem d2_9 : decode prog_91_method_5_code 9 = .ok (.if_icmp .ge 11, 3) := by decide +kernel
theorem d2_12 : decode prog_91_method_5_code 12 = .ok (.getstatic 45, 3) := by decide +kernel
theorem d2_15 : decode prog_91_method_5_code 15 = .ok (.iload_n 0, 1) := by decide +kernel
theorem d2_16 : decode prog_91_method_5_code 16 = .ok (.aaload, 1) := by decide +kernel
theorem d2_17 : decode prog_91_method_5_code 17 = .ok (.goto 4, 3) := by decide +kernel
theorem d2_20 : decode prog_91_method_5_code 20 = .ok (.aconst_null, 1) := by decide +kernel
theorem d2_21 : decode prog_91_method_5_code 21 = .ok (.areturn, 1) := by decide +kernel
theorem pn_2 : plainName "com/example/interpoint/interpoint/giop/ReplyStatusType" = true := by first | (simp [plainName, overriddenIn]; done) | decide +kernel
theorem ef_rm2 (m : MethodId) (x0 : Int32) : entryFrame m #[(.int x0)] 1 = mkF m 0 #[.val (.int x0)] [] := by first | (simp [entryFrame, mkF, argsToLocals, Value.category]; done) | rfl
def Qrm2 (Z : State) (p1 : Int32) (r0 : Addr) (r1 : Addr) (r2 : Addr) (r3 : Addr) (r4 : Addr) (r5 : Addr) (ab : Addr) (kb : ClassId) (h0 : Heap) (n0 : Nat) (v : Option Value) (h : Heap) (L : List Loc) : Prop := (v = some (own_sel r0 r1 r2 r3 r4 r5 p1)) ∧ (Fr n0 L) ∧ (h = h0)
set_option maxRecDepth 65536 in
set_option maxHeartbeats 40000000 in
theorem rm2 (l : Launch) (Z : State) (a0 : Array Value) (hw : ∀ d ∈ tables_1, d.before a0 Z = true) (ws : List Jvm.Cond) (p1 : Int32) (r0 : Addr) (r1 : Addr) (r2 : Addr) (r3 : Addr) (r4 : Addr) (r5 : Addr) (ab : Addr) (kb : ClassId) (h0 : Heap) (n0 : Nat) (Z0 : n0 ≤ h0.size) (pr1 : Sta Z h0 "com/example/interpoint/interpoint/giop/ReplyStatusType" "BY_CODE" "[Lcom/example/interpoint/interpoint/giop/ReplyStatusType;" (.ref ab)) (pr2 : Arv Z h0 ab kb (.object "com/example/interpoint/interpoint/giop/ReplyStatusType") (6 : Int32) [(.ref r0), (.ref r1), (.ref r2), (.ref r3), (.ref r4), (.ref r5)] .null) :
    MetFree l (⟨"com/example/interpoint/interpoint/giop/ReplyStatusType", "of", "(I)Lcom/example/interpoint/interpoint/giop/ReplyStatusType;"⟩ : MethodName) (head1 (Jvm.Cond.code (⟨"com/example/interpoint/interpoint/giop/ReplyStatusType", "of", "(I)Lcom/example/interpoint/interpoint/giop/ReplyStatusType;"⟩ : MethodName) prog_91_method_5_code 1 (some (.object "com/example/interpoint/interpoint/giop/ReplyStatusType")) :: ws) ({ frames := 0, cells := 0, slots := 0, locals := 0 } : Room)) (fun a U => a = #[(.int p1)] ∧ Z.Warmed39 U.vm ∧ U.heap = h0) (fun _ _ _ _ _ => True) (fun _ U o U' => ∃ v L, o = .returned v ∧ Qrm2 Z p1 r0 r1 r2 r3 r4 r5 ab kb h0 n0 v U'.heap L ∧ FrameEnd U o U' L ({ frames := 0, cells := 0, slots := 0, locals := 0 } : Room).cells ({ frames := 0, cells := 0, slots := 0, locals := 0 } : Room).slots) := by
  refine MetFree.of_bodySF (plainFor_of_name pn_2) hisR ?_
  intro p e s m args below meth c s₁ Bd hml0 hP0 hK
  obtain ⟨rfl, hZ, hh⟩ := hP0
  have hx := Bd.exec
  have hby := Bd.bytes
  have hml : c.maxLocals = 1 := hml0
  have hown : s.vm.findClass "com/example/interpoint/interpoint/giop/ReplyStatusType" = some m.cls := findClass_of_methodNamed Bd.named
  have hnm := (name_of_methodNamed Bd.named Bd.method).1
  have X0 : Stand p l e ({ frames := 0, cells := 0, slots := 0, locals := 0 } : Room) s m #[(.int p1)] below meth c s₁ [] 0 0 := Stand.of_body Bd
  have e0 : s₁.heap = h0 := by rw [← hh, Bd.state]; rfl
  have N0 := Fr.nil n0
  suffices own_H : ∀ (P : State → Outcome → Prop), (∀ U o, U.status = .running → Ended U below o → (∃ v L, o = .returned v ∧ Qrm2 Z p1 r0 r1 r2 r3 r4 r5 ab kb h0 n0 v U.heap L ∧ FrameEnd s o U L ({ frames := 0, cells := 0, slots := 0, locals := 0 } : Room).cells ({ frames := 0, cells := 0, slots := 0, locals := 0 } : Room).slots) → P U o) → own_Go p.tables e below P (s₁.setTop (mkF m 0 #[.val (.int p1)] [])) from own_go (fun _ k => castTop (ef_rm2 m p1) k) (own_H _ (fun U o h1 h2 h3 => ⟨h1, h2, h3⟩))
  intro P hP
  have lt_ab : @LT.lt Nat _ ab h0.size := pr2.lt
  refine own_go (st' := s₁.setTop (mkF m 1 #[.val (.int p1)] [(.int p1)])) (fun _ k => XS.iloadN X0.here hx rfl (hb hby d2_0) rfl k) ?_
  by_cases hc1 : p1 < (0 : Int32)
  · --
    refine own_go (st' := s₁.setTop (mkF m 20 #[.val (.int p1)] [])) (fun _ k => XS.ifYes X0.here hx rfl (pc0 := 1) (pc' := 20) rfl (hb hby d2_1) rfl ((if0 _ _).trans (tlt hc1).1) (by decide) (by decide) k) ?_
    refine own_go (st' := s₁.setTop (mkF m 21 #[.val (.int p1)] [.null])) (fun _ k => XS.aconstNull X0.here hx rfl (hb hby d2_20) k) ?_
    obtain ⟨fs, hr, hrun, hended, hW, hsame⟩ := X0.leave (v := some .null) (fun h => by rw [Bd.returns] at h; cases h)
    refine ⟨_, _, ?_, hP _ _ hrun hended ⟨_, _, rfl, ?_, ⟨_, rfl⟩, hW, hsame.mono (by decide) (by decide)⟩⟩
    · exact retOut X0 hx Bd.returns rfl (Or.inr (Or.inr (Or.inr (Or.inr ⟨rfl, rfl, rfl⟩)))) (hb hby d2_21) hr
    · show Qrm2 Z p1 r0 r1 r2 r3 r4 r5 ab kb h0 n0 _ s₁.heap _
      rw [e0]
      exact ⟨(congrArg some (own_sel_out r0 r1 r2 r3 r4 r5 p1 (Or.inl hc1))), N0, rfl⟩
  · --
    refine own_go (st' := s₁.setTop (mkF m 4 #[.val (.int p1)] [])) (fun _ k => XS.ifNo X0.here hx rfl (hb hby d2_1) rfl ((if0 _ _).trans (flt hc1).1) k) ?_
    refine own_go (st' := s₁.setTop (mkF m 5 #[.val (.int p1)] [(.int p1)])) (fun _ k => XS.iloadN X0.here hx rfl (hb hby d2_4) rfl k) ?_
    obtain ⟨T3, X3, e3, st3⟩ := getS2 X0 hx hZ hown (host := "") (Or.inl (hw _ (List.mem_of_getElem? (i := 8) rfl))) Via.refl e0 pr1 (g := (mkF m 5 #[.val (.int p1)] [(.int p1)])) rfl (hb hby d2_5)
    refine own_go (st' := T3.setTop (mkF m 8 #[.val (.int p1)] [(.ref ab), (.int p1)])) (st3) ?_
    obtain ⟨cl4, Ar4, -, S4, M4, -, -⟩ := id pr2
    refine own_go (st' := T3.setTop (mkF m 9 #[.val (.int p1)] [(.int (6 : Int32)), (.int p1)])) (fun t k => X3.arraylength hx (by rw [e3]; exact Ar4.1) (State.isArrayOf_alike hZ.alike Ar4.2.1) (g := (mkF m 8 #[.val (.int p1)] [(.ref ab), (.int p1)])) rfl rfl (hb hby d2_8) t (by rw [len_of S4 M4]; exact k)) ?_
    by_cases hc5 : p1 < (6 : Int32)
    · --
      refine own_go (st' := T3.setTop (mkF m 12 #[.val (.int p1)] [])) (fun _ k => XS.icmpNo X3.here hx rfl (hb hby d2_9) rfl (tlt hc5).2.1 k) ?_
      obtain ⟨T6, X6, e6, st6⟩ := getS2 X3 hx hZ hown (host := "") (Or.inl (hw _ (List.mem_of_getElem? (i := 8) rfl))) Via.refl e3 pr1 (g := (mkF m 12 #[.val (.int p1)] [])) rfl (hb hby d2_12)
      refine own_go (st' := T6.setTop (mkF m 15 #[.val (.int p1)] [(.ref ab)])) (st6) ?_
      refine own_go (st' := T6.setTop (mkF m 16 #[.val (.int p1)] [(.int p1), (.ref ab)])) (fun _ k => XS.iloadN X6.here hx rfl (hb hby d2_15) rfl k) ?_
      obtain ⟨cl7, Ar7, -, S7, M7, H7, -⟩ := id pr2
      have hin7 : ¬ (p1 < 0 ∨ cl7.slots.size ≤ (p1).toNatClampNeg) := (inb_of S7 ⟨hc1, hc5⟩)
      have hat7 : cl7.slots[(p1).toNatClampNeg]? = some (own_sel r0 r1 r2 r3 r4 r5 p1) := (H7.at hin7 (own_sel_get r0 r1 r2 r3 r4 r5 p1 hc1 hc5))
      refine own_go (st' := T6.setTop (mkF m 17 #[.val (.int p1)] [(own_sel r0 r1 r2 r3 r4 r5 p1)])) (X6.aaload hx (j := p1) (v := (own_sel r0 r1 r2 r3 r4 r5 p1)) (by rw [e6]; exact Ar7.1) (State.isArrayOf_alike hZ.alike Ar7.2.1) rfl Ar7.2.2 hin7 hat7 (g := (mkF m 16 #[.val (.int p1)] [(.int p1), (.ref ab)])) rfl rfl (hb hby d2_16)) ?_
      refine own_go (st' := T6.setTop (mkF m 21 #[.val (.int p1)] [(own_sel r0 r1 r2 r3 r4 r5 p1)])) (fun _ k => XS.goto X6.here hx rfl (pc0 := 17) (pc' := 21) rfl (hb hby d2_17) (by decide) (by decide) k) ?_
      obtain ⟨fs, hr, hrun, hended, hW, hsame⟩ := X6.leave (v := some (own_sel r0 r1 r2 r3 r4 r5 p1)) (fun h => by rw [Bd.returns] at h; cases h)
      refine ⟨_, _, ?_, hP _ _ hrun hended ⟨_, _, rfl, ?_, ⟨_, rfl⟩, hW, hsame.mono (by decide) (by decide)⟩⟩
      · exact retOut X6 hx Bd.returns (own_nar_ref (own_sel_ref r0 r1 r2 r3 r4 r5 p1)) (Or.inr (Or.inr (Or.inr (Or.inr ⟨rfl, rfl, (own_sel_ref r0 r1 r2 r3 r4 r5 p1)⟩)))) (hb hby d2_21) hr
      · show Qrm2 Z p1 r0 r1 r2 r3 r4 r5 ab kb h0 n0 _ T6.heap _
        rw [e6]
        exact ⟨rfl, N0, rfl⟩
    · --
      refine own_go (st' := T3.setTop (mkF m 20 #[.val (.int p1)] [])) (fun _ k => XS.icmpYes X3.here hx rfl (pc0 := 9) (pc' := 20) rfl (hb hby d2_9) rfl (flt hc5).2.1 (by decide) (by decide) k) ?_
      refine own_go (st' := T3.setTop (mkF m 21 #[.val (.int p1)] [.null])) (fun _ k => XS.aconstNull X3.here hx rfl (hb hby d2_20) k) ?_
      obtain ⟨fs, hr, hrun, hended, hW, hsame⟩ := X3.leave (v := some .null) (fun h => by rw [Bd.returns] at h; cases h)
      refine ⟨_, _, ?_, hP _ _ hrun hended ⟨_, _, rfl, ?_, ⟨_, rfl⟩, hW, hsame.mono (by decide) (by decide)⟩⟩
      · exact retOut X3 hx Bd.returns rfl (Or.inr (Or.inr (Or.inr (Or.inr ⟨rfl, rfl, rfl⟩)))) (hb hby d2_21) hr
      · show Qrm2 Z p1 r0 r1 r2 r3 r4 r5 ab kb h0 n0 _ T3.heap _
        rw [e3]
        exact ⟨(congrArg some (own_sel_out r0 r1 r2 r3 r4 r5 p1 (Or.inr hc5))), N0, rfl⟩
theorem d3_0 : decode method_4_code 0 = .ok (.iload_n 0, 1) := by decide +kernel
theorem d3_1 : decode method_4_code 1 = .ok (.ifCond .ne 7, 3) := by decide +kernel
theorem d3_4 : decode method_4_code 4 = .ok (.getstatic 26, 3) := by decide +kernel
theorem d3_7 : decode method_4_code 7 = .ok (.areturn, 1) := by decide +kernel
theorem d3_8 : decode method_4_code 8 = .ok (.iload_n 0, 1) := by decide +kernel
theorem d3_9 : decode method_4_code 9 = .ok (.iconst 1, 1) := by decide +kernel
theorem d3_10 : decode method_4_code 10 = .ok (.if_icmp .ne 7, 3) := by decide +kernel
theorem d3_13 : decode method_4_code 13 = .ok (.getstatic 30, 3) := by decide +kernel
theorem d3_16 : decode method_4_code 16 = .ok (.areturn, 1) := by decide +kernel
theorem d3_17 : decode method_4_code 17 = .ok (.iload_n 0, 1) := by decide +kernel
theorem d3_18 : decode method_4_code 18 = .ok (.iconst 2, 1) := by decide +kernel
theorem d3_19 : decode method_4_code 19 = .ok (.if_icmp .ne 7, 3) := by decide +kernel
theorem d3_22 : decode method_4_code 22 = .ok (.getstatic 33, 3) := by decide +kernel
theorem d3_25 : decode method_4_code 25 = .ok (.areturn, 1) := by decide +kernel
theorem d3_26 : decode method_4_code 26 = .ok (.iload_n 0, 1) := by decide +kernel
theorem d3_27 : decode method_4_code 27 = .ok (.iconst 3, 1) := by decide +kernel
theorem d3_28 : decode method_4_code 28 = .ok (.if_icmp .ne 7, 3) := by decide +kernel
theorem d3_31 : decode method_4_code 31 = .ok (.getstatic 36, 3) := by decide +kernel
theorem d3_34 : decode method_4_code 34 = .ok (.areturn, 1) := by decide +kernel
theorem d3_35 : decode method_4_code 35 = .ok (.iload_n 0, 1) := by decide +kernel
theorem d3_36 : decode method_4_code 36 = .ok (.iconst 4, 1) := by decide +kernel
theorem d3_37 : decode method_4_code 37 = .ok (.if_icmp .ne 7, 3) := by decide +kernel
theorem d3_40 : decode method_4_code 40 = .ok (.getstatic 39, 3) := by decide +kernel
theorem d3_43 : decode method_4_code 43 = .ok (.areturn, 1) := by decide +kernel
theorem d3_44 : decode method_4_code 44 = .ok (.iload_n 0, 1) := by decide +kernel
theorem d3_45 : decode method_4_code 45 = .ok (.iconst 5, 1) := by decide +kernel
theorem d3_46 : decode method_4_code 46 = .ok (.if_icmp .ne 7, 3) := by decide +kernel
theorem d3_49 : decode method_4_code 49 = .ok (.getstatic 42, 3) := by decide +kernel
theorem d3_52 : decode method_4_code 52 = .ok (.areturn, 1) := by decide +kernel
theorem d3_53 : decode method_4_code 53 = .ok (.aconst_null, 1) := by decide +kernel
theorem d3_54 : decode method_4_code 54 = .ok (.areturn, 1) := by decide +kernel
theorem pn_3 : plainName "com/example/interpoint/interpoint/giop/ReplyStatusTypeOfPinLaw" = true := by first | (simp [plainName, overriddenIn]; done) | decide +kernel
theorem ef_rm3 (m : MethodId) (x0 : Int32) : entryFrame m #[(.int x0)] 1 = mkF m 0 #[.val (.int x0)] [] := by first | (simp [entryFrame, mkF, argsToLocals, Value.category]; done) | rfl
def Qrm3 (Z : State) (p1 : Int32) (r0 : Addr) (r1 : Addr) (r2 : Addr) (r3 : Addr) (r4 : Addr) (r5 : Addr) (h0 : Heap) (n0 : Nat) (v : Option Value) (h : Heap) (L : List Loc) : Prop := (v = some (own_sel r0 r1 r2 r3 r4 r5 p1)) ∧ (Fr n0 L) ∧ (h = h0)
set_option maxRecDepth 65536 in
set_option maxHeartbeats 40000000 in
theorem rm3 (l : Launch) (Z : State) (a0 : Array Value) (hw : ∀ d ∈ tables_1, d.before a0 Z = true) (ws : List Jvm.Cond) (p1 : Int32) (r0 : Addr) (r1 : Addr) (r2 : Addr) (r3 : Addr) (r4 : Addr) (r5 : Addr) (h0 : Heap) (n0 : Nat) (Z0 : n0 ≤ h0.size) (pr1 : Sta Z h0 "com/example/interpoint/interpoint/giop/ReplyStatusType" "NO_EXCEPTION" "Lcom/example/interpoint/interpoint/giop/ReplyStatusType;" (.ref r0)) (pr2 : Sta Z h0 "com/example/interpoint/interpoint/giop/ReplyStatusType" "USER_EXCEPTION" "Lcom/example/interpoint/interpoint/giop/ReplyStatusType;" (.ref r1)) (pr3 : Sta Z h0 "com/example/interpoint/interpoint/giop/ReplyStatusType" "SYSTEM_EXCEPTION" "Lcom/example/interpoint/interpoint/giop/ReplyStatusType;" (.ref r2)) (pr4 : Sta Z h0 "com/example/interpoint/interpoint/giop/ReplyStatusType" "LOCATION_FORWARD" "Lcom/example/interpoint/interpoint/giop/ReplyStatusType;" (.ref r3)) (pr5 : Sta Z h0 "com/example/interpoint/interpoint/giop/ReplyStatusType" "LOCATION_FORWARD_PERM" "Lcom/example/interpoint/interpoint/giop/ReplyStatusType;" (.ref r4)) (pr6 : Sta Z h0 "com/example/interpoint/interpoint/giop/ReplyStatusType" "NEEDS_ADDRESSING_MODE" "Lcom/example/interpoint/interpoint/giop/ReplyStatusType;" (.ref r5)) :
    MetFree l (⟨"com/example/interpoint/interpoint/giop/ReplyStatusTypeOfPinLaw", "expected", "(I)Lcom/example/interpoint/interpoint/giop/ReplyStatusType;"⟩ : MethodName) (head1 (Jvm.Cond.code (⟨"com/example/interpoint/interpoint/giop/ReplyStatusTypeOfPinLaw", "expected", "(I)Lcom/example/interpoint/interpoint/giop/ReplyStatusType;"⟩ : MethodName) method_4_code 1 (some (.object "com/example/interpoint/interpoint/giop/ReplyStatusType")) :: ws) ({ frames := 0, cells := 0, slots := 0, locals := 0 } : Room)) (fun a U => a = #[(.int p1)] ∧ Z.Warmed39 U.vm ∧ U.heap = h0) (fun _ _ _ _ _ => True) (fun _ U o U' => ∃ v L, o = .returned v ∧ Qrm3 Z p1 r0 r1 r2 r3 r4 r5 h0 n0 v U'.heap L ∧ FrameEnd U o U' L ({ frames := 0, cells := 0, slots := 0, locals := 0 } : Room).cells ({ frames := 0, cells := 0, slots := 0, locals := 0 } : Room).slots) := by
  refine MetFree.of_bodySF (plainFor_of_name pn_3) hisR ?_
  intro p e s m args below meth c s₁ Bd hml0 hP0 hK
  obtain ⟨rfl, hZ, hh⟩ := hP0
  have hx := Bd.exec
  have hby := Bd.bytes
  have hml : c.maxLocals = 1 := hml0
  have hown : s.vm.findClass "com/example/interpoint/interpoint/giop/ReplyStatusTypeOfPinLaw" = some m.cls := findClass_of_methodNamed Bd.named
  have hnm := (name_of_methodNamed Bd.named Bd.method).1
  have X0 : Stand p l e ({ frames := 0, cells := 0, slots := 0, locals := 0 } : Room) s m #[(.int p1)] below meth c s₁ [] 0 0 := Stand.of_body Bd
  have e0 : s₁.heap = h0 := by rw [← hh, Bd.state]; rfl
  have N0 := Fr.nil n0
  suffices own_H : ∀ (P : State → Outcome → Prop), (∀ U o, U.status = .running → Ended U below o → (∃ v L, o = .returned v ∧ Qrm3 Z p1 r0 r1 r2 r3 r4 r5 h0 n0 v U.heap L ∧ FrameEnd s o U L ({ frames := 0, cells := 0, slots := 0, locals := 0 } : Room).cells ({ frames := 0, cells := 0, slots := 0, locals := 0 } : Room).slots) → P U o) → own_Go p.tables e below P (s₁.setTop (mkF m 0 #[.val (.int p1)] [])) from own_go (fun _ k => castTop (ef_rm3 m p1) k) (own_H _ (fun U o h1 h2 h3 => ⟨h1, h2, h3⟩))
  intro P hP
  refine own_go (st' := s₁.setTop (mkF m 1 #[.val (.int p1)] [(.int p1)])) (fun _ k => XS.iloadN X0.here hx rfl (hb hby d3_0) rfl k) ?_
  by_cases hc1 : p1 = (0 : Int32)
  · --
    refine own_go (st' := s₁.setTop (mkF m 4 #[.val (.int p1)] [])) (fun _ k => XS.ifNo X0.here hx rfl (hb hby d3_1) rfl ((if0 _ _).trans (teq hc1).2) k) ?_
    obtain ⟨T2, X2, e2, st2⟩ := getS2 X0 hx hZ hown (host := "") (Or.inl (hw _ (List.mem_of_getElem? (i := 14) rfl))) Via.refl e0 pr1 (g := (mkF m 4 #[.val (.int p1)] [])) rfl (hb hby d3_4)
    refine own_go (st' := T2.setTop (mkF m 7 #[.val (.int p1)] [(.ref r0)])) (st2) ?_
    obtain ⟨fs, hr, hrun, hended, hW, hsame⟩ := X2.leave (v := some (.ref r0)) (fun h => by rw [Bd.returns] at h; cases h)
    refine ⟨_, _, ?_, hP _ _ hrun hended ⟨_, _, rfl, ?_, ⟨_, rfl⟩, hW, hsame.mono (by decide) (by decide)⟩⟩
    · exact retOut X2 hx Bd.returns rfl (Or.inr (Or.inr (Or.inr (Or.inr ⟨rfl, rfl, rfl⟩)))) (hb hby d3_7) hr
    · show Qrm3 Z p1 r0 r1 r2 r3 r4 r5 h0 n0 _ T2.heap _
      rw [e2]
      exact ⟨(by unfold own_sel; rw [if_pos hc1]), N0, rfl⟩
  · --
    refine own_go (st' := s₁.setTop (mkF m 8 #[.val (.int p1)] [])) (fun _ k => XS.ifYes X0.here hx rfl (pc0 := 1) (pc' := 8) rfl (hb hby d3_1) rfl ((if0 _ _).trans (feq hc1).2) (by decide) (by decide) k) ?_
    refine own_go (st' := s₁.setTop (mkF m 9 #[.val (.int p1)] [(.int p1)])) (fun _ k => XS.iloadN X0.here hx rfl (hb hby d3_8) rfl k) ?_
    refine own_go (st' := s₁.setTop (mkF m 10 #[.val (.int p1)] [(.int (1 : Int32)), (.int p1)])) (fun _ k => XS.iconst X0.here hx rfl (hb hby d3_9) k) ?_
    by_cases hc4 : p1 = (1 : Int32)
    · --
      refine own_go (st' := s₁.setTop (mkF m 13 #[.val (.int p1)] [])) (fun _ k => XS.icmpNo X0.here hx rfl (hb hby d3_10) rfl (teq hc4).2 k) ?_
      obtain ⟨T5, X5, e5, st5⟩ := getS2 X0 hx hZ hown (host := "") (Or.inl (hw _ (List.mem_of_getElem? (i := 38) rfl))) Via.refl e0 pr2 (g := (mkF m 13 #[.val (.int p1)] [])) rfl (hb hby d3_13)
      refine own_go (st' := T5.setTop (mkF m 16 #[.val (.int p1)] [(.ref r1)])) (st5) ?_
      obtain ⟨fs, hr, hrun, hended, hW, hsame⟩ := X5.leave (v := some (.ref r1)) (fun h => by rw [Bd.returns] at h; cases h)
      refine ⟨_, _, ?_, hP _ _ hrun hended ⟨_, _, rfl, ?_, ⟨_, rfl⟩, hW, hsame.mono (by decide) (by decide)⟩⟩
      · exact retOut X5 hx Bd.returns rfl (Or.inr (Or.inr (Or.inr (Or.inr ⟨rfl, rfl, rfl⟩)))) (hb hby d3_16) hr
      · show Qrm3 Z p1 r0 r1 r2 r3 r4 r5 h0 n0 _ T5.heap _
        rw [e5]
        exact ⟨(by unfold own_sel; rw [if_neg hc1, if_pos hc4]), N0, rfl⟩
    · --
      refine own_go (st' := s₁.setTop (mkF m 17 #[.val (.int p1)] [])) (fun _ k => XS.icmpYes X0.here hx rfl (pc0 := 10) (pc' := 17) rfl (hb hby d3_10) rfl (feq hc4).2 (by decide) (by decide) k) ?_
      refine own_go (st' := s₁.setTop (mkF m 18 #[.val (.int p1)] [(.int p1)])) (fun _ k => XS.iloadN X0.here hx rfl (hb hby d3_17) rfl k) ?_
      refine own_go (st' := s₁.setTop (mkF m 19 #[.val (.int p1)] [(.int (2 : Int32)), (.int p1)])) (fun _ k => XS.iconst X0.here hx rfl (hb hby d3_18) k) ?_
      by_cases hc7 : p1 = (2 : Int32)
      · --
        refine own_go (st' := s₁.setTop (mkF m 22 #[.val (.int p1)] [])) (fun _ k => XS.icmpNo X0.here hx rfl (hb hby d3_19) rfl (teq hc7).2 k) ?_
        obtain ⟨T8, X8, e8, st8⟩ := getS2 X0 hx hZ hown (host := "") (Or.inl (hw _ (List.mem_of_getElem? (i := 30) rfl))) Via.refl e0 pr3 (g := (mkF m 22 #[.val (.int p1)] [])) rfl (hb hby d3_22)
        refine own_go (st' := T8.setTop (mkF m 25 #[.val (.int p1)] [(.ref r2)])) (st8) ?_
        obtain ⟨fs, hr, hrun, hended, hW, hsame⟩ := X8.leave (v := some (.ref r2)) (fun h => by rw [Bd.returns] at h; cases h)
        refine ⟨_, _, ?_, hP _ _ hrun hended ⟨_, _, rfl, ?_, ⟨_, rfl⟩, hW, hsame.mono (by decide) (by decide)⟩⟩
        · exact retOut X8 hx Bd.returns rfl (Or.inr (Or.inr (Or.inr (Or.inr ⟨rfl, rfl, rfl⟩)))) (hb hby d3_25) hr
        · show Qrm3 Z p1 r0 r1 r2 r3 r4 r5 h0 n0 _ T8.heap _
          rw [e8]
          exact ⟨(by unfold own_sel; rw [if_neg hc1, if_neg hc4, if_pos hc7]), N0, rfl⟩
      · --
        refine own_go (st' := s₁.setTop (mkF m 26 #[.val (.int p1)] [])) (fun _ k => XS.icmpYes X0.here hx rfl (pc0 := 19) (pc' := 26) rfl (hb hby d3_19) rfl (feq hc7).2 (by decide) (by decide) k) ?_
        refine own_go (st' := s₁.setTop (mkF m 27 #[.val (.int p1)] [(.int p1)])) (fun _ k => XS.iloadN X0.here hx rfl (hb hby d3_26) rfl k) ?_
        refine own_go (st' := s₁.setTop (mkF m 28 #[.val (.int p1)] [(.int (3 : Int32)), (.int p1)])) (fun _ k => XS.iconst X0.here hx rfl (hb hby d3_27) k) ?_
        by_cases hc10 : p1 = (3 : Int32)
        · --
          refine own_go (st' := s₁.setTop (mkF m 31 #[.val (.int p1)] [])) (fun _ k => XS.icmpNo X0.here hx rfl (hb hby d3_28) rfl (teq hc10).2 k) ?_
          obtain ⟨T11, X11, e11, st11⟩ := getS2 X0 hx hZ hown (host := "") (Or.inl (hw _ (List.mem_of_getElem? (i := 32) rfl))) Via.refl e0 pr4 (g := (mkF m 31 #[.val (.int p1)] [])) rfl (hb hby d3_31)
          refine own_go (st' := T11.setTop (mkF m 34 #[.val (.int p1)] [(.ref r3)])) (st11) ?_
          obtain ⟨fs, hr, hrun, hended, hW, hsame⟩ := X11.leave (v := some (.ref r3)) (fun h => by rw [Bd.returns] at h; cases h)
          refine ⟨_, _, ?_, hP _ _ hrun hended ⟨_, _, rfl, ?_, ⟨_, rfl⟩, hW, hsame.mono (by decide) (by decide)⟩⟩
          · exact retOut X11 hx Bd.returns rfl (Or.inr (Or.inr (Or.inr (Or.inr ⟨rfl, rfl, rfl⟩)))) (hb hby d3_34) hr
          · show Qrm3 Z p1 r0 r1 r2 r3 r4 r5 h0 n0 _ T11.heap _
            rw [e11]
            exact ⟨(by unfold own_sel; rw [if_neg hc1, if_neg hc4, if_neg hc7, if_pos hc10]), N0, rfl⟩
        · --
          refine own_go (st' := s₁.setTop (mkF m 35 #[.val (.int p1)] [])) (fun _ k => XS.icmpYes X0.here hx rfl (pc0 := 28) (pc' := 35) rfl (hb hby d3_28) rfl (feq hc10).2 (by decide) (by decide) k) ?_
          refine own_go (st' := s₁.setTop (mkF m 36 #[.val (.int p1)] [(.int p1)])) (fun _ k => XS.iloadN X0.here hx rfl (hb hby d3_35) rfl k) ?_
          refine own_go (st' := s₁.setTop (mkF m 37 #[.val (.int p1)] [(.int (4 : Int32)), (.int p1)])) (fun _ k => XS.iconst X0.here hx rfl (hb hby d3_36) k) ?_
          by_cases hc13 : p1 = (4 : Int32)
          · --
            refine own_go (st' := s₁.setTop (mkF m 40 #[.val (.int p1)] [])) (fun _ k => XS.icmpNo X0.here hx rfl (hb hby d3_37) rfl (teq hc13).2 k) ?_
            obtain ⟨T14, X14, e14, st14⟩ := getS2 X0 hx hZ hown (host := "") (Or.inl (hw _ (List.mem_of_getElem? (i := 34) rfl))) Via.refl e0 pr5 (g := (mkF m 40 #[.val (.int p1)] [])) rfl (hb hby d3_40)
            refine own_go (st' := T14.setTop (mkF m 43 #[.val (.int p1)] [(.ref r4)])) (st14) ?_
            obtain ⟨fs, hr, hrun, hended, hW, hsame⟩ := X14.leave (v := some (.ref r4)) (fun h => by rw [Bd.returns] at h; cases h)
            refine ⟨_, _, ?_, hP _ _ hrun hended ⟨_, _, rfl, ?_, ⟨_, rfl⟩, hW, hsame.mono (by decide) (by decide)⟩⟩
            · exact retOut X14 hx Bd.returns rfl (Or.inr (Or.inr (Or.inr (Or.inr ⟨rfl, rfl, rfl⟩)))) (hb hby d3_43) hr
            · show Qrm3 Z p1 r0 r1 r2 r3 r4 r5 h0 n0 _ T14.heap _
              rw [e14]
              exact ⟨(by unfold own_sel; rw [if_neg hc1, if_neg hc4, if_neg hc7, if_neg hc10, if_pos hc13]), N0, rfl⟩
          · --
            refine own_go (st' := s₁.setTop (mkF m 44 #[.val (.int p1)] [])) (fun _ k => XS.icmpYes X0.here hx rfl (pc0 := 37) (pc' := 44) rfl (hb hby d3_37) rfl (feq hc13).2 (by decide) (by decide) k) ?_
            refine own_go (st' := s₁.setTop (mkF m 45 #[.val (.int p1)] [(.int p1)])) (fun _ k => XS.iloadN X0.here hx rfl (hb hby d3_44) rfl k) ?_
            refine own_go (st' := s₁.setTop (mkF m 46 #[.val (.int p1)] [(.int (5 : Int32)), (.int p1)])) (fun _ k => XS.iconst X0.here hx rfl (hb hby d3_45) k) ?_
            by_cases hc16 : p1 = (5 : Int32)
            · --
              refine own_go (st' := s₁.setTop (mkF m 49 #[.val (.int p1)] [])) (fun _ k => XS.icmpNo X0.here hx rfl (hb hby d3_46) rfl (teq hc16).2 k) ?_
              obtain ⟨T17, X17, e17, st17⟩ := getS2 X0 hx hZ hown (host := "") (Or.inl (hw _ (List.mem_of_getElem? (i := 36) rfl))) Via.refl e0 pr6 (g := (mkF m 49 #[.val (.int p1)] [])) rfl (hb hby d3_49)
              refine own_go (st' := T17.setTop (mkF m 52 #[.val (.int p1)] [(.ref r5)])) (st17) ?_
              obtain ⟨fs, hr, hrun, hended, hW, hsame⟩ := X17.leave (v := some (.ref r5)) (fun h => by rw [Bd.returns] at h; cases h)
              refine ⟨_, _, ?_, hP _ _ hrun hended ⟨_, _, rfl, ?_, ⟨_, rfl⟩, hW, hsame.mono (by decide) (by decide)⟩⟩
              · exact retOut X17 hx Bd.returns rfl (Or.inr (Or.inr (Or.inr (Or.inr ⟨rfl, rfl, rfl⟩)))) (hb hby d3_52) hr
              · show Qrm3 Z p1 r0 r1 r2 r3 r4 r5 h0 n0 _ T17.heap _
                rw [e17]
                exact ⟨(by unfold own_sel; rw [if_neg hc1, if_neg hc4, if_neg hc7, if_neg hc10, if_neg hc13, if_pos hc16]), N0, rfl⟩
            · --
              refine own_go (st' := s₁.setTop (mkF m 53 #[.val (.int p1)] [])) (fun _ k => XS.icmpYes X0.here hx rfl (pc0 := 46) (pc' := 53) rfl (hb hby d3_46) rfl (feq hc16).2 (by decide) (by decide) k) ?_
              refine own_go (st' := s₁.setTop (mkF m 54 #[.val (.int p1)] [.null])) (fun _ k => XS.aconstNull X0.here hx rfl (hb hby d3_53) k) ?_
              obtain ⟨fs, hr, hrun, hended, hW, hsame⟩ := X0.leave (v := some .null) (fun h => by rw [Bd.returns] at h; cases h)
              refine ⟨_, _, ?_, hP _ _ hrun hended ⟨_, _, rfl, ?_, ⟨_, rfl⟩, hW, hsame.mono (by decide) (by decide)⟩⟩
              · exact retOut X0 hx Bd.returns rfl (Or.inr (Or.inr (Or.inr (Or.inr ⟨rfl, rfl, rfl⟩)))) (hb hby d3_54) hr
              · show Qrm3 Z p1 r0 r1 r2 r3 r4 r5 h0 n0 _ s₁.heap _
                rw [e0]
                exact ⟨(by unfold own_sel; rw [if_neg hc1, if_neg hc4, if_neg hc7, if_neg hc10, if_neg hc13, if_neg hc16]), N0, rfl⟩
theorem d5_0 : decode jdk_37_method_2_code 0 = .ok (.aload_n 0, 1) := by decide +kernel
theorem d5_1 : decode jdk_37_method_2_code 1 = .ok (.getfield 7, 3) := by decide +kernel
theorem d5_4 : decode jdk_37_method_2_code 4 = .ok (.ireturn, 1) := by decide +kernel
theorem pn_5 : plainName "java/lang/Enum" = true := by first | (simp [plainName, overriddenIn]; done) | decide +kernel
theorem ef_rm5 (m : MethodId) (x0 : Addr) : entryFrame m #[(.ref x0)] 1 = mkF m 0 #[.val (.ref x0)] [] := by first | (simp [entryFrame, mkF, argsToLocals, Value.category]; done) | rfl
def Qrm5 (Z : State) (a1 : Addr) (o1 : Int32) (h0 : Heap) (n0 : Nat) (v : Option Value) (h : Heap) (L : List Loc) : Prop := (v = some (.int o1)) ∧ (Fr n0 L) ∧ (h = h0)
set_option maxRecDepth 65536 in
set_option maxHeartbeats 40000000 in
theorem rm5 (l : Launch) (Z : State) (a0 : Array Value) (hw : ∀ d ∈ tables_1, d.before a0 Z = true) (ws : List Jvm.Cond) (a1 : Addr) (o1 : Int32) (h0 : Heap) (n0 : Nat) (Z0 : n0 ≤ h0.size) (pr1 : Fld Z h0 a1 "java/lang/Enum" "ordinal" "I" (.int o1)) :
    MetFree l (⟨"java/lang/Enum", "ordinal", "()I"⟩ : MethodName) (head1 (Jvm.Cond.code (⟨"java/lang/Enum", "ordinal", "()I"⟩ : MethodName) jdk_37_method_2_code 1 (some .int) :: ws) ({ frames := 0, cells := 0, slots := 0, locals := 0 } : Room)) (fun a U => a = #[(.ref a1)] ∧ Z.Warmed39 U.vm ∧ U.heap = h0) (fun _ _ _ _ _ => True) (fun _ U o U' => ∃ v L, o = .returned v ∧ Qrm5 Z a1 o1 h0 n0 v U'.heap L ∧ FrameEnd U o U' L ({ frames := 0, cells := 0, slots := 0, locals := 0 } : Room).cells ({ frames := 0, cells := 0, slots := 0, locals := 0 } : Room).slots) := by
  refine MetFree.of_bodySF (plainFor_of_name pn_5) hisR ?_
  intro p e s m args below meth c s₁ Bd hml0 hP0 hK
  obtain ⟨rfl, hZ, hh⟩ := hP0
  have hx := Bd.exec
  have hby := Bd.bytes
  have hml : c.maxLocals = 1 := hml0
  have hown : s.vm.findClass "java/lang/Enum" = some m.cls := findClass_of_methodNamed Bd.named
  have hnm := (name_of_methodNamed Bd.named Bd.method).1
  have X0 : Stand p l e ({ frames := 0, cells := 0, slots := 0, locals := 0 } : Room) s m #[(.ref a1)] below meth c s₁ [] 0 0 := Stand.of_body Bd
  have e0 : s₁.heap = h0 := by rw [← hh, Bd.state]; rfl
  have N0 := Fr.nil n0
  suffices own_H : ∀ (P : State → Outcome → Prop), (∀ U o, U.status = .running → Ended U below o → (∃ v L, o = .returned v ∧ Qrm5 Z a1 o1 h0 n0 v U.heap L ∧ FrameEnd s o U L ({ frames := 0, cells := 0, slots := 0, locals := 0 } : Room).cells ({ frames := 0, cells := 0, slots := 0, locals := 0 } : Room).slots) → P U o) → own_Go p.tables e below P (s₁.setTop (mkF m 0 #[.val (.ref a1)] [])) from own_go (fun _ k => castTop (ef_rm5 m a1) k) (own_H _ (fun U o h1 h2 h3 => ⟨h1, h2, h3⟩))
  intro P hP
  have lt_a1 : @LT.lt Nat _ a1 h0.size := pr1.lt
  refine own_go (st' := s₁.setTop (mkF m 1 #[.val (.ref a1)] [(.ref a1)])) (fun _ k => XS.aloadN X0.here hx rfl (hb hby d5_0) rfl rfl k) ?_
  obtain ⟨T1, X1, e1, st1⟩ := getF X0 hx hZ hown (host := "") (Or.inl (hw _ (List.mem_of_getElem? (i := 27) rfl))) Via.refl e0 pr1 (g := (mkF m 1 #[.val (.ref a1)] [(.ref a1)])) rfl rfl (hb hby d5_1)
  refine own_go (st' := T1.setTop (mkF m 4 #[.val (.ref a1)] [(.int o1)])) (st1) ?_
  obtain ⟨fs, hr, hrun, hended, hW, hsame⟩ := X1.leave (v := some (.int o1)) (fun h => by rw [Bd.returns] at h; cases h)
  refine ⟨_, _, ?_, hP _ _ hrun hended ⟨_, _, rfl, ?_, ⟨_, rfl⟩, hW, hsame.mono (by decide) (by decide)⟩⟩
  · exact retOut X1 hx Bd.returns rfl (Or.inl ⟨rfl, Or.inl rfl, _, rfl⟩) (hb hby d5_4) hr
  · show Qrm5 Z a1 o1 h0 n0 _ T1.heap _
    rw [e1]
    exact ⟨rfl, N0, rfl⟩
theorem pd_0 : parseMethodDescriptor "()I" = some ⟨[], some .int⟩ := by decide +kernel
theorem d4_0 : decode prog_91_method_4_code 0 = .ok (.aload_n 0, 1) := by decide +kernel
theorem d4_1 : decode prog_91_method_4_code 1 = .ok (.invokevirtual 41, 3) := by decide +kernel
theorem d4_4 : decode prog_91_method_4_code 4 = .ok (.ireturn, 1) := by decide +kernel
theorem pn_4 : plainName "com/example/interpoint/interpoint/giop/ReplyStatusType" = true := by first | (simp [plainName, overriddenIn]; done) | decide +kernel
theorem ef_rm4 (m : MethodId) (x0 : Addr) : entryFrame m #[(.ref x0)] 1 = mkF m 0 #[.val (.ref x0)] [] := by first | (simp [entryFrame, mkF, argsToLocals, Value.category]; done) | rfl
def Qrm4 (Z : State) (a1 : Addr) (o1 : Int32) (h0 : Heap) (n0 : Nat) (v : Option Value) (h : Heap) (L : List Loc) : Prop := (v = some (.int o1)) ∧ (Fr n0 L) ∧ (h = h0)
set_option maxRecDepth 65536 in
set_option maxHeartbeats 40000000 in
theorem rm4 (l : Launch) (Z : State) (a0 : Array Value) (hw : ∀ d ∈ tables_1, d.before a0 Z = true) (ws : List Jvm.Cond) (a1 : Addr) (o1 : Int32) (h0 : Heap) (n0 : Nat) (Z0 : n0 ≤ h0.size) (pr1 : Exa Z h0 a1 "com/example/interpoint/interpoint/giop/ReplyStatusType") (pr2 : Fld Z h0 a1 "java/lang/Enum" "ordinal" "I" (.int o1)) :
    MetFree l (⟨"com/example/interpoint/interpoint/giop/ReplyStatusType", "code", "()I"⟩ : MethodName) (head1 (Jvm.Cond.code (⟨"com/example/interpoint/interpoint/giop/ReplyStatusType", "code", "()I"⟩ : MethodName) prog_91_method_4_code 1 (some .int) :: ws) ({ frames := 1, cells := 0, slots := 0, locals := 12 } : Room)) (fun a U => a = #[(.ref a1)] ∧ Z.Warmed39 U.vm ∧ U.heap = h0) (fun _ _ _ _ _ => True) (fun _ U o U' => ∃ v L, o = .returned v ∧ Qrm4 Z a1 o1 h0 n0 v U'.heap L ∧ FrameEnd U o U' L ({ frames := 1, cells := 0, slots := 0, locals := 12 } : Room).cells ({ frames := 1, cells := 0, slots := 0, locals := 12 } : Room).slots) := by
  refine MetFree.of_bodySF (plainFor_of_name pn_4) hisR ?_
  intro p e s m args below meth c s₁ Bd hml0 hP0 hK
  obtain ⟨rfl, hZ, hh⟩ := hP0
  have hx := Bd.exec
  have hby := Bd.bytes
  have hml : c.maxLocals = 1 := hml0
  have hown : s.vm.findClass "com/example/interpoint/interpoint/giop/ReplyStatusType" = some m.cls := findClass_of_methodNamed Bd.named
  have hnm := (name_of_methodNamed Bd.named Bd.method).1
  have X0 : Stand p l e ({ frames := 1, cells := 0, slots := 0, locals := 12 } : Room) s m #[(.ref a1)] below meth c s₁ [] 0 0 := Stand.of_body Bd
  have e0 : s₁.heap = h0 := by rw [← hh, Bd.state]; rfl
  have N0 := Fr.nil n0
  suffices own_H : ∀ (P : State → Outcome → Prop), (∀ U o, U.status = .running → Ended U below o → (∃ v L, o = .returned v ∧ Qrm4 Z a1 o1 h0 n0 v U.heap L ∧ FrameEnd s o U L ({ frames := 1, cells := 0, slots := 0, locals := 12 } : Room).cells ({ frames := 1, cells := 0, slots := 0, locals := 12 } : Room).slots) → P U o) → own_Go p.tables e below P (s₁.setTop (mkF m 0 #[.val (.ref a1)] [])) from own_go (fun _ k => castTop (ef_rm4 m a1) k) (own_H _ (fun U o h1 h2 h3 => ⟨h1, h2, h3⟩))
  intro P hP
  have lt_a1 : @LT.lt Nat _ a1 h0.size := pr1.lt
  refine own_go (st' := s₁.setTop (mkF m 1 #[.val (.ref a1)] [(.ref a1)])) (fun _ k => XS.aloadN X0.here hx rfl (hb hby d4_0) rfl rfl k) ?_
  obtain ⟨cq1, kq1, q1a, q1b, q1c⟩ := isOf hZ e0 pr1
  obtain ⟨_, _, ⟨T1, LC1, kC1, nC1⟩, -, X1, ⟨Lc1, hQ1, lq1, yq1, zq1⟩, st1⟩ := X0.virtualBackUp hx (owner := "java/lang/Enum") (x := (⟨"com/example/interpoint/interpoint/giop/ReplyStatusType", "ordinal", "()I"⟩ : MethodName)) (y := (⟨"java/lang/Enum", "ordinal", "()I"⟩ : MethodName)) hown (mvT hZ (hw _ (List.mem_of_getElem? (i := 20) rfl))) (mvT hZ (hw _ (List.mem_of_getElem? (i := 21) rfl))) (mvT hZ (hw _ (List.mem_of_getElem? (i := 22) rfl))) (by decide) (mvT hZ (hw _ (List.mem_of_getElem? (i := 24) rfl))) (mvT hZ (hw _ (List.mem_of_getElem? (i := 23) rfl))) (backOf (W := 0) (rm5 l Z a0 hw [] a1 o1 h0 n0 (by omega) pr2) hZ (hw _ (List.mem_of_getElem? (i := 26) rfl)) (hw _ (List.mem_of_getElem? (i := 25) rfl)) (by decide) (by decide)) q1a q1c (g := (mkF m 1 #[.val (.ref a1)] [(.ref a1)])) rfl (by rw [hml]; rfl) (Steps.refl _) (argsL := []) (rest := []) (lenOf pd_0 rfl) rfl (by show 2 * 0 + _ ≤ _; exact Nat.le_of_eq rfl) (hb hby d4_1) (fun _ _ => ⟨rfl, e0, (by decide : 0 + 0 ≤ _), (by decide : 0 + 0 ≤ _)⟩)
  dsimp only [Pt.U, Pt.locs, Pt.cells, Pt.slots] at X1 lq1 yq1 zq1 st1 hQ1
  subst lq1 yq1 zq1
  obtain ⟨rfl, Nq1, eq1⟩ := hQ1
  have N1 := Fr.app N0 Nq1
  refine own_go (st' := T1.setTop (mkF m 4 #[.val (.ref a1)] [(.int o1)])) (fun _ k => st1.trans k) ?_
  obtain ⟨fs, hr, hrun, hended, hW, hsame⟩ := X1.leave (v := some (.int o1)) (fun h => by rw [Bd.returns] at h; cases h)
  refine ⟨_, _, ?_, hP _ _ hrun hended ⟨_, _, rfl, ?_, ⟨_, rfl⟩, hW, hsame.mono (by decide) (by decide)⟩⟩
  · exact retOut X1 hx Bd.returns rfl (Or.inl ⟨rfl, Or.inl rfl, _, rfl⟩) (hb hby d4_4) hr
  · show Qrm4 Z a1 o1 h0 n0 _ T1.heap _
    rw [eq1]
    exact ⟨rfl, N1, rfl⟩
theorem pd_1 : parseMethodDescriptor "(I)Lcom/example/interpoint/interpoint/giop/ReplyStatusType;" = some ⟨[.int], some (.object "com/example/interpoint/interpoint/giop/ReplyStatusType")⟩ := by decide +kernel
theorem d1_0 : decode method_3_code 0 = .ok (.iload_n 0, 1) := by decide +kernel
theorem d1_1 : decode method_3_code 1 = .ok (.invokestatic 13, 3) := by decide +kernel
theorem d1_4 : decode method_3_code 4 = .ok (.astore_n 1, 1) := by decide +kernel
theorem d1_5 : decode method_3_code 5 = .ok (.iload_n 0, 1) := by decide +kernel
theorem d1_6 : decode method_3_code 6 = .ok (.invokestatic 19, 3) := by decide +kernel
theorem d1_9 : decode method_3_code 9 = .ok (.astore_n 2, 1) := by decide +kernel
theorem d1_10 : decode method_3_code 10 = .ok (.aload_n 1, 1) := by decide +kernel
theorem d1_11 : decode method_3_code 11 = .ok (.aload_n 2, 1) := by decide +kernel
theorem d1_12 : decode method_3_code 12 = .ok (.if_acmp .eq 5, 3) := by decide +kernel
theorem d1_17 : decode method_3_code 17 = .ok (.aload_n 1, 1) := by decide +kernel
theorem d1_18 : decode method_3_code 18 = .ok (.ifnull 13, 3) := by decide +kernel
theorem d1_21 : decode method_3_code 21 = .ok (.aload_n 1, 1) := by decide +kernel
theorem d1_22 : decode method_3_code 22 = .ok (.invokevirtual 22, 3) := by decide +kernel
theorem d1_25 : decode method_3_code 25 = .ok (.iload_n 0, 1) := by decide +kernel
theorem d1_26 : decode method_3_code 26 = .ok (.if_icmp .eq 5, 3) := by decide +kernel
theorem d1_31 : decode method_3_code 31 = .ok (.iconst 1, 1) := by decide +kernel
theorem d1_32 : decode method_3_code 32 = .ok (.ireturn, 1) := by decide +kernel
theorem pn_1 : plainName "com/example/interpoint/interpoint/giop/ReplyStatusTypeOfPinLaw" = true := by first | (simp [plainName, overriddenIn]; done) | decide +kernel
theorem ef_rm1 (m : MethodId) (x0 : Int32) : entryFrame m #[(.int x0)] 3 = mkF m 0 #[.val (.int x0), .unset, .unset] [] := by first | (simp [entryFrame, mkF, argsToLocals, Value.category]; done) | rfl
def Qrm1 (Z : State) (p1 : Int32) (r0 : Addr) (r1 : Addr) (r2 : Addr) (r3 : Addr) (r4 : Addr) (r5 : Addr) (ab : Addr) (kb : ClassId) (h0 : Heap) (n0 : Nat) (v : Option Value) (h : Heap) (L : List Loc) : Prop := (v = some (.int (1 : Int32))) ∧ (Fr n0 L) ∧ (h = h0)
set_option maxRecDepth 65536 in
set_option maxHeartbeats 40000000 in
theorem rm1 (l : Launch) (Z : State) (a0 : Array Value) (hw : ∀ d ∈ tables_1, d.before a0 Z = true) (ws : List Jvm.Cond) (p1 : Int32) (r0 : Addr) (r1 : Addr) (r2 : Addr) (r3 : Addr) (r4 : Addr) (r5 : Addr) (ab : Addr) (kb : ClassId) (h0 : Heap) (n0 : Nat) (Z0 : n0 ≤ h0.size) (pr1 : Sta Z h0 "com/example/interpoint/interpoint/giop/ReplyStatusType" "BY_CODE" "[Lcom/example/interpoint/interpoint/giop/ReplyStatusType;" (.ref ab)) (pr2 : Arv Z h0 ab kb (.object "com/example/interpoint/interpoint/giop/ReplyStatusType") (6 : Int32) [(.ref r0), (.ref r1), (.ref r2), (.ref r3), (.ref r4), (.ref r5)] .null) (pr3 : Sta Z h0 "com/example/interpoint/interpoint/giop/ReplyStatusType" "NO_EXCEPTION" "Lcom/example/interpoint/interpoint/giop/ReplyStatusType;" (.ref r0)) (pr4 : Sta Z h0 "com/example/interpoint/interpoint/giop/ReplyStatusType" "USER_EXCEPTION" "Lcom/example/interpoint/interpoint/giop/ReplyStatusType;" (.ref r1)) (pr5 : Sta Z h0 "com/example/interpoint/interpoint/giop/ReplyStatusType" "SYSTEM_EXCEPTION" "Lcom/example/interpoint/interpoint/giop/ReplyStatusType;" (.ref r2)) (pr6 : Sta Z h0 "com/example/interpoint/interpoint/giop/ReplyStatusType" "LOCATION_FORWARD" "Lcom/example/interpoint/interpoint/giop/ReplyStatusType;" (.ref r3)) (pr7 : Sta Z h0 "com/example/interpoint/interpoint/giop/ReplyStatusType" "LOCATION_FORWARD_PERM" "Lcom/example/interpoint/interpoint/giop/ReplyStatusType;" (.ref r4)) (pr8 : Sta Z h0 "com/example/interpoint/interpoint/giop/ReplyStatusType" "NEEDS_ADDRESSING_MODE" "Lcom/example/interpoint/interpoint/giop/ReplyStatusType;" (.ref r5)) (pr9 : Exa Z h0 r0 "com/example/interpoint/interpoint/giop/ReplyStatusType") (pr10 : Fld Z h0 r0 "java/lang/Enum" "ordinal" "I" (.int (0 : Int32))) (pr11 : Exa Z h0 r1 "com/example/interpoint/interpoint/giop/ReplyStatusType") (pr12 : Fld Z h0 r1 "java/lang/Enum" "ordinal" "I" (.int (1 : Int32))) (pr13 : Exa Z h0 r2 "com/example/interpoint/interpoint/giop/ReplyStatusType") (pr14 : Fld Z h0 r2 "java/lang/Enum" "ordinal" "I" (.int (2 : Int32))) (pr15 : Exa Z h0 r3 "com/example/interpoint/interpoint/giop/ReplyStatusType") (pr16 : Fld Z h0 r3 "java/lang/Enum" "ordinal" "I" (.int (3 : Int32))) (pr17 : Exa Z h0 r4 "com/example/interpoint/interpoint/giop/ReplyStatusType") (pr18 : Fld Z h0 r4 "java/lang/Enum" "ordinal" "I" (.int (4 : Int32))) (pr19 : Exa Z h0 r5 "com/example/interpoint/interpoint/giop/ReplyStatusType") (pr20 : Fld Z h0 r5 "java/lang/Enum" "ordinal" "I" (.int (5 : Int32))) :
    MetFree l (⟨"com/example/interpoint/interpoint/giop/ReplyStatusTypeOfPinLaw", "check", "(I)Z"⟩ : MethodName) (head1 (Jvm.Cond.code (⟨"com/example/interpoint/interpoint/giop/ReplyStatusTypeOfPinLaw", "check", "(I)Z"⟩ : MethodName) method_3_code 3 (some .boolean) :: ws) ({ frames := 2, cells := 0, slots := 0, locals := 24 } : Room)) (fun a U => a = #[(.int p1)] ∧ Z.Warmed39 U.vm ∧ U.heap = h0) (fun _ _ _ _ _ => True) (fun _ U o U' => ∃ v L, o = .returned v ∧ Qrm1 Z p1 r0 r1 r2 r3 r4 r5 ab kb h0 n0 v U'.heap L ∧ FrameEnd U o U' L ({ frames := 2, cells := 0, slots := 0, locals := 24 } : Room).cells ({ frames := 2, cells := 0, slots := 0, locals := 24 } : Room).slots) := by
  refine MetFree.of_bodySF (plainFor_of_name pn_1) hisR ?_
  intro p e s m args below meth c s₁ Bd hml0 hP0 hK
  obtain ⟨rfl, hZ, hh⟩ := hP0
  have hx := Bd.exec
  have hby := Bd.bytes
  have hml : c.maxLocals = 3 := hml0
  have hown : s.vm.findClass "com/example/interpoint/interpoint/giop/ReplyStatusTypeOfPinLaw" = some m.cls := findClass_of_methodNamed Bd.named
  have hnm := (name_of_methodNamed Bd.named Bd.method).1
  have X0 : Stand p l e ({ frames := 2, cells := 0, slots := 0, locals := 24 } : Room) s m #[(.int p1)] below meth c s₁ [] 0 0 := Stand.of_body Bd
  have e0 : s₁.heap = h0 := by rw [← hh, Bd.state]; rfl
  have N0 := Fr.nil n0
  suffices own_H : ∀ (P : State → Outcome → Prop), (∀ U o, U.status = .running → Ended U below o → (∃ v L, o = .returned v ∧ Qrm1 Z p1 r0 r1 r2 r3 r4 r5 ab kb h0 n0 v U.heap L ∧ FrameEnd s o U L ({ frames := 2, cells := 0, slots := 0, locals := 24 } : Room).cells ({ frames := 2, cells := 0, slots := 0, locals := 24 } : Room).slots) → P U o) → own_Go p.tables e below P (s₁.setTop (mkF m 0 #[.val (.int p1), .unset, .unset] [])) from own_go (fun _ k => castTop (ef_rm1 m p1) k) (own_H _ (fun U o h1 h2 h3 => ⟨h1, h2, h3⟩))
  intro P hP
  have lt_ab : @LT.lt Nat _ ab h0.size := pr2.lt
  have lt_r0 : @LT.lt Nat _ r0 h0.size := pr9.lt
  have lt_r1 : @LT.lt Nat _ r1 h0.size := pr11.lt
  have lt_r2 : @LT.lt Nat _ r2 h0.size := pr13.lt
  have lt_r3 : @LT.lt Nat _ r3 h0.size := pr15.lt
  have lt_r4 : @LT.lt Nat _ r4 h0.size := pr17.lt
  have lt_r5 : @LT.lt Nat _ r5 h0.size := pr19.lt
  refine own_go (st' := s₁.setTop (mkF m 1 #[.val (.int p1), .unset, .unset] [(.int p1)])) (fun _ k => XS.iloadN X0.here hx rfl (hb hby d1_0) rfl k) ?_
  obtain ⟨_, _, ⟨T1, LC1, kC1, nC1⟩, -, X1, ⟨Lc1, hQ1, lq1, yq1, zq1⟩, st1⟩ := Jvm.LawKit.callS X0 hx (y := (⟨"com/example/interpoint/interpoint/giop/ReplyStatusType", "of", "(I)Lcom/example/interpoint/interpoint/giop/ReplyStatusType;"⟩ : MethodName)) hown (mvT hZ (hw _ (List.mem_of_getElem? (i := 4) rfl))) (mvT hZ (hw _ (List.mem_of_getElem? (i := 5) rfl))) (mvT hZ (hw _ (List.mem_of_getElem? (i := 6) rfl))) (mvT hZ (hw _ (List.mem_of_getElem? (i := 7) rfl))) (by decide) (backOf (W := 0) (rm2 l Z a0 hw [] p1 r0 r1 r2 r3 r4 r5 ab kb h0 n0 (by omega) pr1 pr2) hZ (hw _ (List.mem_of_getElem? (i := 7) rfl)) (hw _ (List.mem_of_getElem? (i := 6) rfl)) (by decide) (by decide)) (g := (mkF m 1 #[.val (.int p1), .unset, .unset] [(.int p1)])) rfl (by rw [hml]; rfl) (argsL := [(.int p1)]) (rest := []) (lenOf pd_1 rfl) rfl (by show 2 * 0 + _ ≤ _; exact Nat.le_of_eq rfl) (hb hby d1_1) (fun _ _ => ⟨rfl, e0, (by decide : 0 + 0 ≤ _), (by decide : 0 + 0 ≤ _)⟩)
  dsimp only [Pt.U, Pt.locs, Pt.cells, Pt.slots] at X1 lq1 yq1 zq1 st1 hQ1
  subst lq1 yq1 zq1
  obtain ⟨rfl, Nq1, eq1⟩ := hQ1
  have N1 := Fr.app N0 Nq1
  refine own_go (st' := T1.setTop (mkF m 4 #[.val (.int p1), .unset, .unset] [(own_sel r0 r1 r2 r3 r4 r5 p1)])) (fun t k => st1 t k) ?_
  refine own_go (st' := T1.setTop (mkF m 5 #[.val (.int p1), .val (own_sel r0 r1 r2 r3 r4 r5 p1), .unset] [])) (fun _ k => XS.astoreN X1.here hx rfl (hb hby d1_4) rfl (own_sel_ref r0 r1 r2 r3 r4 r5 p1) (l' := #[.val (.int p1), .val (own_sel r0 r1 r2 r3 r4 r5 p1), .unset]) (by rcases ref_cases (own_sel_ref r0 r1 r2 r3 r4 r5 p1) with q_ | ⟨y_, q_⟩ <;> rw [q_] <;> rfl) k) ?_
  refine own_go (st' := T1.setTop (mkF m 6 #[.val (.int p1), .val (own_sel r0 r1 r2 r3 r4 r5 p1), .unset] [(.int p1)])) (fun _ k => XS.iloadN X1.here hx rfl (hb hby d1_5) rfl k) ?_
  obtain ⟨_, _, ⟨T2, LC2, kC2, nC2⟩, -, X2, ⟨Lc2, hQ2, lq2, yq2, zq2⟩, st2⟩ := Jvm.LawKit.callS X1 hx (y := (⟨"com/example/interpoint/interpoint/giop/ReplyStatusTypeOfPinLaw", "expected", "(I)Lcom/example/interpoint/interpoint/giop/ReplyStatusType;"⟩ : MethodName)) hown (mvT hZ (hw _ (List.mem_of_getElem? (i := 11) rfl))) (mvT hZ (hw _ (List.mem_of_getElem? (i := 12) rfl))) (mvT hZ (hw _ (List.mem_of_getElem? (i := 2) rfl))) (mvT hZ (hw _ (List.mem_of_getElem? (i := 13) rfl))) (by decide) (backOf (W := 0) (rm3 l Z a0 hw [] p1 r0 r1 r2 r3 r4 r5 h0 n0 (by omega) pr3 pr4 pr5 pr6 pr7 pr8) hZ (hw _ (List.mem_of_getElem? (i := 13) rfl)) (hw _ (List.mem_of_getElem? (i := 2) rfl)) (by decide) (by decide)) (g := (mkF m 6 #[.val (.int p1), .val (own_sel r0 r1 r2 r3 r4 r5 p1), .unset] [(.int p1)])) rfl (by rw [hml]; rfl) (argsL := [(.int p1)]) (rest := []) (lenOf pd_1 rfl) rfl (by show 2 * 0 + _ ≤ _; exact Nat.le_of_eq rfl) (hb hby d1_6) (fun _ _ => ⟨rfl, eq1, (by decide : 0 + 0 ≤ _), (by decide : 0 + 0 ≤ _)⟩)
  dsimp only [Pt.U, Pt.locs, Pt.cells, Pt.slots] at X2 lq2 yq2 zq2 st2 hQ2
  subst lq2 yq2 zq2
  obtain ⟨rfl, Nq2, eq2⟩ := hQ2
  have N2 := Fr.app N1 Nq2
  refine own_go (st' := T2.setTop (mkF m 9 #[.val (.int p1), .val (own_sel r0 r1 r2 r3 r4 r5 p1), .unset] [(own_sel r0 r1 r2 r3 r4 r5 p1)])) (fun t k => st2 t k) ?_
  refine own_go (st' := T2.setTop (mkF m 10 #[.val (.int p1), .val (own_sel r0 r1 r2 r3 r4 r5 p1), .val (own_sel r0 r1 r2 r3 r4 r5 p1)] [])) (fun _ k => XS.astoreN X2.here hx rfl (hb hby d1_9) rfl (own_sel_ref r0 r1 r2 r3 r4 r5 p1) (l' := #[.val (.int p1), .val (own_sel r0 r1 r2 r3 r4 r5 p1), .val (own_sel r0 r1 r2 r3 r4 r5 p1)]) (by rcases ref_cases (own_sel_ref r0 r1 r2 r3 r4 r5 p1) with q_ | ⟨y_, q_⟩ <;> rw [q_] <;> rfl) k) ?_
  refine own_go (st' := T2.setTop (mkF m 11 #[.val (.int p1), .val (own_sel r0 r1 r2 r3 r4 r5 p1), .val (own_sel r0 r1 r2 r3 r4 r5 p1)] [(own_sel r0 r1 r2 r3 r4 r5 p1)])) (fun _ k => XS.aloadN X2.here hx rfl (hb hby d1_10) rfl (own_sel_ref r0 r1 r2 r3 r4 r5 p1) k) ?_
  refine own_go (st' := T2.setTop (mkF m 12 #[.val (.int p1), .val (own_sel r0 r1 r2 r3 r4 r5 p1), .val (own_sel r0 r1 r2 r3 r4 r5 p1)] [(own_sel r0 r1 r2 r3 r4 r5 p1), (own_sel r0 r1 r2 r3 r4 r5 p1)])) (fun _ k => XS.aloadN X2.here hx rfl (hb hby d1_11) rfl (own_sel_ref r0 r1 r2 r3 r4 r5 p1) k) ?_
  refine own_go (st' := T2.setTop (mkF m 17 #[.val (.int p1), .val (own_sel r0 r1 r2 r3 r4 r5 p1), .val (own_sel r0 r1 r2 r3 r4 r5 p1)] [])) (fun _ k => Jvm.RoadKit.acmp (g := (mkF m 12 #[.val (.int p1), .val (own_sel r0 r1 r2 r3 r4 r5 p1), .val (own_sel r0 r1 r2 r3 r4 r5 p1)] [(own_sel r0 r1 r2 r3 r4 r5 p1), (own_sel r0 r1 r2 r3 r4 r5 p1)])) X2 hx rfl (own_sel_ref r0 r1 r2 r3 r4 r5 p1) (own_sel_ref r0 r1 r2 r3 r4 r5 p1) (pc0 := 12) (pc' := 17) (same := true) rfl (hb hby d1_12) rfl (decide_eq_true rfl) (by decide) (by decide) k) ?_
  rcases own_cases r0 r1 r2 r3 r4 r5 p1 with hk | hk | hk | hk | hk | hk | hk
  · --
    have hq : own_sel r0 r1 r2 r3 r4 r5 p1 = .ref r0 := by rw [hk]; first | rfl | simp [own_sel]
    rw [hq]
    refine own_go (st' := T2.setTop (mkF m 18 #[.val (.int p1), .val (.ref r0), .val (.ref r0)] [(.ref r0)])) (fun _ k => XS.aloadN X2.here hx rfl (hb hby d1_17) rfl rfl k) ?_
    refine own_go (st' := T2.setTop (mkF m 21 #[.val (.int p1), .val (.ref r0), .val (.ref r0)] [])) (fun _ k => XS.ifnullNo X2.here hx rfl (hb hby d1_18) rfl k) ?_
    refine own_go (st' := T2.setTop (mkF m 22 #[.val (.int p1), .val (.ref r0), .val (.ref r0)] [(.ref r0)])) (fun _ k => XS.aloadN X2.here hx rfl (hb hby d1_21) rfl rfl k) ?_
    obtain ⟨cq3, kq3, q3a, q3b, q3c⟩ := isOf hZ eq2 pr9
    obtain ⟨_, _, ⟨T3, LC3, kC3, nC3⟩, -, X3, ⟨Lc3, hQ3, lq3, yq3, zq3⟩, st3⟩ := X2.virtualBack hx (y := (⟨"com/example/interpoint/interpoint/giop/ReplyStatusType", "code", "()I"⟩ : MethodName)) (z := (⟨"com/example/interpoint/interpoint/giop/ReplyStatusType", "code", "()I"⟩ : MethodName)) hown (mvT hZ (hw _ (List.mem_of_getElem? (i := 15) rfl))) (mvT hZ (hw _ (List.mem_of_getElem? (i := 16) rfl))) (notFace_of_selects (args := #[]) (mvT hZ (hw _ (List.mem_of_getElem? (i := 18) rfl)))) (mvT hZ (hw _ (List.mem_of_getElem? (i := 18) rfl))) (mvT hZ (hw _ (List.mem_of_getElem? (i := 17) rfl))) (by decide) (backOf (W := 0) (rm4 l Z a0 hw [] r0 (0 : Int32) h0 n0 (by omega) pr9 pr10) hZ (hw _ (List.mem_of_getElem? (i := 19) rfl)) (hw _ (List.mem_of_getElem? (i := 6) rfl)) (by decide) (by decide)) q3a q3c (g := (mkF m 22 #[.val (.int p1), .val (.ref r0), .val (.ref r0)] [(.ref r0)])) rfl (by rw [hml]; rfl) (Steps.refl _) (argsL := []) (rest := []) (lenOf pd_0 rfl) rfl (by show 2 * 0 + _ ≤ _; exact Nat.le_of_eq rfl) (hb hby d1_22) (fun _ _ => ⟨rfl, eq2, (by decide : 0 + 0 ≤ _), (by decide : 0 + 0 ≤ _)⟩)
    dsimp only [Pt.U, Pt.locs, Pt.cells, Pt.slots] at X3 lq3 yq3 zq3 st3 hQ3
    subst lq3 yq3 zq3
    obtain ⟨rfl, Nq3, eq3⟩ := hQ3
    have N3 := Fr.app N2 Nq3
    refine own_go (st' := T3.setTop (mkF m 25 #[.val (.int p1), .val (.ref r0), .val (.ref r0)] [(.int (0 : Int32))])) (fun _ k => st3.trans k) ?_
    refine own_go (st' := T3.setTop (mkF m 26 #[.val (.int p1), .val (.ref r0), .val (.ref r0)] [(.int p1), (.int (0 : Int32))])) (fun _ k => XS.iloadN X3.here hx rfl (hb hby d1_25) rfl k) ?_
    have hc4 : (0 : Int32) = p1 := hk.symm
    refine own_go (st' := T3.setTop (mkF m 31 #[.val (.int p1), .val (.ref r0), .val (.ref r0)] [])) (fun _ k => XS.icmpYes X3.here hx rfl (pc0 := 26) (pc' := 31) rfl (hb hby d1_26) rfl (teq hc4).1 (by decide) (by decide) k) ?_
    refine own_go (st' := T3.setTop (mkF m 32 #[.val (.int p1), .val (.ref r0), .val (.ref r0)] [(.int (1 : Int32))])) (fun _ k => XS.iconst X3.here hx rfl (hb hby d1_31) k) ?_
    obtain ⟨fs, hr, hrun, hended, hW, hsame⟩ := X3.leave (v := some (.int (1 : Int32))) (fun h => by rw [Bd.returns] at h; cases h)
    refine ⟨_, _, ?_, hP _ _ hrun hended ⟨_, _, rfl, ?_, ⟨_, rfl⟩, hW, hsame.mono (by decide) (by decide)⟩⟩
    · exact retN X3 hx (t := .boolean) Bd.returns (by simp) (hb hby d1_32) hr
    · show Qrm1 Z p1 r0 r1 r2 r3 r4 r5 ab kb h0 n0 _ T3.heap _
      rw [eq3]
      exact ⟨rfl, N3, rfl⟩
  · --
    have hq : own_sel r0 r1 r2 r3 r4 r5 p1 = .ref r1 := by rw [hk]; first | rfl | simp [own_sel]
    rw [hq]
    refine own_go (st' := T2.setTop (mkF m 18 #[.val (.int p1), .val (.ref r1), .val (.ref r1)] [(.ref r1)])) (fun _ k => XS.aloadN X2.here hx rfl (hb hby d1_17) rfl rfl k) ?_
    refine own_go (st' := T2.setTop (mkF m 21 #[.val (.int p1), .val (.ref r1), .val (.ref r1)] [])) (fun _ k => XS.ifnullNo X2.here hx rfl (hb hby d1_18) rfl k) ?_
    refine own_go (st' := T2.setTop (mkF m 22 #[.val (.int p1), .val (.ref r1), .val (.ref r1)] [(.ref r1)])) (fun _ k => XS.aloadN X2.here hx rfl (hb hby d1_21) rfl rfl k) ?_
    obtain ⟨cq6, kq6, q6a, q6b, q6c⟩ := isOf hZ eq2 pr11
    obtain ⟨_, _, ⟨T6, LC6, kC6, nC6⟩, -, X6, ⟨Lc6, hQ6, lq6, yq6, zq6⟩, st6⟩ := X2.virtualBack hx (y := (⟨"com/example/interpoint/interpoint/giop/ReplyStatusType", "code", "()I"⟩ : MethodName)) (z := (⟨"com/example/interpoint/interpoint/giop/ReplyStatusType", "code", "()I"⟩ : MethodName)) hown (mvT hZ (hw _ (List.mem_of_getElem? (i := 15) rfl))) (mvT hZ (hw _ (List.mem_of_getElem? (i := 16) rfl))) (notFace_of_selects (args := #[]) (mvT hZ (hw _ (List.mem_of_getElem? (i := 18) rfl)))) (mvT hZ (hw _ (List.mem_of_getElem? (i := 18) rfl))) (mvT hZ (hw _ (List.mem_of_getElem? (i := 17) rfl))) (by decide) (backOf (W := 0) (rm4 l Z a0 hw [] r1 (1 : Int32) h0 n0 (by omega) pr11 pr12) hZ (hw _ (List.mem_of_getElem? (i := 19) rfl)) (hw _ (List.mem_of_getElem? (i := 6) rfl)) (by decide) (by decide)) q6a q6c (g := (mkF m 22 #[.val (.int p1), .val (.ref r1), .val (.ref r1)] [(.ref r1)])) rfl (by rw [hml]; rfl) (Steps.refl _) (argsL := []) (rest := []) (lenOf pd_0 rfl) rfl (by show 2 * 0 + _ ≤ _; exact Nat.le_of_eq rfl) (hb hby d1_22) (fun _ _ => ⟨rfl, eq2, (by decide : 0 + 0 ≤ _), (by decide : 0 + 0 ≤ _)⟩)
    dsimp only [Pt.U, Pt.locs, Pt.cells, Pt.slots] at X6 lq6 yq6 zq6 st6 hQ6
    subst lq6 yq6 zq6
    obtain ⟨rfl, Nq6, eq6⟩ := hQ6
    have N6 := Fr.app N2 Nq6
    refine own_go (st' := T6.setTop (mkF m 25 #[.val (.int p1), .val (.ref r1), .val (.ref r1)] [(.int (1 : Int32))])) (fun _ k => st6.trans k) ?_
    refine own_go (st' := T6.setTop (mkF m 26 #[.val (.int p1), .val (.ref r1), .val (.ref r1)] [(.int p1), (.int (1 : Int32))])) (fun _ k => XS.iloadN X6.here hx rfl (hb hby d1_25) rfl k) ?_
    have hc7 : (1 : Int32) = p1 := hk.symm
    refine own_go (st' := T6.setTop (mkF m 31 #[.val (.int p1), .val (.ref r1), .val (.ref r1)] [])) (fun _ k => XS.icmpYes X6.here hx rfl (pc0 := 26) (pc' := 31) rfl (hb hby d1_26) rfl (teq hc7).1 (by decide) (by decide) k) ?_
    refine own_go (st' := T6.setTop (mkF m 32 #[.val (.int p1), .val (.ref r1), .val (.ref r1)] [(.int (1 : Int32))])) (fun _ k => XS.iconst X6.here hx rfl (hb hby d1_31) k) ?_
    obtain ⟨fs, hr, hrun, hended, hW, hsame⟩ := X6.leave (v := some (.int (1 : Int32))) (fun h => by rw [Bd.returns] at h; cases h)
    refine ⟨_, _, ?_, hP _ _ hrun hended ⟨_, _, rfl, ?_, ⟨_, rfl⟩, hW, hsame.mono (by decide) (by decide)⟩⟩
    · exact retN X6 hx (t := .boolean) Bd.returns (by simp) (hb hby d1_32) hr
    · show Qrm1 Z p1 r0 r1 r2 r3 r4 r5 ab kb h0 n0 _ T6.heap _
      rw [eq6]
      exact ⟨rfl, N6, rfl⟩
  · --
    have hq : own_sel r0 r1 r2 r3 r4 r5 p1 = .ref r2 := by rw [hk]; first | rfl | simp [own_sel]
    rw [hq]
    refine own_go (st' := T2.setTop (mkF m 18 #[.val (.int p1), .val (.ref r2), .val (.ref r2)] [(.ref r2)])) (fun _ k => XS.aloadN X2.here hx rfl (hb hby d1_17) rfl rfl k) ?_
    refine own_go (st' := T2.setTop (mkF m 21 #[.val (.int p1), .val (.ref r2), .val (.ref r2)] [])) (fun _ k => XS.ifnullNo X2.here hx rfl (hb hby d1_18) rfl k) ?_
    refine own_go (st' := T2.setTop (mkF m 22 #[.val (.int p1), .val (.ref r2), .val (.ref r2)] [(.ref r2)])) (fun _ k => XS.aloadN X2.here hx rfl (hb hby d1_21) rfl rfl k) ?_
    obtain ⟨cq9, kq9, q9a, q9b, q9c⟩ := isOf hZ eq2 pr13
    obtain ⟨_, _, ⟨T9, LC9, kC9, nC9⟩, -, X9, ⟨Lc9, hQ9, lq9, yq9, zq9⟩, st9⟩ := X2.virtualBack hx (y := (⟨"com/example/interpoint/interpoint/giop/ReplyStatusType", "code", "()I"⟩ : MethodName)) (z := (⟨"com/example/interpoint/interpoint/giop/ReplyStatusType", "code", "()I"⟩ : MethodName)) hown (mvT hZ (hw _ (List.mem_of_getElem? (i := 15) rfl))) (mvT hZ (hw _ (List.mem_of_getElem? (i := 16) rfl))) (notFace_of_selects (args := #[]) (mvT hZ (hw _ (List.mem_of_getElem? (i := 18) rfl)))) (mvT hZ (hw _ (List.mem_of_getElem? (i := 18) rfl))) (mvT hZ (hw _ (List.mem_of_getElem? (i := 17) rfl))) (by decide) (backOf (W := 0) (rm4 l Z a0 hw [] r2 (2 : Int32) h0 n0 (by omega) pr13 pr14) hZ (hw _ (List.mem_of_getElem? (i := 19) rfl)) (hw _ (List.mem_of_getElem? (i := 6) rfl)) (by decide) (by decide)) q9a q9c (g := (mkF m 22 #[.val (.int p1), .val (.ref r2), .val (.ref r2)] [(.ref r2)])) rfl (by rw [hml]; rfl) (Steps.refl _) (argsL := []) (rest := []) (lenOf pd_0 rfl) rfl (by show 2 * 0 + _ ≤ _; exact Nat.le_of_eq rfl) (hb hby d1_22) (fun _ _ => ⟨rfl, eq2, (by decide : 0 + 0 ≤ _), (by decide : 0 + 0 ≤ _)⟩)
    dsimp only [Pt.U, Pt.locs, Pt.cells, Pt.slots] at X9 lq9 yq9 zq9 st9 hQ9
    subst lq9 yq9 zq9
    obtain ⟨rfl, Nq9, eq9⟩ := hQ9
    have N9 := Fr.app N2 Nq9
    refine own_go (st' := T9.setTop (mkF m 25 #[.val (.int p1), .val (.ref r2), .val (.ref r2)] [(.int (2 : Int32))])) (fun _ k => st9.trans k) ?_
    refine own_go (st' := T9.setTop (mkF m 26 #[.val (.int p1), .val (.ref r2), .val (.ref r2)] [(.int p1), (.int (2 : Int32))])) (fun _ k => XS.iloadN X9.here hx rfl (hb hby d1_25) rfl k) ?_
    have hc10 : (2 : Int32) = p1 := hk.symm
    refine own_go (st' := T9.setTop (mkF m 31 #[.val (.int p1), .val (.ref r2), .val (.ref r2)] [])) (fun _ k => XS.icmpYes X9.here hx rfl (pc0 := 26) (pc' := 31) rfl (hb hby d1_26) rfl (teq hc10).1 (by decide) (by decide) k) ?_
    refine own_go (st' := T9.setTop (mkF m 32 #[.val (.int p1), .val (.ref r2), .val (.ref r2)] [(.int (1 : Int32))])) (fun _ k => XS.iconst X9.here hx rfl (hb hby d1_31) k) ?_
    obtain ⟨fs, hr, hrun, hended, hW, hsame⟩ := X9.leave (v := some (.int (1 : Int32))) (fun h => by rw [Bd.returns] at h; cases h)
    refine ⟨_, _, ?_, hP _ _ hrun hended ⟨_, _, rfl, ?_, ⟨_, rfl⟩, hW, hsame.mono (by decide) (by decide)⟩⟩
    · exact retN X9 hx (t := .boolean) Bd.returns (by simp) (hb hby d1_32) hr
    · show Qrm1 Z p1 r0 r1 r2 r3 r4 r5 ab kb h0 n0 _ T9.heap _
      rw [eq9]
      exact ⟨rfl, N9, rfl⟩
  · --
    have hq : own_sel r0 r1 r2 r3 r4 r5 p1 = .ref r3 := by rw [hk]; first | rfl | simp [own_sel]
    rw [hq]
    refine own_go (st' := T2.setTop (mkF m 18 #[.val (.int p1), .val (.ref r3), .val (.ref r3)] [(.ref r3)])) (fun _ k => XS.aloadN X2.here hx rfl (hb hby d1_17) rfl rfl k) ?_
    refine own_go (st' := T2.setTop (mkF m 21 #[.val (.int p1), .val (.ref r3), .val (.ref r3)] [])) (fun _ k => XS.ifnullNo X2.here hx rfl (hb hby d1_18) rfl k) ?_
    refine own_go (st' := T2.setTop (mkF m 22 #[.val (.int p1), .val (.ref r3), .val (.ref r3)] [(.ref r3)])) (fun _ k => XS.aloadN X2.here hx rfl (hb hby d1_21) rfl rfl k) ?_
    obtain ⟨cq12, kq12, q12a, q12b, q12c⟩ := isOf hZ eq2 pr15
    obtain ⟨_, _, ⟨T12, LC12, kC12, nC12⟩, -, X12, ⟨Lc12, hQ12, lq12, yq12, zq12⟩, st12⟩ := X2.virtualBack hx (y := (⟨"com/example/interpoint/interpoint/giop/ReplyStatusType", "code", "()I"⟩ : MethodName)) (z := (⟨"com/example/interpoint/interpoint/giop/ReplyStatusType", "code", "()I"⟩ : MethodName)) hown (mvT hZ (hw _ (List.mem_of_getElem? (i := 15) rfl))) (mvT hZ (hw _ (List.mem_of_getElem? (i := 16) rfl))) (notFace_of_selects (args := #[]) (mvT hZ (hw _ (List.mem_of_getElem? (i := 18) rfl)))) (mvT hZ (hw _ (List.mem_of_getElem? (i := 18) rfl))) (mvT hZ (hw _ (List.mem_of_getElem? (i := 17) rfl))) (by decide) (backOf (W := 0) (rm4 l Z a0 hw [] r3 (3 : Int32) h0 n0 (by omega) pr15 pr16) hZ (hw _ (List.mem_of_getElem? (i := 19) rfl)) (hw _ (List.mem_of_getElem? (i := 6) rfl)) (by decide) (by decide)) q12a q12c (g := (mkF m 22 #[.val (.int p1), .val (.ref r3), .val (.ref r3)] [(.ref r3)])) rfl (by rw [hml]; rfl) (Steps.refl _) (argsL := []) (rest := []) (lenOf pd_0 rfl) rfl (by show 2 * 0 + _ ≤ _; exact Nat.le_of_eq rfl) (hb hby d1_22) (fun _ _ => ⟨rfl, eq2, (by decide : 0 + 0 ≤ _), (by decide : 0 + 0 ≤ _)⟩)
    dsimp only [Pt.U, Pt.locs, Pt.cells, Pt.slots] at X12 lq12 yq12 zq12 st12 hQ12
    subst lq12 yq12 zq12
    obtain ⟨rfl, Nq12, eq12⟩ := hQ12
    have N12 := Fr.app N2 Nq12
    refine own_go (st' := T12.setTop (mkF m 25 #[.val (.int p1), .val (.ref r3), .val (.ref r3)] [(.int (3 : Int32))])) (fun _ k => st12.trans k) ?_
    refine own_go (st' := T12.setTop (mkF m 26 #[.val (.int p1), .val (.ref r3), .val (.ref r3)] [(.int p1), (.int (3 : Int32))])) (fun _ k => XS.iloadN X12.here hx rfl (hb hby d1_25) rfl k) ?_
    have hc13 : (3 : Int32) = p1 := hk.symm
    refine own_go (st' := T12.setTop (mkF m 31 #[.val (.int p1), .val (.ref r3), .val (.ref r3)] [])) (fun _ k => XS.icmpYes X12.here hx rfl (pc0 := 26) (pc' := 31) rfl (hb hby d1_26) rfl (teq hc13).1 (by decide) (by decide) k) ?_
    refine own_go (st' := T12.setTop (mkF m 32 #[.val (.int p1), .val (.ref r3), .val (.ref r3)] [(.int (1 : Int32))])) (fun _ k => XS.iconst X12.here hx rfl (hb hby d1_31) k) ?_
    obtain ⟨fs, hr, hrun, hended, hW, hsame⟩ := X12.leave (v := some (.int (1 : Int32))) (fun h => by rw [Bd.returns] at h; cases h)
    refine ⟨_, _, ?_, hP _ _ hrun hended ⟨_, _, rfl, ?_, ⟨_, rfl⟩, hW, hsame.mono (by decide) (by decide)⟩⟩
    · exact retN X12 hx (t := .boolean) Bd.returns (by simp) (hb hby d1_32) hr
    · show Qrm1 Z p1 r0 r1 r2 r3 r4 r5 ab kb h0 n0 _ T12.heap _
      rw [eq12]
      exact ⟨rfl, N12, rfl⟩
  · --
    have hq : own_sel r0 r1 r2 r3 r4 r5 p1 = .ref r4 := by rw [hk]; first | rfl | simp [own_sel]
    rw [hq]
    refine own_go (st' := T2.setTop (mkF m 18 #[.val (.int p1), .val (.ref r4), .val (.ref r4)] [(.ref r4)])) (fun _ k => XS.aloadN X2.here hx rfl (hb hby d1_17) rfl rfl k) ?_
    refine own_go (st' := T2.setTop (mkF m 21 #[.val (.int p1), .val (.ref r4), .val (.ref r4)] [])) (fun _ k => XS.ifnullNo X2.here hx rfl (hb hby d1_18) rfl k) ?_
    refine own_go (st' := T2.setTop (mkF m 22 #[.val (.int p1), .val (.ref r4), .val (.ref r4)] [(.ref r4)])) (fun _ k => XS.aloadN X2.here hx rfl (hb hby d1_21) rfl rfl k) ?_
    obtain ⟨cq15, kq15, q15a, q15b, q15c⟩ := isOf hZ eq2 pr17
    obtain ⟨_, _, ⟨T15, LC15, kC15, nC15⟩, -, X15, ⟨Lc15, hQ15, lq15, yq15, zq15⟩, st15⟩ := X2.virtualBack hx (y := (⟨"com/example/interpoint/interpoint/giop/ReplyStatusType", "code", "()I"⟩ : MethodName)) (z := (⟨"com/example/interpoint/interpoint/giop/ReplyStatusType", "code", "()I"⟩ : MethodName)) hown (mvT hZ (hw _ (List.mem_of_getElem? (i := 15) rfl))) (mvT hZ (hw _ (List.mem_of_getElem? (i := 16) rfl))) (notFace_of_selects (args := #[]) (mvT hZ (hw _ (List.mem_of_getElem? (i := 18) rfl)))) (mvT hZ (hw _ (List.mem_of_getElem? (i := 18) rfl))) (mvT hZ (hw _ (List.mem_of_getElem? (i := 17) rfl))) (by decide) (backOf (W := 0) (rm4 l Z a0 hw [] r4 (4 : Int32) h0 n0 (by omega) pr17 pr18) hZ (hw _ (List.mem_of_getElem? (i := 19) rfl)) (hw _ (List.mem_of_getElem? (i := 6) rfl)) (by decide) (by decide)) q15a q15c (g := (mkF m 22 #[.val (.int p1), .val (.ref r4), .val (.ref r4)] [(.ref r4)])) rfl (by rw [hml]; rfl) (Steps.refl _) (argsL := []) (rest := []) (lenOf pd_0 rfl) rfl (by show 2 * 0 + _ ≤ _; exact Nat.le_of_eq rfl) (hb hby d1_22) (fun _ _ => ⟨rfl, eq2, (by decide : 0 + 0 ≤ _), (by decide : 0 + 0 ≤ _)⟩)
    dsimp only [Pt.U, Pt.locs, Pt.cells, Pt.slots] at X15 lq15 yq15 zq15 st15 hQ15
    subst lq15 yq15 zq15
    obtain ⟨rfl, Nq15, eq15⟩ := hQ15
    have N15 := Fr.app N2 Nq15
    refine own_go (st' := T15.setTop (mkF m 25 #[.val (.int p1), .val (.ref r4), .val (.ref r4)] [(.int (4 : Int32))])) (fun _ k => st15.trans k) ?_
    refine own_go (st' := T15.setTop (mkF m 26 #[.val (.int p1), .val (.ref r4), .val (.ref r4)] [(.int p1), (.int (4 : Int32))])) (fun _ k => XS.iloadN X15.here hx rfl (hb hby d1_25) rfl k) ?_
    have hc16 : (4 : Int32) = p1 := hk.symm
    refine own_go (st' := T15.setTop (mkF m 31 #[.val (.int p1), .val (.ref r4), .val (.ref r4)] [])) (fun _ k => XS.icmpYes X15.here hx rfl (pc0 := 26) (pc' := 31) rfl (hb hby d1_26) rfl (teq hc16).1 (by decide) (by decide) k) ?_
    refine own_go (st' := T15.setTop (mkF m 32 #[.val (.int p1), .val (.ref r4), .val (.ref r4)] [(.int (1 : Int32))])) (fun _ k => XS.iconst X15.here hx rfl (hb hby d1_31) k) ?_
    obtain ⟨fs, hr, hrun, hended, hW, hsame⟩ := X15.leave (v := some (.int (1 : Int32))) (fun h => by rw [Bd.returns] at h; cases h)
    refine ⟨_, _, ?_, hP _ _ hrun hended ⟨_, _, rfl, ?_, ⟨_, rfl⟩, hW, hsame.mono (by decide) (by decide)⟩⟩
    · exact retN X15 hx (t := .boolean) Bd.returns (by simp) (hb hby d1_32) hr
    · show Qrm1 Z p1 r0 r1 r2 r3 r4 r5 ab kb h0 n0 _ T15.heap _
      rw [eq15]
      exact ⟨rfl, N15, rfl⟩
  · --
    have hq : own_sel r0 r1 r2 r3 r4 r5 p1 = .ref r5 := by rw [hk]; first | rfl | simp [own_sel]
    rw [hq]
    refine own_go (st' := T2.setTop (mkF m 18 #[.val (.int p1), .val (.ref r5), .val (.ref r5)] [(.ref r5)])) (fun _ k => XS.aloadN X2.here hx rfl (hb hby d1_17) rfl rfl k) ?_
    refine own_go (st' := T2.setTop (mkF m 21 #[.val (.int p1), .val (.ref r5), .val (.ref r5)] [])) (fun _ k => XS.ifnullNo X2.here hx rfl (hb hby d1_18) rfl k) ?_
    refine own_go (st' := T2.setTop (mkF m 22 #[.val (.int p1), .val (.ref r5), .val (.ref r5)] [(.ref r5)])) (fun _ k => XS.aloadN X2.here hx rfl (hb hby d1_21) rfl rfl k) ?_
    obtain ⟨cq18, kq18, q18a, q18b, q18c⟩ := isOf hZ eq2 pr19
    obtain ⟨_, _, ⟨T18, LC18, kC18, nC18⟩, -, X18, ⟨Lc18, hQ18, lq18, yq18, zq18⟩, st18⟩ := X2.virtualBack hx (y := (⟨"com/example/interpoint/interpoint/giop/ReplyStatusType", "code", "()I"⟩ : MethodName)) (z := (⟨"com/example/interpoint/interpoint/giop/ReplyStatusType", "code", "()I"⟩ : MethodName)) hown (mvT hZ (hw _ (List.mem_of_getElem? (i := 15) rfl))) (mvT hZ (hw _ (List.mem_of_getElem? (i := 16) rfl))) (notFace_of_selects (args := #[]) (mvT hZ (hw _ (List.mem_of_getElem? (i := 18) rfl)))) (mvT hZ (hw _ (List.mem_of_getElem? (i := 18) rfl))) (mvT hZ (hw _ (List.mem_of_getElem? (i := 17) rfl))) (by decide) (backOf (W := 0) (rm4 l Z a0 hw [] r5 (5 : Int32) h0 n0 (by omega) pr19 pr20) hZ (hw _ (List.mem_of_getElem? (i := 19) rfl)) (hw _ (List.mem_of_getElem? (i := 6) rfl)) (by decide) (by decide)) q18a q18c (g := (mkF m 22 #[.val (.int p1), .val (.ref r5), .val (.ref r5)] [(.ref r5)])) rfl (by rw [hml]; rfl) (Steps.refl _) (argsL := []) (rest := []) (lenOf pd_0 rfl) rfl (by show 2 * 0 + _ ≤ _; exact Nat.le_of_eq rfl) (hb hby d1_22) (fun _ _ => ⟨rfl, eq2, (by decide : 0 + 0 ≤ _), (by decide : 0 + 0 ≤ _)⟩)
    dsimp only [Pt.U, Pt.locs, Pt.cells, Pt.slots] at X18 lq18 yq18 zq18 st18 hQ18
    subst lq18 yq18 zq18
    obtain ⟨rfl, Nq18, eq18⟩ := hQ18
    have N18 := Fr.app N2 Nq18
    refine own_go (st' := T18.setTop (mkF m 25 #[.val (.int p1), .val (.ref r5), .val (.ref r5)] [(.int (5 : Int32))])) (fun _ k => st18.trans k) ?_
    refine own_go (st' := T18.setTop (mkF m 26 #[.val (.int p1), .val (.ref r5), .val (.ref r5)] [(.int p1), (.int (5 : Int32))])) (fun _ k => XS.iloadN X18.here hx rfl (hb hby d1_25) rfl k) ?_
    have hc19 : (5 : Int32) = p1 := hk.symm
    refine own_go (st' := T18.setTop (mkF m 31 #[.val (.int p1), .val (.ref r5), .val (.ref r5)] [])) (fun _ k => XS.icmpYes X18.here hx rfl (pc0 := 26) (pc' := 31) rfl (hb hby d1_26) rfl (teq hc19).1 (by decide) (by decide) k) ?_
    refine own_go (st' := T18.setTop (mkF m 32 #[.val (.int p1), .val (.ref r5), .val (.ref r5)] [(.int (1 : Int32))])) (fun _ k => XS.iconst X18.here hx rfl (hb hby d1_31) k) ?_
    obtain ⟨fs, hr, hrun, hended, hW, hsame⟩ := X18.leave (v := some (.int (1 : Int32))) (fun h => by rw [Bd.returns] at h; cases h)
    refine ⟨_, _, ?_, hP _ _ hrun hended ⟨_, _, rfl, ?_, ⟨_, rfl⟩, hW, hsame.mono (by decide) (by decide)⟩⟩
    · exact retN X18 hx (t := .boolean) Bd.returns (by simp) (hb hby d1_32) hr
    · show Qrm1 Z p1 r0 r1 r2 r3 r4 r5 ab kb h0 n0 _ T18.heap _
      rw [eq18]
      exact ⟨rfl, N18, rfl⟩
  · --
    rw [hk]
    refine own_go (st' := T2.setTop (mkF m 18 #[.val (.int p1), .val .null, .val .null] [.null])) (fun _ k => XS.aloadN X2.here hx rfl (hb hby d1_17) rfl rfl k) ?_
    refine own_go (st' := T2.setTop (mkF m 31 #[.val (.int p1), .val .null, .val .null] [])) (fun _ k => XS.ifnullYes X2.here hx rfl (pc0 := 18) (pc' := 31) rfl (hb hby d1_18) rfl (by decide) (by decide) k) ?_
    refine own_go (st' := T2.setTop (mkF m 32 #[.val (.int p1), .val .null, .val .null] [(.int (1 : Int32))])) (fun _ k => XS.iconst X2.here hx rfl (hb hby d1_31) k) ?_
    obtain ⟨fs, hr, hrun, hended, hW, hsame⟩ := X2.leave (v := some (.int (1 : Int32))) (fun h => by rw [Bd.returns] at h; cases h)
    refine ⟨_, _, ?_, hP _ _ hrun hended ⟨_, _, rfl, ?_, ⟨_, rfl⟩, hW, hsame.mono (by decide) (by decide)⟩⟩
    · exact retN X2 hx (t := .boolean) Bd.returns (by simp) (hb hby d1_32) hr
    · show Qrm1 Z p1 r0 r1 r2 r3 r4 r5 ab kb h0 n0 _ T2.heap _
      rw [eq2]
      exact ⟨rfl, N2, rfl⟩
theorem pd_2 : parseMethodDescriptor "(I)Z" = some ⟨[.int], some .boolean⟩ := by decide +kernel
theorem pn_0 : plainName "com/example/interpoint/interpoint/giop/ReplyStatusTypeOfPinLaw" = true := by first | (simp [plainName, overriddenIn]; done) | decide +kernel
theorem ef_rm0 (m : MethodId) (x0 : Int32) (x1 : Int32) : entryFrame m #[(.int x0), (.int x1)] maxLocals = mkF m 0 #[.val (.int x0), .val (.int x1), .unset] [] := by first | (simp [entryFrame, mkF, argsToLocals, Value.category, maxLocals]; done) | rfl
def Qrm0 (Z : State) (cd : Int32) (kk : Int32) (a_BY_CODE : Addr) (a_NO_EXCEPTION : Addr) (a_SYSTEM_EXCEPTION : Addr) (a_LOCATION_FORWARD : Addr) (a_LOCATION_FORWARD_PERM : Addr) (a_NEEDS_ADDRESSING_MODE : Addr) (a_USER_EXCEPTION : Addr) (k_a_BY_CODE : ClassId) (h0 : Heap) (n0 : Nat) (v : Option Value) (h : Heap) (L : List Loc) : Prop := v = some (.int 1) ∧ Fr n0 L ∧ True
set_option maxRecDepth 65536 in
set_option maxHeartbeats 40000000 in
theorem rm0 (l : Launch) (Z : State) (a0 : Array Value) (hw : ∀ d ∈ tables_1, d.before a0 Z = true) (ws : List Jvm.Cond) (cd : Int32) (kk : Int32) (a_BY_CODE : Addr) (a_NO_EXCEPTION : Addr) (a_SYSTEM_EXCEPTION : Addr) (a_LOCATION_FORWARD : Addr) (a_LOCATION_FORWARD_PERM : Addr) (a_NEEDS_ADDRESSING_MODE : Addr) (a_USER_EXCEPTION : Addr) (k_a_BY_CODE : ClassId) (h0 : Heap) (n0 : Nat) (Z0 : n0 ≤ h0.size) (pr1 : Sta Z h0 "com/example/interpoint/interpoint/giop/ReplyStatusType" "BY_CODE" "[Lcom/example/interpoint/interpoint/giop/ReplyStatusType;" (.ref a_BY_CODE)) (pr2 : Sta Z h0 "com/example/interpoint/interpoint/giop/ReplyStatusType" "NO_EXCEPTION" "Lcom/example/interpoint/interpoint/giop/ReplyStatusType;" (.ref a_NO_EXCEPTION)) (pr3 : Exa Z h0 a_NO_EXCEPTION "com/example/interpoint/interpoint/giop/ReplyStatusType") (pr4 : Sta Z h0 "com/example/interpoint/interpoint/giop/ReplyStatusType" "SYSTEM_EXCEPTION" "Lcom/example/interpoint/interpoint/giop/ReplyStatusType;" (.ref a_SYSTEM_EXCEPTION)) (pr5 : Exa Z h0 a_SYSTEM_EXCEPTION "com/example/interpoint/interpoint/giop/ReplyStatusType") (pr6 : Sta Z h0 "com/example/interpoint/interpoint/giop/ReplyStatusType" "LOCATION_FORWARD" "Lcom/example/interpoint/interpoint/giop/ReplyStatusType;" (.ref a_LOCATION_FORWARD)) (pr7 : Exa Z h0 a_LOCATION_FORWARD "com/example/interpoint/interpoint/giop/ReplyStatusType") (pr8 : Sta Z h0 "com/example/interpoint/interpoint/giop/ReplyStatusType" "LOCATION_FORWARD_PERM" "Lcom/example/interpoint/interpoint/giop/ReplyStatusType;" (.ref a_LOCATION_FORWARD_PERM)) (pr9 : Exa Z h0 a_LOCATION_FORWARD_PERM "com/example/interpoint/interpoint/giop/ReplyStatusType") (pr10 : Sta Z h0 "com/example/interpoint/interpoint/giop/ReplyStatusType" "NEEDS_ADDRESSING_MODE" "Lcom/example/interpoint/interpoint/giop/ReplyStatusType;" (.ref a_NEEDS_ADDRESSING_MODE)) (pr11 : Exa Z h0 a_NEEDS_ADDRESSING_MODE "com/example/interpoint/interpoint/giop/ReplyStatusType") (pr12 : Sta Z h0 "com/example/interpoint/interpoint/giop/ReplyStatusType" "USER_EXCEPTION" "Lcom/example/interpoint/interpoint/giop/ReplyStatusType;" (.ref a_USER_EXCEPTION)) (pr13 : Exa Z h0 a_USER_EXCEPTION "com/example/interpoint/interpoint/giop/ReplyStatusType") (pr14 : Fld Z h0 a_NO_EXCEPTION "java/lang/Enum" "ordinal" "I" (.int (0 : Int32))) (pr15 : Fld Z h0 a_SYSTEM_EXCEPTION "java/lang/Enum" "ordinal" "I" (.int (2 : Int32))) (pr16 : Fld Z h0 a_LOCATION_FORWARD "java/lang/Enum" "ordinal" "I" (.int (3 : Int32))) (pr17 : Fld Z h0 a_LOCATION_FORWARD_PERM "java/lang/Enum" "ordinal" "I" (.int (4 : Int32))) (pr18 : Fld Z h0 a_NEEDS_ADDRESSING_MODE "java/lang/Enum" "ordinal" "I" (.int (5 : Int32))) (pr19 : Fld Z h0 a_USER_EXCEPTION "java/lang/Enum" "ordinal" "I" (.int (1 : Int32))) (pr20 : Arv Z h0 a_BY_CODE k_a_BY_CODE (.object "com/example/interpoint/interpoint/giop/ReplyStatusType") (6 : Int32) [(.ref a_NO_EXCEPTION), (.ref a_USER_EXCEPTION), (.ref a_SYSTEM_EXCEPTION), (.ref a_LOCATION_FORWARD), (.ref a_LOCATION_FORWARD_PERM), (.ref a_NEEDS_ADDRESSING_MODE)] .null) :
    MetFree l x (head1 (Jvm.Cond.code x code maxLocals ret :: ws) room_1) (fun a U => a = #[(.int cd), (.int kk)] ∧ Z.Warmed39 U.vm ∧ U.heap = h0) (fun _ _ _ _ _ => True) (fun _ U o U' => ∃ v L, o = .returned v ∧ Qrm0 Z cd kk a_BY_CODE a_NO_EXCEPTION a_SYSTEM_EXCEPTION a_LOCATION_FORWARD a_LOCATION_FORWARD_PERM a_NEEDS_ADDRESSING_MODE a_USER_EXCEPTION k_a_BY_CODE h0 n0 v U'.heap L ∧ FrameEnd U o U' L 0 0) := by
  refine MetFree.of_bodySF (plainFor_of_name pn_0) hisR ?_
  intro p e s m args below meth c s₁ Bd hml0 hP0 hK
  obtain ⟨rfl, hZ, hh⟩ := hP0
  have hx := Bd.exec
  have hby := Bd.bytes
  have hml : c.maxLocals = 3 := hml0
  have hown : s.vm.findClass "com/example/interpoint/interpoint/giop/ReplyStatusTypeOfPinLaw" = some m.cls := findClass_of_methodNamed Bd.named
  have hnm := (name_of_methodNamed Bd.named Bd.method).1
  have X0 : Stand p l e room_1 s m #[(.int cd), (.int kk)] below meth c s₁ [] 0 0 := Stand.of_body Bd
  have e0 : s₁.heap = h0 := by rw [← hh, Bd.state]; rfl
  have N0 := Fr.nil n0
  suffices own_H : ∀ (P : State → Outcome → Prop), (∀ U o, U.status = .running → Ended U below o → (∃ v L, o = .returned v ∧ Qrm0 Z cd kk a_BY_CODE a_NO_EXCEPTION a_SYSTEM_EXCEPTION a_LOCATION_FORWARD a_LOCATION_FORWARD_PERM a_NEEDS_ADDRESSING_MODE a_USER_EXCEPTION k_a_BY_CODE h0 n0 v U.heap L ∧ FrameEnd s o U L 0 0) → P U o) → own_Go p.tables e below P (s₁.setTop (mkF m 0 #[.val (.int cd), .val (.int kk), .unset] [])) from own_go (fun _ k => castTop (ef_rm0 m cd kk) k) (own_H _ (fun U o h1 h2 h3 => ⟨h1, h2, h3⟩))
  intro P hP
  have lt_a_NO_EXCEPTION : @LT.lt Nat _ a_NO_EXCEPTION h0.size := pr3.lt
  have lt_a_SYSTEM_EXCEPTION : @LT.lt Nat _ a_SYSTEM_EXCEPTION h0.size := pr5.lt
  have lt_a_LOCATION_FORWARD : @LT.lt Nat _ a_LOCATION_FORWARD h0.size := pr7.lt
  have lt_a_LOCATION_FORWARD_PERM : @LT.lt Nat _ a_LOCATION_FORWARD_PERM h0.size := pr9.lt
  have lt_a_NEEDS_ADDRESSING_MODE : @LT.lt Nat _ a_NEEDS_ADDRESSING_MODE h0.size := pr11.lt
  have lt_a_USER_EXCEPTION : @LT.lt Nat _ a_USER_EXCEPTION h0.size := pr13.lt
  have lt_a_BY_CODE : @LT.lt Nat _ a_BY_CODE h0.size := pr20.lt
  refine own_go (st' := s₁.setTop (mkF m 1 #[.val (.int cd), .val (.int kk), .unset] [(.int kk)])) (fun _ k => XS.iloadN X0.here hx rfl (hb hby at_0) rfl k) ?_
  refine own_go (st' := s₁.setTop (mkF m 3 #[.val (.int cd), .val (.int kk), .unset] [(.int (7 : Int32)), (.int kk)])) (fun _ k => XS.bipush X0.here hx rfl (hb hby at_1) k) ?_
  refine own_go (st' := s₁.setTop (mkF m 4 #[.val (.int cd), .val (.int kk), .unset] [(.int (kk &&& (7 : Int32)))])) (fun _ k => XS.iand X0.here hx rfl (hb hby at_3) rfl k) ?_
  refine own_go (st' := s₁.setTop (mkF m 5 #[.val (.int cd), .val (.int kk), .unset] [(.int (1 : Int32)), (.int (kk &&& (7 : Int32)))])) (fun _ k => XS.iconst X0.here hx rfl (hb hby at_4) k) ?_
  refine own_go (st' := s₁.setTop (mkF m 6 #[.val (.int cd), .val (.int kk), .unset] [(.int ((kk &&& (7 : Int32)) - (1 : Int32)))])) (fun _ k => XS.isub X0.here hx rfl (hb hby at_5) rfl k) ?_
  refine own_go (st' := s₁.setTop (mkF m 7 #[.val (.int cd), .val (.int kk), .val (.int ((kk &&& (7 : Int32)) - (1 : Int32)))] [])) (fun _ k => XS.istoreN X0.here hx rfl (hb hby at_6) rfl (l' := #[.val (.int cd), .val (.int kk), .val (.int ((kk &&& (7 : Int32)) - (1 : Int32)))]) rfl k) ?_
  refine own_go (st' := s₁.setTop (mkF m 8 #[.val (.int cd), .val (.int kk), .val (.int ((kk &&& (7 : Int32)) - (1 : Int32)))] [(.int cd)])) (fun _ k => XS.iloadN X0.here hx rfl (hb hby at_7) rfl k) ?_
  obtain ⟨_, _, ⟨T1, LC1, kC1, nC1⟩, -, X1, ⟨Lc1, hQ1, lq1, yq1, zq1⟩, st1⟩ := Jvm.LawKit.callS X0 hx (y := (⟨"com/example/interpoint/interpoint/giop/ReplyStatusTypeOfPinLaw", "check", "(I)Z"⟩ : MethodName)) hown (mvT hZ (hw _ (List.mem_of_getElem? (i := 0) rfl))) (mvT hZ (hw _ (List.mem_of_getElem? (i := 1) rfl))) (mvT hZ (hw _ (List.mem_of_getElem? (i := 2) rfl))) (mvT hZ (hw _ (List.mem_of_getElem? (i := 3) rfl))) (by decide) (backOf (W := 0) (rm1 l Z a0 hw [] cd a_NO_EXCEPTION a_USER_EXCEPTION a_SYSTEM_EXCEPTION a_LOCATION_FORWARD a_LOCATION_FORWARD_PERM a_NEEDS_ADDRESSING_MODE a_BY_CODE k_a_BY_CODE h0 n0 (by omega) pr1 pr20 pr2 pr12 pr4 pr6 pr8 pr10 pr3 pr14 pr13 pr19 pr5 pr15 pr7 pr16 pr9 pr17 pr11 pr18) hZ (hw _ (List.mem_of_getElem? (i := 3) rfl)) (hw _ (List.mem_of_getElem? (i := 2) rfl)) (by decide) (by decide)) (g := (mkF m 8 #[.val (.int cd), .val (.int kk), .val (.int ((kk &&& (7 : Int32)) - (1 : Int32)))] [(.int cd)])) rfl (by rw [hml]; rfl) (argsL := [(.int cd)]) (rest := []) (lenOf pd_2 rfl) rfl (by show 2 * 0 + _ ≤ _; exact Nat.le_of_eq rfl) (hb hby at_8) (fun _ _ => ⟨rfl, e0, (by decide : 0 + 0 ≤ _), (by decide : 0 + 0 ≤ _)⟩)
  dsimp only [Pt.U, Pt.locs, Pt.cells, Pt.slots] at X1 lq1 yq1 zq1 st1 hQ1
  subst lq1 yq1 zq1
  obtain ⟨rfl, Nq1, eq1⟩ := hQ1
  have N1 := Fr.app N0 Nq1
  refine own_go (st' := T1.setTop (mkF m 11 #[.val (.int cd), .val (.int kk), .val (.int ((kk &&& (7 : Int32)) - (1 : Int32)))] [(.int (1 : Int32))])) (fun t k => st1 t k) ?_
  have hc2 : ¬ ((1 : Int32) = (0 : Int32)) := by decide
  refine own_go (st' := T1.setTop (mkF m 14 #[.val (.int cd), .val (.int kk), .val (.int ((kk &&& (7 : Int32)) - (1 : Int32)))] [])) (fun _ k => XS.ifNo X1.here hx rfl (hb hby at_11) rfl ((if0 _ _).trans (feq hc2).1) k) ?_
  refine own_go (st' := T1.setTop (mkF m 15 #[.val (.int cd), .val (.int kk), .val (.int ((kk &&& (7 : Int32)) - (1 : Int32)))] [(.int ((kk &&& (7 : Int32)) - (1 : Int32)))])) (fun _ k => XS.iloadN X1.here hx rfl (hb hby at_14) rfl k) ?_
  obtain ⟨_, _, ⟨T3, LC3, kC3, nC3⟩, -, X3, ⟨Lc3, hQ3, lq3, yq3, zq3⟩, st3⟩ := Jvm.LawKit.callS X1 hx (y := (⟨"com/example/interpoint/interpoint/giop/ReplyStatusTypeOfPinLaw", "check", "(I)Z"⟩ : MethodName)) hown (mvT hZ (hw _ (List.mem_of_getElem? (i := 0) rfl))) (mvT hZ (hw _ (List.mem_of_getElem? (i := 1) rfl))) (mvT hZ (hw _ (List.mem_of_getElem? (i := 2) rfl))) (mvT hZ (hw _ (List.mem_of_getElem? (i := 3) rfl))) (by decide) (backOf (W := 0) (rm1 l Z a0 hw [] ((kk &&& (7 : Int32)) - (1 : Int32)) a_NO_EXCEPTION a_USER_EXCEPTION a_SYSTEM_EXCEPTION a_LOCATION_FORWARD a_LOCATION_FORWARD_PERM a_NEEDS_ADDRESSING_MODE a_BY_CODE k_a_BY_CODE h0 n0 (by omega) pr1 pr20 pr2 pr12 pr4 pr6 pr8 pr10 pr3 pr14 pr13 pr19 pr5 pr15 pr7 pr16 pr9 pr17 pr11 pr18) hZ (hw _ (List.mem_of_getElem? (i := 3) rfl)) (hw _ (List.mem_of_getElem? (i := 2) rfl)) (by decide) (by decide)) (g := (mkF m 15 #[.val (.int cd), .val (.int kk), .val (.int ((kk &&& (7 : Int32)) - (1 : Int32)))] [(.int ((kk &&& (7 : Int32)) - (1 : Int32)))])) rfl (by rw [hml]; rfl) (argsL := [(.int ((kk &&& (7 : Int32)) - (1 : Int32)))]) (rest := []) (lenOf pd_2 rfl) rfl (by show 2 * 0 + _ ≤ _; exact Nat.le_of_eq rfl) (hb hby at_15) (fun _ _ => ⟨rfl, eq1, (by decide : 0 + 0 ≤ _), (by decide : 0 + 0 ≤ _)⟩)
  dsimp only [Pt.U, Pt.locs, Pt.cells, Pt.slots] at X3 lq3 yq3 zq3 st3 hQ3
  subst lq3 yq3 zq3
  obtain ⟨rfl, Nq3, eq3⟩ := hQ3
  have N3 := Fr.app N1 Nq3
  refine own_go (st' := T3.setTop (mkF m 18 #[.val (.int cd), .val (.int kk), .val (.int ((kk &&& (7 : Int32)) - (1 : Int32)))] [(.int (1 : Int32))])) (fun t k => st3 t k) ?_
  have hc4 : ¬ ((1 : Int32) = (0 : Int32)) := by decide
  refine own_go (st' := T3.setTop (mkF m 21 #[.val (.int cd), .val (.int kk), .val (.int ((kk &&& (7 : Int32)) - (1 : Int32)))] [])) (fun _ k => XS.ifNo X3.here hx rfl (hb hby at_18) rfl ((if0 _ _).trans (feq hc4).1) k) ?_
  refine own_go (st' := T3.setTop (mkF m 22 #[.val (.int cd), .val (.int kk), .val (.int ((kk &&& (7 : Int32)) - (1 : Int32)))] [(.int (1 : Int32))])) (fun _ k => XS.iconst X3.here hx rfl (hb hby at_21) k) ?_
  refine own_go (st' := T3.setTop (mkF m 26 #[.val (.int cd), .val (.int kk), .val (.int ((kk &&& (7 : Int32)) - (1 : Int32)))] [(.int (1 : Int32))])) (fun _ k => XS.goto X3.here hx rfl (pc0 := 22) (pc' := 26) rfl (hb hby at_22) (by decide) (by decide) k) ?_
  obtain ⟨fs, hr, hrun, hended, hW, hsame⟩ := X3.leave (v := some (.int (1 : Int32))) (fun h => by rw [Bd.returns] at h; cases h)
  refine ⟨_, _, ?_, hP _ _ hrun hended ⟨_, _, rfl, ?_, ⟨_, rfl⟩, hW, hsame.mono (by decide) (by decide)⟩⟩
  · exact retN X3 hx (t := .boolean) Bd.returns (by simp) (hb hby at_26) hr
  · show Qrm0 Z cd kk a_BY_CODE a_NO_EXCEPTION a_SYSTEM_EXCEPTION a_LOCATION_FORWARD a_LOCATION_FORWARD_PERM a_NEEDS_ADDRESSING_MODE a_USER_EXCEPTION k_a_BY_CODE h0 n0 _ T3.heap _
    rw [eq3]
    exact ⟨rfl, N3, trivial⟩
set_option maxRecDepth 65536 in
set_option maxHeartbeats 40000000 in
theorem comes_1 {Post : Tables → Env → Array Value → State → Outcome → State → Prop} (hpost : ∀ tb e args s v u, (limb_1_1.after args s (.returned v) u = true ∧ limb_1_2.after args s (.returned v) u = true ∧ True) → FrameEnd s (.returned v) u (Jvm.fieldLocs frame_1_writes args s ++ Jvm.arrayLocs frame_1_arrays args s ++ Jvm.staticLocs frame_1_statics s) 0 0 → Post tb e args s (.returned v) u) :
    ArmFor flags0 classFile x code maxLocals ret World_1 tables_1 room_1 Calls_1 rest_1 Pre_1 Post := by
  intro l hfl _ _ p e ha hc hk s m args below hf hA hF happ hP
  obtain ⟨hcalls, hrest, hpre⟩ := hP
  obtain ⟨-, -, -, hnamed, -, -, -, hat⟩ := (Spec.applies_iff hf).mp happ
  obtain ⟨hg, hn⟩ := and_e (Cond.before_iff.mp (show (Jvm.Cond.and given_1 narrow_1).before args s = true from hpre))
  obtain ⟨h1, h2⟩ := and_e hg
  obtain ⟨w0, w1, rfl⟩ : ∃ w0 w1 : Value, args = #[w0, w1] := by
    have hs : args.size = 2 := by simpa [Cond.value, given_1] using h1
    obtain ⟨L⟩ := args
    match L, hs with
    | [w0, w1], _ => exact ⟨w0, w1, rfl⟩
  have hw := fun d (hd : d ∈ tables_1) => atoms_spec (ws := Jvm.Cond.code x code maxLocals ret :: tables_1) hat d (List.mem_cons_of_mem _ hd)
  have hfit : Fit s := fun {y c} hc i hi => by
    obtain ⟨ha, rfl⟩ := Array.getElem?_eq_some_iff.mp hc
    have q := List.all_eq_true.mp ((Array.all_eq_true_iff_forall_mem.mp hF) _ (Array.getElem_mem ha)) i (List.mem_range.mpr hi)
    simpa [Array.getElem?_eq_getElem hi] using q
  obtain ⟨ha0, hr0⟩ := and_e h2
  obtain ⟨cd, ev0⟩ := is_v ha0
  obtain rfl : w0 = (.int cd) := Option.some.inj ev0
  obtain ⟨kk, ev1⟩ := is_v hr0
  obtain rfl : w1 = (.int kk) := Option.some.inj ev1
  obtain ⟨nw0, nr0⟩ := and_e hn
  obtain ⟨nw1, nr1⟩ := and_e nr0
  obtain ⟨nw2, nr2⟩ := and_e nr1
  obtain ⟨nw3, nr3⟩ := and_e nr2
  obtain ⟨nw4, nr4⟩ := and_e nr3
  obtain ⟨nw5, nr5⟩ := and_e nr4
  obtain ⟨nw6, nr6⟩ := and_e nr5
  obtain ⟨nw7, nr7⟩ := and_e nr6
  obtain ⟨nw8, nr8⟩ := and_e nr7
  obtain ⟨nw9, nr9⟩ := and_e nr8
  obtain ⟨nw10, nr10⟩ := and_e nr9
  obtain ⟨nw11, nr11⟩ := and_e nr10
  obtain ⟨nw12, nr12⟩ := and_e nr11
  obtain ⟨nw13, nr13⟩ := and_e nr12
  obtain ⟨nw14, nr14⟩ := and_e nr13
  obtain ⟨nw15, nr15⟩ := and_e nr14
  obtain ⟨nw16, nr16⟩ := and_e nr15
  obtain ⟨nw17, nr17⟩ := and_e nr16
  obtain ⟨nw18, nr18⟩ := and_e nr17
  have nw19 := nr18
  obtain ⟨a_BY_CODE, ea_BY_CODE⟩ := arr_v nw0
  have sa_BY_CODE : Sta s s.heap "com/example/interpoint/interpoint/giop/ReplyStatusType" "BY_CODE" "[Lcom/example/interpoint/interpoint/giop/ReplyStatusType;" (.ref a_BY_CODE) := Sta.start ea_BY_CODE (Or.inr ⟨(hw _ (List.mem_of_getElem? (i := 6) rfl)), (hw _ (List.mem_of_getElem? (i := 9) rfl))⟩)
  obtain ⟨cla_BY_CODE, Ara_BY_CODE⟩ := Arr.start ea_BY_CODE nw0
  obtain ⟨a_NO_EXCEPTION, ea_NO_EXCEPTION⟩ := exa_v nw2
  have sa_NO_EXCEPTION : Sta s s.heap "com/example/interpoint/interpoint/giop/ReplyStatusType" "NO_EXCEPTION" "Lcom/example/interpoint/interpoint/giop/ReplyStatusType;" (.ref a_NO_EXCEPTION) := Sta.start ea_NO_EXCEPTION (Or.inr ⟨(hw _ (List.mem_of_getElem? (i := 6) rfl)), (hw _ (List.mem_of_getElem? (i := 10) rfl))⟩)
  have xa_NO_EXCEPTION : Exa s s.heap a_NO_EXCEPTION "com/example/interpoint/interpoint/giop/ReplyStatusType" := Exa.start ea_NO_EXCEPTION nw2
  obtain ⟨a_SYSTEM_EXCEPTION, ea_SYSTEM_EXCEPTION⟩ := exa_v nw5
  have sa_SYSTEM_EXCEPTION : Sta s s.heap "com/example/interpoint/interpoint/giop/ReplyStatusType" "SYSTEM_EXCEPTION" "Lcom/example/interpoint/interpoint/giop/ReplyStatusType;" (.ref a_SYSTEM_EXCEPTION) := Sta.start ea_SYSTEM_EXCEPTION (Or.inr ⟨(hw _ (List.mem_of_getElem? (i := 6) rfl)), (hw _ (List.mem_of_getElem? (i := 29) rfl))⟩)
  have xa_SYSTEM_EXCEPTION : Exa s s.heap a_SYSTEM_EXCEPTION "com/example/interpoint/interpoint/giop/ReplyStatusType" := Exa.start ea_SYSTEM_EXCEPTION nw5
  obtain ⟨a_LOCATION_FORWARD, ea_LOCATION_FORWARD⟩ := exa_v nw8
  have sa_LOCATION_FORWARD : Sta s s.heap "com/example/interpoint/interpoint/giop/ReplyStatusType" "LOCATION_FORWARD" "Lcom/example/interpoint/interpoint/giop/ReplyStatusType;" (.ref a_LOCATION_FORWARD) := Sta.start ea_LOCATION_FORWARD (Or.inr ⟨(hw _ (List.mem_of_getElem? (i := 6) rfl)), (hw _ (List.mem_of_getElem? (i := 31) rfl))⟩)
  have xa_LOCATION_FORWARD : Exa s s.heap a_LOCATION_FORWARD "com/example/interpoint/interpoint/giop/ReplyStatusType" := Exa.start ea_LOCATION_FORWARD nw8
  obtain ⟨a_LOCATION_FORWARD_PERM, ea_LOCATION_FORWARD_PERM⟩ := exa_v nw11
  have sa_LOCATION_FORWARD_PERM : Sta s s.heap "com/example/interpoint/interpoint/giop/ReplyStatusType" "LOCATION_FORWARD_PERM" "Lcom/example/interpoint/interpoint/giop/ReplyStatusType;" (.ref a_LOCATION_FORWARD_PERM) := Sta.start ea_LOCATION_FORWARD_PERM (Or.inr ⟨(hw _ (List.mem_of_getElem? (i := 6) rfl)), (hw _ (List.mem_of_getElem? (i := 33) rfl))⟩)
  have xa_LOCATION_FORWARD_PERM : Exa s s.heap a_LOCATION_FORWARD_PERM "com/example/interpoint/interpoint/giop/ReplyStatusType" := Exa.start ea_LOCATION_FORWARD_PERM nw11
  obtain ⟨a_NEEDS_ADDRESSING_MODE, ea_NEEDS_ADDRESSING_MODE⟩ := exa_v nw14
  have sa_NEEDS_ADDRESSING_MODE : Sta s s.heap "com/example/interpoint/interpoint/giop/ReplyStatusType" "NEEDS_ADDRESSING_MODE" "Lcom/example/interpoint/interpoint/giop/ReplyStatusType;" (.ref a_NEEDS_ADDRESSING_MODE) := Sta.start ea_NEEDS_ADDRESSING_MODE (Or.inr ⟨(hw _ (List.mem_of_getElem? (i := 6) rfl)), (hw _ (List.mem_of_getElem? (i := 35) rfl))⟩)
  have xa_NEEDS_ADDRESSING_MODE : Exa s s.heap a_NEEDS_ADDRESSING_MODE "com/example/interpoint/interpoint/giop/ReplyStatusType" := Exa.start ea_NEEDS_ADDRESSING_MODE nw14
  obtain ⟨a_USER_EXCEPTION, ea_USER_EXCEPTION⟩ := exa_v nw17
  have sa_USER_EXCEPTION : Sta s s.heap "com/example/interpoint/interpoint/giop/ReplyStatusType" "USER_EXCEPTION" "Lcom/example/interpoint/interpoint/giop/ReplyStatusType;" (.ref a_USER_EXCEPTION) := Sta.start ea_USER_EXCEPTION (Or.inr ⟨(hw _ (List.mem_of_getElem? (i := 6) rfl)), (hw _ (List.mem_of_getElem? (i := 37) rfl))⟩)
  have xa_USER_EXCEPTION : Exa s s.heap a_USER_EXCEPTION "com/example/interpoint/interpoint/giop/ReplyStatusType" := Exa.start ea_USER_EXCEPTION nw17
  have lna_BY_CODE := own_len ea_BY_CODE Ara_BY_CODE.1 nw1
  have ela_BY_CODE_0 := own_elem ea_BY_CODE Ara_BY_CODE.1 ea_NO_EXCEPTION nw3
  have fa_NO_EXCEPTION_ordinal : Fld s s.heap a_NO_EXCEPTION "java/lang/Enum" "ordinal" "I" (.int (0 : Int32)) := own_fld ea_NO_EXCEPTION nw4
  have ela_BY_CODE_2 := own_elem ea_BY_CODE Ara_BY_CODE.1 ea_SYSTEM_EXCEPTION nw6
  have fa_SYSTEM_EXCEPTION_ordinal : Fld s s.heap a_SYSTEM_EXCEPTION "java/lang/Enum" "ordinal" "I" (.int (2 : Int32)) := own_fld ea_SYSTEM_EXCEPTION nw7
  have ela_BY_CODE_3 := own_elem ea_BY_CODE Ara_BY_CODE.1 ea_LOCATION_FORWARD nw9
  have fa_LOCATION_FORWARD_ordinal : Fld s s.heap a_LOCATION_FORWARD "java/lang/Enum" "ordinal" "I" (.int (3 : Int32)) := own_fld ea_LOCATION_FORWARD nw10
  have ela_BY_CODE_4 := own_elem ea_BY_CODE Ara_BY_CODE.1 ea_LOCATION_FORWARD_PERM nw12
  have fa_LOCATION_FORWARD_PERM_ordinal : Fld s s.heap a_LOCATION_FORWARD_PERM "java/lang/Enum" "ordinal" "I" (.int (4 : Int32)) := own_fld ea_LOCATION_FORWARD_PERM nw13
  have ela_BY_CODE_5 := own_elem ea_BY_CODE Ara_BY_CODE.1 ea_NEEDS_ADDRESSING_MODE nw15
  have fa_NEEDS_ADDRESSING_MODE_ordinal : Fld s s.heap a_NEEDS_ADDRESSING_MODE "java/lang/Enum" "ordinal" "I" (.int (5 : Int32)) := own_fld ea_NEEDS_ADDRESSING_MODE nw16
  have ela_BY_CODE_1 := own_elem ea_BY_CODE Ara_BY_CODE.1 ea_USER_EXCEPTION nw18
  have fa_USER_EXCEPTION_ordinal : Fld s s.heap a_USER_EXCEPTION "java/lang/Enum" "ordinal" "I" (.int (1 : Int32)) := own_fld ea_USER_EXCEPTION nw19
  have va_BY_CODE : Arv s s.heap a_BY_CODE cla_BY_CODE.cls (.object "com/example/interpoint/interpoint/giop/ReplyStatusType") (6 : Int32) [(.ref a_NO_EXCEPTION), (.ref a_USER_EXCEPTION), (.ref a_SYSTEM_EXCEPTION), (.ref a_LOCATION_FORWARD), (.ref a_LOCATION_FORWARD_PERM), (.ref a_NEEDS_ADDRESSING_MODE)] .null := Arv.start hfit Ara_BY_CODE lna_BY_CODE.1 lna_BY_CODE.2 (by decide) rfl ⟨ela_BY_CODE_0, ela_BY_CODE_1, ela_BY_CODE_2, ela_BY_CODE_3, ela_BY_CODE_4, ela_BY_CODE_5, trivial⟩
  obtain ⟨n, o, h1, h2, h3, _, L, rfl, hQ, hq⟩ := rm0 l s _ hw tables_1 cd kk a_BY_CODE a_NO_EXCEPTION a_SYSTEM_EXCEPTION a_LOCATION_FORWARD a_LOCATION_FORWARD_PERM a_NEEDS_ADDRESSING_MODE a_USER_EXCEPTION cla_BY_CODE.cls s.heap s.heap.size (Nat.le_refl _) sa_BY_CODE sa_NO_EXCEPTION xa_NO_EXCEPTION sa_SYSTEM_EXCEPTION xa_SYSTEM_EXCEPTION sa_LOCATION_FORWARD xa_LOCATION_FORWARD sa_LOCATION_FORWARD_PERM xa_LOCATION_FORWARD_PERM sa_NEEDS_ADDRESSING_MODE xa_NEEDS_ADDRESSING_MODE sa_USER_EXCEPTION xa_USER_EXCEPTION fa_NO_EXCEPTION_ordinal fa_SYSTEM_EXCEPTION_ordinal fa_LOCATION_FORWARD_ordinal fa_LOCATION_FORWARD_PERM_ordinal fa_NEEDS_ADDRESSING_MODE_ordinal fa_USER_EXCEPTION_ordinal va_BY_CODE p e ha hc hk s m _ below hf ((Spec.applies_iff_loose hf).mp happ).1 ⟨rfl, State.Warmed39.refl s, rfl⟩ trivial
  obtain ⟨rfl, N, -⟩ := hQ
  refine ⟨n, _, h1, h2, h3, hpost _ _ _ _ _ _ ⟨Cond.after_iff.mpr rfl, Cond.after_iff.mpr (eq_i res_at (Term.int_eval (1)) rfl), trivial⟩ ⟨hq.1, hq.2.1, (hq.2.2.sift fun y hy => Or.inr (N y hy)).mono (by decide) (by decide)⟩⟩
theorem main_1_1 : Claimed_1_1 := comes_1 fun _ _ _ _ _ _ h hF => ⟨h.1, hF⟩
theorem main_1_2 : Claimed_1_2 := comes_1 fun _ _ _ _ _ _ h hF => ⟨h.2.1, hF⟩
end Jvm.Pilot.@@N@@
namespace Jvm.Pilot.@@N@@
open Jvm Jvm.ClassFile Sem Op Lib Jvm.Free Jvm.Stand Jvm.Pilot.@@N@@.Jvm.D
/-! MADE BY PROGRAM (witnessworld.py) out of the Statement's table words and the real class files: 13 classes; the members and pool entries that the words name. The judged class is class 1, her method 1. -/
namespace start1
open Jvm.ClassFile
def u (s : String) : CpInfo := .utf8 (stringToUtf16 s)
/-- a pool by its gaps: so many unusable entries, then the entry; so many at the end -/
def gap : Nat → List CpInfo → List CpInfo
  | 0, r => r
  | n + 1, r => .unusable :: gap n r
def poolList (es : List (Nat × CpInfo)) (last : Nat) : List CpInfo := es.foldr (fun e r => gap e.1 (e.2 :: r)) (gap last [])
def pool (es : List (Nat × CpInfo)) (last : Nat) : Array CpInfo := ⟨poolList es last⟩
def fileOf (pool : Array CpInfo) (this : Nat) (attrs : Array Attribute := #[]) (ms : Array MethodInfo := #[]) (fl : Nat := 33) (sup : Nat := 0) (ifs : Array Nat := #[]) (fds : Array FieldInfo := #[]) : ClassFile where
  minorVersion := 0
  majorVersion := 65
  constantPool := pool
  accessFlags := fl
  thisClass := this
  superClass := sup
  interfaces := ifs
  fields := fds
  methods := ms
  attributes := attrs
def plain (name : String) (sup : Option ClassId) : Class where
  name := name
  kind := .ordinary
  loader := none
  accessFlags := 33
  super := sup
  interfaces := #[]
  cf := none
  fields := #[]
  methods := #[]
  instanceTypes := #[]
  staticTypes := #[]
  resolved := #[]
  callSites := []
  init := .initialized
  statics := none
  mirror := none

def pool0 : Array CpInfo := pool [(5, u "<init>"), (0, u "()V"), (1, .class_ 10), (1, u "java/lang/Object")] 113

def k0m0 : Method := { name := "<init>", desc := "()V", sig := { parameters := [], returnType := none }, accessFlags := 1, code := none }
/-- java/lang/Object -/
def k0 : Class := { plain "java/lang/Object" none with
  accessFlags := 33
  interfaces := #[]
  cf := some (fileOf pool0 8 #[] #[{ accessFlags := 1, nameIndex := 5, descriptorIndex := 6, attributes := #[] }] 33 0 #[] #[])
  fields := #[]
  methods := #[k0m0]
  instanceTypes := #[]
  staticTypes := #[]
  resolved := Array.replicate 124 none
  statics := none }

def pool1 : Array CpInfo := pool [(2, .class_ 4), (1, u "java/lang/Object"), (0, u "<init>"), (0, u "()V"), (0, .methodref 8 9), (0, .class_ 10), (0, .nameAndType 11 12), (0, u "com/example/interpoint/interpoint/giop/ReplyStatusTypeOfPinLaw"), (0, u "check"), (0, u "(I)Z"), (0, .methodref 14 15), (0, .class_ 16), (0, .nameAndType 17 18), (0, u "com/example/interpoint/interpoint/giop/ReplyStatusType"), (0, u "of"), (0, u "(I)Lcom/example/interpoint/interpoint/giop/ReplyStatusType;"), (0, .methodref 8 20), (0, .nameAndType 21 18), (0, u "expected"), (0, .methodref 14 23), (0, .nameAndType 24 25), (0, u "code"), (0, u "()I"), (0, .fieldref 14 27), (0, .nameAndType 28 29), (0, u "NO_EXCEPTION"), (0, u "Lcom/example/interpoint/interpoint/giop/ReplyStatusType;"), (0, .fieldref 14 31), (0, .nameAndType 32 29), (0, u "USER_EXCEPTION"), (0, .fieldref 14 34), (0, .nameAndType 35 29), (0, u "SYSTEM_EXCEPTION"), (0, .fieldref 14 37), (0, .nameAndType 38 29), (0, u "LOCATION_FORWARD"), (0, .fieldref 14 40), (0, .nameAndType 41 29), (0, u "LOCATION_FORWARD_PERM"), (0, .fieldref 14 43), (0, .nameAndType 44 29), (0, u "NEEDS_ADDRESSING_MODE"), (2, u "law"), (0, u "(II)Z")] 3

def k1m0 : Method := { name := "<init>", desc := "()V", sig := { parameters := [], returnType := none }, accessFlags := 1, code := none }
def k1c1 : Code := { maxStack := 2, maxLocals := 3, code := code, exceptionTable := #[], attributes := #[] }
def k1m1 : Method := { name := "law", desc := "(II)Z", sig := { parameters := [.int, .int], returnType := some .boolean }, accessFlags := 9, code := some k1c1 }
def k1c2 : Code := { maxStack := 2, maxLocals := 3, code := method_3_code, exceptionTable := #[], attributes := #[] }
def k1m2 : Method := { name := "check", desc := "(I)Z", sig := { parameters := [.int], returnType := some .boolean }, accessFlags := 10, code := some k1c2 }
def k1c3 : Code := { maxStack := 2, maxLocals := 1, code := method_4_code, exceptionTable := #[], attributes := #[] }
def k1m3 : Method := { name := "expected", desc := "(I)Lcom/example/interpoint/interpoint/giop/ReplyStatusType;", sig := { parameters := [.int], returnType := some (.object "com/example/interpoint/interpoint/giop/ReplyStatusType") }, accessFlags := 10, code := some k1c3 }
/-- com/example/interpoint/interpoint/giop/ReplyStatusTypeOfPinLaw -/
def k1 : Class := { plain "com/example/interpoint/interpoint/giop/ReplyStatusTypeOfPinLaw" (some 0) with
  accessFlags := 49
  interfaces := #[]
  cf := some (fileOf pool1 8 #[] #[{ accessFlags := 1, nameIndex := 5, descriptorIndex := 6, attributes := #[] }, { accessFlags := 9, nameIndex := 47, descriptorIndex := 48, attributes := #[] }, { accessFlags := 10, nameIndex := 11, descriptorIndex := 12, attributes := #[] }, { accessFlags := 10, nameIndex := 21, descriptorIndex := 18, attributes := #[] }] 49 2 #[] #[])
  fields := #[]
  methods := #[k1m0, k1m1, k1m2, k1m3]
  instanceTypes := #[]
  staticTypes := #[]
  resolved := Array.replicate 52 none
  statics := none }

def pool2 : Array CpInfo := pool [(1, .class_ 2), (0, u "java/lang/constant/Constable"), (0, .class_ 4), (0, u "java/lang/Object")] 6

/-- java/lang/constant/Constable -/
def k2 : Class := { plain "java/lang/constant/Constable" (some 0) with
  accessFlags := 1537
  interfaces := #[]
  cf := some (fileOf pool2 1 #[] #[] 1537 3 #[] #[])
  fields := #[]
  methods := #[]
  instanceTypes := #[]
  staticTypes := #[]
  resolved := Array.replicate 11 none
  statics := none }

def pool3 : Array CpInfo := pool [(1, .class_ 2), (0, u "java/lang/Comparable"), (0, .class_ 4), (0, u "java/lang/Object")] 7

/-- java/lang/Comparable -/
def k3 : Class := { plain "java/lang/Comparable" (some 0) with
  accessFlags := 1537
  interfaces := #[]
  cf := some (fileOf pool3 1 #[] #[] 1537 3 #[] #[])
  fields := #[]
  methods := #[]
  instanceTypes := #[]
  staticTypes := #[]
  resolved := Array.replicate 12 none
  statics := none }

def pool4 : Array CpInfo := pool [(1, .class_ 2), (0, u "java/io/Serializable"), (0, .class_ 4), (0, u "java/lang/Object")] 2

/-- java/io/Serializable -/
def k4 : Class := { plain "java/io/Serializable" (some 0) with
  accessFlags := 1537
  interfaces := #[]
  cf := some (fileOf pool4 1 #[] #[] 1537 3 #[] #[])
  fields := #[]
  methods := #[]
  instanceTypes := #[]
  staticTypes := #[]
  resolved := Array.replicate 7 none
  statics := none }

def pool5 : Array CpInfo := pool [(2, .class_ 4), (1, u "java/lang/Enum"), (0, u "name"), (0, u "Ljava/lang/String;"), (0, .fieldref 2 8), (0, .nameAndType 9 10), (0, u "ordinal"), (0, u "I"), (1, .class_ 14), (1, u "java/lang/Object"), (4, u "hash"), (86, .class_ 108), (1, u "java/lang/Enum$EnumDesc"), (2, .class_ 112), (0, u "java/lang/constant/Constable"), (0, .class_ 114), (0, u "java/lang/Comparable"), (0, .class_ 116), (0, u "java/io/Serializable"), (9, u "()I")] 77

def k5c0 : Code := { maxStack := 1, maxLocals := 1, code := jdk_37_method_2_code, exceptionTable := #[], attributes := #[] }
def k5m0 : Method := { name := "ordinal", desc := "()I", sig := { parameters := [], returnType := some .int }, accessFlags := 17, code := some k5c0 }
/-- java/lang/Enum -/
def k5 : Class := { plain "java/lang/Enum" (some 0) with
  accessFlags := 1057
  interfaces := #[2, 3, 4]
  cf := some (fileOf pool5 2 #[.nestMembers #[106]] #[{ accessFlags := 17, nameIndex := 9, descriptorIndex := 126, attributes := #[] }] 1057 12 #[111, 113, 115] #[{ accessFlags := 18, nameIndex := 5, descriptorIndex := 6, attributes := #[] }, { accessFlags := 18, nameIndex := 9, descriptorIndex := 10, attributes := #[] }, { accessFlags := 2, nameIndex := 19, descriptorIndex := 10, attributes := #[] }])
  fields := #[{ name := "name", type := (.object "java/lang/String"), accessFlags := 18, slot := 0, constantValue := 0 }, { name := "ordinal", type := .int, accessFlags := 18, slot := 1, constantValue := 0 }, { name := "hash", type := .int, accessFlags := 2, slot := 2, constantValue := 0 }]
  methods := #[k5m0]
  instanceTypes := #[(.object "java/lang/String"), .int, .int]
  staticTypes := #[]
  resolved := Array.replicate 204 none
  statics := none }

def pool6 : Array CpInfo := pool [(1, .class_ 2), (0, u "com/example/interpoint/interpoint/giop/ReplyStatusType"), (2, u "NO_EXCEPTION"), (0, u "Lcom/example/interpoint/interpoint/giop/ReplyStatusType;"), (2, u "USER_EXCEPTION"), (2, u "SYSTEM_EXCEPTION"), (2, u "LOCATION_FORWARD"), (2, u "LOCATION_FORWARD_PERM"), (2, u "NEEDS_ADDRESSING_MODE"), (2, u "$VALUES"), (0, u "[Lcom/example/interpoint/interpoint/giop/ReplyStatusType;"), (6, .class_ 34), (1, u "java/lang/Enum"), (6, .methodref 1 42), (0, .nameAndType 43 44), (0, u "ordinal"), (0, u "()I"), (0, .fieldref 1 46), (0, .nameAndType 47 25), (0, u "BY_CODE"), (20, u "code"), (0, u "of"), (0, u "(I)Lcom/example/interpoint/interpoint/giop/ReplyStatusType;")] 5

def k6c0 : Code := { maxStack := 1, maxLocals := 1, code := prog_91_method_4_code, exceptionTable := #[], attributes := #[] }
def k6m0 : Method := { name := "code", desc := "()I", sig := { parameters := [], returnType := some .int }, accessFlags := 0, code := some k6c0 }
def k6c1 : Code := { maxStack := 2, maxLocals := 1, code := prog_91_method_5_code, exceptionTable := #[], attributes := #[] }
def k6m1 : Method := { name := "of", desc := "(I)Lcom/example/interpoint/interpoint/giop/ReplyStatusType;", sig := { parameters := [.int], returnType := some (.object "com/example/interpoint/interpoint/giop/ReplyStatusType") }, accessFlags := 8, code := some k6c1 }
/-- com/example/interpoint/interpoint/giop/ReplyStatusType -/
def k6 : Class := { plain "com/example/interpoint/interpoint/giop/ReplyStatusType" (some 5) with
  accessFlags := 16433
  interfaces := #[]
  cf := some (fileOf pool6 1 #[] #[{ accessFlags := 0, nameIndex := 68, descriptorIndex := 44, attributes := #[] }, { accessFlags := 8, nameIndex := 69, descriptorIndex := 70, attributes := #[] }] 16433 32 #[] #[{ accessFlags := 16409, nameIndex := 5, descriptorIndex := 6, attributes := #[] }, { accessFlags := 16409, nameIndex := 9, descriptorIndex := 6, attributes := #[] }, { accessFlags := 16409, nameIndex := 12, descriptorIndex := 6, attributes := #[] }, { accessFlags := 16409, nameIndex := 15, descriptorIndex := 6, attributes := #[] }, { accessFlags := 16409, nameIndex := 18, descriptorIndex := 6, attributes := #[] }, { accessFlags := 16409, nameIndex := 21, descriptorIndex := 6, attributes := #[] }, { accessFlags := 26, nameIndex := 47, descriptorIndex := 25, attributes := #[] }, { accessFlags := 4122, nameIndex := 24, descriptorIndex := 25, attributes := #[] }])
  fields := #[{ name := "NO_EXCEPTION", type := (.object "com/example/interpoint/interpoint/giop/ReplyStatusType"), accessFlags := 16409, slot := 0, constantValue := 0 }, { name := "USER_EXCEPTION", type := (.object "com/example/interpoint/interpoint/giop/ReplyStatusType"), accessFlags := 16409, slot := 1, constantValue := 0 }, { name := "SYSTEM_EXCEPTION", type := (.object "com/example/interpoint/interpoint/giop/ReplyStatusType"), accessFlags := 16409, slot := 2, constantValue := 0 }, { name := "LOCATION_FORWARD", type := (.object "com/example/interpoint/interpoint/giop/ReplyStatusType"), accessFlags := 16409, slot := 3, constantValue := 0 }, { name := "LOCATION_FORWARD_PERM", type := (.object "com/example/interpoint/interpoint/giop/ReplyStatusType"), accessFlags := 16409, slot := 4, constantValue := 0 }, { name := "NEEDS_ADDRESSING_MODE", type := (.object "com/example/interpoint/interpoint/giop/ReplyStatusType"), accessFlags := 16409, slot := 5, constantValue := 0 }, { name := "BY_CODE", type := (.array (.object "com/example/interpoint/interpoint/giop/ReplyStatusType")), accessFlags := 26, slot := 6, constantValue := 0 }, { name := "$VALUES", type := (.array (.object "com/example/interpoint/interpoint/giop/ReplyStatusType")), accessFlags := 4122, slot := 7, constantValue := 0 }]
  methods := #[k6m0, k6m1]
  instanceTypes := #[(.object "java/lang/String"), .int, .int]
  staticTypes := #[(.object "com/example/interpoint/interpoint/giop/ReplyStatusType"), (.object "com/example/interpoint/interpoint/giop/ReplyStatusType"), (.object "com/example/interpoint/interpoint/giop/ReplyStatusType"), (.object "com/example/interpoint/interpoint/giop/ReplyStatusType"), (.object "com/example/interpoint/interpoint/giop/ReplyStatusType"), (.object "com/example/interpoint/interpoint/giop/ReplyStatusType"), (.array (.object "com/example/interpoint/interpoint/giop/ReplyStatusType")), (.array (.object "com/example/interpoint/interpoint/giop/ReplyStatusType"))]
  resolved := Array.replicate 76 none
  statics := some 0 }

def pool7 : Array CpInfo := pool [(1, u "java/lang/Cloneable"), (0, .class_ 1), (0, u "java/lang/Object"), (0, .class_ 3)] 3

/-- java/lang/Cloneable -/
def k7 : Class := { plain "java/lang/Cloneable" (some 0) with
  accessFlags := 1537
  interfaces := #[]
  cf := some (fileOf pool7 2 #[] #[] 1537 4 #[] #[])
  fields := #[]
  methods := #[]
  instanceTypes := #[]
  staticTypes := #[]
  resolved := Array.replicate 8 none
  statics := none }

/-- the primitive byte -/
def k8 : Class := { plain "byte" none with kind := .primitive 'B', accessFlags := 0x411 }
/-- [B -/
def k9 : Class := { plain "[B" (some 0) with kind := .array 8 .byte, interfaces := #[7, 4], accessFlags := 1041 }

/-- the primitive int -/
def k10 : Class := { plain "int" none with kind := .primitive 'I', accessFlags := 0x411 }
/-- [I -/
def k11 : Class := { plain "[I" (some 0) with kind := .array 10 .int, interfaces := #[7, 4], accessFlags := 1041 }

/-- [Lcom/example/interpoint/interpoint/giop/ReplyStatusType; -/
def k12 : Class := { plain "[Lcom/example/interpoint/interpoint/giop/ReplyStatusType;" (some 0) with kind := .array 6 (.object "com/example/interpoint/interpoint/giop/ReplyStatusType"), interfaces := #[7, 4], accessFlags := 1041 }

def heap : Heap := #[{ cls := 6, slots := #[.ref 2, .ref 3, .ref 4, .ref 5, .ref 6, .ref 7, .ref 1, .null], vm := .statics 6 },
  { cls := 12, slots := #[.ref 2, .ref 3, .ref 4, .ref 5, .ref 6, .ref 7], vm := .none },
  { cls := 6, slots := #[.null, .int 0, .int 0], vm := .none },
  { cls := 6, slots := #[.null, .int 1, .int 0], vm := .none },
  { cls := 6, slots := #[.null, .int 2, .int 0], vm := .none },
  { cls := 6, slots := #[.null, .int 3, .int 0], vm := .none },
  { cls := 6, slots := #[.null, .int 4, .int 0], vm := .none },
  { cls := 6, slots := #[.null, .int 5, .int 0], vm := .none }]
def classes : Array Class := #[k0, k1, k2, k3, k4, k5, k6, k7, k8, k9, k10, k11, k12]
def interned : List (Array UInt16 × Addr) := []
def slotsUsed : Nat := 32
def theMethod : MethodId := ⟨1, 1⟩
def args0 : Array Value := #[.int 5, .int 7]
def aboutOver (below : List Frame) : State where
  vm := { classes := classes, interned := interned.toArray }
  heap := heap
  slotsUsed := slotsUsed
  threads := #[{ frames := .invoking theMethod args0 :: below }]
def below0 : List Frame := [.native { method := ⟨0, 0⟩, args := #[] }]
def about1 : State := aboutOver below0
def p0 : Program := .bare "" "" ""
def e0 : Env := launch0.env 0 0 0
theorem w_frames : about1.frames = Frame.invoking theMethod args0 :: below0 := rfl
set_option maxRecDepth 65536 in
theorem w_args : argsFit about1.vm theMethod args0 = true := by decide +kernel
set_option maxRecDepth 65536 in
theorem w_heap : heapFits about1 = true := by decide +kernel
set_option maxRecDepth 65536 in
theorem w_runnable : about1.curStatus? = some .runnable := by decide +kernel
set_option maxRecDepth 65536 in
theorem w_alone : about1.alone = true := by decide +kernel
set_option maxRecDepth 65536 in
theorem w_named : about1.methodNamed? x = some theMethod := by decide +kernel
set_option maxRecDepth 65536 in
theorem w_hears : about1.hears theMethod below0 = true := by decide +kernel
set_option maxRecDepth 65536 in
theorem w_ripe : about1.ripe theMethod args0 below0 = true := by decide +kernel
theorem w_running : about1.status = .running := rfl
set_option maxRecDepth 65536 in
theorem w_room : about1.hasRoom e0.platform room_1 = true :=
  launch0.hasRoom_least _ room_1 (by decide +kernel) (by decide +kernel) (by decide +kernel) (by decide +kernel) (by decide +kernel) (by decide +kernel)
theorem allAtoms_all (ts : List Jvm.Cond) (a : Array Jvm.Value) (st : Jvm.State) : (allAtoms ts).before a st = ts.all (fun c => c.before a st) := by
  induction ts with
  | nil => rfl
  | cons c t ih =>
    show (Jvm.Cond.and c (allAtoms t)).before a st = _
    rw [Jvm.Cond.before_and, ih, List.all_cons]
def words1 : List Jvm.Cond := Jvm.Cond.code x code maxLocals ret :: tables_1
/-- a 'code' word, met by the world's own term for the bytes: nothing is compared byte by byte -/
theorem code_word {y : MethodName} {bytes : ByteArray} {mx : Nat} {rt : Option FieldType} {a : Array Value} {s : State} {m : MethodId} {meth : Method} {c : Code} (h1 : s.methodNamed? y = some m) (h2 : s.vm.method? m = some meth) (h3 : meth.code = some c) (h4 : c.code = bytes)
    (h5 : (c.maxLocals == mx && c.exceptionTable.isEmpty && decide (c.maxStack ≤ mostOperands) && decide (meth.sig.returnType = rt) && !meth.locks && decide (parseMethodDescriptor y.desc = some meth.sig)) = true) : (Jvm.Cond.code y bytes mx rt).before a s = true := by
  simp only [Bool.and_eq_true, beq_iff_eq, Bool.not_eq_true', decide_eq_true_eq] at h5
  obtain ⟨⟨⟨⟨⟨g1, g2⟩, g3⟩, g4⟩, g5⟩, g6⟩ := h5
  simp [Cond.before, Cond.holds, Cond.value, h1, h2, h3, h4, g1, g2, g3, g4, g5, g6]
def isCode : Jvm.Cond → Bool
  | .code _ _ _ _ => true
  | _ => false
theorem all_split {L : List Jvm.Cond} {P : Jvm.Cond → Bool} (h1 : L.all (fun c => isCode c || P c) = true) (h2 : ∀ c ∈ L.filter isCode, P c = true) : L.all P = true := by
  refine List.all_eq_true.mpr fun c hc => ?_
  have h := List.all_eq_true.mp h1 c hc
  rcases Bool.eq_false_or_eq_true (isCode c) with hi | hi
  · exact h2 c (List.mem_filter.mpr ⟨hc, hi⟩)
  · simpa [hi] using h
set_option maxRecDepth 65536 in
theorem w_c0 : (Jvm.Cond.code x code maxLocals ret).before args0 about1 = true := code_word (m := ⟨1, 1⟩) (meth := k1m1) (c := k1c1) (by decide +kernel) rfl rfl rfl (by decide +kernel)
set_option maxRecDepth 65536 in
theorem w_c1 : (Jvm.Cond.code ({ cls := "com/example/interpoint/interpoint/giop/ReplyStatusTypeOfPinLaw", name := "check", desc := "(I)Z" } : Jvm.MethodName) method_3_code (3 : Nat) (Option.some Jvm.ClassFile.FieldType.boolean)).before args0 about1 = true := code_word (m := ⟨1, 2⟩) (meth := k1m2) (c := k1c2) (by decide +kernel) rfl rfl rfl (by decide +kernel)
set_option maxRecDepth 65536 in
theorem w_c2 : (Jvm.Cond.code ({ cls := "com/example/interpoint/interpoint/giop/ReplyStatusType", name := "of", desc := "(I)Lcom/example/interpoint/interpoint/giop/ReplyStatusType;" } : Jvm.MethodName) prog_91_method_5_code (1 : Nat) (Option.some (Jvm.ClassFile.FieldType.object "com/example/interpoint/interpoint/giop/ReplyStatusType"))).before args0 about1 = true := code_word (m := ⟨6, 1⟩) (meth := k6m1) (c := k6c1) (by decide +kernel) rfl rfl rfl (by decide +kernel)
set_option maxRecDepth 65536 in
theorem w_c3 : (Jvm.Cond.code ({ cls := "com/example/interpoint/interpoint/giop/ReplyStatusTypeOfPinLaw", name := "expected", desc := "(I)Lcom/example/interpoint/interpoint/giop/ReplyStatusType;" } : Jvm.MethodName) method_4_code (1 : Nat) (Option.some (Jvm.ClassFile.FieldType.object "com/example/interpoint/interpoint/giop/ReplyStatusType"))).before args0 about1 = true := code_word (m := ⟨1, 3⟩) (meth := k1m3) (c := k1c3) (by decide +kernel) rfl rfl rfl (by decide +kernel)
set_option maxRecDepth 65536 in
theorem w_c4 : (Jvm.Cond.code ({ cls := "com/example/interpoint/interpoint/giop/ReplyStatusType", name := "code", desc := "()I" } : Jvm.MethodName) prog_91_method_4_code (1 : Nat) (Option.some Jvm.ClassFile.FieldType.int)).before args0 about1 = true := code_word (m := ⟨6, 0⟩) (meth := k6m0) (c := k6c0) (by decide +kernel) rfl rfl rfl (by decide +kernel)
set_option maxRecDepth 65536 in
theorem w_c5 : (Jvm.Cond.code ({ cls := "java/lang/Enum", name := "ordinal", desc := "()I" } : Jvm.MethodName) jdk_37_method_2_code (1 : Nat) (Option.some Jvm.ClassFile.FieldType.int)).before args0 about1 = true := code_word (m := ⟨5, 0⟩) (meth := k5m0) (c := k5c0) (by decide +kernel) rfl rfl rfl (by decide +kernel)
def codes1 : List Jvm.Cond := [Jvm.Cond.code x code maxLocals ret, Jvm.Cond.code ({ cls := "com/example/interpoint/interpoint/giop/ReplyStatusTypeOfPinLaw", name := "check", desc := "(I)Z" } : Jvm.MethodName) method_3_code (3 : Nat) (Option.some Jvm.ClassFile.FieldType.boolean), Jvm.Cond.code ({ cls := "com/example/interpoint/interpoint/giop/ReplyStatusType", name := "of", desc := "(I)Lcom/example/interpoint/interpoint/giop/ReplyStatusType;" } : Jvm.MethodName) prog_91_method_5_code (1 : Nat) (Option.some (Jvm.ClassFile.FieldType.object "com/example/interpoint/interpoint/giop/ReplyStatusType")), Jvm.Cond.code ({ cls := "com/example/interpoint/interpoint/giop/ReplyStatusTypeOfPinLaw", name := "expected", desc := "(I)Lcom/example/interpoint/interpoint/giop/ReplyStatusType;" } : Jvm.MethodName) method_4_code (1 : Nat) (Option.some (Jvm.ClassFile.FieldType.object "com/example/interpoint/interpoint/giop/ReplyStatusType")), Jvm.Cond.code ({ cls := "com/example/interpoint/interpoint/giop/ReplyStatusType", name := "code", desc := "()I" } : Jvm.MethodName) prog_91_method_4_code (1 : Nat) (Option.some Jvm.ClassFile.FieldType.int), Jvm.Cond.code ({ cls := "java/lang/Enum", name := "ordinal", desc := "()I" } : Jvm.MethodName) jdk_37_method_2_code (1 : Nat) (Option.some Jvm.ClassFile.FieldType.int)]
set_option maxRecDepth 65536 in
theorem codes_eq : words1.filter isCode = codes1 := rfl
theorem w_codes : ∀ c ∈ words1.filter isCode, c.before args0 about1 = true := by
  rw [codes_eq]
  intro c hc
  simp only [codes1, List.mem_cons, List.not_mem_nil, or_false] at hc
  rcases hc with rfl | rfl | rfl | rfl | rfl | rfl
  · exact w_c0
  · exact w_c1
  · exact w_c2
  · exact w_c3
  · exact w_c4
  · exact w_c5
set_option maxRecDepth 65536 in
theorem w_t1 : (words1.take 24).all (fun c => isCode c || c.before args0 about1) = true := by decide +kernel
set_option maxRecDepth 65536 in
theorem w_t2 : (words1.drop 24).all (fun c => isCode c || c.before args0 about1) = true := by decide +kernel
theorem w_tables : (allAtoms (Jvm.Cond.code x code maxLocals ret :: tables_1)).before args0 about1 = true := by
  rw [allAtoms_all]
  show words1.all (fun c => c.before args0 about1) = true
  refine all_split ?_ w_codes
  rw [← List.take_append_drop 24 words1, List.all_append, w_t1, w_t2]
  rfl
set_option maxRecDepth 65536 in
theorem w_case : (Jvm.Cond.and given_1 narrow_1).before args0 about1 = true := by decide +kernel
theorem w_applies : (headSpec (Jvm.Cond.code x code maxLocals ret :: tables_1) room_1).applies x e0.platform about1 = true :=
  (Spec.applies_iff w_frames).mpr ⟨w_running, w_runnable, w_alone, w_named, w_hears, w_ripe, w_room, w_tables⟩
theorem atStart : AtStart classFile x code maxLocals ret World_1 tables_1 room_1 Calls_1 rest_1 Pre_1 launch0 p0 e0 about1 theMethod args0 below0 :=
  ⟨lists_1, trivial, launch0.admits_env _ _ _, launch0.least_env, fairChoices_fair.cas, fairChoices_fair.clock, w_frames, w_args, w_heap, w_applies, trivial, trivial, w_case⟩
end start1
theorem witness_1 : WitnessClaimed_1 := ⟨start1.p0, start1.e0, start1.about1, start1.theMethod, start1.args0, start1.below0, start1.atStart⟩
end Jvm.Pilot.@@N@@
