import JvmDerived
import JvmDerived.Pilot.@@N@@Statement
import JvmDerived.Pilot.@@N@@Code
set_option linter.unusedVariables false
set_option linter.unusedSimpArgs false
namespace Jvm.Pilot.@@N@@
open Jvm Jvm.ClassFile Sem Op Lib Jvm.Free Jvm.Stand Jvm.LawKit Jvm.RoadKit Bundle Jvm.Pilot.@@N@@.Jvm.D
abbrev own_Go (tb : Tables) (e : Env) (below : List Frame) (P : State → Outcome → Prop) (st : State) : Prop := ∃ U o, Steps tb e below st U ∧ P U o
theorem own_go {tb : Tables} {e : Env} {below : List Frame} {P : State → Outcome → Prop} {st st' : State} (h : ∀ t, Steps tb e below st' t → Steps tb e below st t) (k : own_Go tb e below P st') : own_Go tb e below P st := by
  obtain ⟨U, o, h1, h2⟩ := k; exact ⟨U, o, h _ h1, h2⟩
theorem own_cat {v : Value} (h : v.isRef = true) : v.category = 1 := by rcases ref_cases h with rfl | ⟨a, rfl⟩ <;> rfl
theorem own_nar_ref {t : FieldType} {v : Value} (h : v.isRef = true) : narrow t v = v := by rcases ref_cases h with rfl | ⟨a, rfl⟩ <;> cases t <;> rfl
theorem own_fit_ref {t : FieldType} {v : Value} (h : v.isRef = true) (ht : t.isReference = true := by rfl) : fits t v = true := by rcases ref_cases h with rfl | ⟨a, rfl⟩ <;> cases t <;> first | rfl | (cases ht)
theorem own_widen {p : Program} {l : Launch} {e : Env} {R : Room} {s : State} {m : MethodId} {args : Array Value} {below : List Frame} {meth : Method} {c : Code} {T : State} {locs : List Loc} {cells slots cells' slots' : Nat} (X : Stand p l e R s m args below meth c T locs cells slots) (h1 : cells ≤ cells') (h2 : slots ≤ slots') : Stand p l e R s m args below meth c T locs cells' slots' :=
  { X with same := X.same.mono h1 h2 }
theorem own_sel_priv {s : State} {args : Array Value} {y : MethodName} {n : Nat} (wi : (Jvm.Cond.instantiable y.cls n).before args s = true) (hp : s.PrivateAt y) (hinst : (Jvm.Cond.instanceMethod y).before args s = true) (hy : y.cls ≠ "java/lang/invoke/MethodHandle" ∧ y.cls ≠ "java/lang/invoke/VarHandle") : (Jvm.Cond.selects y.cls y y).before args s = true := by
  obtain ⟨c, k, h1, h2, -, h4, -⟩ := Cond.instantiable_spec wi
  exact selects_self_of_private h1 h2 (Bool.or_eq_false_iff.mp h4).1 hp hinst hy
theorem own_sta_keep {Z : State} {h h' : Heap} {ws : List Addr} {C n d : String} {v : Value} (F : Sta Z h C n d v) (K : Keep h h' ws) (q : ∀ x ∈ ws, ∀ c : Cell, h[x]? = some c → c.vm.isStatics = false) : Sta Z h' C n d v := by
  obtain ⟨cf, i, k, f, st, cell, h1, h2, h3, h4, h5, h6, h7⟩ := F
  exact ⟨cf, i, k, f, st, cell, h1, h2, h3, h4, K.2.1 st cell h5 (fun z => by rw [q st z cell h5] at h6; cases h6), h6, h7⟩
theorem own_pl_exa {Z : State} {h : Heap} {a : Addr} {C : String} (F : Exa Z h a C) : ∀ c : Cell, h[a]? = some c → c.vm.isStatics = false := fun c hc => by
  obtain ⟨c1, k, h1, -, -, h4, -⟩ := F; cases h1.symm.trans hc; exact h4
theorem own_pl_fld {Z : State} {h : Heap} {a : Addr} {C n d : String} {v : Value} (F : Fld Z h a C n d v) : ∀ c : Cell, h[a]? = some c → c.vm.isStatics = false := old_plain F
theorem own_pl_arv {Z : State} {h : Heap} {a : Addr} {k : ClassId} {ty : FieldType} {n : Int32} {vs : List Value} {d : Value} (F : Arv Z h a k ty n vs d) : ∀ c : Cell, h[a]? = some c → c.vm.isStatics = false := fun c hc => by
  obtain ⟨c1, A, -⟩ := F; cases A.1.symm.trans hc; exact A.plain
theorem own_fld {args : Array Value} {s : State} {t : Term} {C n d : String} {a : Addr} {k : Int32} (ev : t.eval args s none [] s = some (.ref a)) (h : (Jvm.Cond.eq (.field t C n d) (.int k)).value args s none s [] = some true) : Fld s s.heap a C n d (.int k) := by
  obtain ⟨x, y, e1, e2, -, k2⟩ := cmp_v (Or.inl h)
  obtain rfl : Value.int k = y := Option.some.inj e2
  obtain ⟨z, rfl⟩ := k2
  have q : z = k := by
    simp only [Cond.value] at h
    rw [e1, e2] at h
    simpa using h
  subst q
  rw [fld_at ev] at e1
  exact Fld.start e1
theorem own_len {args : Array Value} {s : State} {t : Term} {a : Addr} {cl : Cell} {n : Int32} (ev : t.eval args s none [] s = some (.ref a)) (hc : s.heap[a]? = some cl) (h : (Jvm.Cond.eq (.length t) (.int n)).value args s none s [] = some true) : cl.slots.size < 2 ^ 31 ∧ cl.slots.size.toInt32 = n := by
  obtain ⟨x, y, e1, e2, -, -⟩ := cmp_v (Or.inl h)
  obtain rfl : Value.int n = y := Option.some.inj e2
  obtain ⟨b, cell, g1, g2, rfl⟩ := Term.length_spec e1
  cases ev.symm.trans g1
  have g3 : cell.slots.size < 2 ^ 31 := by
    apply Decidable.byContradiction
    intro q
    simp [Term.eval, ev, g2, q] at e1
  have g4 : cell = cl := by
    simp only [State.arrayAt?, Option.bind_eq_bind, Option.bind_eq_some_iff] at g2
    obtain ⟨c2, q1, k2, q2, q3⟩ := g2
    split at q3
    · cases q3
    · split at q3
      · cases q3; exact Option.some.inj (q1.symm.trans hc)
      · cases q3
  rw [← g4]
  refine ⟨g3, ?_⟩
  simp only [Cond.value] at h
  rw [e1, e2] at h
  simpa using h
theorem own_elem {args : Array Value} {s : State} {t u : Term} {a b : Addr} {cl : Cell} {k : Int32} (ev : t.eval args s none [] s = some (.ref a)) (hc : s.heap[a]? = some cl) (eu : u.eval args s none [] s = some (.ref b)) (h : (Jvm.Cond.eq (.elem t (.int k)) u).value args s none s [] = some true) : cl.slots[k.toNatClampNeg]? = some (.ref b) := by
  obtain ⟨x, y, e1, e2, -, -⟩ := cmp_v (Or.inl h)
  cases eu.symm.trans e2
  have q := (elem_in e1 ev rfl hc).2
  have : x = .ref b := by
    simp only [Cond.value] at h
    rw [e1, e2] at h
    cases x <;> simp at h ⊢
    exact h
  rw [q, this]
def own_sel (r0 r1 r2 r3 r4 r5 r6 r7 : Addr) (c : Int32) : Value := if c = 0 then .ref r0 else if c = 1 then .ref r1 else if c = 2 then .ref r2 else if c = 3 then .ref r3 else if c = 4 then .ref r4 else if c = 5 then .ref r5 else if c = 6 then .ref r6 else if c = 7 then .ref r7 else .null
theorem own_sel_ref (r0 r1 r2 r3 r4 r5 r6 r7 : Addr) (c : Int32) : (own_sel r0 r1 r2 r3 r4 r5 r6 r7 c).isRef = true := by
  unfold own_sel
  repeat' split
  all_goals rfl
theorem own_rng (c : Int32) (h0 : ¬ c < 0) (h1 : c < 8) : c = 0 ∨ c = 1 ∨ c = 2 ∨ c = 3 ∨ c = 4 ∨ c = 5 ∨ c = 6 ∨ c = 7 := by
  rw [Int32.lt_iff_toInt_lt] at h0 h1
  have e0 : (0 : Int32).toInt = 0 := rfl
  have e1 : (8 : Int32).toInt = 8 := rfl
  have h : c.toInt = 0 ∨ c.toInt = 1 ∨ c.toInt = 2 ∨ c.toInt = 3 ∨ c.toInt = 4 ∨ c.toInt = 5 ∨ c.toInt = 6 ∨ c.toInt = 7 := by omega
  rcases h with h | h | h | h | h | h | h | h
  · exact Or.inl (Int32.toInt_inj.mp h)
  · exact Or.inr (Or.inl (Int32.toInt_inj.mp h))
  · exact Or.inr (Or.inr (Or.inl (Int32.toInt_inj.mp h)))
  · exact Or.inr (Or.inr (Or.inr (Or.inl (Int32.toInt_inj.mp h))))
  · exact Or.inr (Or.inr (Or.inr (Or.inr (Or.inl (Int32.toInt_inj.mp h)))))
  · exact Or.inr (Or.inr (Or.inr (Or.inr (Or.inr (Or.inl (Int32.toInt_inj.mp h))))))
  · exact Or.inr (Or.inr (Or.inr (Or.inr (Or.inr (Or.inr (Or.inl (Int32.toInt_inj.mp h)))))))
  · exact Or.inr (Or.inr (Or.inr (Or.inr (Or.inr (Or.inr (Or.inr ((Int32.toInt_inj.mp h))))))))
theorem own_sel_get (r0 r1 r2 r3 r4 r5 r6 r7 : Addr) (c : Int32) (h0 : ¬ c < 0) (h1 : c < 8) : ([(.ref r0), (.ref r1), (.ref r2), (.ref r3), (.ref r4), (.ref r5), (.ref r6), (.ref r7)] : List Value).getD c.toNatClampNeg .null = own_sel r0 r1 r2 r3 r4 r5 r6 r7 c := by
  rcases own_rng c h0 h1 with rfl | rfl | rfl | rfl | rfl | rfl | rfl | rfl <;> first | rfl | simp [own_sel]
theorem own_sel_out (r0 r1 r2 r3 r4 r5 r6 r7 : Addr) (c : Int32) (h : c < 0 ∨ ¬ c < 8) : Value.null = own_sel r0 r1 r2 r3 r4 r5 r6 r7 c := by
  unfold own_sel
  rw [if_neg (by rintro rfl; revert h; decide), if_neg (by rintro rfl; revert h; decide), if_neg (by rintro rfl; revert h; decide), if_neg (by rintro rfl; revert h; decide), if_neg (by rintro rfl; revert h; decide), if_neg (by rintro rfl; revert h; decide), if_neg (by rintro rfl; revert h; decide), if_neg (by rintro rfl; revert h; decide)]
theorem d1_0 : decode prog_89_method_5_code 0 = .ok (.iload_n 0, 1) := by decide +kernel
theorem d1_1 : decode prog_89_method_5_code 1 = .ok (.ifCond .lt 19, 3) := by decide +kernel
theorem d1_4 : decode prog_89_method_5_code 4 = .ok (.iload_n 0, 1) := by decide +kernel
theorem d1_5 : decode prog_89_method_5_code 5 = .ok (.getstatic 51, 3) := by decide +kernel
theorem d1_8 : decode prog_89_method_5_code 8 = .ok (.arraylength, 1) := by decide +kernel
theorem d1_9 : decode prog_89_method_5_code 9 = .ok (.if_icmp .ge 11, 3) := by decide +kernel
theorem d1_12 : decode prog_89_method_5_code 12 = .ok (.getstatic 51, 3) := by decide +kernel
theorem d1_15 : decode prog_89_method_5_code 15 = .ok (.iload_n 0, 1) := by decide +kernel
theorem d1_16 : decode prog_89_method_5_code 16 = .ok (.aaload, 1) := by decide +kernel
theorem d1_17 : decode prog_89_method_5_code 17 = .ok (.goto 4, 3) := by decide +kernel
theorem d1_20 : decode prog_89_method_5_code 20 = .ok (.aconst_null, 1) := by decide +kernel
theorem d1_21 : decode prog_89_method_5_code 21 = .ok (.areturn, 1) := by decide +kernel
theorem pn_1 : plainName "com/example/interpoint/interpoint/giop/MessageType" = true := by first | (simp [plainName, overriddenIn]; done) | decide +kernel
theorem ef_rm1 (m : MethodId) (x0 : Int32) : entryFrame m #[(.int x0)] 1 = mkF m 0 #[.val (.int x0)] [] := by first | (simp [entryFrame, mkF, argsToLocals, Value.category]; done) | rfl
def Qrm1 (Z : State) (p1 : Int32) (r0 : Addr) (r1 : Addr) (r2 : Addr) (r3 : Addr) (r4 : Addr) (r5 : Addr) (r6 : Addr) (r7 : Addr) (ab : Addr) (kb : ClassId) (h0 : Heap) (n0 : Nat) (v : Option Value) (h : Heap) (L : List Loc) : Prop := (v = some (own_sel r0 r1 r2 r3 r4 r5 r6 r7 p1)) ∧ (Fr n0 L) ∧ (h = h0)
set_option maxRecDepth 65536 in
set_option maxHeartbeats 40000000 in
theorem rm1 (l : Launch) (Z : State) (a0 : Array Value) (hw : ∀ d ∈ tables_1, d.before a0 Z = true) (ws : List Jvm.Cond) (p1 : Int32) (r0 : Addr) (r1 : Addr) (r2 : Addr) (r3 : Addr) (r4 : Addr) (r5 : Addr) (r6 : Addr) (r7 : Addr) (ab : Addr) (kb : ClassId) (h0 : Heap) (n0 : Nat) (Z0 : n0 ≤ h0.size) (pr1 : Sta Z h0 "com/example/interpoint/interpoint/giop/MessageType" "BY_CODE" "[Lcom/example/interpoint/interpoint/giop/MessageType;" (.ref ab)) (pr2 : Arv Z h0 ab kb (.object "com/example/interpoint/interpoint/giop/MessageType") (8 : Int32) [(.ref r0), (.ref r1), (.ref r2), (.ref r3), (.ref r4), (.ref r5), (.ref r6), (.ref r7)] .null) :
    MetFree l (⟨"com/example/interpoint/interpoint/giop/MessageType", "of", "(I)Lcom/example/interpoint/interpoint/giop/MessageType;"⟩ : MethodName) (head1 (Jvm.Cond.code (⟨"com/example/interpoint/interpoint/giop/MessageType", "of", "(I)Lcom/example/interpoint/interpoint/giop/MessageType;"⟩ : MethodName) prog_89_method_5_code 1 (some (.object "com/example/interpoint/interpoint/giop/MessageType")) :: ws) ({ frames := 0, cells := 0, slots := 0, locals := 0 } : Room)) (fun a U => a = #[(.int p1)] ∧ Z.Warmed39 U.vm ∧ U.heap = h0) (fun _ _ _ _ _ => True) (fun _ U o U' => ∃ v L, o = .returned v ∧ Qrm1 Z p1 r0 r1 r2 r3 r4 r5 r6 r7 ab kb h0 n0 v U'.heap L ∧ FrameEnd U o U' L ({ frames := 0, cells := 0, slots := 0, locals := 0 } : Room).cells ({ frames := 0, cells := 0, slots := 0, locals := 0 } : Room).slots) := by
  refine MetFree.of_bodySF (plainFor_of_name pn_1) hisR ?_
  intro p e s m args below meth c s₁ Bd hml0 hP0 hK
  obtain ⟨rfl, hZ, hh⟩ := hP0
  have hx := Bd.exec
  have hby := Bd.bytes
  have hml : c.maxLocals = 1 := hml0
  have hown : s.vm.findClass "com/example/interpoint/interpoint/giop/MessageType" = some m.cls := findClass_of_methodNamed Bd.named
  have hnm := (name_of_methodNamed Bd.named Bd.method).1
  have X0 : Stand p l e ({ frames := 0, cells := 0, slots := 0, locals := 0 } : Room) s m #[(.int p1)] below meth c s₁ [] 0 0 := Stand.of_body Bd
  have e0 : s₁.heap = h0 := by rw [← hh, Bd.state]; rfl
  have N0 := Fr.nil n0
  suffices own_H : ∀ (P : State → Outcome → Prop), (∀ U o, U.status = .running → Ended U below o → (∃ v L, o = .returned v ∧ Qrm1 Z p1 r0 r1 r2 r3 r4 r5 r6 r7 ab kb h0 n0 v U.heap L ∧ FrameEnd s o U L ({ frames := 0, cells := 0, slots := 0, locals := 0 } : Room).cells ({ frames := 0, cells := 0, slots := 0, locals := 0 } : Room).slots) → P U o) → own_Go p.tables e below P (s₁.setTop (mkF m 0 #[.val (.int p1)] [])) from own_go (fun _ k => castTop (ef_rm1 m p1) k) (own_H _ (fun U o h1 h2 h3 => ⟨h1, h2, h3⟩))
  intro P hP
  have lt_ab : @LT.lt Nat _ ab h0.size := pr2.lt
  refine own_go (st' := s₁.setTop (mkF m 1 #[.val (.int p1)] [(.int p1)])) (fun _ k => XS.iloadN X0.here hx rfl (hb hby d1_0) rfl k) ?_
  by_cases hc1 : p1 < (0 : Int32)
  · --
    refine own_go (st' := s₁.setTop (mkF m 20 #[.val (.int p1)] [])) (fun _ k => XS.ifYes X0.here hx rfl (pc0 := 1) (pc' := 20) rfl (hb hby d1_1) rfl ((if0 _ _).trans (tlt hc1).1) (by decide) (by decide) k) ?_
    refine own_go (st' := s₁.setTop (mkF m 21 #[.val (.int p1)] [.null])) (fun _ k => XS.aconstNull X0.here hx rfl (hb hby d1_20) k) ?_
    obtain ⟨fs, hr, hrun, hended, hW, hsame⟩ := X0.leave (v := some .null) (fun h => by rw [Bd.returns] at h; cases h)
    refine ⟨_, _, ?_, hP _ _ hrun hended ⟨_, _, rfl, ?_, ⟨_, rfl⟩, hW, hsame.mono (by decide) (by decide)⟩⟩
    · exact retOut X0 hx Bd.returns rfl (Or.inr (Or.inr (Or.inr (Or.inr ⟨rfl, rfl, rfl⟩)))) (hb hby d1_21) hr
    · show Qrm1 Z p1 r0 r1 r2 r3 r4 r5 r6 r7 ab kb h0 n0 _ s₁.heap _
      rw [e0]
      exact ⟨(congrArg some (own_sel_out r0 r1 r2 r3 r4 r5 r6 r7 p1 (Or.inl hc1))), N0, rfl⟩
  · --
    refine own_go (st' := s₁.setTop (mkF m 4 #[.val (.int p1)] [])) (fun _ k => XS.ifNo X0.here hx rfl (hb hby d1_1) rfl ((if0 _ _).trans (flt hc1).1) k) ?_
    refine own_go (st' := s₁.setTop (mkF m 5 #[.val (.int p1)] [(.int p1)])) (fun _ k => XS.iloadN X0.here hx rfl (hb hby d1_4) rfl k) ?_
    obtain ⟨T3, X3, e3, st3⟩ := getS2 X0 hx hZ hown (host := "") (Or.inl (hw _ (List.mem_of_getElem? (i := 4) rfl))) Via.refl e0 pr1 (g := (mkF m 5 #[.val (.int p1)] [(.int p1)])) rfl (hb hby d1_5)
    refine own_go (st' := T3.setTop (mkF m 8 #[.val (.int p1)] [(.ref ab), (.int p1)])) (st3) ?_
    obtain ⟨cl4, Ar4, -, S4, M4, -, -⟩ := id pr2
    refine own_go (st' := T3.setTop (mkF m 9 #[.val (.int p1)] [(.int (8 : Int32)), (.int p1)])) (fun t k => X3.arraylength hx (by rw [e3]; exact Ar4.1) (State.isArrayOf_alike hZ.alike Ar4.2.1) (g := (mkF m 8 #[.val (.int p1)] [(.ref ab), (.int p1)])) rfl rfl (hb hby d1_8) t (by rw [len_of S4 M4]; exact k)) ?_
    by_cases hc5 : p1 < (8 : Int32)
    · --
      refine own_go (st' := T3.setTop (mkF m 12 #[.val (.int p1)] [])) (fun _ k => XS.icmpNo X3.here hx rfl (hb hby d1_9) rfl (tlt hc5).2.1 k) ?_
      obtain ⟨T6, X6, e6, st6⟩ := getS2 X3 hx hZ hown (host := "") (Or.inl (hw _ (List.mem_of_getElem? (i := 4) rfl))) Via.refl e3 pr1 (g := (mkF m 12 #[.val (.int p1)] [])) rfl (hb hby d1_12)
      refine own_go (st' := T6.setTop (mkF m 15 #[.val (.int p1)] [(.ref ab)])) (st6) ?_
      refine own_go (st' := T6.setTop (mkF m 16 #[.val (.int p1)] [(.int p1), (.ref ab)])) (fun _ k => XS.iloadN X6.here hx rfl (hb hby d1_15) rfl k) ?_
      obtain ⟨cl7, Ar7, -, S7, M7, H7, -⟩ := id pr2
      have hin7 : ¬ (p1 < 0 ∨ cl7.slots.size ≤ (p1).toNatClampNeg) := (inb_of S7 ⟨hc1, hc5⟩)
      have hat7 : cl7.slots[(p1).toNatClampNeg]? = some (own_sel r0 r1 r2 r3 r4 r5 r6 r7 p1) := (H7.at hin7 (own_sel_get r0 r1 r2 r3 r4 r5 r6 r7 p1 hc1 hc5))
      refine own_go (st' := T6.setTop (mkF m 17 #[.val (.int p1)] [(own_sel r0 r1 r2 r3 r4 r5 r6 r7 p1)])) (X6.aaload hx (j := p1) (v := (own_sel r0 r1 r2 r3 r4 r5 r6 r7 p1)) (by rw [e6]; exact Ar7.1) (State.isArrayOf_alike hZ.alike Ar7.2.1) rfl Ar7.2.2 hin7 hat7 (g := (mkF m 16 #[.val (.int p1)] [(.int p1), (.ref ab)])) rfl rfl (hb hby d1_16)) ?_
      refine own_go (st' := T6.setTop (mkF m 21 #[.val (.int p1)] [(own_sel r0 r1 r2 r3 r4 r5 r6 r7 p1)])) (fun _ k => XS.goto X6.here hx rfl (pc0 := 17) (pc' := 21) rfl (hb hby d1_17) (by decide) (by decide) k) ?_
      obtain ⟨fs, hr, hrun, hended, hW, hsame⟩ := X6.leave (v := some (own_sel r0 r1 r2 r3 r4 r5 r6 r7 p1)) (fun h => by rw [Bd.returns] at h; cases h)
      refine ⟨_, _, ?_, hP _ _ hrun hended ⟨_, _, rfl, ?_, ⟨_, rfl⟩, hW, hsame.mono (by decide) (by decide)⟩⟩
      · exact retOut X6 hx Bd.returns (own_nar_ref (own_sel_ref r0 r1 r2 r3 r4 r5 r6 r7 p1)) (Or.inr (Or.inr (Or.inr (Or.inr ⟨rfl, rfl, (own_sel_ref r0 r1 r2 r3 r4 r5 r6 r7 p1)⟩)))) (hb hby d1_21) hr
      · show Qrm1 Z p1 r0 r1 r2 r3 r4 r5 r6 r7 ab kb h0 n0 _ T6.heap _
        rw [e6]
        exact ⟨rfl, N0, rfl⟩
    · --
      refine own_go (st' := T3.setTop (mkF m 20 #[.val (.int p1)] [])) (fun _ k => XS.icmpYes X3.here hx rfl (pc0 := 9) (pc' := 20) rfl (hb hby d1_9) rfl (flt hc5).2.1 (by decide) (by decide) k) ?_
      refine own_go (st' := T3.setTop (mkF m 21 #[.val (.int p1)] [.null])) (fun _ k => XS.aconstNull X3.here hx rfl (hb hby d1_20) k) ?_
      obtain ⟨fs, hr, hrun, hended, hW, hsame⟩ := X3.leave (v := some .null) (fun h => by rw [Bd.returns] at h; cases h)
      refine ⟨_, _, ?_, hP _ _ hrun hended ⟨_, _, rfl, ?_, ⟨_, rfl⟩, hW, hsame.mono (by decide) (by decide)⟩⟩
      · exact retOut X3 hx Bd.returns rfl (Or.inr (Or.inr (Or.inr (Or.inr ⟨rfl, rfl, rfl⟩)))) (hb hby d1_21) hr
      · show Qrm1 Z p1 r0 r1 r2 r3 r4 r5 r6 r7 ab kb h0 n0 _ T3.heap _
        rw [e3]
        exact ⟨(congrArg some (own_sel_out r0 r1 r2 r3 r4 r5 r6 r7 p1 (Or.inr hc5))), N0, rfl⟩
theorem d2_0 : decode method_2_code 0 = .ok (.iload_n 0, 1) := by decide +kernel
theorem d2_1 : decode method_2_code 1 = .ok (.ifCond .ne 7, 3) := by decide +kernel
theorem d2_4 : decode method_2_code 4 = .ok (.getstatic 7, 3) := by decide +kernel
theorem d2_7 : decode method_2_code 7 = .ok (.areturn, 1) := by decide +kernel
theorem d2_8 : decode method_2_code 8 = .ok (.iload_n 0, 1) := by decide +kernel
theorem d2_9 : decode method_2_code 9 = .ok (.iconst 1, 1) := by decide +kernel
theorem d2_10 : decode method_2_code 10 = .ok (.if_icmp .ne 7, 3) := by decide +kernel
theorem d2_13 : decode method_2_code 13 = .ok (.getstatic 13, 3) := by decide +kernel
theorem d2_16 : decode method_2_code 16 = .ok (.areturn, 1) := by decide +kernel
theorem d2_17 : decode method_2_code 17 = .ok (.iload_n 0, 1) := by decide +kernel
theorem d2_18 : decode method_2_code 18 = .ok (.iconst 2, 1) := by decide +kernel
theorem d2_19 : decode method_2_code 19 = .ok (.if_icmp .ne 7, 3) := by decide +kernel
theorem d2_22 : decode method_2_code 22 = .ok (.getstatic 16, 3) := by decide +kernel
theorem d2_25 : decode method_2_code 25 = .ok (.areturn, 1) := by decide +kernel
theorem d2_26 : decode method_2_code 26 = .ok (.iload_n 0, 1) := by decide +kernel
theorem d2_27 : decode method_2_code 27 = .ok (.iconst 3, 1) := by decide +kernel
theorem d2_28 : decode method_2_code 28 = .ok (.if_icmp .ne 7, 3) := by decide +kernel
theorem d2_31 : decode method_2_code 31 = .ok (.getstatic 19, 3) := by decide +kernel
theorem d2_34 : decode method_2_code 34 = .ok (.areturn, 1) := by decide +kernel
theorem d2_35 : decode method_2_code 35 = .ok (.iload_n 0, 1) := by decide +kernel
theorem d2_36 : decode method_2_code 36 = .ok (.iconst 4, 1) := by decide +kernel
theorem d2_37 : decode method_2_code 37 = .ok (.if_icmp .ne 7, 3) := by decide +kernel
theorem d2_40 : decode method_2_code 40 = .ok (.getstatic 22, 3) := by decide +kernel
theorem d2_43 : decode method_2_code 43 = .ok (.areturn, 1) := by decide +kernel
theorem d2_44 : decode method_2_code 44 = .ok (.iload_n 0, 1) := by decide +kernel
theorem d2_45 : decode method_2_code 45 = .ok (.iconst 5, 1) := by decide +kernel
theorem d2_46 : decode method_2_code 46 = .ok (.if_icmp .ne 7, 3) := by decide +kernel
theorem d2_49 : decode method_2_code 49 = .ok (.getstatic 25, 3) := by decide +kernel
theorem d2_52 : decode method_2_code 52 = .ok (.areturn, 1) := by decide +kernel
theorem d2_53 : decode method_2_code 53 = .ok (.iload_n 0, 1) := by decide +kernel
theorem d2_54 : decode method_2_code 54 = .ok (.bipush 6, 2) := by decide +kernel
theorem d2_56 : decode method_2_code 56 = .ok (.if_icmp .ne 7, 3) := by decide +kernel
theorem d2_59 : decode method_2_code 59 = .ok (.getstatic 28, 3) := by decide +kernel
theorem d2_62 : decode method_2_code 62 = .ok (.areturn, 1) := by decide +kernel
theorem d2_63 : decode method_2_code 63 = .ok (.iload_n 0, 1) := by decide +kernel
theorem d2_64 : decode method_2_code 64 = .ok (.bipush 7, 2) := by decide +kernel
theorem d2_66 : decode method_2_code 66 = .ok (.if_icmp .ne 7, 3) := by decide +kernel
theorem d2_69 : decode method_2_code 69 = .ok (.getstatic 31, 3) := by decide +kernel
theorem d2_72 : decode method_2_code 72 = .ok (.areturn, 1) := by decide +kernel
theorem d2_73 : decode method_2_code 73 = .ok (.aconst_null, 1) := by decide +kernel
theorem d2_74 : decode method_2_code 74 = .ok (.areturn, 1) := by decide +kernel
theorem pn_2 : plainName "com/example/interpoint/interpoint/giop/MessageTypeOfPinLaw" = true := by first | (simp [plainName, overriddenIn]; done) | decide +kernel
theorem ef_rm2 (m : MethodId) (x0 : Int32) : entryFrame m #[(.int x0)] 1 = mkF m 0 #[.val (.int x0)] [] := by first | (simp [entryFrame, mkF, argsToLocals, Value.category]; done) | rfl
def Qrm2 (Z : State) (p1 : Int32) (r0 : Addr) (r1 : Addr) (r2 : Addr) (r3 : Addr) (r4 : Addr) (r5 : Addr) (r6 : Addr) (r7 : Addr) (h0 : Heap) (n0 : Nat) (v : Option Value) (h : Heap) (L : List Loc) : Prop := (v = some (own_sel r0 r1 r2 r3 r4 r5 r6 r7 p1)) ∧ (Fr n0 L) ∧ (h = h0)
set_option maxRecDepth 65536 in
set_option maxHeartbeats 40000000 in
theorem rm2 (l : Launch) (Z : State) (a0 : Array Value) (hw : ∀ d ∈ tables_1, d.before a0 Z = true) (ws : List Jvm.Cond) (p1 : Int32) (r0 : Addr) (r1 : Addr) (r2 : Addr) (r3 : Addr) (r4 : Addr) (r5 : Addr) (r6 : Addr) (r7 : Addr) (h0 : Heap) (n0 : Nat) (Z0 : n0 ≤ h0.size) (pr1 : Sta Z h0 "com/example/interpoint/interpoint/giop/MessageType" "REQUEST" "Lcom/example/interpoint/interpoint/giop/MessageType;" (.ref r0)) (pr2 : Sta Z h0 "com/example/interpoint/interpoint/giop/MessageType" "REPLY" "Lcom/example/interpoint/interpoint/giop/MessageType;" (.ref r1)) (pr3 : Sta Z h0 "com/example/interpoint/interpoint/giop/MessageType" "CANCEL_REQUEST" "Lcom/example/interpoint/interpoint/giop/MessageType;" (.ref r2)) (pr4 : Sta Z h0 "com/example/interpoint/interpoint/giop/MessageType" "LOCATE_REQUEST" "Lcom/example/interpoint/interpoint/giop/MessageType;" (.ref r3)) (pr5 : Sta Z h0 "com/example/interpoint/interpoint/giop/MessageType" "LOCATE_REPLY" "Lcom/example/interpoint/interpoint/giop/MessageType;" (.ref r4)) (pr6 : Sta Z h0 "com/example/interpoint/interpoint/giop/MessageType" "CLOSE_CONNECTION" "Lcom/example/interpoint/interpoint/giop/MessageType;" (.ref r5)) (pr7 : Sta Z h0 "com/example/interpoint/interpoint/giop/MessageType" "MESSAGE_ERROR" "Lcom/example/interpoint/interpoint/giop/MessageType;" (.ref r6)) (pr8 : Sta Z h0 "com/example/interpoint/interpoint/giop/MessageType" "FRAGMENT" "Lcom/example/interpoint/interpoint/giop/MessageType;" (.ref r7)) :
    MetFree l (⟨"com/example/interpoint/interpoint/giop/MessageTypeOfPinLaw", "ref", "(I)Lcom/example/interpoint/interpoint/giop/MessageType;"⟩ : MethodName) (head1 (Jvm.Cond.code (⟨"com/example/interpoint/interpoint/giop/MessageTypeOfPinLaw", "ref", "(I)Lcom/example/interpoint/interpoint/giop/MessageType;"⟩ : MethodName) method_2_code 1 (some (.object "com/example/interpoint/interpoint/giop/MessageType")) :: ws) ({ frames := 0, cells := 0, slots := 0, locals := 0 } : Room)) (fun a U => a = #[(.int p1)] ∧ Z.Warmed39 U.vm ∧ U.heap = h0) (fun _ _ _ _ _ => True) (fun _ U o U' => ∃ v L, o = .returned v ∧ Qrm2 Z p1 r0 r1 r2 r3 r4 r5 r6 r7 h0 n0 v U'.heap L ∧ FrameEnd U o U' L ({ frames := 0, cells := 0, slots := 0, locals := 0 } : Room).cells ({ frames := 0, cells := 0, slots := 0, locals := 0 } : Room).slots) := by
  refine MetFree.of_bodySF (plainFor_of_name pn_2) hisR ?_
  intro p e s m args below meth c s₁ Bd hml0 hP0 hK
  obtain ⟨rfl, hZ, hh⟩ := hP0
  have hx := Bd.exec
  have hby := Bd.bytes
  have hml : c.maxLocals = 1 := hml0
  have hown : s.vm.findClass "com/example/interpoint/interpoint/giop/MessageTypeOfPinLaw" = some m.cls := findClass_of_methodNamed Bd.named
  have hnm := (name_of_methodNamed Bd.named Bd.method).1
  have X0 : Stand p l e ({ frames := 0, cells := 0, slots := 0, locals := 0 } : Room) s m #[(.int p1)] below meth c s₁ [] 0 0 := Stand.of_body Bd
  have e0 : s₁.heap = h0 := by rw [← hh, Bd.state]; rfl
  have N0 := Fr.nil n0
  suffices own_H : ∀ (P : State → Outcome → Prop), (∀ U o, U.status = .running → Ended U below o → (∃ v L, o = .returned v ∧ Qrm2 Z p1 r0 r1 r2 r3 r4 r5 r6 r7 h0 n0 v U.heap L ∧ FrameEnd s o U L ({ frames := 0, cells := 0, slots := 0, locals := 0 } : Room).cells ({ frames := 0, cells := 0, slots := 0, locals := 0 } : Room).slots) → P U o) → own_Go p.tables e below P (s₁.setTop (mkF m 0 #[.val (.int p1)] [])) from own_go (fun _ k => castTop (ef_rm2 m p1) k) (own_H _ (fun U o h1 h2 h3 => ⟨h1, h2, h3⟩))
  intro P hP
  refine own_go (st' := s₁.setTop (mkF m 1 #[.val (.int p1)] [(.int p1)])) (fun _ k => XS.iloadN X0.here hx rfl (hb hby d2_0) rfl k) ?_
  by_cases hc1 : p1 = (0 : Int32)
  · --
    refine own_go (st' := s₁.setTop (mkF m 4 #[.val (.int p1)] [])) (fun _ k => XS.ifNo X0.here hx rfl (hb hby d2_1) rfl ((if0 _ _).trans (teq hc1).2) k) ?_
    obtain ⟨T2, X2, e2, st2⟩ := getS2 X0 hx hZ hown (host := "") (Or.inl (hw _ (List.mem_of_getElem? (i := 12) rfl))) Via.refl e0 pr1 (g := (mkF m 4 #[.val (.int p1)] [])) rfl (hb hby d2_4)
    refine own_go (st' := T2.setTop (mkF m 7 #[.val (.int p1)] [(.ref r0)])) (st2) ?_
    obtain ⟨fs, hr, hrun, hended, hW, hsame⟩ := X2.leave (v := some (.ref r0)) (fun h => by rw [Bd.returns] at h; cases h)
    refine ⟨_, _, ?_, hP _ _ hrun hended ⟨_, _, rfl, ?_, ⟨_, rfl⟩, hW, hsame.mono (by decide) (by decide)⟩⟩
    · exact retOut X2 hx Bd.returns rfl (Or.inr (Or.inr (Or.inr (Or.inr ⟨rfl, rfl, rfl⟩)))) (hb hby d2_7) hr
    · show Qrm2 Z p1 r0 r1 r2 r3 r4 r5 r6 r7 h0 n0 _ T2.heap _
      rw [e2]
      exact ⟨(by unfold own_sel; rw [if_pos hc1]), N0, rfl⟩
  · --
    refine own_go (st' := s₁.setTop (mkF m 8 #[.val (.int p1)] [])) (fun _ k => XS.ifYes X0.here hx rfl (pc0 := 1) (pc' := 8) rfl (hb hby d2_1) rfl ((if0 _ _).trans (feq hc1).2) (by decide) (by decide) k) ?_
    refine own_go (st' := s₁.setTop (mkF m 9 #[.val (.int p1)] [(.int p1)])) (fun _ k => XS.iloadN X0.here hx rfl (hb hby d2_8) rfl k) ?_
    refine own_go (st' := s₁.setTop (mkF m 10 #[.val (.int p1)] [(.int (1 : Int32)), (.int p1)])) (fun _ k => XS.iconst X0.here hx rfl (hb hby d2_9) k) ?_
    by_cases hc4 : p1 = (1 : Int32)
    · --
      refine own_go (st' := s₁.setTop (mkF m 13 #[.val (.int p1)] [])) (fun _ k => XS.icmpNo X0.here hx rfl (hb hby d2_10) rfl (teq hc4).2 k) ?_
      obtain ⟨T5, X5, e5, st5⟩ := getS2 X0 hx hZ hown (host := "") (Or.inl (hw _ (List.mem_of_getElem? (i := 15) rfl))) Via.refl e0 pr2 (g := (mkF m 13 #[.val (.int p1)] [])) rfl (hb hby d2_13)
      refine own_go (st' := T5.setTop (mkF m 16 #[.val (.int p1)] [(.ref r1)])) (st5) ?_
      obtain ⟨fs, hr, hrun, hended, hW, hsame⟩ := X5.leave (v := some (.ref r1)) (fun h => by rw [Bd.returns] at h; cases h)
      refine ⟨_, _, ?_, hP _ _ hrun hended ⟨_, _, rfl, ?_, ⟨_, rfl⟩, hW, hsame.mono (by decide) (by decide)⟩⟩
      · exact retOut X5 hx Bd.returns rfl (Or.inr (Or.inr (Or.inr (Or.inr ⟨rfl, rfl, rfl⟩)))) (hb hby d2_16) hr
      · show Qrm2 Z p1 r0 r1 r2 r3 r4 r5 r6 r7 h0 n0 _ T5.heap _
        rw [e5]
        exact ⟨(by unfold own_sel; rw [if_neg hc1, if_pos hc4]), N0, rfl⟩
    · --
      refine own_go (st' := s₁.setTop (mkF m 17 #[.val (.int p1)] [])) (fun _ k => XS.icmpYes X0.here hx rfl (pc0 := 10) (pc' := 17) rfl (hb hby d2_10) rfl (feq hc4).2 (by decide) (by decide) k) ?_
      refine own_go (st' := s₁.setTop (mkF m 18 #[.val (.int p1)] [(.int p1)])) (fun _ k => XS.iloadN X0.here hx rfl (hb hby d2_17) rfl k) ?_
      refine own_go (st' := s₁.setTop (mkF m 19 #[.val (.int p1)] [(.int (2 : Int32)), (.int p1)])) (fun _ k => XS.iconst X0.here hx rfl (hb hby d2_18) k) ?_
      by_cases hc7 : p1 = (2 : Int32)
      · --
        refine own_go (st' := s₁.setTop (mkF m 22 #[.val (.int p1)] [])) (fun _ k => XS.icmpNo X0.here hx rfl (hb hby d2_19) rfl (teq hc7).2 k) ?_
        obtain ⟨T8, X8, e8, st8⟩ := getS2 X0 hx hZ hown (host := "") (Or.inl (hw _ (List.mem_of_getElem? (i := 23) rfl))) Via.refl e0 pr3 (g := (mkF m 22 #[.val (.int p1)] [])) rfl (hb hby d2_22)
        refine own_go (st' := T8.setTop (mkF m 25 #[.val (.int p1)] [(.ref r2)])) (st8) ?_
        obtain ⟨fs, hr, hrun, hended, hW, hsame⟩ := X8.leave (v := some (.ref r2)) (fun h => by rw [Bd.returns] at h; cases h)
        refine ⟨_, _, ?_, hP _ _ hrun hended ⟨_, _, rfl, ?_, ⟨_, rfl⟩, hW, hsame.mono (by decide) (by decide)⟩⟩
        · exact retOut X8 hx Bd.returns rfl (Or.inr (Or.inr (Or.inr (Or.inr ⟨rfl, rfl, rfl⟩)))) (hb hby d2_25) hr
        · show Qrm2 Z p1 r0 r1 r2 r3 r4 r5 r6 r7 h0 n0 _ T8.heap _
          rw [e8]
          exact ⟨(by unfold own_sel; rw [if_neg hc1, if_neg hc4, if_pos hc7]), N0, rfl⟩
      · --
        refine own_go (st' := s₁.setTop (mkF m 26 #[.val (.int p1)] [])) (fun _ k => XS.icmpYes X0.here hx rfl (pc0 := 19) (pc' := 26) rfl (hb hby d2_19) rfl (feq hc7).2 (by decide) (by decide) k) ?_
        refine own_go (st' := s₁.setTop (mkF m 27 #[.val (.int p1)] [(.int p1)])) (fun _ k => XS.iloadN X0.here hx rfl (hb hby d2_26) rfl k) ?_
        refine own_go (st' := s₁.setTop (mkF m 28 #[.val (.int p1)] [(.int (3 : Int32)), (.int p1)])) (fun _ k => XS.iconst X0.here hx rfl (hb hby d2_27) k) ?_
        by_cases hc10 : p1 = (3 : Int32)
        · --
          refine own_go (st' := s₁.setTop (mkF m 31 #[.val (.int p1)] [])) (fun _ k => XS.icmpNo X0.here hx rfl (hb hby d2_28) rfl (teq hc10).2 k) ?_
          obtain ⟨T11, X11, e11, st11⟩ := getS2 X0 hx hZ hown (host := "") (Or.inl (hw _ (List.mem_of_getElem? (i := 13) rfl))) Via.refl e0 pr4 (g := (mkF m 31 #[.val (.int p1)] [])) rfl (hb hby d2_31)
          refine own_go (st' := T11.setTop (mkF m 34 #[.val (.int p1)] [(.ref r3)])) (st11) ?_
          obtain ⟨fs, hr, hrun, hended, hW, hsame⟩ := X11.leave (v := some (.ref r3)) (fun h => by rw [Bd.returns] at h; cases h)
          refine ⟨_, _, ?_, hP _ _ hrun hended ⟨_, _, rfl, ?_, ⟨_, rfl⟩, hW, hsame.mono (by decide) (by decide)⟩⟩
          · exact retOut X11 hx Bd.returns rfl (Or.inr (Or.inr (Or.inr (Or.inr ⟨rfl, rfl, rfl⟩)))) (hb hby d2_34) hr
          · show Qrm2 Z p1 r0 r1 r2 r3 r4 r5 r6 r7 h0 n0 _ T11.heap _
            rw [e11]
            exact ⟨(by unfold own_sel; rw [if_neg hc1, if_neg hc4, if_neg hc7, if_pos hc10]), N0, rfl⟩
        · --
          refine own_go (st' := s₁.setTop (mkF m 35 #[.val (.int p1)] [])) (fun _ k => XS.icmpYes X0.here hx rfl (pc0 := 28) (pc' := 35) rfl (hb hby d2_28) rfl (feq hc10).2 (by decide) (by decide) k) ?_
          refine own_go (st' := s₁.setTop (mkF m 36 #[.val (.int p1)] [(.int p1)])) (fun _ k => XS.iloadN X0.here hx rfl (hb hby d2_35) rfl k) ?_
          refine own_go (st' := s₁.setTop (mkF m 37 #[.val (.int p1)] [(.int (4 : Int32)), (.int p1)])) (fun _ k => XS.iconst X0.here hx rfl (hb hby d2_36) k) ?_
          by_cases hc13 : p1 = (4 : Int32)
          · --
            refine own_go (st' := s₁.setTop (mkF m 40 #[.val (.int p1)] [])) (fun _ k => XS.icmpNo X0.here hx rfl (hb hby d2_37) rfl (teq hc13).2 k) ?_
            obtain ⟨T14, X14, e14, st14⟩ := getS2 X0 hx hZ hown (host := "") (Or.inl (hw _ (List.mem_of_getElem? (i := 25) rfl))) Via.refl e0 pr5 (g := (mkF m 40 #[.val (.int p1)] [])) rfl (hb hby d2_40)
            refine own_go (st' := T14.setTop (mkF m 43 #[.val (.int p1)] [(.ref r4)])) (st14) ?_
            obtain ⟨fs, hr, hrun, hended, hW, hsame⟩ := X14.leave (v := some (.ref r4)) (fun h => by rw [Bd.returns] at h; cases h)
            refine ⟨_, _, ?_, hP _ _ hrun hended ⟨_, _, rfl, ?_, ⟨_, rfl⟩, hW, hsame.mono (by decide) (by decide)⟩⟩
            · exact retOut X14 hx Bd.returns rfl (Or.inr (Or.inr (Or.inr (Or.inr ⟨rfl, rfl, rfl⟩)))) (hb hby d2_43) hr
            · show Qrm2 Z p1 r0 r1 r2 r3 r4 r5 r6 r7 h0 n0 _ T14.heap _
              rw [e14]
              exact ⟨(by unfold own_sel; rw [if_neg hc1, if_neg hc4, if_neg hc7, if_neg hc10, if_pos hc13]), N0, rfl⟩
          · --
            refine own_go (st' := s₁.setTop (mkF m 44 #[.val (.int p1)] [])) (fun _ k => XS.icmpYes X0.here hx rfl (pc0 := 37) (pc' := 44) rfl (hb hby d2_37) rfl (feq hc13).2 (by decide) (by decide) k) ?_
            refine own_go (st' := s₁.setTop (mkF m 45 #[.val (.int p1)] [(.int p1)])) (fun _ k => XS.iloadN X0.here hx rfl (hb hby d2_44) rfl k) ?_
            refine own_go (st' := s₁.setTop (mkF m 46 #[.val (.int p1)] [(.int (5 : Int32)), (.int p1)])) (fun _ k => XS.iconst X0.here hx rfl (hb hby d2_45) k) ?_
            by_cases hc16 : p1 = (5 : Int32)
            · --
              refine own_go (st' := s₁.setTop (mkF m 49 #[.val (.int p1)] [])) (fun _ k => XS.icmpNo X0.here hx rfl (hb hby d2_46) rfl (teq hc16).2 k) ?_
              obtain ⟨T17, X17, e17, st17⟩ := getS2 X0 hx hZ hown (host := "") (Or.inl (hw _ (List.mem_of_getElem? (i := 21) rfl))) Via.refl e0 pr6 (g := (mkF m 49 #[.val (.int p1)] [])) rfl (hb hby d2_49)
              refine own_go (st' := T17.setTop (mkF m 52 #[.val (.int p1)] [(.ref r5)])) (st17) ?_
              obtain ⟨fs, hr, hrun, hended, hW, hsame⟩ := X17.leave (v := some (.ref r5)) (fun h => by rw [Bd.returns] at h; cases h)
              refine ⟨_, _, ?_, hP _ _ hrun hended ⟨_, _, rfl, ?_, ⟨_, rfl⟩, hW, hsame.mono (by decide) (by decide)⟩⟩
              · exact retOut X17 hx Bd.returns rfl (Or.inr (Or.inr (Or.inr (Or.inr ⟨rfl, rfl, rfl⟩)))) (hb hby d2_52) hr
              · show Qrm2 Z p1 r0 r1 r2 r3 r4 r5 r6 r7 h0 n0 _ T17.heap _
                rw [e17]
                exact ⟨(by unfold own_sel; rw [if_neg hc1, if_neg hc4, if_neg hc7, if_neg hc10, if_neg hc13, if_pos hc16]), N0, rfl⟩
            · --
              refine own_go (st' := s₁.setTop (mkF m 53 #[.val (.int p1)] [])) (fun _ k => XS.icmpYes X0.here hx rfl (pc0 := 46) (pc' := 53) rfl (hb hby d2_46) rfl (feq hc16).2 (by decide) (by decide) k) ?_
              refine own_go (st' := s₁.setTop (mkF m 54 #[.val (.int p1)] [(.int p1)])) (fun _ k => XS.iloadN X0.here hx rfl (hb hby d2_53) rfl k) ?_
              refine own_go (st' := s₁.setTop (mkF m 56 #[.val (.int p1)] [(.int (6 : Int32)), (.int p1)])) (fun _ k => XS.bipush X0.here hx rfl (hb hby d2_54) k) ?_
              by_cases hc19 : p1 = (6 : Int32)
              · --
                refine own_go (st' := s₁.setTop (mkF m 59 #[.val (.int p1)] [])) (fun _ k => XS.icmpNo X0.here hx rfl (hb hby d2_56) rfl (teq hc19).2 k) ?_
                obtain ⟨T20, X20, e20, st20⟩ := getS2 X0 hx hZ hown (host := "") (Or.inl (hw _ (List.mem_of_getElem? (i := 17) rfl))) Via.refl e0 pr7 (g := (mkF m 59 #[.val (.int p1)] [])) rfl (hb hby d2_59)
                refine own_go (st' := T20.setTop (mkF m 62 #[.val (.int p1)] [(.ref r6)])) (st20) ?_
                obtain ⟨fs, hr, hrun, hended, hW, hsame⟩ := X20.leave (v := some (.ref r6)) (fun h => by rw [Bd.returns] at h; cases h)
                refine ⟨_, _, ?_, hP _ _ hrun hended ⟨_, _, rfl, ?_, ⟨_, rfl⟩, hW, hsame.mono (by decide) (by decide)⟩⟩
                · exact retOut X20 hx Bd.returns rfl (Or.inr (Or.inr (Or.inr (Or.inr ⟨rfl, rfl, rfl⟩)))) (hb hby d2_62) hr
                · show Qrm2 Z p1 r0 r1 r2 r3 r4 r5 r6 r7 h0 n0 _ T20.heap _
                  rw [e20]
                  exact ⟨(by unfold own_sel; rw [if_neg hc1, if_neg hc4, if_neg hc7, if_neg hc10, if_neg hc13, if_neg hc16, if_pos hc19]), N0, rfl⟩
              · --
                refine own_go (st' := s₁.setTop (mkF m 63 #[.val (.int p1)] [])) (fun _ k => XS.icmpYes X0.here hx rfl (pc0 := 56) (pc' := 63) rfl (hb hby d2_56) rfl (feq hc19).2 (by decide) (by decide) k) ?_
                refine own_go (st' := s₁.setTop (mkF m 64 #[.val (.int p1)] [(.int p1)])) (fun _ k => XS.iloadN X0.here hx rfl (hb hby d2_63) rfl k) ?_
                refine own_go (st' := s₁.setTop (mkF m 66 #[.val (.int p1)] [(.int (7 : Int32)), (.int p1)])) (fun _ k => XS.bipush X0.here hx rfl (hb hby d2_64) k) ?_
                by_cases hc22 : p1 = (7 : Int32)
                · --
                  refine own_go (st' := s₁.setTop (mkF m 69 #[.val (.int p1)] [])) (fun _ k => XS.icmpNo X0.here hx rfl (hb hby d2_66) rfl (teq hc22).2 k) ?_
                  obtain ⟨T23, X23, e23, st23⟩ := getS2 X0 hx hZ hown (host := "") (Or.inl (hw _ (List.mem_of_getElem? (i := 19) rfl))) Via.refl e0 pr8 (g := (mkF m 69 #[.val (.int p1)] [])) rfl (hb hby d2_69)
                  refine own_go (st' := T23.setTop (mkF m 72 #[.val (.int p1)] [(.ref r7)])) (st23) ?_
                  obtain ⟨fs, hr, hrun, hended, hW, hsame⟩ := X23.leave (v := some (.ref r7)) (fun h => by rw [Bd.returns] at h; cases h)
                  refine ⟨_, _, ?_, hP _ _ hrun hended ⟨_, _, rfl, ?_, ⟨_, rfl⟩, hW, hsame.mono (by decide) (by decide)⟩⟩
                  · exact retOut X23 hx Bd.returns rfl (Or.inr (Or.inr (Or.inr (Or.inr ⟨rfl, rfl, rfl⟩)))) (hb hby d2_72) hr
                  · show Qrm2 Z p1 r0 r1 r2 r3 r4 r5 r6 r7 h0 n0 _ T23.heap _
                    rw [e23]
                    exact ⟨(by unfold own_sel; rw [if_neg hc1, if_neg hc4, if_neg hc7, if_neg hc10, if_neg hc13, if_neg hc16, if_neg hc19, if_pos hc22]), N0, rfl⟩
                · --
                  refine own_go (st' := s₁.setTop (mkF m 73 #[.val (.int p1)] [])) (fun _ k => XS.icmpYes X0.here hx rfl (pc0 := 66) (pc' := 73) rfl (hb hby d2_66) rfl (feq hc22).2 (by decide) (by decide) k) ?_
                  refine own_go (st' := s₁.setTop (mkF m 74 #[.val (.int p1)] [.null])) (fun _ k => XS.aconstNull X0.here hx rfl (hb hby d2_73) k) ?_
                  obtain ⟨fs, hr, hrun, hended, hW, hsame⟩ := X0.leave (v := some .null) (fun h => by rw [Bd.returns] at h; cases h)
                  refine ⟨_, _, ?_, hP _ _ hrun hended ⟨_, _, rfl, ?_, ⟨_, rfl⟩, hW, hsame.mono (by decide) (by decide)⟩⟩
                  · exact retOut X0 hx Bd.returns rfl (Or.inr (Or.inr (Or.inr (Or.inr ⟨rfl, rfl, rfl⟩)))) (hb hby d2_74) hr
                  · show Qrm2 Z p1 r0 r1 r2 r3 r4 r5 r6 r7 h0 n0 _ s₁.heap _
                    rw [e0]
                    exact ⟨(by unfold own_sel; rw [if_neg hc1, if_neg hc4, if_neg hc7, if_neg hc10, if_neg hc13, if_neg hc16, if_neg hc19, if_neg hc22]), N0, rfl⟩
theorem pd_0 : parseMethodDescriptor "(I)Lcom/example/interpoint/interpoint/giop/MessageType;" = some ⟨[.int], some (.object "com/example/interpoint/interpoint/giop/MessageType")⟩ := by decide +kernel
theorem pn_0 : plainName "com/example/interpoint/interpoint/giop/MessageTypeOfPinLaw" = true := by first | (simp [plainName, overriddenIn]; done) | decide +kernel
theorem ef_rm0 (m : MethodId) (x0 : Int32) (x1 : Int32) : entryFrame m #[(.int x0), (.int x1)] maxLocals = mkF m 0 #[.val (.int x0), .val (.int x1), .unset, .unset, .unset] [] := by first | (simp [entryFrame, mkF, argsToLocals, Value.category, maxLocals]; done) | rfl
def Qrm0 (Z : State) (cd : Int32) (sm : Int32) (a_BY_CODE : Addr) (a_REQUEST : Addr) (a_LOCATE_REQUEST : Addr) (a_REPLY : Addr) (a_MESSAGE_ERROR : Addr) (a_FRAGMENT : Addr) (a_CLOSE_CONNECTION : Addr) (a_CANCEL_REQUEST : Addr) (a_LOCATE_REPLY : Addr) (k_a_BY_CODE : ClassId) (h0 : Heap) (n0 : Nat) (v : Option Value) (h : Heap) (L : List Loc) : Prop := v = some (.int 1) ∧ Fr n0 L ∧ True
set_option maxRecDepth 65536 in
set_option maxHeartbeats 40000000 in
theorem rm0 (l : Launch) (Z : State) (a0 : Array Value) (hw : ∀ d ∈ tables_1, d.before a0 Z = true) (ws : List Jvm.Cond) (cd : Int32) (sm : Int32) (a_BY_CODE : Addr) (a_REQUEST : Addr) (a_LOCATE_REQUEST : Addr) (a_REPLY : Addr) (a_MESSAGE_ERROR : Addr) (a_FRAGMENT : Addr) (a_CLOSE_CONNECTION : Addr) (a_CANCEL_REQUEST : Addr) (a_LOCATE_REPLY : Addr) (k_a_BY_CODE : ClassId) (h0 : Heap) (n0 : Nat) (Z0 : n0 ≤ h0.size) (pr1 : Sta Z h0 "com/example/interpoint/interpoint/giop/MessageType" "BY_CODE" "[Lcom/example/interpoint/interpoint/giop/MessageType;" (.ref a_BY_CODE)) (pr2 : Sta Z h0 "com/example/interpoint/interpoint/giop/MessageType" "REQUEST" "Lcom/example/interpoint/interpoint/giop/MessageType;" (.ref a_REQUEST)) (pr3 : Exa Z h0 a_REQUEST "com/example/interpoint/interpoint/giop/MessageType") (pr4 : Sta Z h0 "com/example/interpoint/interpoint/giop/MessageType" "LOCATE_REQUEST" "Lcom/example/interpoint/interpoint/giop/MessageType;" (.ref a_LOCATE_REQUEST)) (pr5 : Exa Z h0 a_LOCATE_REQUEST "com/example/interpoint/interpoint/giop/MessageType") (pr6 : Sta Z h0 "com/example/interpoint/interpoint/giop/MessageType" "REPLY" "Lcom/example/interpoint/interpoint/giop/MessageType;" (.ref a_REPLY)) (pr7 : Exa Z h0 a_REPLY "com/example/interpoint/interpoint/giop/MessageType") (pr8 : Sta Z h0 "com/example/interpoint/interpoint/giop/MessageType" "MESSAGE_ERROR" "Lcom/example/interpoint/interpoint/giop/MessageType;" (.ref a_MESSAGE_ERROR)) (pr9 : Exa Z h0 a_MESSAGE_ERROR "com/example/interpoint/interpoint/giop/MessageType") (pr10 : Sta Z h0 "com/example/interpoint/interpoint/giop/MessageType" "FRAGMENT" "Lcom/example/interpoint/interpoint/giop/MessageType;" (.ref a_FRAGMENT)) (pr11 : Exa Z h0 a_FRAGMENT "com/example/interpoint/interpoint/giop/MessageType") (pr12 : Sta Z h0 "com/example/interpoint/interpoint/giop/MessageType" "CLOSE_CONNECTION" "Lcom/example/interpoint/interpoint/giop/MessageType;" (.ref a_CLOSE_CONNECTION)) (pr13 : Exa Z h0 a_CLOSE_CONNECTION "com/example/interpoint/interpoint/giop/MessageType") (pr14 : Sta Z h0 "com/example/interpoint/interpoint/giop/MessageType" "CANCEL_REQUEST" "Lcom/example/interpoint/interpoint/giop/MessageType;" (.ref a_CANCEL_REQUEST)) (pr15 : Exa Z h0 a_CANCEL_REQUEST "com/example/interpoint/interpoint/giop/MessageType") (pr16 : Sta Z h0 "com/example/interpoint/interpoint/giop/MessageType" "LOCATE_REPLY" "Lcom/example/interpoint/interpoint/giop/MessageType;" (.ref a_LOCATE_REPLY)) (pr17 : Exa Z h0 a_LOCATE_REPLY "com/example/interpoint/interpoint/giop/MessageType") (pr18 : Arv Z h0 a_BY_CODE k_a_BY_CODE (.object "com/example/interpoint/interpoint/giop/MessageType") (8 : Int32) [(.ref a_REQUEST), (.ref a_REPLY), (.ref a_CANCEL_REQUEST), (.ref a_LOCATE_REQUEST), (.ref a_LOCATE_REPLY), (.ref a_CLOSE_CONNECTION), (.ref a_MESSAGE_ERROR), (.ref a_FRAGMENT)] .null) :
    MetFree l x (head1 (Jvm.Cond.code x code maxLocals ret :: ws) room_1) (fun a U => a = #[(.int cd), (.int sm)] ∧ Z.Warmed39 U.vm ∧ U.heap = h0) (fun _ _ _ _ _ => True) (fun _ U o U' => ∃ v L, o = .returned v ∧ Qrm0 Z cd sm a_BY_CODE a_REQUEST a_LOCATE_REQUEST a_REPLY a_MESSAGE_ERROR a_FRAGMENT a_CLOSE_CONNECTION a_CANCEL_REQUEST a_LOCATE_REPLY k_a_BY_CODE h0 n0 v U'.heap L ∧ FrameEnd U o U' L 0 0) := by
  refine MetFree.of_bodySF (plainFor_of_name pn_0) hisR ?_
  intro p e s m args below meth c s₁ Bd hml0 hP0 hK
  obtain ⟨rfl, hZ, hh⟩ := hP0
  have hx := Bd.exec
  have hby := Bd.bytes
  have hml : c.maxLocals = 5 := hml0
  have hown : s.vm.findClass "com/example/interpoint/interpoint/giop/MessageTypeOfPinLaw" = some m.cls := findClass_of_methodNamed Bd.named
  have hnm := (name_of_methodNamed Bd.named Bd.method).1
  have X0 : Stand p l e room_1 s m #[(.int cd), (.int sm)] below meth c s₁ [] 0 0 := Stand.of_body Bd
  have e0 : s₁.heap = h0 := by rw [← hh, Bd.state]; rfl
  have N0 := Fr.nil n0
  suffices own_H : ∀ (P : State → Outcome → Prop), (∀ U o, U.status = .running → Ended U below o → (∃ v L, o = .returned v ∧ Qrm0 Z cd sm a_BY_CODE a_REQUEST a_LOCATE_REQUEST a_REPLY a_MESSAGE_ERROR a_FRAGMENT a_CLOSE_CONNECTION a_CANCEL_REQUEST a_LOCATE_REPLY k_a_BY_CODE h0 n0 v U.heap L ∧ FrameEnd s o U L 0 0) → P U o) → own_Go p.tables e below P (s₁.setTop (mkF m 0 #[.val (.int cd), .val (.int sm), .unset, .unset, .unset] [])) from own_go (fun _ k => castTop (ef_rm0 m cd sm) k) (own_H _ (fun U o h1 h2 h3 => ⟨h1, h2, h3⟩))
  intro P hP
  have lt_a_REQUEST : @LT.lt Nat _ a_REQUEST h0.size := pr3.lt
  have lt_a_LOCATE_REQUEST : @LT.lt Nat _ a_LOCATE_REQUEST h0.size := pr5.lt
  have lt_a_REPLY : @LT.lt Nat _ a_REPLY h0.size := pr7.lt
  have lt_a_MESSAGE_ERROR : @LT.lt Nat _ a_MESSAGE_ERROR h0.size := pr9.lt
  have lt_a_FRAGMENT : @LT.lt Nat _ a_FRAGMENT h0.size := pr11.lt
  have lt_a_CLOSE_CONNECTION : @LT.lt Nat _ a_CLOSE_CONNECTION h0.size := pr13.lt
  have lt_a_CANCEL_REQUEST : @LT.lt Nat _ a_CANCEL_REQUEST h0.size := pr15.lt
  have lt_a_LOCATE_REPLY : @LT.lt Nat _ a_LOCATE_REPLY h0.size := pr17.lt
  have lt_a_BY_CODE : @LT.lt Nat _ a_BY_CODE h0.size := pr18.lt
  refine own_go (st' := s₁.setTop (mkF m 1 #[.val (.int cd), .val (.int sm), .unset, .unset, .unset] [(.int sm)])) (fun _ k => XS.iloadN X0.here hx rfl (hb hby at_0) rfl k) ?_
  refine own_go (st' := s₁.setTop (mkF m 3 #[.val (.int cd), .val (.int sm), .unset, .unset, .unset] [(.int (12 : Int32)), (.int sm)])) (fun _ k => XS.bipush X0.here hx rfl (hb hby at_1) k) ?_
  refine own_go (st' := s₁.setTop (mkF m 4 #[.val (.int cd), .val (.int sm), .unset, .unset, .unset] [(.int (sm % (12 : Int32)))])) (fun _ k => iremM X0 hx rfl (hb hby at_3) rfl (by decide) k) ?_
  refine own_go (st' := s₁.setTop (mkF m 5 #[.val (.int cd), .val (.int sm), .val (.int (sm % (12 : Int32))), .unset, .unset] [])) (fun _ k => XS.istoreN X0.here hx rfl (hb hby at_4) rfl (l' := #[.val (.int cd), .val (.int sm), .val (.int (sm % (12 : Int32))), .unset, .unset]) rfl k) ?_
  refine own_go (st' := s₁.setTop (mkF m 6 #[.val (.int cd), .val (.int sm), .val (.int (sm % (12 : Int32))), .unset, .unset] [(.int cd)])) (fun _ k => XS.iloadN X0.here hx rfl (hb hby at_5) rfl k) ?_
  obtain ⟨_, _, ⟨T1, LC1, kC1, nC1⟩, -, X1, ⟨Lc1, hQ1, lq1, yq1, zq1⟩, st1⟩ := Jvm.LawKit.callS X0 hx (y := (⟨"com/example/interpoint/interpoint/giop/MessageType", "of", "(I)Lcom/example/interpoint/interpoint/giop/MessageType;"⟩ : MethodName)) hown (mvT hZ (hw _ (List.mem_of_getElem? (i := 0) rfl))) (mvT hZ (hw _ (List.mem_of_getElem? (i := 1) rfl))) (mvT hZ (hw _ (List.mem_of_getElem? (i := 2) rfl))) (mvT hZ (hw _ (List.mem_of_getElem? (i := 3) rfl))) (by decide) (backOf (W := 0) (rm1 l Z a0 hw [] cd a_REQUEST a_REPLY a_CANCEL_REQUEST a_LOCATE_REQUEST a_LOCATE_REPLY a_CLOSE_CONNECTION a_MESSAGE_ERROR a_FRAGMENT a_BY_CODE k_a_BY_CODE h0 n0 (by omega) pr1 pr18) hZ (hw _ (List.mem_of_getElem? (i := 3) rfl)) (hw _ (List.mem_of_getElem? (i := 2) rfl)) (by decide) (by decide)) (g := (mkF m 6 #[.val (.int cd), .val (.int sm), .val (.int (sm % (12 : Int32))), .unset, .unset] [(.int cd)])) rfl (by rw [hml]; rfl) (argsL := [(.int cd)]) (rest := []) (lenOf pd_0 rfl) rfl (by show 2 * 0 + _ ≤ _; exact Nat.le_of_eq rfl) (hb hby at_6) (fun _ _ => ⟨rfl, e0, (by decide : 0 + 0 ≤ _), (by decide : 0 + 0 ≤ _)⟩)
  dsimp only [Pt.U, Pt.locs, Pt.cells, Pt.slots] at X1 lq1 yq1 zq1 st1 hQ1
  subst lq1 yq1 zq1
  obtain ⟨rfl, Nq1, eq1⟩ := hQ1
  have N1 := Fr.app N0 Nq1
  refine own_go (st' := T1.setTop (mkF m 9 #[.val (.int cd), .val (.int sm), .val (.int (sm % (12 : Int32))), .unset, .unset] [(own_sel a_REQUEST a_REPLY a_CANCEL_REQUEST a_LOCATE_REQUEST a_LOCATE_REPLY a_CLOSE_CONNECTION a_MESSAGE_ERROR a_FRAGMENT cd)])) (fun t k => st1 t k) ?_
  refine own_go (st' := T1.setTop (mkF m 10 #[.val (.int cd), .val (.int sm), .val (.int (sm % (12 : Int32))), .val (own_sel a_REQUEST a_REPLY a_CANCEL_REQUEST a_LOCATE_REQUEST a_LOCATE_REPLY a_CLOSE_CONNECTION a_MESSAGE_ERROR a_FRAGMENT cd), .unset] [])) (fun _ k => XS.astoreN X1.here hx rfl (hb hby at_9) rfl (own_sel_ref a_REQUEST a_REPLY a_CANCEL_REQUEST a_LOCATE_REQUEST a_LOCATE_REPLY a_CLOSE_CONNECTION a_MESSAGE_ERROR a_FRAGMENT cd) (l' := #[.val (.int cd), .val (.int sm), .val (.int (sm % (12 : Int32))), .val (own_sel a_REQUEST a_REPLY a_CANCEL_REQUEST a_LOCATE_REQUEST a_LOCATE_REPLY a_CLOSE_CONNECTION a_MESSAGE_ERROR a_FRAGMENT cd), .unset]) (by rcases ref_cases (own_sel_ref a_REQUEST a_REPLY a_CANCEL_REQUEST a_LOCATE_REQUEST a_LOCATE_REPLY a_CLOSE_CONNECTION a_MESSAGE_ERROR a_FRAGMENT cd) with q_ | ⟨y_, q_⟩ <;> rw [q_] <;> rfl) k) ?_
  refine own_go (st' := T1.setTop (mkF m 11 #[.val (.int cd), .val (.int sm), .val (.int (sm % (12 : Int32))), .val (own_sel a_REQUEST a_REPLY a_CANCEL_REQUEST a_LOCATE_REQUEST a_LOCATE_REPLY a_CLOSE_CONNECTION a_MESSAGE_ERROR a_FRAGMENT cd), .unset] [(.int (sm % (12 : Int32)))])) (fun _ k => XS.iloadN X1.here hx rfl (hb hby at_10) rfl k) ?_
  obtain ⟨_, _, ⟨T2, LC2, kC2, nC2⟩, -, X2, ⟨Lc2, hQ2, lq2, yq2, zq2⟩, st2⟩ := Jvm.LawKit.callS X1 hx (y := (⟨"com/example/interpoint/interpoint/giop/MessageType", "of", "(I)Lcom/example/interpoint/interpoint/giop/MessageType;"⟩ : MethodName)) hown (mvT hZ (hw _ (List.mem_of_getElem? (i := 0) rfl))) (mvT hZ (hw _ (List.mem_of_getElem? (i := 1) rfl))) (mvT hZ (hw _ (List.mem_of_getElem? (i := 2) rfl))) (mvT hZ (hw _ (List.mem_of_getElem? (i := 3) rfl))) (by decide) (backOf (W := 0) (rm1 l Z a0 hw [] (sm % (12 : Int32)) a_REQUEST a_REPLY a_CANCEL_REQUEST a_LOCATE_REQUEST a_LOCATE_REPLY a_CLOSE_CONNECTION a_MESSAGE_ERROR a_FRAGMENT a_BY_CODE k_a_BY_CODE h0 n0 (by omega) pr1 pr18) hZ (hw _ (List.mem_of_getElem? (i := 3) rfl)) (hw _ (List.mem_of_getElem? (i := 2) rfl)) (by decide) (by decide)) (g := (mkF m 11 #[.val (.int cd), .val (.int sm), .val (.int (sm % (12 : Int32))), .val (own_sel a_REQUEST a_REPLY a_CANCEL_REQUEST a_LOCATE_REQUEST a_LOCATE_REPLY a_CLOSE_CONNECTION a_MESSAGE_ERROR a_FRAGMENT cd), .unset] [(.int (sm % (12 : Int32)))])) rfl (by rw [hml]; rfl) (argsL := [(.int (sm % (12 : Int32)))]) (rest := []) (lenOf pd_0 rfl) rfl (by show 2 * 0 + _ ≤ _; exact Nat.le_of_eq rfl) (hb hby at_11) (fun _ _ => ⟨rfl, eq1, (by decide : 0 + 0 ≤ _), (by decide : 0 + 0 ≤ _)⟩)
  dsimp only [Pt.U, Pt.locs, Pt.cells, Pt.slots] at X2 lq2 yq2 zq2 st2 hQ2
  subst lq2 yq2 zq2
  obtain ⟨rfl, Nq2, eq2⟩ := hQ2
  have N2 := Fr.app N1 Nq2
  refine own_go (st' := T2.setTop (mkF m 14 #[.val (.int cd), .val (.int sm), .val (.int (sm % (12 : Int32))), .val (own_sel a_REQUEST a_REPLY a_CANCEL_REQUEST a_LOCATE_REQUEST a_LOCATE_REPLY a_CLOSE_CONNECTION a_MESSAGE_ERROR a_FRAGMENT cd), .unset] [(own_sel a_REQUEST a_REPLY a_CANCEL_REQUEST a_LOCATE_REQUEST a_LOCATE_REPLY a_CLOSE_CONNECTION a_MESSAGE_ERROR a_FRAGMENT (sm % (12 : Int32)))])) (fun t k => st2 t k) ?_
  refine own_go (st' := T2.setTop (mkF m 16 #[.val (.int cd), .val (.int sm), .val (.int (sm % (12 : Int32))), .val (own_sel a_REQUEST a_REPLY a_CANCEL_REQUEST a_LOCATE_REQUEST a_LOCATE_REPLY a_CLOSE_CONNECTION a_MESSAGE_ERROR a_FRAGMENT cd), .val (own_sel a_REQUEST a_REPLY a_CANCEL_REQUEST a_LOCATE_REQUEST a_LOCATE_REPLY a_CLOSE_CONNECTION a_MESSAGE_ERROR a_FRAGMENT (sm % (12 : Int32)))] [])) (fun _ k => XS.astore X2.here hx rfl (hb hby at_14) rfl (own_sel_ref a_REQUEST a_REPLY a_CANCEL_REQUEST a_LOCATE_REQUEST a_LOCATE_REPLY a_CLOSE_CONNECTION a_MESSAGE_ERROR a_FRAGMENT (sm % (12 : Int32))) (l' := #[.val (.int cd), .val (.int sm), .val (.int (sm % (12 : Int32))), .val (own_sel a_REQUEST a_REPLY a_CANCEL_REQUEST a_LOCATE_REQUEST a_LOCATE_REPLY a_CLOSE_CONNECTION a_MESSAGE_ERROR a_FRAGMENT cd), .val (own_sel a_REQUEST a_REPLY a_CANCEL_REQUEST a_LOCATE_REQUEST a_LOCATE_REPLY a_CLOSE_CONNECTION a_MESSAGE_ERROR a_FRAGMENT (sm % (12 : Int32)))]) (by rcases ref_cases (own_sel_ref a_REQUEST a_REPLY a_CANCEL_REQUEST a_LOCATE_REQUEST a_LOCATE_REPLY a_CLOSE_CONNECTION a_MESSAGE_ERROR a_FRAGMENT (sm % (12 : Int32))) with q_ | ⟨y_, q_⟩ <;> rw [q_] <;> rfl) k) ?_
  refine own_go (st' := T2.setTop (mkF m 17 #[.val (.int cd), .val (.int sm), .val (.int (sm % (12 : Int32))), .val (own_sel a_REQUEST a_REPLY a_CANCEL_REQUEST a_LOCATE_REQUEST a_LOCATE_REPLY a_CLOSE_CONNECTION a_MESSAGE_ERROR a_FRAGMENT cd), .val (own_sel a_REQUEST a_REPLY a_CANCEL_REQUEST a_LOCATE_REQUEST a_LOCATE_REPLY a_CLOSE_CONNECTION a_MESSAGE_ERROR a_FRAGMENT (sm % (12 : Int32)))] [(own_sel a_REQUEST a_REPLY a_CANCEL_REQUEST a_LOCATE_REQUEST a_LOCATE_REPLY a_CLOSE_CONNECTION a_MESSAGE_ERROR a_FRAGMENT cd)])) (fun _ k => XS.aloadN X2.here hx rfl (hb hby at_16) rfl (own_sel_ref a_REQUEST a_REPLY a_CANCEL_REQUEST a_LOCATE_REQUEST a_LOCATE_REPLY a_CLOSE_CONNECTION a_MESSAGE_ERROR a_FRAGMENT cd) k) ?_
  refine own_go (st' := T2.setTop (mkF m 18 #[.val (.int cd), .val (.int sm), .val (.int (sm % (12 : Int32))), .val (own_sel a_REQUEST a_REPLY a_CANCEL_REQUEST a_LOCATE_REQUEST a_LOCATE_REPLY a_CLOSE_CONNECTION a_MESSAGE_ERROR a_FRAGMENT cd), .val (own_sel a_REQUEST a_REPLY a_CANCEL_REQUEST a_LOCATE_REQUEST a_LOCATE_REPLY a_CLOSE_CONNECTION a_MESSAGE_ERROR a_FRAGMENT (sm % (12 : Int32)))] [(.int cd), (own_sel a_REQUEST a_REPLY a_CANCEL_REQUEST a_LOCATE_REQUEST a_LOCATE_REPLY a_CLOSE_CONNECTION a_MESSAGE_ERROR a_FRAGMENT cd)])) (fun _ k => XS.iloadN X2.here hx rfl (hb hby at_17) rfl k) ?_
  obtain ⟨_, _, ⟨T3, LC3, kC3, nC3⟩, -, X3, ⟨Lc3, hQ3, lq3, yq3, zq3⟩, st3⟩ := Jvm.LawKit.callS X2 hx (y := (⟨"com/example/interpoint/interpoint/giop/MessageTypeOfPinLaw", "ref", "(I)Lcom/example/interpoint/interpoint/giop/MessageType;"⟩ : MethodName)) hown (mvT hZ (hw _ (List.mem_of_getElem? (i := 8) rfl))) (mvT hZ (hw _ (List.mem_of_getElem? (i := 9) rfl))) (mvT hZ (hw _ (List.mem_of_getElem? (i := 10) rfl))) (mvT hZ (hw _ (List.mem_of_getElem? (i := 11) rfl))) (by decide) (backOf (W := 1) (rm2 l Z a0 hw [] cd a_REQUEST a_REPLY a_CANCEL_REQUEST a_LOCATE_REQUEST a_LOCATE_REPLY a_CLOSE_CONNECTION a_MESSAGE_ERROR a_FRAGMENT h0 n0 (by omega) pr2 pr6 pr14 pr4 pr16 pr12 pr8 pr10) hZ (hw _ (List.mem_of_getElem? (i := 11) rfl)) (hw _ (List.mem_of_getElem? (i := 10) rfl)) (by decide) (by decide)) (g := (mkF m 18 #[.val (.int cd), .val (.int sm), .val (.int (sm % (12 : Int32))), .val (own_sel a_REQUEST a_REPLY a_CANCEL_REQUEST a_LOCATE_REQUEST a_LOCATE_REPLY a_CLOSE_CONNECTION a_MESSAGE_ERROR a_FRAGMENT cd), .val (own_sel a_REQUEST a_REPLY a_CANCEL_REQUEST a_LOCATE_REQUEST a_LOCATE_REPLY a_CLOSE_CONNECTION a_MESSAGE_ERROR a_FRAGMENT (sm % (12 : Int32)))] [(.int cd), (own_sel a_REQUEST a_REPLY a_CANCEL_REQUEST a_LOCATE_REQUEST a_LOCATE_REPLY a_CLOSE_CONNECTION a_MESSAGE_ERROR a_FRAGMENT cd)])) rfl (by rw [hml]; rfl) (argsL := [(.int cd)]) (rest := [(own_sel a_REQUEST a_REPLY a_CANCEL_REQUEST a_LOCATE_REQUEST a_LOCATE_REPLY a_CLOSE_CONNECTION a_MESSAGE_ERROR a_FRAGMENT cd)]) (lenOf pd_0 rfl) rfl (by show 2 * 0 + _ ≤ _; simp only [List.map_cons, List.map_nil, List.sum_cons, List.sum_nil, own_cat (own_sel_ref a_REQUEST a_REPLY a_CANCEL_REQUEST a_LOCATE_REQUEST a_LOCATE_REPLY a_CLOSE_CONNECTION a_MESSAGE_ERROR a_FRAGMENT cd)]; exact Nat.le_of_eq rfl) (hb hby at_18) (fun _ _ => ⟨rfl, eq2, (by decide : 0 + 0 ≤ _), (by decide : 0 + 0 ≤ _)⟩)
  dsimp only [Pt.U, Pt.locs, Pt.cells, Pt.slots] at X3 lq3 yq3 zq3 st3 hQ3
  subst lq3 yq3 zq3
  obtain ⟨rfl, Nq3, eq3⟩ := hQ3
  have N3 := Fr.app N2 Nq3
  refine own_go (st' := T3.setTop (mkF m 21 #[.val (.int cd), .val (.int sm), .val (.int (sm % (12 : Int32))), .val (own_sel a_REQUEST a_REPLY a_CANCEL_REQUEST a_LOCATE_REQUEST a_LOCATE_REPLY a_CLOSE_CONNECTION a_MESSAGE_ERROR a_FRAGMENT cd), .val (own_sel a_REQUEST a_REPLY a_CANCEL_REQUEST a_LOCATE_REQUEST a_LOCATE_REPLY a_CLOSE_CONNECTION a_MESSAGE_ERROR a_FRAGMENT (sm % (12 : Int32)))] [(own_sel a_REQUEST a_REPLY a_CANCEL_REQUEST a_LOCATE_REQUEST a_LOCATE_REPLY a_CLOSE_CONNECTION a_MESSAGE_ERROR a_FRAGMENT cd), (own_sel a_REQUEST a_REPLY a_CANCEL_REQUEST a_LOCATE_REQUEST a_LOCATE_REPLY a_CLOSE_CONNECTION a_MESSAGE_ERROR a_FRAGMENT cd)])) (fun t k => st3 t k) ?_
  refine own_go (st' := T3.setTop (mkF m 24 #[.val (.int cd), .val (.int sm), .val (.int (sm % (12 : Int32))), .val (own_sel a_REQUEST a_REPLY a_CANCEL_REQUEST a_LOCATE_REQUEST a_LOCATE_REPLY a_CLOSE_CONNECTION a_MESSAGE_ERROR a_FRAGMENT cd), .val (own_sel a_REQUEST a_REPLY a_CANCEL_REQUEST a_LOCATE_REQUEST a_LOCATE_REPLY a_CLOSE_CONNECTION a_MESSAGE_ERROR a_FRAGMENT (sm % (12 : Int32)))] [])) (fun _ k => Jvm.RoadKit.acmp (g := (mkF m 21 #[.val (.int cd), .val (.int sm), .val (.int (sm % (12 : Int32))), .val (own_sel a_REQUEST a_REPLY a_CANCEL_REQUEST a_LOCATE_REQUEST a_LOCATE_REPLY a_CLOSE_CONNECTION a_MESSAGE_ERROR a_FRAGMENT cd), .val (own_sel a_REQUEST a_REPLY a_CANCEL_REQUEST a_LOCATE_REQUEST a_LOCATE_REPLY a_CLOSE_CONNECTION a_MESSAGE_ERROR a_FRAGMENT (sm % (12 : Int32)))] [(own_sel a_REQUEST a_REPLY a_CANCEL_REQUEST a_LOCATE_REQUEST a_LOCATE_REPLY a_CLOSE_CONNECTION a_MESSAGE_ERROR a_FRAGMENT cd), (own_sel a_REQUEST a_REPLY a_CANCEL_REQUEST a_LOCATE_REQUEST a_LOCATE_REPLY a_CLOSE_CONNECTION a_MESSAGE_ERROR a_FRAGMENT cd)])) X3 hx rfl (own_sel_ref a_REQUEST a_REPLY a_CANCEL_REQUEST a_LOCATE_REQUEST a_LOCATE_REPLY a_CLOSE_CONNECTION a_MESSAGE_ERROR a_FRAGMENT cd) (own_sel_ref a_REQUEST a_REPLY a_CANCEL_REQUEST a_LOCATE_REQUEST a_LOCATE_REPLY a_CLOSE_CONNECTION a_MESSAGE_ERROR a_FRAGMENT cd) (pc0 := 21) (pc' := 24) (same := true) rfl (hb hby at_21) rfl (decide_eq_true rfl) (by decide) (by decide) k) ?_
  refine own_go (st' := T3.setTop (mkF m 26 #[.val (.int cd), .val (.int sm), .val (.int (sm % (12 : Int32))), .val (own_sel a_REQUEST a_REPLY a_CANCEL_REQUEST a_LOCATE_REQUEST a_LOCATE_REPLY a_CLOSE_CONNECTION a_MESSAGE_ERROR a_FRAGMENT cd), .val (own_sel a_REQUEST a_REPLY a_CANCEL_REQUEST a_LOCATE_REQUEST a_LOCATE_REPLY a_CLOSE_CONNECTION a_MESSAGE_ERROR a_FRAGMENT (sm % (12 : Int32)))] [(own_sel a_REQUEST a_REPLY a_CANCEL_REQUEST a_LOCATE_REQUEST a_LOCATE_REPLY a_CLOSE_CONNECTION a_MESSAGE_ERROR a_FRAGMENT (sm % (12 : Int32)))])) (fun _ k => XS.aload X3.here hx rfl (hb hby at_24) rfl (own_sel_ref a_REQUEST a_REPLY a_CANCEL_REQUEST a_LOCATE_REQUEST a_LOCATE_REPLY a_CLOSE_CONNECTION a_MESSAGE_ERROR a_FRAGMENT (sm % (12 : Int32))) k) ?_
  refine own_go (st' := T3.setTop (mkF m 27 #[.val (.int cd), .val (.int sm), .val (.int (sm % (12 : Int32))), .val (own_sel a_REQUEST a_REPLY a_CANCEL_REQUEST a_LOCATE_REQUEST a_LOCATE_REPLY a_CLOSE_CONNECTION a_MESSAGE_ERROR a_FRAGMENT cd), .val (own_sel a_REQUEST a_REPLY a_CANCEL_REQUEST a_LOCATE_REQUEST a_LOCATE_REPLY a_CLOSE_CONNECTION a_MESSAGE_ERROR a_FRAGMENT (sm % (12 : Int32)))] [(.int (sm % (12 : Int32))), (own_sel a_REQUEST a_REPLY a_CANCEL_REQUEST a_LOCATE_REQUEST a_LOCATE_REPLY a_CLOSE_CONNECTION a_MESSAGE_ERROR a_FRAGMENT (sm % (12 : Int32)))])) (fun _ k => XS.iloadN X3.here hx rfl (hb hby at_26) rfl k) ?_
  obtain ⟨_, _, ⟨T4, LC4, kC4, nC4⟩, -, X4, ⟨Lc4, hQ4, lq4, yq4, zq4⟩, st4⟩ := Jvm.LawKit.callS X3 hx (y := (⟨"com/example/interpoint/interpoint/giop/MessageTypeOfPinLaw", "ref", "(I)Lcom/example/interpoint/interpoint/giop/MessageType;"⟩ : MethodName)) hown (mvT hZ (hw _ (List.mem_of_getElem? (i := 8) rfl))) (mvT hZ (hw _ (List.mem_of_getElem? (i := 9) rfl))) (mvT hZ (hw _ (List.mem_of_getElem? (i := 10) rfl))) (mvT hZ (hw _ (List.mem_of_getElem? (i := 11) rfl))) (by decide) (backOf (W := 1) (rm2 l Z a0 hw [] (sm % (12 : Int32)) a_REQUEST a_REPLY a_CANCEL_REQUEST a_LOCATE_REQUEST a_LOCATE_REPLY a_CLOSE_CONNECTION a_MESSAGE_ERROR a_FRAGMENT h0 n0 (by omega) pr2 pr6 pr14 pr4 pr16 pr12 pr8 pr10) hZ (hw _ (List.mem_of_getElem? (i := 11) rfl)) (hw _ (List.mem_of_getElem? (i := 10) rfl)) (by decide) (by decide)) (g := (mkF m 27 #[.val (.int cd), .val (.int sm), .val (.int (sm % (12 : Int32))), .val (own_sel a_REQUEST a_REPLY a_CANCEL_REQUEST a_LOCATE_REQUEST a_LOCATE_REPLY a_CLOSE_CONNECTION a_MESSAGE_ERROR a_FRAGMENT cd), .val (own_sel a_REQUEST a_REPLY a_CANCEL_REQUEST a_LOCATE_REQUEST a_LOCATE_REPLY a_CLOSE_CONNECTION a_MESSAGE_ERROR a_FRAGMENT (sm % (12 : Int32)))] [(.int (sm % (12 : Int32))), (own_sel a_REQUEST a_REPLY a_CANCEL_REQUEST a_LOCATE_REQUEST a_LOCATE_REPLY a_CLOSE_CONNECTION a_MESSAGE_ERROR a_FRAGMENT (sm % (12 : Int32)))])) rfl (by rw [hml]; rfl) (argsL := [(.int (sm % (12 : Int32)))]) (rest := [(own_sel a_REQUEST a_REPLY a_CANCEL_REQUEST a_LOCATE_REQUEST a_LOCATE_REPLY a_CLOSE_CONNECTION a_MESSAGE_ERROR a_FRAGMENT (sm % (12 : Int32)))]) (lenOf pd_0 rfl) rfl (by show 2 * 0 + _ ≤ _; simp only [List.map_cons, List.map_nil, List.sum_cons, List.sum_nil, own_cat (own_sel_ref a_REQUEST a_REPLY a_CANCEL_REQUEST a_LOCATE_REQUEST a_LOCATE_REPLY a_CLOSE_CONNECTION a_MESSAGE_ERROR a_FRAGMENT (sm % (12 : Int32)))]; exact Nat.le_of_eq rfl) (hb hby at_27) (fun _ _ => ⟨rfl, eq3, (by decide : 0 + 0 ≤ _), (by decide : 0 + 0 ≤ _)⟩)
  dsimp only [Pt.U, Pt.locs, Pt.cells, Pt.slots] at X4 lq4 yq4 zq4 st4 hQ4
  subst lq4 yq4 zq4
  obtain ⟨rfl, Nq4, eq4⟩ := hQ4
  have N4 := Fr.app N3 Nq4
  refine own_go (st' := T4.setTop (mkF m 30 #[.val (.int cd), .val (.int sm), .val (.int (sm % (12 : Int32))), .val (own_sel a_REQUEST a_REPLY a_CANCEL_REQUEST a_LOCATE_REQUEST a_LOCATE_REPLY a_CLOSE_CONNECTION a_MESSAGE_ERROR a_FRAGMENT cd), .val (own_sel a_REQUEST a_REPLY a_CANCEL_REQUEST a_LOCATE_REQUEST a_LOCATE_REPLY a_CLOSE_CONNECTION a_MESSAGE_ERROR a_FRAGMENT (sm % (12 : Int32)))] [(own_sel a_REQUEST a_REPLY a_CANCEL_REQUEST a_LOCATE_REQUEST a_LOCATE_REPLY a_CLOSE_CONNECTION a_MESSAGE_ERROR a_FRAGMENT (sm % (12 : Int32))), (own_sel a_REQUEST a_REPLY a_CANCEL_REQUEST a_LOCATE_REQUEST a_LOCATE_REPLY a_CLOSE_CONNECTION a_MESSAGE_ERROR a_FRAGMENT (sm % (12 : Int32)))])) (fun t k => st4 t k) ?_
  refine own_go (st' := T4.setTop (mkF m 33 #[.val (.int cd), .val (.int sm), .val (.int (sm % (12 : Int32))), .val (own_sel a_REQUEST a_REPLY a_CANCEL_REQUEST a_LOCATE_REQUEST a_LOCATE_REPLY a_CLOSE_CONNECTION a_MESSAGE_ERROR a_FRAGMENT cd), .val (own_sel a_REQUEST a_REPLY a_CANCEL_REQUEST a_LOCATE_REQUEST a_LOCATE_REPLY a_CLOSE_CONNECTION a_MESSAGE_ERROR a_FRAGMENT (sm % (12 : Int32)))] [])) (fun _ k => Jvm.RoadKit.acmp (g := (mkF m 30 #[.val (.int cd), .val (.int sm), .val (.int (sm % (12 : Int32))), .val (own_sel a_REQUEST a_REPLY a_CANCEL_REQUEST a_LOCATE_REQUEST a_LOCATE_REPLY a_CLOSE_CONNECTION a_MESSAGE_ERROR a_FRAGMENT cd), .val (own_sel a_REQUEST a_REPLY a_CANCEL_REQUEST a_LOCATE_REQUEST a_LOCATE_REPLY a_CLOSE_CONNECTION a_MESSAGE_ERROR a_FRAGMENT (sm % (12 : Int32)))] [(own_sel a_REQUEST a_REPLY a_CANCEL_REQUEST a_LOCATE_REQUEST a_LOCATE_REPLY a_CLOSE_CONNECTION a_MESSAGE_ERROR a_FRAGMENT (sm % (12 : Int32))), (own_sel a_REQUEST a_REPLY a_CANCEL_REQUEST a_LOCATE_REQUEST a_LOCATE_REPLY a_CLOSE_CONNECTION a_MESSAGE_ERROR a_FRAGMENT (sm % (12 : Int32)))])) X4 hx rfl (own_sel_ref a_REQUEST a_REPLY a_CANCEL_REQUEST a_LOCATE_REQUEST a_LOCATE_REPLY a_CLOSE_CONNECTION a_MESSAGE_ERROR a_FRAGMENT (sm % (12 : Int32))) (own_sel_ref a_REQUEST a_REPLY a_CANCEL_REQUEST a_LOCATE_REQUEST a_LOCATE_REPLY a_CLOSE_CONNECTION a_MESSAGE_ERROR a_FRAGMENT (sm % (12 : Int32))) (pc0 := 30) (pc' := 33) (same := true) rfl (hb hby at_30) rfl (decide_eq_true rfl) (by decide) (by decide) k) ?_
  refine own_go (st' := T4.setTop (mkF m 34 #[.val (.int cd), .val (.int sm), .val (.int (sm % (12 : Int32))), .val (own_sel a_REQUEST a_REPLY a_CANCEL_REQUEST a_LOCATE_REQUEST a_LOCATE_REPLY a_CLOSE_CONNECTION a_MESSAGE_ERROR a_FRAGMENT cd), .val (own_sel a_REQUEST a_REPLY a_CANCEL_REQUEST a_LOCATE_REQUEST a_LOCATE_REPLY a_CLOSE_CONNECTION a_MESSAGE_ERROR a_FRAGMENT (sm % (12 : Int32)))] [(.int (1 : Int32))])) (fun _ k => XS.iconst X4.here hx rfl (hb hby at_33) k) ?_
  refine own_go (st' := T4.setTop (mkF m 38 #[.val (.int cd), .val (.int sm), .val (.int (sm % (12 : Int32))), .val (own_sel a_REQUEST a_REPLY a_CANCEL_REQUEST a_LOCATE_REQUEST a_LOCATE_REPLY a_CLOSE_CONNECTION a_MESSAGE_ERROR a_FRAGMENT cd), .val (own_sel a_REQUEST a_REPLY a_CANCEL_REQUEST a_LOCATE_REQUEST a_LOCATE_REPLY a_CLOSE_CONNECTION a_MESSAGE_ERROR a_FRAGMENT (sm % (12 : Int32)))] [(.int (1 : Int32))])) (fun _ k => XS.goto X4.here hx rfl (pc0 := 34) (pc' := 38) rfl (hb hby at_34) (by decide) (by decide) k) ?_
  obtain ⟨fs, hr, hrun, hended, hW, hsame⟩ := X4.leave (v := some (.int (1 : Int32))) (fun h => by rw [Bd.returns] at h; cases h)
  refine ⟨_, _, ?_, hP _ _ hrun hended ⟨_, _, rfl, ?_, ⟨_, rfl⟩, hW, hsame.mono (by decide) (by decide)⟩⟩
  · exact retN X4 hx (t := .boolean) Bd.returns (by simp) (hb hby at_38) hr
  · show Qrm0 Z cd sm a_BY_CODE a_REQUEST a_LOCATE_REQUEST a_REPLY a_MESSAGE_ERROR a_FRAGMENT a_CLOSE_CONNECTION a_CANCEL_REQUEST a_LOCATE_REPLY k_a_BY_CODE h0 n0 _ T4.heap _
    rw [eq4]
    exact ⟨rfl, N4, trivial⟩
set_option maxRecDepth 65536 in
set_option maxHeartbeats 40000000 in
theorem comes_1 {Post : Tables → Env → Array Value → State → Outcome → State → Prop} (hpost : ∀ tb e args s v u, (limb_1_1.after args s (.returned v) u = true ∧ limb_1_2.after args s (.returned v) u = true ∧ True) → FrameEnd s (.returned v) u (Jvm.fieldLocs frame_1_writes args s ++ Jvm.arrayLocs frame_1_arrays args s ++ Jvm.staticLocs frame_1_statics s) 0 0 → Post tb e args s (.returned v) u) :
    ArmFor flags0 classFile x code maxLocals ret World_1 tables_1 room_1 Calls_1 rest_1 Pre_1 Post := by
  intro l hfl _ _ p e ha hc hk s m args below hf hA hF happ hP
  obtain ⟨hcalls, hrest, hpre⟩ := hP
  obtain ⟨-, -, -, hnamed, -, -, -, hat⟩ := (Spec.applies_iff hf).mp happ
  obtain ⟨hg, hn⟩ := and_e (Cond.before_iff.mp (show (Jvm.Cond.and given_1 narrow_1).before args s = true from hpre))
  obtain ⟨h1, h2⟩ := and_e hg
  obtain ⟨w0, w1, rfl⟩ : ∃ w0 w1 : Value, args = #[w0, w1] := by
    have hs : args.size = 2 := by simpa [Cond.value, given_1] using h1
    obtain ⟨L⟩ := args
    match L, hs with
    | [w0, w1], _ => exact ⟨w0, w1, rfl⟩
  have hw := fun d (hd : d ∈ tables_1) => atoms_spec (ws := Jvm.Cond.code x code maxLocals ret :: tables_1) hat d (List.mem_cons_of_mem _ hd)
  have hfit : Fit s := fun {y c} hc i hi => by
    obtain ⟨ha, rfl⟩ := Array.getElem?_eq_some_iff.mp hc
    have q := List.all_eq_true.mp ((Array.all_eq_true_iff_forall_mem.mp hF) _ (Array.getElem_mem ha)) i (List.mem_range.mpr hi)
    simpa [Array.getElem?_eq_getElem hi] using q
  obtain ⟨ha0, hr0⟩ := and_e h2
  obtain ⟨cd, ev0⟩ := is_v ha0
  obtain rfl : w0 = (.int cd) := Option.some.inj ev0
  obtain ⟨sm, ev1⟩ := is_v hr0
  obtain rfl : w1 = (.int sm) := Option.some.inj ev1
  obtain ⟨nw0, nr0⟩ := and_e hn
  obtain ⟨nw1, nr1⟩ := and_e nr0
  obtain ⟨nw2, nr2⟩ := and_e nr1
  obtain ⟨nw3, nr3⟩ := and_e nr2
  obtain ⟨nw4, nr4⟩ := and_e nr3
  obtain ⟨nw5, nr5⟩ := and_e nr4
  obtain ⟨nw6, nr6⟩ := and_e nr5
  obtain ⟨nw7, nr7⟩ := and_e nr6
  obtain ⟨nw8, nr8⟩ := and_e nr7
  obtain ⟨nw9, nr9⟩ := and_e nr8
  obtain ⟨nw10, nr10⟩ := and_e nr9
  obtain ⟨nw11, nr11⟩ := and_e nr10
  obtain ⟨nw12, nr12⟩ := and_e nr11
  obtain ⟨nw13, nr13⟩ := and_e nr12
  obtain ⟨nw14, nr14⟩ := and_e nr13
  obtain ⟨nw15, nr15⟩ := and_e nr14
  obtain ⟨nw16, nr16⟩ := and_e nr15
  have nw17 := nr16
  obtain ⟨a_BY_CODE, ea_BY_CODE⟩ := arr_v nw0
  have sa_BY_CODE : Sta s s.heap "com/example/interpoint/interpoint/giop/MessageType" "BY_CODE" "[Lcom/example/interpoint/interpoint/giop/MessageType;" (.ref a_BY_CODE) := Sta.start ea_BY_CODE (Or.inr ⟨(hw _ (List.mem_of_getElem? (i := 2) rfl)), (hw _ (List.mem_of_getElem? (i := 5) rfl))⟩)
  obtain ⟨cla_BY_CODE, Ara_BY_CODE⟩ := Arr.start ea_BY_CODE nw0
  obtain ⟨a_REQUEST, ea_REQUEST⟩ := exa_v nw2
  have sa_REQUEST : Sta s s.heap "com/example/interpoint/interpoint/giop/MessageType" "REQUEST" "Lcom/example/interpoint/interpoint/giop/MessageType;" (.ref a_REQUEST) := Sta.start ea_REQUEST (Or.inr ⟨(hw _ (List.mem_of_getElem? (i := 2) rfl)), (hw _ (List.mem_of_getElem? (i := 6) rfl))⟩)
  have xa_REQUEST : Exa s s.heap a_REQUEST "com/example/interpoint/interpoint/giop/MessageType" := Exa.start ea_REQUEST nw2
  obtain ⟨a_LOCATE_REQUEST, ea_LOCATE_REQUEST⟩ := exa_v nw4
  have sa_LOCATE_REQUEST : Sta s s.heap "com/example/interpoint/interpoint/giop/MessageType" "LOCATE_REQUEST" "Lcom/example/interpoint/interpoint/giop/MessageType;" (.ref a_LOCATE_REQUEST) := Sta.start ea_LOCATE_REQUEST (Or.inr ⟨(hw _ (List.mem_of_getElem? (i := 2) rfl)), (hw _ (List.mem_of_getElem? (i := 7) rfl))⟩)
  have xa_LOCATE_REQUEST : Exa s s.heap a_LOCATE_REQUEST "com/example/interpoint/interpoint/giop/MessageType" := Exa.start ea_LOCATE_REQUEST nw4
  obtain ⟨a_REPLY, ea_REPLY⟩ := exa_v nw6
  have sa_REPLY : Sta s s.heap "com/example/interpoint/interpoint/giop/MessageType" "REPLY" "Lcom/example/interpoint/interpoint/giop/MessageType;" (.ref a_REPLY) := Sta.start ea_REPLY (Or.inr ⟨(hw _ (List.mem_of_getElem? (i := 2) rfl)), (hw _ (List.mem_of_getElem? (i := 14) rfl))⟩)
  have xa_REPLY : Exa s s.heap a_REPLY "com/example/interpoint/interpoint/giop/MessageType" := Exa.start ea_REPLY nw6
  obtain ⟨a_MESSAGE_ERROR, ea_MESSAGE_ERROR⟩ := exa_v nw8
  have sa_MESSAGE_ERROR : Sta s s.heap "com/example/interpoint/interpoint/giop/MessageType" "MESSAGE_ERROR" "Lcom/example/interpoint/interpoint/giop/MessageType;" (.ref a_MESSAGE_ERROR) := Sta.start ea_MESSAGE_ERROR (Or.inr ⟨(hw _ (List.mem_of_getElem? (i := 2) rfl)), (hw _ (List.mem_of_getElem? (i := 16) rfl))⟩)
  have xa_MESSAGE_ERROR : Exa s s.heap a_MESSAGE_ERROR "com/example/interpoint/interpoint/giop/MessageType" := Exa.start ea_MESSAGE_ERROR nw8
  obtain ⟨a_FRAGMENT, ea_FRAGMENT⟩ := exa_v nw10
  have sa_FRAGMENT : Sta s s.heap "com/example/interpoint/interpoint/giop/MessageType" "FRAGMENT" "Lcom/example/interpoint/interpoint/giop/MessageType;" (.ref a_FRAGMENT) := Sta.start ea_FRAGMENT (Or.inr ⟨(hw _ (List.mem_of_getElem? (i := 2) rfl)), (hw _ (List.mem_of_getElem? (i := 18) rfl))⟩)
  have xa_FRAGMENT : Exa s s.heap a_FRAGMENT "com/example/interpoint/interpoint/giop/MessageType" := Exa.start ea_FRAGMENT nw10
  obtain ⟨a_CLOSE_CONNECTION, ea_CLOSE_CONNECTION⟩ := exa_v nw12
  have sa_CLOSE_CONNECTION : Sta s s.heap "com/example/interpoint/interpoint/giop/MessageType" "CLOSE_CONNECTION" "Lcom/example/interpoint/interpoint/giop/MessageType;" (.ref a_CLOSE_CONNECTION) := Sta.start ea_CLOSE_CONNECTION (Or.inr ⟨(hw _ (List.mem_of_getElem? (i := 2) rfl)), (hw _ (List.mem_of_getElem? (i := 20) rfl))⟩)
  have xa_CLOSE_CONNECTION : Exa s s.heap a_CLOSE_CONNECTION "com/example/interpoint/interpoint/giop/MessageType" := Exa.start ea_CLOSE_CONNECTION nw12
  obtain ⟨a_CANCEL_REQUEST, ea_CANCEL_REQUEST⟩ := exa_v nw14
  have sa_CANCEL_REQUEST : Sta s s.heap "com/example/interpoint/interpoint/giop/MessageType" "CANCEL_REQUEST" "Lcom/example/interpoint/interpoint/giop/MessageType;" (.ref a_CANCEL_REQUEST) := Sta.start ea_CANCEL_REQUEST (Or.inr ⟨(hw _ (List.mem_of_getElem? (i := 2) rfl)), (hw _ (List.mem_of_getElem? (i := 22) rfl))⟩)
  have xa_CANCEL_REQUEST : Exa s s.heap a_CANCEL_REQUEST "com/example/interpoint/interpoint/giop/MessageType" := Exa.start ea_CANCEL_REQUEST nw14
  obtain ⟨a_LOCATE_REPLY, ea_LOCATE_REPLY⟩ := exa_v nw16
  have sa_LOCATE_REPLY : Sta s s.heap "com/example/interpoint/interpoint/giop/MessageType" "LOCATE_REPLY" "Lcom/example/interpoint/interpoint/giop/MessageType;" (.ref a_LOCATE_REPLY) := Sta.start ea_LOCATE_REPLY (Or.inr ⟨(hw _ (List.mem_of_getElem? (i := 2) rfl)), (hw _ (List.mem_of_getElem? (i := 24) rfl))⟩)
  have xa_LOCATE_REPLY : Exa s s.heap a_LOCATE_REPLY "com/example/interpoint/interpoint/giop/MessageType" := Exa.start ea_LOCATE_REPLY nw16
  have lna_BY_CODE := own_len ea_BY_CODE Ara_BY_CODE.1 nw1
  have ela_BY_CODE_0 := own_elem ea_BY_CODE Ara_BY_CODE.1 ea_REQUEST nw3
  have ela_BY_CODE_3 := own_elem ea_BY_CODE Ara_BY_CODE.1 ea_LOCATE_REQUEST nw5
  have ela_BY_CODE_1 := own_elem ea_BY_CODE Ara_BY_CODE.1 ea_REPLY nw7
  have ela_BY_CODE_6 := own_elem ea_BY_CODE Ara_BY_CODE.1 ea_MESSAGE_ERROR nw9
  have ela_BY_CODE_7 := own_elem ea_BY_CODE Ara_BY_CODE.1 ea_FRAGMENT nw11
  have ela_BY_CODE_5 := own_elem ea_BY_CODE Ara_BY_CODE.1 ea_CLOSE_CONNECTION nw13
  have ela_BY_CODE_2 := own_elem ea_BY_CODE Ara_BY_CODE.1 ea_CANCEL_REQUEST nw15
  have ela_BY_CODE_4 := own_elem ea_BY_CODE Ara_BY_CODE.1 ea_LOCATE_REPLY nw17
  have va_BY_CODE : Arv s s.heap a_BY_CODE cla_BY_CODE.cls (.object "com/example/interpoint/interpoint/giop/MessageType") (8 : Int32) [(.ref a_REQUEST), (.ref a_REPLY), (.ref a_CANCEL_REQUEST), (.ref a_LOCATE_REQUEST), (.ref a_LOCATE_REPLY), (.ref a_CLOSE_CONNECTION), (.ref a_MESSAGE_ERROR), (.ref a_FRAGMENT)] .null := Arv.start hfit Ara_BY_CODE lna_BY_CODE.1 lna_BY_CODE.2 (by decide) rfl ⟨ela_BY_CODE_0, ela_BY_CODE_1, ela_BY_CODE_2, ela_BY_CODE_3, ela_BY_CODE_4, ela_BY_CODE_5, ela_BY_CODE_6, ela_BY_CODE_7, trivial⟩
  obtain ⟨n, o, h1, h2, h3, _, L, rfl, hQ, hq⟩ := rm0 l s _ hw tables_1 cd sm a_BY_CODE a_REQUEST a_LOCATE_REQUEST a_REPLY a_MESSAGE_ERROR a_FRAGMENT a_CLOSE_CONNECTION a_CANCEL_REQUEST a_LOCATE_REPLY cla_BY_CODE.cls s.heap s.heap.size (Nat.le_refl _) sa_BY_CODE sa_REQUEST xa_REQUEST sa_LOCATE_REQUEST xa_LOCATE_REQUEST sa_REPLY xa_REPLY sa_MESSAGE_ERROR xa_MESSAGE_ERROR sa_FRAGMENT xa_FRAGMENT sa_CLOSE_CONNECTION xa_CLOSE_CONNECTION sa_CANCEL_REQUEST xa_CANCEL_REQUEST sa_LOCATE_REPLY xa_LOCATE_REPLY va_BY_CODE p e ha hc hk s m _ below hf ((Spec.applies_iff_loose hf).mp happ).1 ⟨rfl, State.Warmed39.refl s, rfl⟩ trivial
  obtain ⟨rfl, N, -⟩ := hQ
  refine ⟨n, _, h1, h2, h3, hpost _ _ _ _ _ _ ⟨Cond.after_iff.mpr rfl, Cond.after_iff.mpr (eq_i res_at (Term.int_eval (1)) rfl), trivial⟩ ⟨hq.1, hq.2.1, (hq.2.2.sift fun y hy => Or.inr (N y hy)).mono (by decide) (by decide)⟩⟩
theorem main_1_1 : Claimed_1_1 := comes_1 fun _ _ _ _ _ _ h hF => ⟨h.1, hF⟩
theorem main_1_2 : Claimed_1_2 := comes_1 fun _ _ _ _ _ _ h hF => ⟨h.2.1, hF⟩
end Jvm.Pilot.@@N@@
namespace Jvm.Pilot.@@N@@
open Jvm Jvm.ClassFile Sem Op Lib Jvm.Free Jvm.Stand Jvm.Pilot.@@N@@.Jvm.D
/-! MADE BY PROGRAM (witnessworld.py) out of the Statement's table words and the real class files: 13 classes; the members and pool entries that the words name. The judged class is class 1, her method 2. -/
namespace start1
open Jvm.ClassFile
def u (s : String) : CpInfo := .utf8 (stringToUtf16 s)
/-- a pool by its gaps: so many unusable entries, then the entry; so many at the end -/
def gap : Nat → List CpInfo → List CpInfo
  | 0, r => r
  | n + 1, r => .unusable :: gap n r
def poolList (es : List (Nat × CpInfo)) (last : Nat) : List CpInfo := es.foldr (fun e r => gap e.1 (e.2 :: r)) (gap last [])
def pool (es : List (Nat × CpInfo)) (last : Nat) : Array CpInfo := ⟨poolList es last⟩
def fileOf (pool : Array CpInfo) (this : Nat) (attrs : Array Attribute := #[]) (ms : Array MethodInfo := #[]) (fl : Nat := 33) (sup : Nat := 0) (ifs : Array Nat := #[]) (fds : Array FieldInfo := #[]) : ClassFile where
  minorVersion := 0
  majorVersion := 65
  constantPool := pool
  accessFlags := fl
  thisClass := this
  superClass := sup
  interfaces := ifs
  fields := fds
  methods := ms
  attributes := attrs
def plain (name : String) (sup : Option ClassId) : Class where
  name := name
  kind := .ordinary
  loader := none
  accessFlags := 33
  super := sup
  interfaces := #[]
  cf := none
  fields := #[]
  methods := #[]
  instanceTypes := #[]
  staticTypes := #[]
  resolved := #[]
  callSites := []
  init := .initialized
  statics := none
  mirror := none

def pool0 : Array CpInfo := pool [(5, u "<init>"), (0, u "()V"), (1, .class_ 10), (1, u "java/lang/Object")] 113

def k0m0 : Method := { name := "<init>", desc := "()V", sig := { parameters := [], returnType := none }, accessFlags := 1, code := none }
/-- java/lang/Object -/
def k0 : Class := { plain "java/lang/Object" none with
  accessFlags := 33
  interfaces := #[]
  cf := some (fileOf pool0 8 #[] #[{ accessFlags := 1, nameIndex := 5, descriptorIndex := 6, attributes := #[] }] 33 0 #[] #[])
  fields := #[]
  methods := #[k0m0]
  instanceTypes := #[]
  staticTypes := #[]
  resolved := Array.replicate 124 none
  statics := none }

def pool1 : Array CpInfo := pool [(2, .class_ 4), (1, u "java/lang/Object"), (0, u "<init>"), (0, u "()V"), (0, .fieldref 8 9), (0, .class_ 10), (0, .nameAndType 11 12), (0, u "com/example/interpoint/interpoint/giop/MessageType"), (0, u "REQUEST"), (0, u "Lcom/example/interpoint/interpoint/giop/MessageType;"), (0, .fieldref 8 14), (0, .nameAndType 15 12), (0, u "REPLY"), (0, .fieldref 8 17), (0, .nameAndType 18 12), (0, u "CANCEL_REQUEST"), (0, .fieldref 8 20), (0, .nameAndType 21 12), (0, u "LOCATE_REQUEST"), (0, .fieldref 8 23), (0, .nameAndType 24 12), (0, u "LOCATE_REPLY"), (0, .fieldref 8 26), (0, .nameAndType 27 12), (0, u "CLOSE_CONNECTION"), (0, .fieldref 8 29), (0, .nameAndType 30 12), (0, u "MESSAGE_ERROR"), (0, .fieldref 8 32), (0, .nameAndType 33 12), (0, u "FRAGMENT"), (0, .methodref 8 35), (0, .nameAndType 36 37), (0, u "of"), (0, u "(I)Lcom/example/interpoint/interpoint/giop/MessageType;"), (0, .methodref 39 40), (0, .class_ 41), (0, .nameAndType 42 37), (0, u "com/example/interpoint/interpoint/giop/MessageTypeOfPinLaw"), (0, u "ref"), (3, u "law"), (0, u "(II)Z")] 2

def k1m0 : Method := { name := "<init>", desc := "()V", sig := { parameters := [], returnType := none }, accessFlags := 1, code := none }
def k1c1 : Code := { maxStack := 2, maxLocals := 1, code := method_2_code, exceptionTable := #[], attributes := #[] }
def k1m1 : Method := { name := "ref", desc := "(I)Lcom/example/interpoint/interpoint/giop/MessageType;", sig := { parameters := [.int], returnType := some (.object "com/example/interpoint/interpoint/giop/MessageType") }, accessFlags := 10, code := some k1c1 }
def k1c2 : Code := { maxStack := 2, maxLocals := 5, code := code, exceptionTable := #[], attributes := #[] }
def k1m2 : Method := { name := "law", desc := "(II)Z", sig := { parameters := [.int, .int], returnType := some .boolean }, accessFlags := 9, code := some k1c2 }
/-- com/example/interpoint/interpoint/giop/MessageTypeOfPinLaw -/
def k1 : Class := { plain "com/example/interpoint/interpoint/giop/MessageTypeOfPinLaw" (some 0) with
  accessFlags := 49
  interfaces := #[]
  cf := some (fileOf pool1 39 #[] #[{ accessFlags := 1, nameIndex := 5, descriptorIndex := 6, attributes := #[] }, { accessFlags := 10, nameIndex := 42, descriptorIndex := 37, attributes := #[] }, { accessFlags := 9, nameIndex := 46, descriptorIndex := 47, attributes := #[] }] 49 2 #[] #[])
  fields := #[]
  methods := #[k1m0, k1m1, k1m2]
  instanceTypes := #[]
  staticTypes := #[]
  resolved := Array.replicate 50 none
  statics := none }

def pool2 : Array CpInfo := pool [(1, .class_ 2), (0, u "java/lang/constant/Constable"), (0, .class_ 4), (0, u "java/lang/Object")] 6

/-- java/lang/constant/Constable -/
def k2 : Class := { plain "java/lang/constant/Constable" (some 0) with
  accessFlags := 1537
  interfaces := #[]
  cf := some (fileOf pool2 1 #[] #[] 1537 3 #[] #[])
  fields := #[]
  methods := #[]
  instanceTypes := #[]
  staticTypes := #[]
  resolved := Array.replicate 11 none
  statics := none }

def pool3 : Array CpInfo := pool [(1, .class_ 2), (0, u "java/lang/Comparable"), (0, .class_ 4), (0, u "java/lang/Object")] 7

/-- java/lang/Comparable -/
def k3 : Class := { plain "java/lang/Comparable" (some 0) with
  accessFlags := 1537
  interfaces := #[]
  cf := some (fileOf pool3 1 #[] #[] 1537 3 #[] #[])
  fields := #[]
  methods := #[]
  instanceTypes := #[]
  staticTypes := #[]
  resolved := Array.replicate 12 none
  statics := none }

def pool4 : Array CpInfo := pool [(1, .class_ 2), (0, u "java/io/Serializable"), (0, .class_ 4), (0, u "java/lang/Object")] 2

/-- java/io/Serializable -/
def k4 : Class := { plain "java/io/Serializable" (some 0) with
  accessFlags := 1537
  interfaces := #[]
  cf := some (fileOf pool4 1 #[] #[] 1537 3 #[] #[])
  fields := #[]
  methods := #[]
  instanceTypes := #[]
  staticTypes := #[]
  resolved := Array.replicate 7 none
  statics := none }

def pool5 : Array CpInfo := pool [(2, .class_ 4), (1, u "java/lang/Enum"), (0, u "name"), (0, u "Ljava/lang/String;"), (2, u "ordinal"), (0, u "I"), (1, .class_ 14), (1, u "java/lang/Object"), (4, u "hash"), (86, .class_ 108), (1, u "java/lang/Enum$EnumDesc"), (2, .class_ 112), (0, u "java/lang/constant/Constable"), (0, .class_ 114), (0, u "java/lang/Comparable"), (0, .class_ 116), (0, u "java/io/Serializable")] 87

/-- java/lang/Enum -/
def k5 : Class := { plain "java/lang/Enum" (some 0) with
  accessFlags := 1057
  interfaces := #[2, 3, 4]
  cf := some (fileOf pool5 2 #[.nestMembers #[106]] #[] 1057 12 #[111, 113, 115] #[{ accessFlags := 18, nameIndex := 5, descriptorIndex := 6, attributes := #[] }, { accessFlags := 18, nameIndex := 9, descriptorIndex := 10, attributes := #[] }, { accessFlags := 2, nameIndex := 19, descriptorIndex := 10, attributes := #[] }])
  fields := #[{ name := "name", type := (.object "java/lang/String"), accessFlags := 18, slot := 0, constantValue := 0 }, { name := "ordinal", type := .int, accessFlags := 18, slot := 1, constantValue := 0 }, { name := "hash", type := .int, accessFlags := 2, slot := 2, constantValue := 0 }]
  methods := #[]
  instanceTypes := #[(.object "java/lang/String"), .int, .int]
  staticTypes := #[]
  resolved := Array.replicate 204 none
  statics := none }

def pool6 : Array CpInfo := pool [(1, .class_ 2), (0, u "com/example/interpoint/interpoint/giop/MessageType"), (2, u "REQUEST"), (0, u "Lcom/example/interpoint/interpoint/giop/MessageType;"), (2, u "REPLY"), (2, u "CANCEL_REQUEST"), (2, u "LOCATE_REQUEST"), (2, u "LOCATE_REPLY"), (2, u "CLOSE_CONNECTION"), (2, u "MESSAGE_ERROR"), (2, u "FRAGMENT"), (2, u "$VALUES"), (0, u "[Lcom/example/interpoint/interpoint/giop/MessageType;"), (6, .class_ 40), (1, u "java/lang/Enum"), (10, .fieldref 1 52), (0, .nameAndType 53 31), (0, u "BY_CODE"), (24, u "of"), (0, u "(I)Lcom/example/interpoint/interpoint/giop/MessageType;")] 5

def k6c0 : Code := { maxStack := 2, maxLocals := 1, code := prog_89_method_5_code, exceptionTable := #[], attributes := #[] }
def k6m0 : Method := { name := "of", desc := "(I)Lcom/example/interpoint/interpoint/giop/MessageType;", sig := { parameters := [.int], returnType := some (.object "com/example/interpoint/interpoint/giop/MessageType") }, accessFlags := 8, code := some k6c0 }
/-- com/example/interpoint/interpoint/giop/MessageType -/
def k6 : Class := { plain "com/example/interpoint/interpoint/giop/MessageType" (some 5) with
  accessFlags := 16433
  interfaces := #[]
  cf := some (fileOf pool6 1 #[] #[{ accessFlags := 8, nameIndex := 78, descriptorIndex := 79, attributes := #[] }] 16433 38 #[] #[{ accessFlags := 16409, nameIndex := 5, descriptorIndex := 6, attributes := #[] }, { accessFlags := 16409, nameIndex := 9, descriptorIndex := 6, attributes := #[] }, { accessFlags := 16409, nameIndex := 12, descriptorIndex := 6, attributes := #[] }, { accessFlags := 16409, nameIndex := 15, descriptorIndex := 6, attributes := #[] }, { accessFlags := 16409, nameIndex := 18, descriptorIndex := 6, attributes := #[] }, { accessFlags := 16409, nameIndex := 21, descriptorIndex := 6, attributes := #[] }, { accessFlags := 16409, nameIndex := 24, descriptorIndex := 6, attributes := #[] }, { accessFlags := 16409, nameIndex := 27, descriptorIndex := 6, attributes := #[] }, { accessFlags := 26, nameIndex := 53, descriptorIndex := 31, attributes := #[] }, { accessFlags := 4122, nameIndex := 30, descriptorIndex := 31, attributes := #[] }])
  fields := #[{ name := "REQUEST", type := (.object "com/example/interpoint/interpoint/giop/MessageType"), accessFlags := 16409, slot := 0, constantValue := 0 }, { name := "REPLY", type := (.object "com/example/interpoint/interpoint/giop/MessageType"), accessFlags := 16409, slot := 1, constantValue := 0 }, { name := "CANCEL_REQUEST", type := (.object "com/example/interpoint/interpoint/giop/MessageType"), accessFlags := 16409, slot := 2, constantValue := 0 }, { name := "LOCATE_REQUEST", type := (.object "com/example/interpoint/interpoint/giop/MessageType"), accessFlags := 16409, slot := 3, constantValue := 0 }, { name := "LOCATE_REPLY", type := (.object "com/example/interpoint/interpoint/giop/MessageType"), accessFlags := 16409, slot := 4, constantValue := 0 }, { name := "CLOSE_CONNECTION", type := (.object "com/example/interpoint/interpoint/giop/MessageType"), accessFlags := 16409, slot := 5, constantValue := 0 }, { name := "MESSAGE_ERROR", type := (.object "com/example/interpoint/interpoint/giop/MessageType"), accessFlags := 16409, slot := 6, constantValue := 0 }, { name := "FRAGMENT", type := (.object "com/example/interpoint/interpoint/giop/MessageType"), accessFlags := 16409, slot := 7, constantValue := 0 }, { name := "BY_CODE", type := (.array (.object "com/example/interpoint/interpoint/giop/MessageType")), accessFlags := 26, slot := 8, constantValue := 0 }, { name := "$VALUES", type := (.array (.object "com/example/interpoint/interpoint/giop/MessageType")), accessFlags := 4122, slot := 9, constantValue := 0 }]
  methods := #[k6m0]
  instanceTypes := #[(.object "java/lang/String"), .int, .int]
  staticTypes := #[(.object "com/example/interpoint/interpoint/giop/MessageType"), (.object "com/example/interpoint/interpoint/giop/MessageType"), (.object "com/example/interpoint/interpoint/giop/MessageType"), (.object "com/example/interpoint/interpoint/giop/MessageType"), (.object "com/example/interpoint/interpoint/giop/MessageType"), (.object "com/example/interpoint/interpoint/giop/MessageType"), (.object "com/example/interpoint/interpoint/giop/MessageType"), (.object "com/example/interpoint/interpoint/giop/MessageType"), (.array (.object "com/example/interpoint/interpoint/giop/MessageType")), (.array (.object "com/example/interpoint/interpoint/giop/MessageType"))]
  resolved := Array.replicate 85 none
  statics := some 0 }

def pool7 : Array CpInfo := pool [(1, u "java/lang/Cloneable"), (0, .class_ 1), (0, u "java/lang/Object"), (0, .class_ 3)] 3

/-- java/lang/Cloneable -/
def k7 : Class := { plain "java/lang/Cloneable" (some 0) with
  accessFlags := 1537
  interfaces := #[]
  cf := some (fileOf pool7 2 #[] #[] 1537 4 #[] #[])
  fields := #[]
  methods := #[]
  instanceTypes := #[]
  staticTypes := #[]
  resolved := Array.replicate 8 none
  statics := none }

/-- the primitive byte -/
def k8 : Class := { plain "byte" none with kind := .primitive 'B', accessFlags := 0x411 }
/-- [B -/
def k9 : Class := { plain "[B" (some 0) with kind := .array 8 .byte, interfaces := #[7, 4], accessFlags := 1041 }

/-- the primitive int -/
def k10 : Class := { plain "int" none with kind := .primitive 'I', accessFlags := 0x411 }
/-- [I -/
def k11 : Class := { plain "[I" (some 0) with kind := .array 10 .int, interfaces := #[7, 4], accessFlags := 1041 }

/-- [Lcom/example/interpoint/interpoint/giop/MessageType; -/
def k12 : Class := { plain "[Lcom/example/interpoint/interpoint/giop/MessageType;" (some 0) with kind := .array 6 (.object "com/example/interpoint/interpoint/giop/MessageType"), interfaces := #[7, 4], accessFlags := 1041 }

def heap : Heap := #[{ cls := 6, slots := #[.ref 2, .ref 3, .ref 4, .ref 5, .ref 6, .ref 7, .ref 8, .ref 9, .ref 1, .null], vm := .statics 6 },
  { cls := 12, slots := #[.ref 2, .ref 3, .ref 4, .ref 5, .ref 6, .ref 7, .ref 8, .ref 9], vm := .none },
  { cls := 6, slots := #[.null, .int 0, .int 0], vm := .none },
  { cls := 6, slots := #[.null, .int 1, .int 0], vm := .none },
  { cls := 6, slots := #[.null, .int 2, .int 0], vm := .none },
  { cls := 6, slots := #[.null, .int 3, .int 0], vm := .none },
  { cls := 6, slots := #[.null, .int 4, .int 0], vm := .none },
  { cls := 6, slots := #[.null, .int 5, .int 0], vm := .none },
  { cls := 6, slots := #[.null, .int 6, .int 0], vm := .none },
  { cls := 6, slots := #[.null, .int 7, .int 0], vm := .none }]
def classes : Array Class := #[k0, k1, k2, k3, k4, k5, k6, k7, k8, k9, k10, k11, k12]
def interned : List (Array UInt16 × Addr) := []
def slotsUsed : Nat := 42
def theMethod : MethodId := ⟨1, 2⟩
def args0 : Array Value := #[.int 5, .int 7]
def aboutOver (below : List Frame) : State where
  vm := { classes := classes, interned := interned.toArray }
  heap := heap
  slotsUsed := slotsUsed
  threads := #[{ frames := .invoking theMethod args0 :: below }]
def below0 : List Frame := [.native { method := ⟨0, 0⟩, args := #[] }]
def about1 : State := aboutOver below0
def p0 : Program := .bare "" "" ""
def e0 : Env := launch0.env 0 0 0
theorem w_frames : about1.frames = Frame.invoking theMethod args0 :: below0 := rfl
set_option maxRecDepth 65536 in
theorem w_args : argsFit about1.vm theMethod args0 = true := by decide +kernel
set_option maxRecDepth 65536 in
theorem w_heap : heapFits about1 = true := by decide +kernel
set_option maxRecDepth 65536 in
theorem w_runnable : about1.curStatus? = some .runnable := by decide +kernel
set_option maxRecDepth 65536 in
theorem w_alone : about1.alone = true := by decide +kernel
set_option maxRecDepth 65536 in
theorem w_named : about1.methodNamed? x = some theMethod := by decide +kernel
set_option maxRecDepth 65536 in
theorem w_hears : about1.hears theMethod below0 = true := by decide +kernel
set_option maxRecDepth 65536 in
theorem w_ripe : about1.ripe theMethod args0 below0 = true := by decide +kernel
theorem w_running : about1.status = .running := rfl
set_option maxRecDepth 65536 in
theorem w_room : about1.hasRoom e0.platform room_1 = true :=
  launch0.hasRoom_least _ room_1 (by decide +kernel) (by decide +kernel) (by decide +kernel) (by decide +kernel) (by decide +kernel) (by decide +kernel)
theorem allAtoms_all (ts : List Jvm.Cond) (a : Array Jvm.Value) (st : Jvm.State) : (allAtoms ts).before a st = ts.all (fun c => c.before a st) := by
  induction ts with
  | nil => rfl
  | cons c t ih =>
    show (Jvm.Cond.and c (allAtoms t)).before a st = _
    rw [Jvm.Cond.before_and, ih, List.all_cons]
def words1 : List Jvm.Cond := Jvm.Cond.code x code maxLocals ret :: tables_1
/-- a 'code' word, met by the world's own term for the bytes: nothing is compared byte by byte -/
theorem code_word {y : MethodName} {bytes : ByteArray} {mx : Nat} {rt : Option FieldType} {a : Array Value} {s : State} {m : MethodId} {meth : Method} {c : Code} (h1 : s.methodNamed? y = some m) (h2 : s.vm.method? m = some meth) (h3 : meth.code = some c) (h4 : c.code = bytes)
    (h5 : (c.maxLocals == mx && c.exceptionTable.isEmpty && decide (c.maxStack ≤ mostOperands) && decide (meth.sig.returnType = rt) && !meth.locks && decide (parseMethodDescriptor y.desc = some meth.sig)) = true) : (Jvm.Cond.code y bytes mx rt).before a s = true := by
  simp only [Bool.and_eq_true, beq_iff_eq, Bool.not_eq_true', decide_eq_true_eq] at h5
  obtain ⟨⟨⟨⟨⟨g1, g2⟩, g3⟩, g4⟩, g5⟩, g6⟩ := h5
  simp [Cond.before, Cond.holds, Cond.value, h1, h2, h3, h4, g1, g2, g3, g4, g5, g6]
def isCode : Jvm.Cond → Bool
  | .code _ _ _ _ => true
  | _ => false
theorem all_split {L : List Jvm.Cond} {P : Jvm.Cond → Bool} (h1 : L.all (fun c => isCode c || P c) = true) (h2 : ∀ c ∈ L.filter isCode, P c = true) : L.all P = true := by
  refine List.all_eq_true.mpr fun c hc => ?_
  have h := List.all_eq_true.mp h1 c hc
  rcases Bool.eq_false_or_eq_true (isCode c) with hi | hi
  · exact h2 c (List.mem_filter.mpr ⟨hc, hi⟩)
  · simpa [hi] using h
set_option maxRecDepth 65536 in
theorem w_c0 : (Jvm.Cond.code x code maxLocals ret).before args0 about1 = true := code_word (m := ⟨1, 2⟩) (meth := k1m2) (c := k1c2) (by decide +kernel) rfl rfl rfl (by decide +kernel)
set_option maxRecDepth 65536 in
theorem w_c1 : (Jvm.Cond.code ({ cls := "com/example/interpoint/interpoint/giop/MessageType", name := "of", desc := "(I)Lcom/example/interpoint/interpoint/giop/MessageType;" } : Jvm.MethodName) prog_89_method_5_code (1 : Nat) (Option.some (Jvm.ClassFile.FieldType.object "com/example/interpoint/interpoint/giop/MessageType"))).before args0 about1 = true := code_word (m := ⟨6, 0⟩) (meth := k6m0) (c := k6c0) (by decide +kernel) rfl rfl rfl (by decide +kernel)
set_option maxRecDepth 65536 in
theorem w_c2 : (Jvm.Cond.code ({ cls := "com/example/interpoint/interpoint/giop/MessageTypeOfPinLaw", name := "ref", desc := "(I)Lcom/example/interpoint/interpoint/giop/MessageType;" } : Jvm.MethodName) method_2_code (1 : Nat) (Option.some (Jvm.ClassFile.FieldType.object "com/example/interpoint/interpoint/giop/MessageType"))).before args0 about1 = true := code_word (m := ⟨1, 1⟩) (meth := k1m1) (c := k1c1) (by decide +kernel) rfl rfl rfl (by decide +kernel)
def codes1 : List Jvm.Cond := [Jvm.Cond.code x code maxLocals ret, Jvm.Cond.code ({ cls := "com/example/interpoint/interpoint/giop/MessageType", name := "of", desc := "(I)Lcom/example/interpoint/interpoint/giop/MessageType;" } : Jvm.MethodName) prog_89_method_5_code (1 : Nat) (Option.some (Jvm.ClassFile.FieldType.object "com/example/interpoint/interpoint/giop/MessageType")), Jvm.Cond.code ({ cls := "com/example/interpoint/interpoint/giop/MessageTypeOfPinLaw", name := "ref", desc := "(I)Lcom/example/interpoint/interpoint/giop/MessageType;" } : Jvm.MethodName) method_2_code (1 : Nat) (Option.some (Jvm.ClassFile.FieldType.object "com/example/interpoint/interpoint/giop/MessageType"))]
set_option maxRecDepth 65536 in
theorem codes_eq : words1.filter isCode = codes1 := rfl
theorem w_codes : ∀ c ∈ words1.filter isCode, c.before args0 about1 = true := by
  rw [codes_eq]
  intro c hc
  simp only [codes1, List.mem_cons, List.not_mem_nil, or_false] at hc
  rcases hc with rfl | rfl | rfl
  · exact w_c0
  · exact w_c1
  · exact w_c2
set_option maxRecDepth 65536 in
theorem w_t1 : (words1.take 24).all (fun c => isCode c || c.before args0 about1) = true := by decide +kernel
set_option maxRecDepth 65536 in
theorem w_t2 : (words1.drop 24).all (fun c => isCode c || c.before args0 about1) = true := by decide +kernel
theorem w_tables : (allAtoms (Jvm.Cond.code x code maxLocals ret :: tables_1)).before args0 about1 = true := by
  rw [allAtoms_all]
  show words1.all (fun c => c.before args0 about1) = true
  refine all_split ?_ w_codes
  rw [← List.take_append_drop 24 words1, List.all_append, w_t1, w_t2]
  rfl
set_option maxRecDepth 65536 in
theorem w_case : (Jvm.Cond.and given_1 narrow_1).before args0 about1 = true := by decide +kernel
theorem w_applies : (headSpec (Jvm.Cond.code x code maxLocals ret :: tables_1) room_1).applies x e0.platform about1 = true :=
  (Spec.applies_iff w_frames).mpr ⟨w_running, w_runnable, w_alone, w_named, w_hears, w_ripe, w_room, w_tables⟩
theorem atStart : AtStart classFile x code maxLocals ret World_1 tables_1 room_1 Calls_1 rest_1 Pre_1 launch0 p0 e0 about1 theMethod args0 below0 :=
  ⟨lists_1, trivial, launch0.admits_env _ _ _, launch0.least_env, fairChoices_fair.cas, fairChoices_fair.clock, w_frames, w_args, w_heap, w_applies, trivial, trivial, w_case⟩
end start1
theorem witness_1 : WitnessClaimed_1 := ⟨start1.p0, start1.e0, start1.about1, start1.theMethod, start1.args0, start1.below0, start1.atStart⟩
end Jvm.Pilot.@@N@@
