import JvmDerived
import JvmDerived.Pilot.@@N@@Statement
import JvmDerived.Pilot.@@N@@Code
set_option linter.unusedVariables false
set_option linter.unusedSimpArgs false
namespace Jvm.Pilot.@@N@@
open Jvm Jvm.ClassFile Sem Op Lib Jvm.Free Jvm.Stand Jvm.LawKit Jvm.RoadKit Bundle Jvm.Pilot.@@N@@.Jvm.D
abbrev own_Go (tb : Tables) (e : Env) (below : List Frame) (P : State → Outcome → Prop) (st : State) : Prop := ∃ U o, Steps tb e below st U ∧ P U o
theorem own_go {tb : Tables} {e : Env} {below : List Frame} {P : State → Outcome → Prop} {st st' : State} (h : ∀ t, Steps tb e below st' t → Steps tb e below st t) (k : own_Go tb e below P st') : own_Go tb e below P st := by
  obtain ⟨U, o, h1, h2⟩ := k; exact ⟨U, o, h _ h1, h2⟩
theorem own_cat {v : Value} (h : v.isRef = true) : v.category = 1 := by rcases ref_cases h with rfl | ⟨a, rfl⟩ <;> rfl
theorem own_nar_ref {t : FieldType} {v : Value} (h : v.isRef = true) : narrow t v = v := by rcases ref_cases h with rfl | ⟨a, rfl⟩ <;> cases t <;> rfl
theorem own_fit_ref {t : FieldType} {v : Value} (h : v.isRef = true) (ht : t.isReference = true := by rfl) : fits t v = true := by rcases ref_cases h with rfl | ⟨a, rfl⟩ <;> cases t <;> first | rfl | (cases ht)
theorem own_widen {p : Program} {l : Launch} {e : Env} {R : Room} {s : State} {m : MethodId} {args : Array Value} {below : List Frame} {meth : Method} {c : Code} {T : State} {locs : List Loc} {cells slots cells' slots' : Nat} (X : Stand p l e R s m args below meth c T locs cells slots) (h1 : cells ≤ cells') (h2 : slots ≤ slots') : Stand p l e R s m args below meth c T locs cells' slots' :=
  { X with same := X.same.mono h1 h2 }
theorem own_sel_priv {s : State} {args : Array Value} {y : MethodName} {n : Nat} (wi : (Jvm.Cond.instantiable y.cls n).before args s = true) (hp : s.PrivateAt y) (hinst : (Jvm.Cond.instanceMethod y).before args s = true) (hy : y.cls ≠ "java/lang/invoke/MethodHandle" ∧ y.cls ≠ "java/lang/invoke/VarHandle") : (Jvm.Cond.selects y.cls y y).before args s = true := by
  obtain ⟨c, k, h1, h2, -, h4, -⟩ := Cond.instantiable_spec wi
  exact selects_self_of_private h1 h2 (Bool.or_eq_false_iff.mp h4).1 hp hinst hy
theorem own_sta_keep {Z : State} {h h' : Heap} {ws : List Addr} {C n d : String} {v : Value} (F : Sta Z h C n d v) (K : Keep h h' ws) (q : ∀ x ∈ ws, ∀ c : Cell, h[x]? = some c → c.vm.isStatics = false) : Sta Z h' C n d v := by
  obtain ⟨cf, i, k, f, st, cell, h1, h2, h3, h4, h5, h6, h7⟩ := F
  exact ⟨cf, i, k, f, st, cell, h1, h2, h3, h4, K.2.1 st cell h5 (fun z => by rw [q st z cell h5] at h6; cases h6), h6, h7⟩
theorem own_pl_exa {Z : State} {h : Heap} {a : Addr} {C : String} (F : Exa Z h a C) : ∀ c : Cell, h[a]? = some c → c.vm.isStatics = false := fun c hc => by
  obtain ⟨c1, k, h1, -, -, h4, -⟩ := F; cases h1.symm.trans hc; exact h4
theorem own_pl_fld {Z : State} {h : Heap} {a : Addr} {C n d : String} {v : Value} (F : Fld Z h a C n d v) : ∀ c : Cell, h[a]? = some c → c.vm.isStatics = false := old_plain F
theorem own_pl_arv {Z : State} {h : Heap} {a : Addr} {k : ClassId} {ty : FieldType} {n : Int32} {vs : List Value} {d : Value} (F : Arv Z h a k ty n vs d) : ∀ c : Cell, h[a]? = some c → c.vm.isStatics = false := fun c hc => by
  obtain ⟨c1, A, -⟩ := F; cases A.1.symm.trans hc; exact A.plain
theorem own_fld {args : Array Value} {s : State} {t : Term} {C n d : String} {a : Addr} {k : Int32} (ev : t.eval args s none [] s = some (.ref a)) (h : (Jvm.Cond.eq (.field t C n d) (.int k)).value args s none s [] = some true) : Fld s s.heap a C n d (.int k) := by
  obtain ⟨x, y, e1, e2, -, k2⟩ := cmp_v (Or.inl h)
  obtain rfl : Value.int k = y := Option.some.inj e2
  obtain ⟨z, rfl⟩ := k2
  have q : z = k := by
    simp only [Cond.value] at h
    rw [e1, e2] at h
    simpa using h
  subst q
  rw [fld_at ev] at e1
  exact Fld.start e1
theorem own_len {args : Array Value} {s : State} {t : Term} {a : Addr} {cl : Cell} {n : Int32} (ev : t.eval args s none [] s = some (.ref a)) (hc : s.heap[a]? = some cl) (h : (Jvm.Cond.eq (.length t) (.int n)).value args s none s [] = some true) : cl.slots.size < 2 ^ 31 ∧ cl.slots.size.toInt32 = n := by
  obtain ⟨x, y, e1, e2, -, -⟩ := cmp_v (Or.inl h)
  obtain rfl : Value.int n = y := Option.some.inj e2
  obtain ⟨b, cell, g1, g2, rfl⟩ := Term.length_spec e1
  cases ev.symm.trans g1
  have g3 : cell.slots.size < 2 ^ 31 := by
    apply Decidable.byContradiction
    intro q
    simp [Term.eval, ev, g2, q] at e1
  have g4 : cell = cl := by
    simp only [State.arrayAt?, Option.bind_eq_bind, Option.bind_eq_some_iff] at g2
    obtain ⟨c2, q1, k2, q2, q3⟩ := g2
    split at q3
    · cases q3
    · split at q3
      · cases q3; exact Option.some.inj (q1.symm.trans hc)
      · cases q3
  rw [← g4]
  refine ⟨g3, ?_⟩
  simp only [Cond.value] at h
  rw [e1, e2] at h
  simpa using h
theorem own_elem {args : Array Value} {s : State} {t u : Term} {a b : Addr} {cl : Cell} {k : Int32} (ev : t.eval args s none [] s = some (.ref a)) (hc : s.heap[a]? = some cl) (eu : u.eval args s none [] s = some (.ref b)) (h : (Jvm.Cond.eq (.elem t (.int k)) u).value args s none s [] = some true) : cl.slots[k.toNatClampNeg]? = some (.ref b) := by
  obtain ⟨x, y, e1, e2, -, -⟩ := cmp_v (Or.inl h)
  cases eu.symm.trans e2
  have q := (elem_in e1 ev rfl hc).2
  have : x = .ref b := by
    simp only [Cond.value] at h
    rw [e1, e2] at h
    cases x <;> simp at h ⊢
    exact h
  rw [q, this]
theorem own_mod3 (x : Int32) : x % 3 = 0 ∨ x % 3 = 1 ∨ x % 3 = 2 ∨ x < 0 := by
  have h := Int32.toInt_mod x 3
  have e3 : (3 : Int32).toInt = 3 := rfl
  rw [e3] at h
  by_cases hx : x < 0
  · exact Or.inr (Or.inr (Or.inr hx))
  · have h0 : 0 ≤ x.toInt := by rw [Int32.lt_iff_toInt_lt] at hx; have : (0 : Int32).toInt = 0 := rfl; omega
    rw [Int.tmod_eq_emod_of_nonneg h0] at h
    have h2 : (x % 3).toInt = 0 ∨ (x % 3).toInt = 1 ∨ (x % 3).toInt = 2 := by omega
    rcases h2 with h | h | h
    · exact Or.inl (Int32.toInt_inj.mp h)
    · exact Or.inr (Or.inl (Int32.toInt_inj.mp h))
    · exact Or.inr (Or.inr (Or.inl (Int32.toInt_inj.mp h)))
theorem own_pos (x : Int32) : ¬ (x &&& 2147483647) < 0 := by
  have := (c_and x 2147483647 (by decide)).1
  rw [Int32.lt_iff_toInt_lt]; have e : (0 : Int32).toInt = 0 := rfl; omega
theorem d2_0 : decode method_2_code 0 = .ok (.iload_n 0, 1) := by decide +kernel
theorem d2_1 : decode method_2_code 1 = .ok (.ldc 7, 2) := by decide +kernel
theorem d2_3 : decode method_2_code 3 = .ok (.iand, 1) := by decide +kernel
theorem d2_4 : decode method_2_code 4 = .ok (.iconst 3, 1) := by decide +kernel
theorem d2_5 : decode method_2_code 5 = .ok (.irem, 1) := by decide +kernel
theorem d2_6 : decode method_2_code 6 = .ok (.ireturn, 1) := by decide +kernel
theorem pn_2 : plainName "com/example/festung/festung/engine/TruthWithinPinLaw" = true := by first | (simp [plainName, overriddenIn]; done) | decide +kernel
theorem ef_rm2 (m : MethodId) (x0 : Int32) : entryFrame m #[(.int x0)] 1 = mkF m 0 #[.val (.int x0)] [] := by first | (simp [entryFrame, mkF, argsToLocals, Value.category]; done) | rfl
def Qrm2 (Z : State) (p1 : Int32) (h0 : Heap) (n0 : Nat) (v : Option Value) (h : Heap) (L : List Loc) : Prop := (v = some (.int ((p1 &&& (2147483647 : Int32)) % (3 : Int32)))) ∧ (Fr n0 L) ∧ (h = h0)
set_option maxRecDepth 65536 in
set_option maxHeartbeats 40000000 in
theorem rm2 (l : Launch) (Z : State) (a0 : Array Value) (hw : ∀ d ∈ tables_1, d.before a0 Z = true) (ws : List Jvm.Cond) (p1 : Int32) (h0 : Heap) (n0 : Nat) (Z0 : n0 ≤ h0.size)  :
    MetFree l (⟨"com/example/festung/festung/engine/TruthWithinPinLaw", "index", "(I)I"⟩ : MethodName) (head1 (Jvm.Cond.code (⟨"com/example/festung/festung/engine/TruthWithinPinLaw", "index", "(I)I"⟩ : MethodName) method_2_code 1 (some .int) :: ws) ({ frames := 0, cells := 0, slots := 0, locals := 0 } : Room)) (fun a U => a = #[(.int p1)] ∧ Z.Warmed39 U.vm ∧ U.heap = h0) (fun _ _ _ _ _ => True) (fun _ U o U' => ∃ v L, o = .returned v ∧ Qrm2 Z p1 h0 n0 v U'.heap L ∧ FrameEnd U o U' L ({ frames := 0, cells := 0, slots := 0, locals := 0 } : Room).cells ({ frames := 0, cells := 0, slots := 0, locals := 0 } : Room).slots) := by
  refine MetFree.of_bodySF (plainFor_of_name pn_2) hisR ?_
  intro p e s m args below meth c s₁ Bd hml0 hP0 hK
  obtain ⟨rfl, hZ, hh⟩ := hP0
  have hx := Bd.exec
  have hby := Bd.bytes
  have hml : c.maxLocals = 1 := hml0
  have hown : s.vm.findClass "com/example/festung/festung/engine/TruthWithinPinLaw" = some m.cls := findClass_of_methodNamed Bd.named
  have hnm := (name_of_methodNamed Bd.named Bd.method).1
  have X0 : Stand p l e ({ frames := 0, cells := 0, slots := 0, locals := 0 } : Room) s m #[(.int p1)] below meth c s₁ [] 0 0 := Stand.of_body Bd
  have e0 : s₁.heap = h0 := by rw [← hh, Bd.state]; rfl
  have N0 := Fr.nil n0
  suffices own_H : ∀ (P : State → Outcome → Prop), (∀ U o, U.status = .running → Ended U below o → (∃ v L, o = .returned v ∧ Qrm2 Z p1 h0 n0 v U.heap L ∧ FrameEnd s o U L ({ frames := 0, cells := 0, slots := 0, locals := 0 } : Room).cells ({ frames := 0, cells := 0, slots := 0, locals := 0 } : Room).slots) → P U o) → own_Go p.tables e below P (s₁.setTop (mkF m 0 #[.val (.int p1)] [])) from own_go (fun _ k => castTop (ef_rm2 m p1) k) (own_H _ (fun U o h1 h2 h3 => ⟨h1, h2, h3⟩))
  intro P hP
  refine own_go (st' := s₁.setTop (mkF m 1 #[.val (.int p1)] [(.int p1)])) (fun _ k => XS.iloadN X0.here hx rfl (hb hby d2_0) rfl k) ?_
  refine own_go (st' := s₁.setTop (mkF m 3 #[.val (.int p1)] [(.int (2147483647 : Int32)), (.int p1)])) (X0.ldcInt hx hown (mvT hZ (hw _ (List.mem_of_getElem? (i := 7) rfl))) (g := (mkF m 1 #[.val (.int p1)] [(.int p1)])) rfl (hb hby d2_1)) ?_
  refine own_go (st' := s₁.setTop (mkF m 4 #[.val (.int p1)] [(.int (p1 &&& (2147483647 : Int32)))])) (fun _ k => XS.iand X0.here hx rfl (hb hby d2_3) rfl k) ?_
  refine own_go (st' := s₁.setTop (mkF m 5 #[.val (.int p1)] [(.int (3 : Int32)), (.int (p1 &&& (2147483647 : Int32)))])) (fun _ k => XS.iconst X0.here hx rfl (hb hby d2_4) k) ?_
  refine own_go (st' := s₁.setTop (mkF m 6 #[.val (.int p1)] [(.int ((p1 &&& (2147483647 : Int32)) % (3 : Int32)))])) (fun _ k => iremM X0 hx rfl (hb hby d2_5) rfl (by decide) k) ?_
  obtain ⟨fs, hr, hrun, hended, hW, hsame⟩ := X0.leave (v := some (.int ((p1 &&& (2147483647 : Int32)) % (3 : Int32)))) (fun h => by rw [Bd.returns] at h; cases h)
  refine ⟨_, _, ?_, hP _ _ hrun hended ⟨_, _, rfl, ?_, ⟨_, rfl⟩, hW, hsame.mono (by decide) (by decide)⟩⟩
  · exact retOut X0 hx Bd.returns rfl (Or.inl ⟨rfl, Or.inl rfl, _, rfl⟩) (hb hby d2_6) hr
  · show Qrm2 Z p1 h0 n0 _ s₁.heap _
    rw [e0]
    exact ⟨rfl, N0, rfl⟩
theorem pd_0 : parseMethodDescriptor "(I)I" = some ⟨[.int], some .int⟩ := by decide +kernel
theorem d1_0 : decode method_3_code 0 = .ok (.iload_n 0, 1) := by decide +kernel
theorem d1_1 : decode method_3_code 1 = .ok (.invokestatic 8, 3) := by decide +kernel
theorem d1_4 : decode method_3_code 4 = .ok (.istore_n 1, 1) := by decide +kernel
theorem d1_5 : decode method_3_code 5 = .ok (.iload_n 1, 1) := by decide +kernel
theorem d1_6 : decode method_3_code 6 = .ok (.ifCond .ne 7, 3) := by decide +kernel
theorem d1_9 : decode method_3_code 9 = .ok (.getstatic 14, 3) := by decide +kernel
theorem d1_12 : decode method_3_code 12 = .ok (.areturn, 1) := by decide +kernel
theorem pn_1 : plainName "com/example/festung/festung/engine/TruthWithinPinLaw" = true := by first | (simp [plainName, overriddenIn]; done) | decide +kernel
theorem ef_rm1_0 (m : MethodId) (x0 : Int32) : entryFrame m #[(.int x0)] 2 = mkF m 0 #[.val (.int x0), .unset] [] := by first | (simp [entryFrame, mkF, argsToLocals, Value.category]; done) | rfl
def Qrm1_0 (Z : State) (p1 : Int32) (rf : Addr) (rt : Addr) (re : Addr) (h0 : Heap) (n0 : Nat) (v : Option Value) (h : Heap) (L : List Loc) : Prop := (v = some (.ref rf)) ∧ (Fr n0 L) ∧ (h = h0)
set_option maxRecDepth 65536 in
set_option maxHeartbeats 40000000 in
theorem rm1_0 (l : Launch) (Z : State) (a0 : Array Value) (hw : ∀ d ∈ tables_1, d.before a0 Z = true) (ws : List Jvm.Cond) (p1 : Int32) (rf : Addr) (rt : Addr) (re : Addr) (h0 : Heap) (n0 : Nat) (Z0 : n0 ≤ h0.size) (pr1 : Sta Z h0 "com/example/festung/festung/engine/Truth" "FALSE" "Lcom/example/festung/festung/engine/Truth;" (.ref rf)) (pr2 : Sta Z h0 "com/example/festung/festung/engine/Truth" "TRUE" "Lcom/example/festung/festung/engine/Truth;" (.ref rt)) (pr3 : Sta Z h0 "com/example/festung/festung/engine/Truth" "EITHER" "Lcom/example/festung/festung/engine/Truth;" (.ref re)) (hk : ((p1 &&& (2147483647 : Int32)) % (3 : Int32)) = (0 : Int32)) :
    MetFree l (⟨"com/example/festung/festung/engine/TruthWithinPinLaw", "pick", "(I)Lcom/example/festung/festung/engine/Truth;"⟩ : MethodName) (head1 (Jvm.Cond.code (⟨"com/example/festung/festung/engine/TruthWithinPinLaw", "pick", "(I)Lcom/example/festung/festung/engine/Truth;"⟩ : MethodName) method_3_code 2 (some (.object "com/example/festung/festung/engine/Truth")) :: ws) ({ frames := 1, cells := 0, slots := 0, locals := 12 } : Room)) (fun a U => a = #[(.int p1)] ∧ Z.Warmed39 U.vm ∧ U.heap = h0) (fun _ _ _ _ _ => True) (fun _ U o U' => ∃ v L, o = .returned v ∧ Qrm1_0 Z p1 rf rt re h0 n0 v U'.heap L ∧ FrameEnd U o U' L ({ frames := 1, cells := 0, slots := 0, locals := 12 } : Room).cells ({ frames := 1, cells := 0, slots := 0, locals := 12 } : Room).slots) := by
  refine MetFree.of_bodySF (plainFor_of_name pn_1) hisR ?_
  intro p e s m args below meth c s₁ Bd hml0 hP0 hK
  obtain ⟨rfl, hZ, hh⟩ := hP0
  have hx := Bd.exec
  have hby := Bd.bytes
  have hml : c.maxLocals = 2 := hml0
  have hown : s.vm.findClass "com/example/festung/festung/engine/TruthWithinPinLaw" = some m.cls := findClass_of_methodNamed Bd.named
  have hnm := (name_of_methodNamed Bd.named Bd.method).1
  have X0 : Stand p l e ({ frames := 1, cells := 0, slots := 0, locals := 12 } : Room) s m #[(.int p1)] below meth c s₁ [] 0 0 := Stand.of_body Bd
  have e0 : s₁.heap = h0 := by rw [← hh, Bd.state]; rfl
  have N0 := Fr.nil n0
  suffices own_H : ∀ (P : State → Outcome → Prop), (∀ U o, U.status = .running → Ended U below o → (∃ v L, o = .returned v ∧ Qrm1_0 Z p1 rf rt re h0 n0 v U.heap L ∧ FrameEnd s o U L ({ frames := 1, cells := 0, slots := 0, locals := 12 } : Room).cells ({ frames := 1, cells := 0, slots := 0, locals := 12 } : Room).slots) → P U o) → own_Go p.tables e below P (s₁.setTop (mkF m 0 #[.val (.int p1), .unset] [])) from own_go (fun _ k => castTop (ef_rm1_0 m p1) k) (own_H _ (fun U o h1 h2 h3 => ⟨h1, h2, h3⟩))
  intro P hP
  refine own_go (st' := s₁.setTop (mkF m 1 #[.val (.int p1), .unset] [(.int p1)])) (fun _ k => XS.iloadN X0.here hx rfl (hb hby d1_0) rfl k) ?_
  obtain ⟨_, _, ⟨T1, LC1, kC1, nC1⟩, -, X1, ⟨Lc1, hQ1, lq1, yq1, zq1⟩, st1⟩ := Jvm.LawKit.callS X0 hx (y := (⟨"com/example/festung/festung/engine/TruthWithinPinLaw", "index", "(I)I"⟩ : MethodName)) hown (mvT hZ (hw _ (List.mem_of_getElem? (i := 4) rfl))) (mvT hZ (hw _ (List.mem_of_getElem? (i := 5) rfl))) (mvT hZ (hw _ (List.mem_of_getElem? (i := 2) rfl))) (mvT hZ (hw _ (List.mem_of_getElem? (i := 6) rfl))) (by decide) (backOf (W := 0) (rm2 l Z a0 hw [] p1 h0 n0 (by omega) ) hZ (hw _ (List.mem_of_getElem? (i := 6) rfl)) (hw _ (List.mem_of_getElem? (i := 2) rfl)) (by decide) (by decide)) (g := (mkF m 1 #[.val (.int p1), .unset] [(.int p1)])) rfl (by rw [hml]; rfl) (argsL := [(.int p1)]) (rest := []) (lenOf pd_0 rfl) rfl (by show 2 * 0 + _ ≤ _; exact Nat.le_of_eq rfl) (hb hby d1_1) (fun _ _ => ⟨rfl, e0, (by decide : 0 + 0 ≤ _), (by decide : 0 + 0 ≤ _)⟩)
  dsimp only [Pt.U, Pt.locs, Pt.cells, Pt.slots] at X1 lq1 yq1 zq1 st1 hQ1
  subst lq1 yq1 zq1
  obtain ⟨rfl, Nq1, eq1⟩ := hQ1
  have N1 := Fr.app N0 Nq1
  refine own_go (st' := T1.setTop (mkF m 4 #[.val (.int p1), .unset] [(.int ((p1 &&& (2147483647 : Int32)) % (3 : Int32)))])) (fun t k => st1 t k) ?_
  refine own_go (st' := T1.setTop (mkF m 5 #[.val (.int p1), .val (.int ((p1 &&& (2147483647 : Int32)) % (3 : Int32)))] [])) (fun _ k => XS.istoreN X1.here hx rfl (hb hby d1_4) rfl (l' := #[.val (.int p1), .val (.int ((p1 &&& (2147483647 : Int32)) % (3 : Int32)))]) rfl k) ?_
  refine own_go (st' := T1.setTop (mkF m 6 #[.val (.int p1), .val (.int ((p1 &&& (2147483647 : Int32)) % (3 : Int32)))] [(.int ((p1 &&& (2147483647 : Int32)) % (3 : Int32)))])) (fun _ k => XS.iloadN X1.here hx rfl (hb hby d1_5) rfl k) ?_
  have hc2 : ((p1 &&& (2147483647 : Int32)) % (3 : Int32)) = (0 : Int32) := hk
  refine own_go (st' := T1.setTop (mkF m 9 #[.val (.int p1), .val (.int ((p1 &&& (2147483647 : Int32)) % (3 : Int32)))] [])) (fun _ k => XS.ifNo X1.here hx rfl (hb hby d1_6) rfl ((if0 _ _).trans (teq hc2).2) k) ?_
  obtain ⟨T3, X3, e3, st3⟩ := getS2 X1 hx hZ hown (host := "") (Or.inl (hw _ (List.mem_of_getElem? (i := 8) rfl))) Via.refl eq1 pr1 (g := (mkF m 9 #[.val (.int p1), .val (.int ((p1 &&& (2147483647 : Int32)) % (3 : Int32)))] [])) rfl (hb hby d1_9)
  refine own_go (st' := T3.setTop (mkF m 12 #[.val (.int p1), .val (.int ((p1 &&& (2147483647 : Int32)) % (3 : Int32)))] [(.ref rf)])) (st3) ?_
  obtain ⟨fs, hr, hrun, hended, hW, hsame⟩ := X3.leave (v := some (.ref rf)) (fun h => by rw [Bd.returns] at h; cases h)
  refine ⟨_, _, ?_, hP _ _ hrun hended ⟨_, _, rfl, ?_, ⟨_, rfl⟩, hW, hsame.mono (by decide) (by decide)⟩⟩
  · exact retOut X3 hx Bd.returns rfl (Or.inr (Or.inr (Or.inr (Or.inr ⟨rfl, rfl, rfl⟩)))) (hb hby d1_12) hr
  · show Qrm1_0 Z p1 rf rt re h0 n0 _ T3.heap _
    rw [e3]
    exact ⟨rfl, N1, rfl⟩
theorem d3_0 : decode method_4_code 0 = .ok (.iload_n 0, 1) := by decide +kernel
theorem d3_1 : decode method_4_code 1 = .ok (.invokestatic 8, 3) := by decide +kernel
theorem d3_4 : decode method_4_code 4 = .ok (.istore_n 1, 1) := by decide +kernel
theorem d3_5 : decode method_4_code 5 = .ok (.iload_n 1, 1) := by decide +kernel
theorem d3_6 : decode method_4_code 6 = .ok (.ifCond .ne 5, 3) := by decide +kernel
theorem d3_9 : decode method_4_code 9 = .ok (.iconst 1, 1) := by decide +kernel
theorem d3_10 : decode method_4_code 10 = .ok (.ireturn, 1) := by decide +kernel
theorem pn_3 : plainName "com/example/festung/festung/engine/TruthWithinPinLaw" = true := by first | (simp [plainName, overriddenIn]; done) | decide +kernel
theorem ef_rm3_0 (m : MethodId) (x0 : Int32) : entryFrame m #[(.int x0)] 2 = mkF m 0 #[.val (.int x0), .unset] [] := by first | (simp [entryFrame, mkF, argsToLocals, Value.category]; done) | rfl
def Qrm3_0 (Z : State) (p1 : Int32) (h0 : Heap) (n0 : Nat) (v : Option Value) (h : Heap) (L : List Loc) : Prop := (v = some (.int (1 : Int32))) ∧ (Fr n0 L) ∧ (h = h0)
set_option maxRecDepth 65536 in
set_option maxHeartbeats 40000000 in
theorem rm3_0 (l : Launch) (Z : State) (a0 : Array Value) (hw : ∀ d ∈ tables_1, d.before a0 Z = true) (ws : List Jvm.Cond) (p1 : Int32) (h0 : Heap) (n0 : Nat) (Z0 : n0 ≤ h0.size) (hk : ((p1 &&& (2147483647 : Int32)) % (3 : Int32)) = (0 : Int32)) :
    MetFree l (⟨"com/example/festung/festung/engine/TruthWithinPinLaw", "allowed", "(I)I"⟩ : MethodName) (head1 (Jvm.Cond.code (⟨"com/example/festung/festung/engine/TruthWithinPinLaw", "allowed", "(I)I"⟩ : MethodName) method_4_code 2 (some .int) :: ws) ({ frames := 1, cells := 0, slots := 0, locals := 12 } : Room)) (fun a U => a = #[(.int p1)] ∧ Z.Warmed39 U.vm ∧ U.heap = h0) (fun _ _ _ _ _ => True) (fun _ U o U' => ∃ v L, o = .returned v ∧ Qrm3_0 Z p1 h0 n0 v U'.heap L ∧ FrameEnd U o U' L ({ frames := 1, cells := 0, slots := 0, locals := 12 } : Room).cells ({ frames := 1, cells := 0, slots := 0, locals := 12 } : Room).slots) := by
  refine MetFree.of_bodySF (plainFor_of_name pn_3) hisR ?_
  intro p e s m args below meth c s₁ Bd hml0 hP0 hK
  obtain ⟨rfl, hZ, hh⟩ := hP0
  have hx := Bd.exec
  have hby := Bd.bytes
  have hml : c.maxLocals = 2 := hml0
  have hown : s.vm.findClass "com/example/festung/festung/engine/TruthWithinPinLaw" = some m.cls := findClass_of_methodNamed Bd.named
  have hnm := (name_of_methodNamed Bd.named Bd.method).1
  have X0 : Stand p l e ({ frames := 1, cells := 0, slots := 0, locals := 12 } : Room) s m #[(.int p1)] below meth c s₁ [] 0 0 := Stand.of_body Bd
  have e0 : s₁.heap = h0 := by rw [← hh, Bd.state]; rfl
  have N0 := Fr.nil n0
  suffices own_H : ∀ (P : State → Outcome → Prop), (∀ U o, U.status = .running → Ended U below o → (∃ v L, o = .returned v ∧ Qrm3_0 Z p1 h0 n0 v U.heap L ∧ FrameEnd s o U L ({ frames := 1, cells := 0, slots := 0, locals := 12 } : Room).cells ({ frames := 1, cells := 0, slots := 0, locals := 12 } : Room).slots) → P U o) → own_Go p.tables e below P (s₁.setTop (mkF m 0 #[.val (.int p1), .unset] [])) from own_go (fun _ k => castTop (ef_rm3_0 m p1) k) (own_H _ (fun U o h1 h2 h3 => ⟨h1, h2, h3⟩))
  intro P hP
  refine own_go (st' := s₁.setTop (mkF m 1 #[.val (.int p1), .unset] [(.int p1)])) (fun _ k => XS.iloadN X0.here hx rfl (hb hby d3_0) rfl k) ?_
  obtain ⟨_, _, ⟨T1, LC1, kC1, nC1⟩, -, X1, ⟨Lc1, hQ1, lq1, yq1, zq1⟩, st1⟩ := Jvm.LawKit.callS X0 hx (y := (⟨"com/example/festung/festung/engine/TruthWithinPinLaw", "index", "(I)I"⟩ : MethodName)) hown (mvT hZ (hw _ (List.mem_of_getElem? (i := 4) rfl))) (mvT hZ (hw _ (List.mem_of_getElem? (i := 5) rfl))) (mvT hZ (hw _ (List.mem_of_getElem? (i := 2) rfl))) (mvT hZ (hw _ (List.mem_of_getElem? (i := 6) rfl))) (by decide) (backOf (W := 0) (rm2 l Z a0 hw [] p1 h0 n0 (by omega) ) hZ (hw _ (List.mem_of_getElem? (i := 6) rfl)) (hw _ (List.mem_of_getElem? (i := 2) rfl)) (by decide) (by decide)) (g := (mkF m 1 #[.val (.int p1), .unset] [(.int p1)])) rfl (by rw [hml]; rfl) (argsL := [(.int p1)]) (rest := []) (lenOf pd_0 rfl) rfl (by show 2 * 0 + _ ≤ _; exact Nat.le_of_eq rfl) (hb hby d3_1) (fun _ _ => ⟨rfl, e0, (by decide : 0 + 0 ≤ _), (by decide : 0 + 0 ≤ _)⟩)
  dsimp only [Pt.U, Pt.locs, Pt.cells, Pt.slots] at X1 lq1 yq1 zq1 st1 hQ1
  subst lq1 yq1 zq1
  obtain ⟨rfl, Nq1, eq1⟩ := hQ1
  have N1 := Fr.app N0 Nq1
  refine own_go (st' := T1.setTop (mkF m 4 #[.val (.int p1), .unset] [(.int ((p1 &&& (2147483647 : Int32)) % (3 : Int32)))])) (fun t k => st1 t k) ?_
  refine own_go (st' := T1.setTop (mkF m 5 #[.val (.int p1), .val (.int ((p1 &&& (2147483647 : Int32)) % (3 : Int32)))] [])) (fun _ k => XS.istoreN X1.here hx rfl (hb hby d3_4) rfl (l' := #[.val (.int p1), .val (.int ((p1 &&& (2147483647 : Int32)) % (3 : Int32)))]) rfl k) ?_
  refine own_go (st' := T1.setTop (mkF m 6 #[.val (.int p1), .val (.int ((p1 &&& (2147483647 : Int32)) % (3 : Int32)))] [(.int ((p1 &&& (2147483647 : Int32)) % (3 : Int32)))])) (fun _ k => XS.iloadN X1.here hx rfl (hb hby d3_5) rfl k) ?_
  have hc2 : ((p1 &&& (2147483647 : Int32)) % (3 : Int32)) = (0 : Int32) := hk
  refine own_go (st' := T1.setTop (mkF m 9 #[.val (.int p1), .val (.int ((p1 &&& (2147483647 : Int32)) % (3 : Int32)))] [])) (fun _ k => XS.ifNo X1.here hx rfl (hb hby d3_6) rfl ((if0 _ _).trans (teq hc2).2) k) ?_
  refine own_go (st' := T1.setTop (mkF m 10 #[.val (.int p1), .val (.int ((p1 &&& (2147483647 : Int32)) % (3 : Int32)))] [(.int (1 : Int32))])) (fun _ k => XS.iconst X1.here hx rfl (hb hby d3_9) k) ?_
  obtain ⟨fs, hr, hrun, hended, hW, hsame⟩ := X1.leave (v := some (.int (1 : Int32))) (fun h => by rw [Bd.returns] at h; cases h)
  refine ⟨_, _, ?_, hP _ _ hrun hended ⟨_, _, rfl, ?_, ⟨_, rfl⟩, hW, hsame.mono (by decide) (by decide)⟩⟩
  · exact retOut X1 hx Bd.returns rfl (Or.inl ⟨rfl, Or.inl rfl, _, rfl⟩) (hb hby d3_10) hr
  · show Qrm3_0 Z p1 h0 n0 _ T1.heap _
    rw [eq1]
    exact ⟨rfl, N1, rfl⟩
theorem d1_13 : decode method_3_code 13 = .ok (.iload_n 1, 1) := by decide +kernel
theorem d1_14 : decode method_3_code 14 = .ok (.iconst 1, 1) := by decide +kernel
theorem d1_15 : decode method_3_code 15 = .ok (.if_icmp .ne 7, 3) := by decide +kernel
theorem d1_18 : decode method_3_code 18 = .ok (.getstatic 20, 3) := by decide +kernel
theorem d1_21 : decode method_3_code 21 = .ok (.areturn, 1) := by decide +kernel
theorem ef_rm1_1 (m : MethodId) (x0 : Int32) : entryFrame m #[(.int x0)] 2 = mkF m 0 #[.val (.int x0), .unset] [] := by first | (simp [entryFrame, mkF, argsToLocals, Value.category]; done) | rfl
def Qrm1_1 (Z : State) (p1 : Int32) (rf : Addr) (rt : Addr) (re : Addr) (h0 : Heap) (n0 : Nat) (v : Option Value) (h : Heap) (L : List Loc) : Prop := (v = some (.ref rt)) ∧ (Fr n0 L) ∧ (h = h0)
set_option maxRecDepth 65536 in
set_option maxHeartbeats 40000000 in
theorem rm1_1 (l : Launch) (Z : State) (a0 : Array Value) (hw : ∀ d ∈ tables_1, d.before a0 Z = true) (ws : List Jvm.Cond) (p1 : Int32) (rf : Addr) (rt : Addr) (re : Addr) (h0 : Heap) (n0 : Nat) (Z0 : n0 ≤ h0.size) (pr1 : Sta Z h0 "com/example/festung/festung/engine/Truth" "FALSE" "Lcom/example/festung/festung/engine/Truth;" (.ref rf)) (pr2 : Sta Z h0 "com/example/festung/festung/engine/Truth" "TRUE" "Lcom/example/festung/festung/engine/Truth;" (.ref rt)) (pr3 : Sta Z h0 "com/example/festung/festung/engine/Truth" "EITHER" "Lcom/example/festung/festung/engine/Truth;" (.ref re)) (hk : ((p1 &&& (2147483647 : Int32)) % (3 : Int32)) = (1 : Int32)) :
    MetFree l (⟨"com/example/festung/festung/engine/TruthWithinPinLaw", "pick", "(I)Lcom/example/festung/festung/engine/Truth;"⟩ : MethodName) (head1 (Jvm.Cond.code (⟨"com/example/festung/festung/engine/TruthWithinPinLaw", "pick", "(I)Lcom/example/festung/festung/engine/Truth;"⟩ : MethodName) method_3_code 2 (some (.object "com/example/festung/festung/engine/Truth")) :: ws) ({ frames := 1, cells := 0, slots := 0, locals := 12 } : Room)) (fun a U => a = #[(.int p1)] ∧ Z.Warmed39 U.vm ∧ U.heap = h0) (fun _ _ _ _ _ => True) (fun _ U o U' => ∃ v L, o = .returned v ∧ Qrm1_1 Z p1 rf rt re h0 n0 v U'.heap L ∧ FrameEnd U o U' L ({ frames := 1, cells := 0, slots := 0, locals := 12 } : Room).cells ({ frames := 1, cells := 0, slots := 0, locals := 12 } : Room).slots) := by
  refine MetFree.of_bodySF (plainFor_of_name pn_1) hisR ?_
  intro p e s m args below meth c s₁ Bd hml0 hP0 hK
  obtain ⟨rfl, hZ, hh⟩ := hP0
  have hx := Bd.exec
  have hby := Bd.bytes
  have hml : c.maxLocals = 2 := hml0
  have hown : s.vm.findClass "com/example/festung/festung/engine/TruthWithinPinLaw" = some m.cls := findClass_of_methodNamed Bd.named
  have hnm := (name_of_methodNamed Bd.named Bd.method).1
  have X0 : Stand p l e ({ frames := 1, cells := 0, slots := 0, locals := 12 } : Room) s m #[(.int p1)] below meth c s₁ [] 0 0 := Stand.of_body Bd
  have e0 : s₁.heap = h0 := by rw [← hh, Bd.state]; rfl
  have N0 := Fr.nil n0
  suffices own_H : ∀ (P : State → Outcome → Prop), (∀ U o, U.status = .running → Ended U below o → (∃ v L, o = .returned v ∧ Qrm1_1 Z p1 rf rt re h0 n0 v U.heap L ∧ FrameEnd s o U L ({ frames := 1, cells := 0, slots := 0, locals := 12 } : Room).cells ({ frames := 1, cells := 0, slots := 0, locals := 12 } : Room).slots) → P U o) → own_Go p.tables e below P (s₁.setTop (mkF m 0 #[.val (.int p1), .unset] [])) from own_go (fun _ k => castTop (ef_rm1_1 m p1) k) (own_H _ (fun U o h1 h2 h3 => ⟨h1, h2, h3⟩))
  intro P hP
  refine own_go (st' := s₁.setTop (mkF m 1 #[.val (.int p1), .unset] [(.int p1)])) (fun _ k => XS.iloadN X0.here hx rfl (hb hby d1_0) rfl k) ?_
  obtain ⟨_, _, ⟨T1, LC1, kC1, nC1⟩, -, X1, ⟨Lc1, hQ1, lq1, yq1, zq1⟩, st1⟩ := Jvm.LawKit.callS X0 hx (y := (⟨"com/example/festung/festung/engine/TruthWithinPinLaw", "index", "(I)I"⟩ : MethodName)) hown (mvT hZ (hw _ (List.mem_of_getElem? (i := 4) rfl))) (mvT hZ (hw _ (List.mem_of_getElem? (i := 5) rfl))) (mvT hZ (hw _ (List.mem_of_getElem? (i := 2) rfl))) (mvT hZ (hw _ (List.mem_of_getElem? (i := 6) rfl))) (by decide) (backOf (W := 0) (rm2 l Z a0 hw [] p1 h0 n0 (by omega) ) hZ (hw _ (List.mem_of_getElem? (i := 6) rfl)) (hw _ (List.mem_of_getElem? (i := 2) rfl)) (by decide) (by decide)) (g := (mkF m 1 #[.val (.int p1), .unset] [(.int p1)])) rfl (by rw [hml]; rfl) (argsL := [(.int p1)]) (rest := []) (lenOf pd_0 rfl) rfl (by show 2 * 0 + _ ≤ _; exact Nat.le_of_eq rfl) (hb hby d1_1) (fun _ _ => ⟨rfl, e0, (by decide : 0 + 0 ≤ _), (by decide : 0 + 0 ≤ _)⟩)
  dsimp only [Pt.U, Pt.locs, Pt.cells, Pt.slots] at X1 lq1 yq1 zq1 st1 hQ1
  subst lq1 yq1 zq1
  obtain ⟨rfl, Nq1, eq1⟩ := hQ1
  have N1 := Fr.app N0 Nq1
  refine own_go (st' := T1.setTop (mkF m 4 #[.val (.int p1), .unset] [(.int ((p1 &&& (2147483647 : Int32)) % (3 : Int32)))])) (fun t k => st1 t k) ?_
  refine own_go (st' := T1.setTop (mkF m 5 #[.val (.int p1), .val (.int ((p1 &&& (2147483647 : Int32)) % (3 : Int32)))] [])) (fun _ k => XS.istoreN X1.here hx rfl (hb hby d1_4) rfl (l' := #[.val (.int p1), .val (.int ((p1 &&& (2147483647 : Int32)) % (3 : Int32)))]) rfl k) ?_
  refine own_go (st' := T1.setTop (mkF m 6 #[.val (.int p1), .val (.int ((p1 &&& (2147483647 : Int32)) % (3 : Int32)))] [(.int ((p1 &&& (2147483647 : Int32)) % (3 : Int32)))])) (fun _ k => XS.iloadN X1.here hx rfl (hb hby d1_5) rfl k) ?_
  have hc2 : ¬ (((p1 &&& (2147483647 : Int32)) % (3 : Int32)) = (0 : Int32)) := by rw [hk]; decide
  refine own_go (st' := T1.setTop (mkF m 13 #[.val (.int p1), .val (.int ((p1 &&& (2147483647 : Int32)) % (3 : Int32)))] [])) (fun _ k => XS.ifYes X1.here hx rfl (pc0 := 6) (pc' := 13) rfl (hb hby d1_6) rfl ((if0 _ _).trans (feq hc2).2) (by decide) (by decide) k) ?_
  refine own_go (st' := T1.setTop (mkF m 14 #[.val (.int p1), .val (.int ((p1 &&& (2147483647 : Int32)) % (3 : Int32)))] [(.int ((p1 &&& (2147483647 : Int32)) % (3 : Int32)))])) (fun _ k => XS.iloadN X1.here hx rfl (hb hby d1_13) rfl k) ?_
  refine own_go (st' := T1.setTop (mkF m 15 #[.val (.int p1), .val (.int ((p1 &&& (2147483647 : Int32)) % (3 : Int32)))] [(.int (1 : Int32)), (.int ((p1 &&& (2147483647 : Int32)) % (3 : Int32)))])) (fun _ k => XS.iconst X1.here hx rfl (hb hby d1_14) k) ?_
  have hc3 : ((p1 &&& (2147483647 : Int32)) % (3 : Int32)) = (1 : Int32) := hk
  refine own_go (st' := T1.setTop (mkF m 18 #[.val (.int p1), .val (.int ((p1 &&& (2147483647 : Int32)) % (3 : Int32)))] [])) (fun _ k => XS.icmpNo X1.here hx rfl (hb hby d1_15) rfl (teq hc3).2 k) ?_
  obtain ⟨T4, X4, e4, st4⟩ := getS2 X1 hx hZ hown (host := "") (Or.inl (hw _ (List.mem_of_getElem? (i := 22) rfl))) Via.refl eq1 pr2 (g := (mkF m 18 #[.val (.int p1), .val (.int ((p1 &&& (2147483647 : Int32)) % (3 : Int32)))] [])) rfl (hb hby d1_18)
  refine own_go (st' := T4.setTop (mkF m 21 #[.val (.int p1), .val (.int ((p1 &&& (2147483647 : Int32)) % (3 : Int32)))] [(.ref rt)])) (st4) ?_
  obtain ⟨fs, hr, hrun, hended, hW, hsame⟩ := X4.leave (v := some (.ref rt)) (fun h => by rw [Bd.returns] at h; cases h)
  refine ⟨_, _, ?_, hP _ _ hrun hended ⟨_, _, rfl, ?_, ⟨_, rfl⟩, hW, hsame.mono (by decide) (by decide)⟩⟩
  · exact retOut X4 hx Bd.returns rfl (Or.inr (Or.inr (Or.inr (Or.inr ⟨rfl, rfl, rfl⟩)))) (hb hby d1_21) hr
  · show Qrm1_1 Z p1 rf rt re h0 n0 _ T4.heap _
    rw [e4]
    exact ⟨rfl, N1, rfl⟩
theorem d3_11 : decode method_4_code 11 = .ok (.iload_n 1, 1) := by decide +kernel
theorem d3_12 : decode method_4_code 12 = .ok (.iconst 1, 1) := by decide +kernel
theorem d3_13 : decode method_4_code 13 = .ok (.if_icmp .ne 5, 3) := by decide +kernel
theorem d3_16 : decode method_4_code 16 = .ok (.iconst 2, 1) := by decide +kernel
theorem d3_17 : decode method_4_code 17 = .ok (.ireturn, 1) := by decide +kernel
theorem ef_rm3_1 (m : MethodId) (x0 : Int32) : entryFrame m #[(.int x0)] 2 = mkF m 0 #[.val (.int x0), .unset] [] := by first | (simp [entryFrame, mkF, argsToLocals, Value.category]; done) | rfl
def Qrm3_1 (Z : State) (p1 : Int32) (h0 : Heap) (n0 : Nat) (v : Option Value) (h : Heap) (L : List Loc) : Prop := (v = some (.int (2 : Int32))) ∧ (Fr n0 L) ∧ (h = h0)
set_option maxRecDepth 65536 in
set_option maxHeartbeats 40000000 in
theorem rm3_1 (l : Launch) (Z : State) (a0 : Array Value) (hw : ∀ d ∈ tables_1, d.before a0 Z = true) (ws : List Jvm.Cond) (p1 : Int32) (h0 : Heap) (n0 : Nat) (Z0 : n0 ≤ h0.size) (hk : ((p1 &&& (2147483647 : Int32)) % (3 : Int32)) = (1 : Int32)) :
    MetFree l (⟨"com/example/festung/festung/engine/TruthWithinPinLaw", "allowed", "(I)I"⟩ : MethodName) (head1 (Jvm.Cond.code (⟨"com/example/festung/festung/engine/TruthWithinPinLaw", "allowed", "(I)I"⟩ : MethodName) method_4_code 2 (some .int) :: ws) ({ frames := 1, cells := 0, slots := 0, locals := 12 } : Room)) (fun a U => a = #[(.int p1)] ∧ Z.Warmed39 U.vm ∧ U.heap = h0) (fun _ _ _ _ _ => True) (fun _ U o U' => ∃ v L, o = .returned v ∧ Qrm3_1 Z p1 h0 n0 v U'.heap L ∧ FrameEnd U o U' L ({ frames := 1, cells := 0, slots := 0, locals := 12 } : Room).cells ({ frames := 1, cells := 0, slots := 0, locals := 12 } : Room).slots) := by
  refine MetFree.of_bodySF (plainFor_of_name pn_3) hisR ?_
  intro p e s m args below meth c s₁ Bd hml0 hP0 hK
  obtain ⟨rfl, hZ, hh⟩ := hP0
  have hx := Bd.exec
  have hby := Bd.bytes
  have hml : c.maxLocals = 2 := hml0
  have hown : s.vm.findClass "com/example/festung/festung/engine/TruthWithinPinLaw" = some m.cls := findClass_of_methodNamed Bd.named
  have hnm := (name_of_methodNamed Bd.named Bd.method).1
  have X0 : Stand p l e ({ frames := 1, cells := 0, slots := 0, locals := 12 } : Room) s m #[(.int p1)] below meth c s₁ [] 0 0 := Stand.of_body Bd
  have e0 : s₁.heap = h0 := by rw [← hh, Bd.state]; rfl
  have N0 := Fr.nil n0
  suffices own_H : ∀ (P : State → Outcome → Prop), (∀ U o, U.status = .running → Ended U below o → (∃ v L, o = .returned v ∧ Qrm3_1 Z p1 h0 n0 v U.heap L ∧ FrameEnd s o U L ({ frames := 1, cells := 0, slots := 0, locals := 12 } : Room).cells ({ frames := 1, cells := 0, slots := 0, locals := 12 } : Room).slots) → P U o) → own_Go p.tables e below P (s₁.setTop (mkF m 0 #[.val (.int p1), .unset] [])) from own_go (fun _ k => castTop (ef_rm3_1 m p1) k) (own_H _ (fun U o h1 h2 h3 => ⟨h1, h2, h3⟩))
  intro P hP
  refine own_go (st' := s₁.setTop (mkF m 1 #[.val (.int p1), .unset] [(.int p1)])) (fun _ k => XS.iloadN X0.here hx rfl (hb hby d3_0) rfl k) ?_
  obtain ⟨_, _, ⟨T1, LC1, kC1, nC1⟩, -, X1, ⟨Lc1, hQ1, lq1, yq1, zq1⟩, st1⟩ := Jvm.LawKit.callS X0 hx (y := (⟨"com/example/festung/festung/engine/TruthWithinPinLaw", "index", "(I)I"⟩ : MethodName)) hown (mvT hZ (hw _ (List.mem_of_getElem? (i := 4) rfl))) (mvT hZ (hw _ (List.mem_of_getElem? (i := 5) rfl))) (mvT hZ (hw _ (List.mem_of_getElem? (i := 2) rfl))) (mvT hZ (hw _ (List.mem_of_getElem? (i := 6) rfl))) (by decide) (backOf (W := 0) (rm2 l Z a0 hw [] p1 h0 n0 (by omega) ) hZ (hw _ (List.mem_of_getElem? (i := 6) rfl)) (hw _ (List.mem_of_getElem? (i := 2) rfl)) (by decide) (by decide)) (g := (mkF m 1 #[.val (.int p1), .unset] [(.int p1)])) rfl (by rw [hml]; rfl) (argsL := [(.int p1)]) (rest := []) (lenOf pd_0 rfl) rfl (by show 2 * 0 + _ ≤ _; exact Nat.le_of_eq rfl) (hb hby d3_1) (fun _ _ => ⟨rfl, e0, (by decide : 0 + 0 ≤ _), (by decide : 0 + 0 ≤ _)⟩)
  dsimp only [Pt.U, Pt.locs, Pt.cells, Pt.slots] at X1 lq1 yq1 zq1 st1 hQ1
  subst lq1 yq1 zq1
  obtain ⟨rfl, Nq1, eq1⟩ := hQ1
  have N1 := Fr.app N0 Nq1
  refine own_go (st' := T1.setTop (mkF m 4 #[.val (.int p1), .unset] [(.int ((p1 &&& (2147483647 : Int32)) % (3 : Int32)))])) (fun t k => st1 t k) ?_
  refine own_go (st' := T1.setTop (mkF m 5 #[.val (.int p1), .val (.int ((p1 &&& (2147483647 : Int32)) % (3 : Int32)))] [])) (fun _ k => XS.istoreN X1.here hx rfl (hb hby d3_4) rfl (l' := #[.val (.int p1), .val (.int ((p1 &&& (2147483647 : Int32)) % (3 : Int32)))]) rfl k) ?_
  refine own_go (st' := T1.setTop (mkF m 6 #[.val (.int p1), .val (.int ((p1 &&& (2147483647 : Int32)) % (3 : Int32)))] [(.int ((p1 &&& (2147483647 : Int32)) % (3 : Int32)))])) (fun _ k => XS.iloadN X1.here hx rfl (hb hby d3_5) rfl k) ?_
  have hc2 : ¬ (((p1 &&& (2147483647 : Int32)) % (3 : Int32)) = (0 : Int32)) := by rw [hk]; decide
  refine own_go (st' := T1.setTop (mkF m 11 #[.val (.int p1), .val (.int ((p1 &&& (2147483647 : Int32)) % (3 : Int32)))] [])) (fun _ k => XS.ifYes X1.here hx rfl (pc0 := 6) (pc' := 11) rfl (hb hby d3_6) rfl ((if0 _ _).trans (feq hc2).2) (by decide) (by decide) k) ?_
  refine own_go (st' := T1.setTop (mkF m 12 #[.val (.int p1), .val (.int ((p1 &&& (2147483647 : Int32)) % (3 : Int32)))] [(.int ((p1 &&& (2147483647 : Int32)) % (3 : Int32)))])) (fun _ k => XS.iloadN X1.here hx rfl (hb hby d3_11) rfl k) ?_
  refine own_go (st' := T1.setTop (mkF m 13 #[.val (.int p1), .val (.int ((p1 &&& (2147483647 : Int32)) % (3 : Int32)))] [(.int (1 : Int32)), (.int ((p1 &&& (2147483647 : Int32)) % (3 : Int32)))])) (fun _ k => XS.iconst X1.here hx rfl (hb hby d3_12) k) ?_
  have hc3 : ((p1 &&& (2147483647 : Int32)) % (3 : Int32)) = (1 : Int32) := hk
  refine own_go (st' := T1.setTop (mkF m 16 #[.val (.int p1), .val (.int ((p1 &&& (2147483647 : Int32)) % (3 : Int32)))] [])) (fun _ k => XS.icmpNo X1.here hx rfl (hb hby d3_13) rfl (teq hc3).2 k) ?_
  refine own_go (st' := T1.setTop (mkF m 17 #[.val (.int p1), .val (.int ((p1 &&& (2147483647 : Int32)) % (3 : Int32)))] [(.int (2 : Int32))])) (fun _ k => XS.iconst X1.here hx rfl (hb hby d3_16) k) ?_
  obtain ⟨fs, hr, hrun, hended, hW, hsame⟩ := X1.leave (v := some (.int (2 : Int32))) (fun h => by rw [Bd.returns] at h; cases h)
  refine ⟨_, _, ?_, hP _ _ hrun hended ⟨_, _, rfl, ?_, ⟨_, rfl⟩, hW, hsame.mono (by decide) (by decide)⟩⟩
  · exact retOut X1 hx Bd.returns rfl (Or.inl ⟨rfl, Or.inl rfl, _, rfl⟩) (hb hby d3_17) hr
  · show Qrm3_1 Z p1 h0 n0 _ T1.heap _
    rw [eq1]
    exact ⟨rfl, N1, rfl⟩
theorem d1_22 : decode method_3_code 22 = .ok (.getstatic 23, 3) := by decide +kernel
theorem d1_25 : decode method_3_code 25 = .ok (.areturn, 1) := by decide +kernel
theorem ef_rm1_2 (m : MethodId) (x0 : Int32) : entryFrame m #[(.int x0)] 2 = mkF m 0 #[.val (.int x0), .unset] [] := by first | (simp [entryFrame, mkF, argsToLocals, Value.category]; done) | rfl
def Qrm1_2 (Z : State) (p1 : Int32) (rf : Addr) (rt : Addr) (re : Addr) (h0 : Heap) (n0 : Nat) (v : Option Value) (h : Heap) (L : List Loc) : Prop := (v = some (.ref re)) ∧ (Fr n0 L) ∧ (h = h0)
set_option maxRecDepth 65536 in
set_option maxHeartbeats 40000000 in
theorem rm1_2 (l : Launch) (Z : State) (a0 : Array Value) (hw : ∀ d ∈ tables_1, d.before a0 Z = true) (ws : List Jvm.Cond) (p1 : Int32) (rf : Addr) (rt : Addr) (re : Addr) (h0 : Heap) (n0 : Nat) (Z0 : n0 ≤ h0.size) (pr1 : Sta Z h0 "com/example/festung/festung/engine/Truth" "FALSE" "Lcom/example/festung/festung/engine/Truth;" (.ref rf)) (pr2 : Sta Z h0 "com/example/festung/festung/engine/Truth" "TRUE" "Lcom/example/festung/festung/engine/Truth;" (.ref rt)) (pr3 : Sta Z h0 "com/example/festung/festung/engine/Truth" "EITHER" "Lcom/example/festung/festung/engine/Truth;" (.ref re)) (hk : ((p1 &&& (2147483647 : Int32)) % (3 : Int32)) = (2 : Int32)) :
    MetFree l (⟨"com/example/festung/festung/engine/TruthWithinPinLaw", "pick", "(I)Lcom/example/festung/festung/engine/Truth;"⟩ : MethodName) (head1 (Jvm.Cond.code (⟨"com/example/festung/festung/engine/TruthWithinPinLaw", "pick", "(I)Lcom/example/festung/festung/engine/Truth;"⟩ : MethodName) method_3_code 2 (some (.object "com/example/festung/festung/engine/Truth")) :: ws) ({ frames := 1, cells := 0, slots := 0, locals := 12 } : Room)) (fun a U => a = #[(.int p1)] ∧ Z.Warmed39 U.vm ∧ U.heap = h0) (fun _ _ _ _ _ => True) (fun _ U o U' => ∃ v L, o = .returned v ∧ Qrm1_2 Z p1 rf rt re h0 n0 v U'.heap L ∧ FrameEnd U o U' L ({ frames := 1, cells := 0, slots := 0, locals := 12 } : Room).cells ({ frames := 1, cells := 0, slots := 0, locals := 12 } : Room).slots) := by
  refine MetFree.of_bodySF (plainFor_of_name pn_1) hisR ?_
  intro p e s m args below meth c s₁ Bd hml0 hP0 hK
  obtain ⟨rfl, hZ, hh⟩ := hP0
  have hx := Bd.exec
  have hby := Bd.bytes
  have hml : c.maxLocals = 2 := hml0
  have hown : s.vm.findClass "com/example/festung/festung/engine/TruthWithinPinLaw" = some m.cls := findClass_of_methodNamed Bd.named
  have hnm := (name_of_methodNamed Bd.named Bd.method).1
  have X0 : Stand p l e ({ frames := 1, cells := 0, slots := 0, locals := 12 } : Room) s m #[(.int p1)] below meth c s₁ [] 0 0 := Stand.of_body Bd
  have e0 : s₁.heap = h0 := by rw [← hh, Bd.state]; rfl
  have N0 := Fr.nil n0
  suffices own_H : ∀ (P : State → Outcome → Prop), (∀ U o, U.status = .running → Ended U below o → (∃ v L, o = .returned v ∧ Qrm1_2 Z p1 rf rt re h0 n0 v U.heap L ∧ FrameEnd s o U L ({ frames := 1, cells := 0, slots := 0, locals := 12 } : Room).cells ({ frames := 1, cells := 0, slots := 0, locals := 12 } : Room).slots) → P U o) → own_Go p.tables e below P (s₁.setTop (mkF m 0 #[.val (.int p1), .unset] [])) from own_go (fun _ k => castTop (ef_rm1_2 m p1) k) (own_H _ (fun U o h1 h2 h3 => ⟨h1, h2, h3⟩))
  intro P hP
  refine own_go (st' := s₁.setTop (mkF m 1 #[.val (.int p1), .unset] [(.int p1)])) (fun _ k => XS.iloadN X0.here hx rfl (hb hby d1_0) rfl k) ?_
  obtain ⟨_, _, ⟨T1, LC1, kC1, nC1⟩, -, X1, ⟨Lc1, hQ1, lq1, yq1, zq1⟩, st1⟩ := Jvm.LawKit.callS X0 hx (y := (⟨"com/example/festung/festung/engine/TruthWithinPinLaw", "index", "(I)I"⟩ : MethodName)) hown (mvT hZ (hw _ (List.mem_of_getElem? (i := 4) rfl))) (mvT hZ (hw _ (List.mem_of_getElem? (i := 5) rfl))) (mvT hZ (hw _ (List.mem_of_getElem? (i := 2) rfl))) (mvT hZ (hw _ (List.mem_of_getElem? (i := 6) rfl))) (by decide) (backOf (W := 0) (rm2 l Z a0 hw [] p1 h0 n0 (by omega) ) hZ (hw _ (List.mem_of_getElem? (i := 6) rfl)) (hw _ (List.mem_of_getElem? (i := 2) rfl)) (by decide) (by decide)) (g := (mkF m 1 #[.val (.int p1), .unset] [(.int p1)])) rfl (by rw [hml]; rfl) (argsL := [(.int p1)]) (rest := []) (lenOf pd_0 rfl) rfl (by show 2 * 0 + _ ≤ _; exact Nat.le_of_eq rfl) (hb hby d1_1) (fun _ _ => ⟨rfl, e0, (by decide : 0 + 0 ≤ _), (by decide : 0 + 0 ≤ _)⟩)
  dsimp only [Pt.U, Pt.locs, Pt.cells, Pt.slots] at X1 lq1 yq1 zq1 st1 hQ1
  subst lq1 yq1 zq1
  obtain ⟨rfl, Nq1, eq1⟩ := hQ1
  have N1 := Fr.app N0 Nq1
  refine own_go (st' := T1.setTop (mkF m 4 #[.val (.int p1), .unset] [(.int ((p1 &&& (2147483647 : Int32)) % (3 : Int32)))])) (fun t k => st1 t k) ?_
  refine own_go (st' := T1.setTop (mkF m 5 #[.val (.int p1), .val (.int ((p1 &&& (2147483647 : Int32)) % (3 : Int32)))] [])) (fun _ k => XS.istoreN X1.here hx rfl (hb hby d1_4) rfl (l' := #[.val (.int p1), .val (.int ((p1 &&& (2147483647 : Int32)) % (3 : Int32)))]) rfl k) ?_
  refine own_go (st' := T1.setTop (mkF m 6 #[.val (.int p1), .val (.int ((p1 &&& (2147483647 : Int32)) % (3 : Int32)))] [(.int ((p1 &&& (2147483647 : Int32)) % (3 : Int32)))])) (fun _ k => XS.iloadN X1.here hx rfl (hb hby d1_5) rfl k) ?_
  have hc2 : ¬ (((p1 &&& (2147483647 : Int32)) % (3 : Int32)) = (0 : Int32)) := by rw [hk]; decide
  refine own_go (st' := T1.setTop (mkF m 13 #[.val (.int p1), .val (.int ((p1 &&& (2147483647 : Int32)) % (3 : Int32)))] [])) (fun _ k => XS.ifYes X1.here hx rfl (pc0 := 6) (pc' := 13) rfl (hb hby d1_6) rfl ((if0 _ _).trans (feq hc2).2) (by decide) (by decide) k) ?_
  refine own_go (st' := T1.setTop (mkF m 14 #[.val (.int p1), .val (.int ((p1 &&& (2147483647 : Int32)) % (3 : Int32)))] [(.int ((p1 &&& (2147483647 : Int32)) % (3 : Int32)))])) (fun _ k => XS.iloadN X1.here hx rfl (hb hby d1_13) rfl k) ?_
  refine own_go (st' := T1.setTop (mkF m 15 #[.val (.int p1), .val (.int ((p1 &&& (2147483647 : Int32)) % (3 : Int32)))] [(.int (1 : Int32)), (.int ((p1 &&& (2147483647 : Int32)) % (3 : Int32)))])) (fun _ k => XS.iconst X1.here hx rfl (hb hby d1_14) k) ?_
  have hc3 : ¬ (((p1 &&& (2147483647 : Int32)) % (3 : Int32)) = (1 : Int32)) := by rw [hk]; decide
  refine own_go (st' := T1.setTop (mkF m 22 #[.val (.int p1), .val (.int ((p1 &&& (2147483647 : Int32)) % (3 : Int32)))] [])) (fun _ k => XS.icmpYes X1.here hx rfl (pc0 := 15) (pc' := 22) rfl (hb hby d1_15) rfl (feq hc3).2 (by decide) (by decide) k) ?_
  obtain ⟨T4, X4, e4, st4⟩ := getS2 X1 hx hZ hown (host := "") (Or.inl (hw _ (List.mem_of_getElem? (i := 21) rfl))) Via.refl eq1 pr3 (g := (mkF m 22 #[.val (.int p1), .val (.int ((p1 &&& (2147483647 : Int32)) % (3 : Int32)))] [])) rfl (hb hby d1_22)
  refine own_go (st' := T4.setTop (mkF m 25 #[.val (.int p1), .val (.int ((p1 &&& (2147483647 : Int32)) % (3 : Int32)))] [(.ref re)])) (st4) ?_
  obtain ⟨fs, hr, hrun, hended, hW, hsame⟩ := X4.leave (v := some (.ref re)) (fun h => by rw [Bd.returns] at h; cases h)
  refine ⟨_, _, ?_, hP _ _ hrun hended ⟨_, _, rfl, ?_, ⟨_, rfl⟩, hW, hsame.mono (by decide) (by decide)⟩⟩
  · exact retOut X4 hx Bd.returns rfl (Or.inr (Or.inr (Or.inr (Or.inr ⟨rfl, rfl, rfl⟩)))) (hb hby d1_25) hr
  · show Qrm1_2 Z p1 rf rt re h0 n0 _ T4.heap _
    rw [e4]
    exact ⟨rfl, N1, rfl⟩
theorem d3_18 : decode method_4_code 18 = .ok (.iconst 3, 1) := by decide +kernel
theorem d3_19 : decode method_4_code 19 = .ok (.ireturn, 1) := by decide +kernel
theorem ef_rm3_2 (m : MethodId) (x0 : Int32) : entryFrame m #[(.int x0)] 2 = mkF m 0 #[.val (.int x0), .unset] [] := by first | (simp [entryFrame, mkF, argsToLocals, Value.category]; done) | rfl
def Qrm3_2 (Z : State) (p1 : Int32) (h0 : Heap) (n0 : Nat) (v : Option Value) (h : Heap) (L : List Loc) : Prop := (v = some (.int (3 : Int32))) ∧ (Fr n0 L) ∧ (h = h0)
set_option maxRecDepth 65536 in
set_option maxHeartbeats 40000000 in
theorem rm3_2 (l : Launch) (Z : State) (a0 : Array Value) (hw : ∀ d ∈ tables_1, d.before a0 Z = true) (ws : List Jvm.Cond) (p1 : Int32) (h0 : Heap) (n0 : Nat) (Z0 : n0 ≤ h0.size) (hk : ((p1 &&& (2147483647 : Int32)) % (3 : Int32)) = (2 : Int32)) :
    MetFree l (⟨"com/example/festung/festung/engine/TruthWithinPinLaw", "allowed", "(I)I"⟩ : MethodName) (head1 (Jvm.Cond.code (⟨"com/example/festung/festung/engine/TruthWithinPinLaw", "allowed", "(I)I"⟩ : MethodName) method_4_code 2 (some .int) :: ws) ({ frames := 1, cells := 0, slots := 0, locals := 12 } : Room)) (fun a U => a = #[(.int p1)] ∧ Z.Warmed39 U.vm ∧ U.heap = h0) (fun _ _ _ _ _ => True) (fun _ U o U' => ∃ v L, o = .returned v ∧ Qrm3_2 Z p1 h0 n0 v U'.heap L ∧ FrameEnd U o U' L ({ frames := 1, cells := 0, slots := 0, locals := 12 } : Room).cells ({ frames := 1, cells := 0, slots := 0, locals := 12 } : Room).slots) := by
  refine MetFree.of_bodySF (plainFor_of_name pn_3) hisR ?_
  intro p e s m args below meth c s₁ Bd hml0 hP0 hK
  obtain ⟨rfl, hZ, hh⟩ := hP0
  have hx := Bd.exec
  have hby := Bd.bytes
  have hml : c.maxLocals = 2 := hml0
  have hown : s.vm.findClass "com/example/festung/festung/engine/TruthWithinPinLaw" = some m.cls := findClass_of_methodNamed Bd.named
  have hnm := (name_of_methodNamed Bd.named Bd.method).1
  have X0 : Stand p l e ({ frames := 1, cells := 0, slots := 0, locals := 12 } : Room) s m #[(.int p1)] below meth c s₁ [] 0 0 := Stand.of_body Bd
  have e0 : s₁.heap = h0 := by rw [← hh, Bd.state]; rfl
  have N0 := Fr.nil n0
  suffices own_H : ∀ (P : State → Outcome → Prop), (∀ U o, U.status = .running → Ended U below o → (∃ v L, o = .returned v ∧ Qrm3_2 Z p1 h0 n0 v U.heap L ∧ FrameEnd s o U L ({ frames := 1, cells := 0, slots := 0, locals := 12 } : Room).cells ({ frames := 1, cells := 0, slots := 0, locals := 12 } : Room).slots) → P U o) → own_Go p.tables e below P (s₁.setTop (mkF m 0 #[.val (.int p1), .unset] [])) from own_go (fun _ k => castTop (ef_rm3_2 m p1) k) (own_H _ (fun U o h1 h2 h3 => ⟨h1, h2, h3⟩))
  intro P hP
  refine own_go (st' := s₁.setTop (mkF m 1 #[.val (.int p1), .unset] [(.int p1)])) (fun _ k => XS.iloadN X0.here hx rfl (hb hby d3_0) rfl k) ?_
  obtain ⟨_, _, ⟨T1, LC1, kC1, nC1⟩, -, X1, ⟨Lc1, hQ1, lq1, yq1, zq1⟩, st1⟩ := Jvm.LawKit.callS X0 hx (y := (⟨"com/example/festung/festung/engine/TruthWithinPinLaw", "index", "(I)I"⟩ : MethodName)) hown (mvT hZ (hw _ (List.mem_of_getElem? (i := 4) rfl))) (mvT hZ (hw _ (List.mem_of_getElem? (i := 5) rfl))) (mvT hZ (hw _ (List.mem_of_getElem? (i := 2) rfl))) (mvT hZ (hw _ (List.mem_of_getElem? (i := 6) rfl))) (by decide) (backOf (W := 0) (rm2 l Z a0 hw [] p1 h0 n0 (by omega) ) hZ (hw _ (List.mem_of_getElem? (i := 6) rfl)) (hw _ (List.mem_of_getElem? (i := 2) rfl)) (by decide) (by decide)) (g := (mkF m 1 #[.val (.int p1), .unset] [(.int p1)])) rfl (by rw [hml]; rfl) (argsL := [(.int p1)]) (rest := []) (lenOf pd_0 rfl) rfl (by show 2 * 0 + _ ≤ _; exact Nat.le_of_eq rfl) (hb hby d3_1) (fun _ _ => ⟨rfl, e0, (by decide : 0 + 0 ≤ _), (by decide : 0 + 0 ≤ _)⟩)
  dsimp only [Pt.U, Pt.locs, Pt.cells, Pt.slots] at X1 lq1 yq1 zq1 st1 hQ1
  subst lq1 yq1 zq1
  obtain ⟨rfl, Nq1, eq1⟩ := hQ1
  have N1 := Fr.app N0 Nq1
  refine own_go (st' := T1.setTop (mkF m 4 #[.val (.int p1), .unset] [(.int ((p1 &&& (2147483647 : Int32)) % (3 : Int32)))])) (fun t k => st1 t k) ?_
  refine own_go (st' := T1.setTop (mkF m 5 #[.val (.int p1), .val (.int ((p1 &&& (2147483647 : Int32)) % (3 : Int32)))] [])) (fun _ k => XS.istoreN X1.here hx rfl (hb hby d3_4) rfl (l' := #[.val (.int p1), .val (.int ((p1 &&& (2147483647 : Int32)) % (3 : Int32)))]) rfl k) ?_
  refine own_go (st' := T1.setTop (mkF m 6 #[.val (.int p1), .val (.int ((p1 &&& (2147483647 : Int32)) % (3 : Int32)))] [(.int ((p1 &&& (2147483647 : Int32)) % (3 : Int32)))])) (fun _ k => XS.iloadN X1.here hx rfl (hb hby d3_5) rfl k) ?_
  have hc2 : ¬ (((p1 &&& (2147483647 : Int32)) % (3 : Int32)) = (0 : Int32)) := by rw [hk]; decide
  refine own_go (st' := T1.setTop (mkF m 11 #[.val (.int p1), .val (.int ((p1 &&& (2147483647 : Int32)) % (3 : Int32)))] [])) (fun _ k => XS.ifYes X1.here hx rfl (pc0 := 6) (pc' := 11) rfl (hb hby d3_6) rfl ((if0 _ _).trans (feq hc2).2) (by decide) (by decide) k) ?_
  refine own_go (st' := T1.setTop (mkF m 12 #[.val (.int p1), .val (.int ((p1 &&& (2147483647 : Int32)) % (3 : Int32)))] [(.int ((p1 &&& (2147483647 : Int32)) % (3 : Int32)))])) (fun _ k => XS.iloadN X1.here hx rfl (hb hby d3_11) rfl k) ?_
  refine own_go (st' := T1.setTop (mkF m 13 #[.val (.int p1), .val (.int ((p1 &&& (2147483647 : Int32)) % (3 : Int32)))] [(.int (1 : Int32)), (.int ((p1 &&& (2147483647 : Int32)) % (3 : Int32)))])) (fun _ k => XS.iconst X1.here hx rfl (hb hby d3_12) k) ?_
  have hc3 : ¬ (((p1 &&& (2147483647 : Int32)) % (3 : Int32)) = (1 : Int32)) := by rw [hk]; decide
  refine own_go (st' := T1.setTop (mkF m 18 #[.val (.int p1), .val (.int ((p1 &&& (2147483647 : Int32)) % (3 : Int32)))] [])) (fun _ k => XS.icmpYes X1.here hx rfl (pc0 := 13) (pc' := 18) rfl (hb hby d3_13) rfl (feq hc3).2 (by decide) (by decide) k) ?_
  refine own_go (st' := T1.setTop (mkF m 19 #[.val (.int p1), .val (.int ((p1 &&& (2147483647 : Int32)) % (3 : Int32)))] [(.int (3 : Int32))])) (fun _ k => XS.iconst X1.here hx rfl (hb hby d3_18) k) ?_
  obtain ⟨fs, hr, hrun, hended, hW, hsame⟩ := X1.leave (v := some (.int (3 : Int32))) (fun h => by rw [Bd.returns] at h; cases h)
  refine ⟨_, _, ?_, hP _ _ hrun hended ⟨_, _, rfl, ?_, ⟨_, rfl⟩, hW, hsame.mono (by decide) (by decide)⟩⟩
  · exact retOut X1 hx Bd.returns rfl (Or.inl ⟨rfl, Or.inl rfl, _, rfl⟩) (hb hby d3_19) hr
  · show Qrm3_2 Z p1 h0 n0 _ T1.heap _
    rw [eq1]
    exact ⟨rfl, N1, rfl⟩
theorem d4_0 : decode prog_24_method_6_code 0 = .ok (.aload_n 1, 1) := by decide +kernel
theorem d4_1 : decode prog_24_method_6_code 1 = .ok (.getstatic 10, 3) := by decide +kernel
theorem d4_4 : decode prog_24_method_6_code 4 = .ok (.if_acmp .eq 8, 3) := by decide +kernel
theorem d4_12 : decode prog_24_method_6_code 12 = .ok (.iconst 1, 1) := by decide +kernel
theorem d4_13 : decode prog_24_method_6_code 13 = .ok (.goto 4, 3) := by decide +kernel
theorem d4_17 : decode prog_24_method_6_code 17 = .ok (.ireturn, 1) := by decide +kernel
theorem pn_4 : plainName "com/example/festung/festung/engine/Truth" = true := by first | (simp [plainName, overriddenIn]; done) | decide +kernel
theorem ef_rm4a (m : MethodId) (x0 : Addr) (x1 : Addr) : entryFrame m #[(.ref x0), (.ref x1)] 2 = mkF m 0 #[.val (.ref x0), .val (.ref x1)] [] := by first | (simp [entryFrame, mkF, argsToLocals, Value.category]; done) | rfl
def Qrm4a (Z : State) (r1 : Addr) (re : Addr) (h0 : Heap) (n0 : Nat) (v : Option Value) (h : Heap) (L : List Loc) : Prop := (v = some (.int (1 : Int32))) ∧ (Fr n0 L) ∧ (h = h0)
set_option maxRecDepth 65536 in
set_option maxHeartbeats 40000000 in
theorem rm4a (l : Launch) (Z : State) (a0 : Array Value) (hw : ∀ d ∈ tables_1, d.before a0 Z = true) (ws : List Jvm.Cond) (r1 : Addr) (re : Addr) (h0 : Heap) (n0 : Nat) (Z0 : n0 ≤ h0.size) (pr1 : Sta Z h0 "com/example/festung/festung/engine/Truth" "EITHER" "Lcom/example/festung/festung/engine/Truth;" (.ref re)) :
    MetFree l (⟨"com/example/festung/festung/engine/Truth", "within", "(Lcom/example/festung/festung/engine/Truth;)Z"⟩ : MethodName) (head1 (Jvm.Cond.code (⟨"com/example/festung/festung/engine/Truth", "within", "(Lcom/example/festung/festung/engine/Truth;)Z"⟩ : MethodName) prog_24_method_6_code 2 (some .boolean) :: ws) ({ frames := 0, cells := 0, slots := 0, locals := 0 } : Room)) (fun a U => a = #[(.ref r1), (.ref re)] ∧ Z.Warmed39 U.vm ∧ U.heap = h0) (fun _ _ _ _ _ => True) (fun _ U o U' => ∃ v L, o = .returned v ∧ Qrm4a Z r1 re h0 n0 v U'.heap L ∧ FrameEnd U o U' L ({ frames := 0, cells := 0, slots := 0, locals := 0 } : Room).cells ({ frames := 0, cells := 0, slots := 0, locals := 0 } : Room).slots) := by
  refine MetFree.of_bodySF (plainFor_of_name pn_4) hisR ?_
  intro p e s m args below meth c s₁ Bd hml0 hP0 hK
  obtain ⟨rfl, hZ, hh⟩ := hP0
  have hx := Bd.exec
  have hby := Bd.bytes
  have hml : c.maxLocals = 2 := hml0
  have hown : s.vm.findClass "com/example/festung/festung/engine/Truth" = some m.cls := findClass_of_methodNamed Bd.named
  have hnm := (name_of_methodNamed Bd.named Bd.method).1
  have X0 : Stand p l e ({ frames := 0, cells := 0, slots := 0, locals := 0 } : Room) s m #[(.ref r1), (.ref re)] below meth c s₁ [] 0 0 := Stand.of_body Bd
  have e0 : s₁.heap = h0 := by rw [← hh, Bd.state]; rfl
  have N0 := Fr.nil n0
  suffices own_H : ∀ (P : State → Outcome → Prop), (∀ U o, U.status = .running → Ended U below o → (∃ v L, o = .returned v ∧ Qrm4a Z r1 re h0 n0 v U.heap L ∧ FrameEnd s o U L ({ frames := 0, cells := 0, slots := 0, locals := 0 } : Room).cells ({ frames := 0, cells := 0, slots := 0, locals := 0 } : Room).slots) → P U o) → own_Go p.tables e below P (s₁.setTop (mkF m 0 #[.val (.ref r1), .val (.ref re)] [])) from own_go (fun _ k => castTop (ef_rm4a m r1 re) k) (own_H _ (fun U o h1 h2 h3 => ⟨h1, h2, h3⟩))
  intro P hP
  refine own_go (st' := s₁.setTop (mkF m 1 #[.val (.ref r1), .val (.ref re)] [(.ref re)])) (fun _ k => XS.aloadN X0.here hx rfl (hb hby d4_0) rfl rfl k) ?_
  obtain ⟨T1, X1, e1, st1⟩ := getS2 X0 hx hZ hown (host := "") (Or.inl (hw _ (List.mem_of_getElem? (i := 19) rfl))) Via.refl e0 pr1 (g := (mkF m 1 #[.val (.ref r1), .val (.ref re)] [(.ref re)])) rfl (hb hby d4_1)
  refine own_go (st' := T1.setTop (mkF m 4 #[.val (.ref r1), .val (.ref re)] [(.ref re), (.ref re)])) (st1) ?_
  refine own_go (st' := T1.setTop (mkF m 12 #[.val (.ref r1), .val (.ref re)] [])) (fun _ k => Jvm.RoadKit.acmp (g := (mkF m 4 #[.val (.ref r1), .val (.ref re)] [(.ref re), (.ref re)])) X1 hx rfl rfl rfl (pc0 := 4) (pc' := 12) (same := true) rfl (hb hby d4_4) rfl (decide_eq_true rfl) (by decide) (by decide) k) ?_
  refine own_go (st' := T1.setTop (mkF m 13 #[.val (.ref r1), .val (.ref re)] [(.int (1 : Int32))])) (fun _ k => XS.iconst X1.here hx rfl (hb hby d4_12) k) ?_
  refine own_go (st' := T1.setTop (mkF m 17 #[.val (.ref r1), .val (.ref re)] [(.int (1 : Int32))])) (fun _ k => XS.goto X1.here hx rfl (pc0 := 13) (pc' := 17) rfl (hb hby d4_13) (by decide) (by decide) k) ?_
  obtain ⟨fs, hr, hrun, hended, hW, hsame⟩ := X1.leave (v := some (.int (1 : Int32))) (fun h => by rw [Bd.returns] at h; cases h)
  refine ⟨_, _, ?_, hP _ _ hrun hended ⟨_, _, rfl, ?_, ⟨_, rfl⟩, hW, hsame.mono (by decide) (by decide)⟩⟩
  · exact retN X1 hx (t := .boolean) Bd.returns (by simp) (hb hby d4_17) hr
  · show Qrm4a Z r1 re h0 n0 _ T1.heap _
    rw [e1]
    exact ⟨rfl, N0, rfl⟩
theorem d4_7 : decode prog_24_method_6_code 7 = .ok (.aload_n 1, 1) := by decide +kernel
theorem d4_8 : decode prog_24_method_6_code 8 = .ok (.aload_n 0, 1) := by decide +kernel
theorem d4_9 : decode prog_24_method_6_code 9 = .ok (.if_acmp .ne 7, 3) := by decide +kernel
theorem ef_rm4b (m : MethodId) (x0 : Addr) (x1 : Addr) : entryFrame m #[(.ref x0), (.ref x1)] 2 = mkF m 0 #[.val (.ref x0), .val (.ref x1)] [] := by first | (simp [entryFrame, mkF, argsToLocals, Value.category]; done) | rfl
def Qrm4b (Z : State) (r1 : Addr) (re : Addr) (h0 : Heap) (n0 : Nat) (v : Option Value) (h : Heap) (L : List Loc) : Prop := (v = some (.int (1 : Int32))) ∧ (Fr n0 L) ∧ (h = h0)
set_option maxRecDepth 65536 in
set_option maxHeartbeats 40000000 in
theorem rm4b (l : Launch) (Z : State) (a0 : Array Value) (hw : ∀ d ∈ tables_1, d.before a0 Z = true) (ws : List Jvm.Cond) (r1 : Addr) (re : Addr) (h0 : Heap) (n0 : Nat) (Z0 : n0 ≤ h0.size) (pr1 : Sta Z h0 "com/example/festung/festung/engine/Truth" "EITHER" "Lcom/example/festung/festung/engine/Truth;" (.ref re)) (pr2 : r1 ≠ re) :
    MetFree l (⟨"com/example/festung/festung/engine/Truth", "within", "(Lcom/example/festung/festung/engine/Truth;)Z"⟩ : MethodName) (head1 (Jvm.Cond.code (⟨"com/example/festung/festung/engine/Truth", "within", "(Lcom/example/festung/festung/engine/Truth;)Z"⟩ : MethodName) prog_24_method_6_code 2 (some .boolean) :: ws) ({ frames := 0, cells := 0, slots := 0, locals := 0 } : Room)) (fun a U => a = #[(.ref r1), (.ref r1)] ∧ Z.Warmed39 U.vm ∧ U.heap = h0) (fun _ _ _ _ _ => True) (fun _ U o U' => ∃ v L, o = .returned v ∧ Qrm4b Z r1 re h0 n0 v U'.heap L ∧ FrameEnd U o U' L ({ frames := 0, cells := 0, slots := 0, locals := 0 } : Room).cells ({ frames := 0, cells := 0, slots := 0, locals := 0 } : Room).slots) := by
  refine MetFree.of_bodySF (plainFor_of_name pn_4) hisR ?_
  intro p e s m args below meth c s₁ Bd hml0 hP0 hK
  obtain ⟨rfl, hZ, hh⟩ := hP0
  have hx := Bd.exec
  have hby := Bd.bytes
  have hml : c.maxLocals = 2 := hml0
  have hown : s.vm.findClass "com/example/festung/festung/engine/Truth" = some m.cls := findClass_of_methodNamed Bd.named
  have hnm := (name_of_methodNamed Bd.named Bd.method).1
  have X0 : Stand p l e ({ frames := 0, cells := 0, slots := 0, locals := 0 } : Room) s m #[(.ref r1), (.ref r1)] below meth c s₁ [] 0 0 := Stand.of_body Bd
  have e0 : s₁.heap = h0 := by rw [← hh, Bd.state]; rfl
  have N0 := Fr.nil n0
  suffices own_H : ∀ (P : State → Outcome → Prop), (∀ U o, U.status = .running → Ended U below o → (∃ v L, o = .returned v ∧ Qrm4b Z r1 re h0 n0 v U.heap L ∧ FrameEnd s o U L ({ frames := 0, cells := 0, slots := 0, locals := 0 } : Room).cells ({ frames := 0, cells := 0, slots := 0, locals := 0 } : Room).slots) → P U o) → own_Go p.tables e below P (s₁.setTop (mkF m 0 #[.val (.ref r1), .val (.ref r1)] [])) from own_go (fun _ k => castTop (ef_rm4b m r1 r1) k) (own_H _ (fun U o h1 h2 h3 => ⟨h1, h2, h3⟩))
  intro P hP
  refine own_go (st' := s₁.setTop (mkF m 1 #[.val (.ref r1), .val (.ref r1)] [(.ref r1)])) (fun _ k => XS.aloadN X0.here hx rfl (hb hby d4_0) rfl rfl k) ?_
  obtain ⟨T1, X1, e1, st1⟩ := getS2 X0 hx hZ hown (host := "") (Or.inl (hw _ (List.mem_of_getElem? (i := 19) rfl))) Via.refl e0 pr1 (g := (mkF m 1 #[.val (.ref r1), .val (.ref r1)] [(.ref r1)])) rfl (hb hby d4_1)
  refine own_go (st' := T1.setTop (mkF m 4 #[.val (.ref r1), .val (.ref r1)] [(.ref re), (.ref r1)])) (st1) ?_
  have hc2 : ¬ (r1 = re) := (by first | assumption | exact Ne.symm (by assumption) | (apply Nat.ne_of_lt; omega) | (apply Nat.ne_of_gt; omega))
  refine own_go (st' := T1.setTop (mkF m 7 #[.val (.ref r1), .val (.ref r1)] [])) (fun _ k => Jvm.RoadKit.acmp (g := (mkF m 4 #[.val (.ref r1), .val (.ref r1)] [(.ref re), (.ref r1)])) X1 hx rfl rfl rfl (pc0 := 4) (pc' := 7) (same := false) rfl (hb hby d4_4) rfl (decide_eq_false fun q_ => hc2 (Value.ref.inj q_)) (by decide) (by decide) k) ?_
  refine own_go (st' := T1.setTop (mkF m 8 #[.val (.ref r1), .val (.ref r1)] [(.ref r1)])) (fun _ k => XS.aloadN X1.here hx rfl (hb hby d4_7) rfl rfl k) ?_
  refine own_go (st' := T1.setTop (mkF m 9 #[.val (.ref r1), .val (.ref r1)] [(.ref r1), (.ref r1)])) (fun _ k => XS.aloadN X1.here hx rfl (hb hby d4_8) rfl rfl k) ?_
  refine own_go (st' := T1.setTop (mkF m 12 #[.val (.ref r1), .val (.ref r1)] [])) (fun _ k => Jvm.RoadKit.acmp (g := (mkF m 9 #[.val (.ref r1), .val (.ref r1)] [(.ref r1), (.ref r1)])) X1 hx rfl rfl rfl (pc0 := 9) (pc' := 12) (same := true) rfl (hb hby d4_9) rfl (decide_eq_true rfl) (by decide) (by decide) k) ?_
  refine own_go (st' := T1.setTop (mkF m 13 #[.val (.ref r1), .val (.ref r1)] [(.int (1 : Int32))])) (fun _ k => XS.iconst X1.here hx rfl (hb hby d4_12) k) ?_
  refine own_go (st' := T1.setTop (mkF m 17 #[.val (.ref r1), .val (.ref r1)] [(.int (1 : Int32))])) (fun _ k => XS.goto X1.here hx rfl (pc0 := 13) (pc' := 17) rfl (hb hby d4_13) (by decide) (by decide) k) ?_
  obtain ⟨fs, hr, hrun, hended, hW, hsame⟩ := X1.leave (v := some (.int (1 : Int32))) (fun h => by rw [Bd.returns] at h; cases h)
  refine ⟨_, _, ?_, hP _ _ hrun hended ⟨_, _, rfl, ?_, ⟨_, rfl⟩, hW, hsame.mono (by decide) (by decide)⟩⟩
  · exact retN X1 hx (t := .boolean) Bd.returns (by simp) (hb hby d4_17) hr
  · show Qrm4b Z r1 re h0 n0 _ T1.heap _
    rw [e1]
    exact ⟨rfl, N0, rfl⟩
theorem d4_16 : decode prog_24_method_6_code 16 = .ok (.iconst 0, 1) := by decide +kernel
theorem ef_rm4c (m : MethodId) (x0 : Addr) (x1 : Addr) : entryFrame m #[(.ref x0), (.ref x1)] 2 = mkF m 0 #[.val (.ref x0), .val (.ref x1)] [] := by first | (simp [entryFrame, mkF, argsToLocals, Value.category]; done) | rfl
def Qrm4c (Z : State) (r1 : Addr) (r2 : Addr) (re : Addr) (h0 : Heap) (n0 : Nat) (v : Option Value) (h : Heap) (L : List Loc) : Prop := (v = some (.int (0 : Int32))) ∧ (Fr n0 L) ∧ (h = h0)
set_option maxRecDepth 65536 in
set_option maxHeartbeats 40000000 in
theorem rm4c (l : Launch) (Z : State) (a0 : Array Value) (hw : ∀ d ∈ tables_1, d.before a0 Z = true) (ws : List Jvm.Cond) (r1 : Addr) (r2 : Addr) (re : Addr) (h0 : Heap) (n0 : Nat) (Z0 : n0 ≤ h0.size) (pr1 : Sta Z h0 "com/example/festung/festung/engine/Truth" "EITHER" "Lcom/example/festung/festung/engine/Truth;" (.ref re)) (pr2 : r2 ≠ re) (pr3 : r2 ≠ r1) :
    MetFree l (⟨"com/example/festung/festung/engine/Truth", "within", "(Lcom/example/festung/festung/engine/Truth;)Z"⟩ : MethodName) (head1 (Jvm.Cond.code (⟨"com/example/festung/festung/engine/Truth", "within", "(Lcom/example/festung/festung/engine/Truth;)Z"⟩ : MethodName) prog_24_method_6_code 2 (some .boolean) :: ws) ({ frames := 0, cells := 0, slots := 0, locals := 0 } : Room)) (fun a U => a = #[(.ref r1), (.ref r2)] ∧ Z.Warmed39 U.vm ∧ U.heap = h0) (fun _ _ _ _ _ => True) (fun _ U o U' => ∃ v L, o = .returned v ∧ Qrm4c Z r1 r2 re h0 n0 v U'.heap L ∧ FrameEnd U o U' L ({ frames := 0, cells := 0, slots := 0, locals := 0 } : Room).cells ({ frames := 0, cells := 0, slots := 0, locals := 0 } : Room).slots) := by
  refine MetFree.of_bodySF (plainFor_of_name pn_4) hisR ?_
  intro p e s m args below meth c s₁ Bd hml0 hP0 hK
  obtain ⟨rfl, hZ, hh⟩ := hP0
  have hx := Bd.exec
  have hby := Bd.bytes
  have hml : c.maxLocals = 2 := hml0
  have hown : s.vm.findClass "com/example/festung/festung/engine/Truth" = some m.cls := findClass_of_methodNamed Bd.named
  have hnm := (name_of_methodNamed Bd.named Bd.method).1
  have X0 : Stand p l e ({ frames := 0, cells := 0, slots := 0, locals := 0 } : Room) s m #[(.ref r1), (.ref r2)] below meth c s₁ [] 0 0 := Stand.of_body Bd
  have e0 : s₁.heap = h0 := by rw [← hh, Bd.state]; rfl
  have N0 := Fr.nil n0
  suffices own_H : ∀ (P : State → Outcome → Prop), (∀ U o, U.status = .running → Ended U below o → (∃ v L, o = .returned v ∧ Qrm4c Z r1 r2 re h0 n0 v U.heap L ∧ FrameEnd s o U L ({ frames := 0, cells := 0, slots := 0, locals := 0 } : Room).cells ({ frames := 0, cells := 0, slots := 0, locals := 0 } : Room).slots) → P U o) → own_Go p.tables e below P (s₁.setTop (mkF m 0 #[.val (.ref r1), .val (.ref r2)] [])) from own_go (fun _ k => castTop (ef_rm4c m r1 r2) k) (own_H _ (fun U o h1 h2 h3 => ⟨h1, h2, h3⟩))
  intro P hP
  refine own_go (st' := s₁.setTop (mkF m 1 #[.val (.ref r1), .val (.ref r2)] [(.ref r2)])) (fun _ k => XS.aloadN X0.here hx rfl (hb hby d4_0) rfl rfl k) ?_
  obtain ⟨T1, X1, e1, st1⟩ := getS2 X0 hx hZ hown (host := "") (Or.inl (hw _ (List.mem_of_getElem? (i := 19) rfl))) Via.refl e0 pr1 (g := (mkF m 1 #[.val (.ref r1), .val (.ref r2)] [(.ref r2)])) rfl (hb hby d4_1)
  refine own_go (st' := T1.setTop (mkF m 4 #[.val (.ref r1), .val (.ref r2)] [(.ref re), (.ref r2)])) (st1) ?_
  have hc2 : ¬ (r2 = re) := (by first | assumption | exact Ne.symm (by assumption) | (apply Nat.ne_of_lt; omega) | (apply Nat.ne_of_gt; omega))
  refine own_go (st' := T1.setTop (mkF m 7 #[.val (.ref r1), .val (.ref r2)] [])) (fun _ k => Jvm.RoadKit.acmp (g := (mkF m 4 #[.val (.ref r1), .val (.ref r2)] [(.ref re), (.ref r2)])) X1 hx rfl rfl rfl (pc0 := 4) (pc' := 7) (same := false) rfl (hb hby d4_4) rfl (decide_eq_false fun q_ => hc2 (Value.ref.inj q_)) (by decide) (by decide) k) ?_
  refine own_go (st' := T1.setTop (mkF m 8 #[.val (.ref r1), .val (.ref r2)] [(.ref r2)])) (fun _ k => XS.aloadN X1.here hx rfl (hb hby d4_7) rfl rfl k) ?_
  refine own_go (st' := T1.setTop (mkF m 9 #[.val (.ref r1), .val (.ref r2)] [(.ref r1), (.ref r2)])) (fun _ k => XS.aloadN X1.here hx rfl (hb hby d4_8) rfl rfl k) ?_
  have hc3 : ¬ (r2 = r1) := (by first | assumption | exact Ne.symm (by assumption) | (apply Nat.ne_of_lt; omega) | (apply Nat.ne_of_gt; omega))
  refine own_go (st' := T1.setTop (mkF m 16 #[.val (.ref r1), .val (.ref r2)] [])) (fun _ k => Jvm.RoadKit.acmp (g := (mkF m 9 #[.val (.ref r1), .val (.ref r2)] [(.ref r1), (.ref r2)])) X1 hx rfl rfl rfl (pc0 := 9) (pc' := 16) (same := false) rfl (hb hby d4_9) rfl (decide_eq_false fun q_ => hc3 (Value.ref.inj q_)) (by decide) (by decide) k) ?_
  refine own_go (st' := T1.setTop (mkF m 17 #[.val (.ref r1), .val (.ref r2)] [(.int (0 : Int32))])) (fun _ k => XS.iconst X1.here hx rfl (hb hby d4_16) k) ?_
  obtain ⟨fs, hr, hrun, hended, hW, hsame⟩ := X1.leave (v := some (.int (0 : Int32))) (fun h => by rw [Bd.returns] at h; cases h)
  refine ⟨_, _, ?_, hP _ _ hrun hended ⟨_, _, rfl, ?_, ⟨_, rfl⟩, hW, hsame.mono (by decide) (by decide)⟩⟩
  · exact retN X1 hx (t := .boolean) Bd.returns (by simp) (hb hby d4_17) hr
  · show Qrm4c Z r1 r2 re h0 n0 _ T1.heap _
    rw [e1]
    exact ⟨rfl, N0, rfl⟩
theorem pd_1 : parseMethodDescriptor "(I)Lcom/example/festung/festung/engine/Truth;" = some ⟨[.int], some (.object "com/example/festung/festung/engine/Truth")⟩ := by decide +kernel
theorem pd_2 : parseMethodDescriptor "(Lcom/example/festung/festung/engine/Truth;)Z" = some ⟨[(.object "com/example/festung/festung/engine/Truth")], some .boolean⟩ := by decide +kernel
theorem pn_0 : plainName "com/example/festung/festung/engine/TruthWithinPinLaw" = true := by first | (simp [plainName, overriddenIn]; done) | decide +kernel
theorem ef_rm0 (m : MethodId) (x0 : Int32) (x1 : Int32) : entryFrame m #[(.int x0), (.int x1)] maxLocals = mkF m 0 #[.val (.int x0), .val (.int x1), .unset, .unset, .unset, .unset, .unset] [] := by first | (simp [entryFrame, mkF, argsToLocals, Value.category, maxLocals]; done) | rfl
def Qrm0 (Z : State) (xa : Int32) (xb : Int32) (a_FALSE : Addr) (a_EITHER : Addr) (a_TRUE : Addr) (h0 : Heap) (n0 : Nat) (v : Option Value) (h : Heap) (L : List Loc) : Prop := v = some (.int 1) ∧ Fr n0 L ∧ True
set_option maxRecDepth 65536 in
set_option maxHeartbeats 40000000 in
theorem rm0 (l : Launch) (Z : State) (a0 : Array Value) (hw : ∀ d ∈ tables_1, d.before a0 Z = true) (ws : List Jvm.Cond) (xa : Int32) (xb : Int32) (a_FALSE : Addr) (a_EITHER : Addr) (a_TRUE : Addr) (h0 : Heap) (n0 : Nat) (Z0 : n0 ≤ h0.size) (pr1 : Sta Z h0 "com/example/festung/festung/engine/Truth" "FALSE" "Lcom/example/festung/festung/engine/Truth;" (.ref a_FALSE)) (pr2 : Exa Z h0 a_FALSE "com/example/festung/festung/engine/Truth") (pr3 : Sta Z h0 "com/example/festung/festung/engine/Truth" "EITHER" "Lcom/example/festung/festung/engine/Truth;" (.ref a_EITHER)) (pr4 : Exa Z h0 a_EITHER "com/example/festung/festung/engine/Truth") (pr5 : Sta Z h0 "com/example/festung/festung/engine/Truth" "TRUE" "Lcom/example/festung/festung/engine/Truth;" (.ref a_TRUE)) (pr6 : Exa Z h0 a_TRUE "com/example/festung/festung/engine/Truth") (pr7 : Fld Z h0 a_FALSE "java/lang/Enum" "ordinal" "I" (.int (0 : Int32))) (pr8 : Fld Z h0 a_EITHER "java/lang/Enum" "ordinal" "I" (.int (2 : Int32))) (pr9 : Fld Z h0 a_TRUE "java/lang/Enum" "ordinal" "I" (.int (1 : Int32))) (pr10 : a_FALSE ≠ a_TRUE) (pr11 : a_FALSE ≠ a_EITHER) (pr12 : a_TRUE ≠ a_EITHER) :
    MetFree l x (head1 (Jvm.Cond.code x code maxLocals ret :: ws) room_1) (fun a U => a = #[(.int xa), (.int xb)] ∧ Z.Warmed39 U.vm ∧ U.heap = h0) (fun _ _ _ _ _ => True) (fun _ U o U' => ∃ v L, o = .returned v ∧ Qrm0 Z xa xb a_FALSE a_EITHER a_TRUE h0 n0 v U'.heap L ∧ FrameEnd U o U' L 0 0) := by
  refine MetFree.of_bodySF (plainFor_of_name pn_0) hisR ?_
  intro p e s m args below meth c s₁ Bd hml0 hP0 hK
  obtain ⟨rfl, hZ, hh⟩ := hP0
  have hx := Bd.exec
  have hby := Bd.bytes
  have hml : c.maxLocals = 7 := hml0
  have hown : s.vm.findClass "com/example/festung/festung/engine/TruthWithinPinLaw" = some m.cls := findClass_of_methodNamed Bd.named
  have hnm := (name_of_methodNamed Bd.named Bd.method).1
  have X0 : Stand p l e room_1 s m #[(.int xa), (.int xb)] below meth c s₁ [] 0 0 := Stand.of_body Bd
  have e0 : s₁.heap = h0 := by rw [← hh, Bd.state]; rfl
  have N0 := Fr.nil n0
  suffices own_H : ∀ (P : State → Outcome → Prop), (∀ U o, U.status = .running → Ended U below o → (∃ v L, o = .returned v ∧ Qrm0 Z xa xb a_FALSE a_EITHER a_TRUE h0 n0 v U.heap L ∧ FrameEnd s o U L 0 0) → P U o) → own_Go p.tables e below P (s₁.setTop (mkF m 0 #[.val (.int xa), .val (.int xb), .unset, .unset, .unset, .unset, .unset] [])) from own_go (fun _ k => castTop (ef_rm0 m xa xb) k) (own_H _ (fun U o h1 h2 h3 => ⟨h1, h2, h3⟩))
  intro P hP
  have lt_a_FALSE : a_FALSE < h0.size := pr2.lt
  have lt_a_EITHER : a_EITHER < h0.size := pr4.lt
  have lt_a_TRUE : a_TRUE < h0.size := pr6.lt
  rcases own_mod3 (xa &&& (2147483647 : Int32)) with hm_xa | hm_xa | hm_xa | hm_xa
  · --
    rcases own_mod3 (xb &&& (2147483647 : Int32)) with hm_xb | hm_xb | hm_xb | hm_xb
    · --
      refine own_go (st' := s₁.setTop (mkF m 1 #[.val (.int xa), .val (.int xb), .unset, .unset, .unset, .unset, .unset] [(.int xa)])) (fun _ k => XS.iloadN X0.here hx rfl (hb hby at_0) rfl k) ?_
      obtain ⟨_, _, ⟨T1, LC1, kC1, nC1⟩, -, X1, ⟨Lc1, hQ1, lq1, yq1, zq1⟩, st1⟩ := Jvm.LawKit.callS X0 hx (y := (⟨"com/example/festung/festung/engine/TruthWithinPinLaw", "pick", "(I)Lcom/example/festung/festung/engine/Truth;"⟩ : MethodName)) hown (mvT hZ (hw _ (List.mem_of_getElem? (i := 0) rfl))) (mvT hZ (hw _ (List.mem_of_getElem? (i := 1) rfl))) (mvT hZ (hw _ (List.mem_of_getElem? (i := 2) rfl))) (mvT hZ (hw _ (List.mem_of_getElem? (i := 3) rfl))) (by decide) (backOf (W := 0) (rm1_0 l Z a0 hw [] xa a_FALSE a_TRUE a_EITHER h0 n0 (by omega) pr1 pr5 pr3 hm_xa) hZ (hw _ (List.mem_of_getElem? (i := 3) rfl)) (hw _ (List.mem_of_getElem? (i := 2) rfl)) (by decide) (by decide)) (g := (mkF m 1 #[.val (.int xa), .val (.int xb), .unset, .unset, .unset, .unset, .unset] [(.int xa)])) rfl (by rw [hml]; rfl) (argsL := [(.int xa)]) (rest := []) (lenOf pd_1 rfl) rfl (by show 2 * 0 + _ ≤ _; exact Nat.le_of_eq rfl) (hb hby at_1) (fun _ _ => ⟨rfl, e0, (by decide : 0 + 0 ≤ _), (by decide : 0 + 0 ≤ _)⟩)
      dsimp only [Pt.U, Pt.locs, Pt.cells, Pt.slots] at X1 lq1 yq1 zq1 st1 hQ1
      subst lq1 yq1 zq1
      obtain ⟨rfl, Nq1, eq1⟩ := hQ1
      have N1 := Fr.app N0 Nq1
      refine own_go (st' := T1.setTop (mkF m 4 #[.val (.int xa), .val (.int xb), .unset, .unset, .unset, .unset, .unset] [(.ref a_FALSE)])) (fun t k => st1 t k) ?_
      refine own_go (st' := T1.setTop (mkF m 5 #[.val (.int xa), .val (.int xb), .val (.ref a_FALSE), .unset, .unset, .unset, .unset] [])) (fun _ k => XS.astoreN X1.here hx rfl (hb hby at_4) rfl rfl (l' := #[.val (.int xa), .val (.int xb), .val (.ref a_FALSE), .unset, .unset, .unset, .unset]) rfl k) ?_
      refine own_go (st' := T1.setTop (mkF m 6 #[.val (.int xa), .val (.int xb), .val (.ref a_FALSE), .unset, .unset, .unset, .unset] [(.int xb)])) (fun _ k => XS.iloadN X1.here hx rfl (hb hby at_5) rfl k) ?_
      obtain ⟨_, _, ⟨T2, LC2, kC2, nC2⟩, -, X2, ⟨Lc2, hQ2, lq2, yq2, zq2⟩, st2⟩ := Jvm.LawKit.callS X1 hx (y := (⟨"com/example/festung/festung/engine/TruthWithinPinLaw", "pick", "(I)Lcom/example/festung/festung/engine/Truth;"⟩ : MethodName)) hown (mvT hZ (hw _ (List.mem_of_getElem? (i := 0) rfl))) (mvT hZ (hw _ (List.mem_of_getElem? (i := 1) rfl))) (mvT hZ (hw _ (List.mem_of_getElem? (i := 2) rfl))) (mvT hZ (hw _ (List.mem_of_getElem? (i := 3) rfl))) (by decide) (backOf (W := 0) (rm1_0 l Z a0 hw [] xb a_FALSE a_TRUE a_EITHER h0 n0 (by omega) pr1 pr5 pr3 hm_xb) hZ (hw _ (List.mem_of_getElem? (i := 3) rfl)) (hw _ (List.mem_of_getElem? (i := 2) rfl)) (by decide) (by decide)) (g := (mkF m 6 #[.val (.int xa), .val (.int xb), .val (.ref a_FALSE), .unset, .unset, .unset, .unset] [(.int xb)])) rfl (by rw [hml]; rfl) (argsL := [(.int xb)]) (rest := []) (lenOf pd_1 rfl) rfl (by show 2 * 0 + _ ≤ _; exact Nat.le_of_eq rfl) (hb hby at_6) (fun _ _ => ⟨rfl, eq1, (by decide : 0 + 0 ≤ _), (by decide : 0 + 0 ≤ _)⟩)
      dsimp only [Pt.U, Pt.locs, Pt.cells, Pt.slots] at X2 lq2 yq2 zq2 st2 hQ2
      subst lq2 yq2 zq2
      obtain ⟨rfl, Nq2, eq2⟩ := hQ2
      have N2 := Fr.app N1 Nq2
      refine own_go (st' := T2.setTop (mkF m 9 #[.val (.int xa), .val (.int xb), .val (.ref a_FALSE), .unset, .unset, .unset, .unset] [(.ref a_FALSE)])) (fun t k => st2 t k) ?_
      refine own_go (st' := T2.setTop (mkF m 10 #[.val (.int xa), .val (.int xb), .val (.ref a_FALSE), .val (.ref a_FALSE), .unset, .unset, .unset] [])) (fun _ k => XS.astoreN X2.here hx rfl (hb hby at_9) rfl rfl (l' := #[.val (.int xa), .val (.int xb), .val (.ref a_FALSE), .val (.ref a_FALSE), .unset, .unset, .unset]) rfl k) ?_
      refine own_go (st' := T2.setTop (mkF m 11 #[.val (.int xa), .val (.int xb), .val (.ref a_FALSE), .val (.ref a_FALSE), .unset, .unset, .unset] [(.int xa)])) (fun _ k => XS.iloadN X2.here hx rfl (hb hby at_10) rfl k) ?_
      obtain ⟨_, _, ⟨T3, LC3, kC3, nC3⟩, -, X3, ⟨Lc3, hQ3, lq3, yq3, zq3⟩, st3⟩ := Jvm.LawKit.callS X2 hx (y := (⟨"com/example/festung/festung/engine/TruthWithinPinLaw", "allowed", "(I)I"⟩ : MethodName)) hown (mvT hZ (hw _ (List.mem_of_getElem? (i := 11) rfl))) (mvT hZ (hw _ (List.mem_of_getElem? (i := 12) rfl))) (mvT hZ (hw _ (List.mem_of_getElem? (i := 2) rfl))) (mvT hZ (hw _ (List.mem_of_getElem? (i := 13) rfl))) (by decide) (backOf (W := 0) (rm3_0 l Z a0 hw [] xa h0 n0 (by omega) hm_xa) hZ (hw _ (List.mem_of_getElem? (i := 13) rfl)) (hw _ (List.mem_of_getElem? (i := 2) rfl)) (by decide) (by decide)) (g := (mkF m 11 #[.val (.int xa), .val (.int xb), .val (.ref a_FALSE), .val (.ref a_FALSE), .unset, .unset, .unset] [(.int xa)])) rfl (by rw [hml]; rfl) (argsL := [(.int xa)]) (rest := []) (lenOf pd_0 rfl) rfl (by show 2 * 0 + _ ≤ _; exact Nat.le_of_eq rfl) (hb hby at_11) (fun _ _ => ⟨rfl, eq2, (by decide : 0 + 0 ≤ _), (by decide : 0 + 0 ≤ _)⟩)
      dsimp only [Pt.U, Pt.locs, Pt.cells, Pt.slots] at X3 lq3 yq3 zq3 st3 hQ3
      subst lq3 yq3 zq3
      obtain ⟨rfl, Nq3, eq3⟩ := hQ3
      have N3 := Fr.app N2 Nq3
      refine own_go (st' := T3.setTop (mkF m 14 #[.val (.int xa), .val (.int xb), .val (.ref a_FALSE), .val (.ref a_FALSE), .unset, .unset, .unset] [(.int (1 : Int32))])) (fun t k => st3 t k) ?_
      refine own_go (st' := T3.setTop (mkF m 16 #[.val (.int xa), .val (.int xb), .val (.ref a_FALSE), .val (.ref a_FALSE), .val (.int (1 : Int32)), .unset, .unset] [])) (fun _ k => XS.istore X3.here hx rfl (hb hby at_14) rfl (l' := #[.val (.int xa), .val (.int xb), .val (.ref a_FALSE), .val (.ref a_FALSE), .val (.int (1 : Int32)), .unset, .unset]) rfl k) ?_
      refine own_go (st' := T3.setTop (mkF m 17 #[.val (.int xa), .val (.int xb), .val (.ref a_FALSE), .val (.ref a_FALSE), .val (.int (1 : Int32)), .unset, .unset] [(.int xb)])) (fun _ k => XS.iloadN X3.here hx rfl (hb hby at_16) rfl k) ?_
      obtain ⟨_, _, ⟨T4, LC4, kC4, nC4⟩, -, X4, ⟨Lc4, hQ4, lq4, yq4, zq4⟩, st4⟩ := Jvm.LawKit.callS X3 hx (y := (⟨"com/example/festung/festung/engine/TruthWithinPinLaw", "allowed", "(I)I"⟩ : MethodName)) hown (mvT hZ (hw _ (List.mem_of_getElem? (i := 11) rfl))) (mvT hZ (hw _ (List.mem_of_getElem? (i := 12) rfl))) (mvT hZ (hw _ (List.mem_of_getElem? (i := 2) rfl))) (mvT hZ (hw _ (List.mem_of_getElem? (i := 13) rfl))) (by decide) (backOf (W := 0) (rm3_0 l Z a0 hw [] xb h0 n0 (by omega) hm_xb) hZ (hw _ (List.mem_of_getElem? (i := 13) rfl)) (hw _ (List.mem_of_getElem? (i := 2) rfl)) (by decide) (by decide)) (g := (mkF m 17 #[.val (.int xa), .val (.int xb), .val (.ref a_FALSE), .val (.ref a_FALSE), .val (.int (1 : Int32)), .unset, .unset] [(.int xb)])) rfl (by rw [hml]; rfl) (argsL := [(.int xb)]) (rest := []) (lenOf pd_0 rfl) rfl (by show 2 * 0 + _ ≤ _; exact Nat.le_of_eq rfl) (hb hby at_17) (fun _ _ => ⟨rfl, eq3, (by decide : 0 + 0 ≤ _), (by decide : 0 + 0 ≤ _)⟩)
      dsimp only [Pt.U, Pt.locs, Pt.cells, Pt.slots] at X4 lq4 yq4 zq4 st4 hQ4
      subst lq4 yq4 zq4
      obtain ⟨rfl, Nq4, eq4⟩ := hQ4
      have N4 := Fr.app N3 Nq4
      refine own_go (st' := T4.setTop (mkF m 20 #[.val (.int xa), .val (.int xb), .val (.ref a_FALSE), .val (.ref a_FALSE), .val (.int (1 : Int32)), .unset, .unset] [(.int (1 : Int32))])) (fun t k => st4 t k) ?_
      refine own_go (st' := T4.setTop (mkF m 22 #[.val (.int xa), .val (.int xb), .val (.ref a_FALSE), .val (.ref a_FALSE), .val (.int (1 : Int32)), .val (.int (1 : Int32)), .unset] [])) (fun _ k => XS.istore X4.here hx rfl (hb hby at_20) rfl (l' := #[.val (.int xa), .val (.int xb), .val (.ref a_FALSE), .val (.ref a_FALSE), .val (.int (1 : Int32)), .val (.int (1 : Int32)), .unset]) rfl k) ?_
      refine own_go (st' := T4.setTop (mkF m 24 #[.val (.int xa), .val (.int xb), .val (.ref a_FALSE), .val (.ref a_FALSE), .val (.int (1 : Int32)), .val (.int (1 : Int32)), .unset] [(.int (1 : Int32))])) (fun _ k => XS.iload X4.here hx rfl (hb hby at_22) rfl k) ?_
      refine own_go (st' := T4.setTop (mkF m 26 #[.val (.int xa), .val (.int xb), .val (.ref a_FALSE), .val (.ref a_FALSE), .val (.int (1 : Int32)), .val (.int (1 : Int32)), .unset] [(.int (1 : Int32)), (.int (1 : Int32))])) (fun _ k => XS.iload X4.here hx rfl (hb hby at_24) rfl k) ?_
      refine own_go (st' := T4.setTop (mkF m 27 #[.val (.int xa), .val (.int xb), .val (.ref a_FALSE), .val (.ref a_FALSE), .val (.int (1 : Int32)), .val (.int (1 : Int32)), .unset] [(.int (-1 : Int32)), (.int (1 : Int32)), (.int (1 : Int32))])) (fun _ k => XS.iconst X4.here hx rfl (hb hby at_26) k) ?_
      refine own_go (st' := T4.setTop (mkF m 28 #[.val (.int xa), .val (.int xb), .val (.ref a_FALSE), .val (.ref a_FALSE), .val (.int (1 : Int32)), .val (.int (1 : Int32)), .unset] [(.int (-2 : Int32)), (.int (1 : Int32))])) (fun _ k => XS.ixor X4.here hx rfl (hb hby at_27) rfl (by rw [show ((1 : Int32) ^^^ (-1 : Int32)) = (-2 : Int32) by decide]; exact k)) ?_
      refine own_go (st' := T4.setTop (mkF m 29 #[.val (.int xa), .val (.int xb), .val (.ref a_FALSE), .val (.ref a_FALSE), .val (.int (1 : Int32)), .val (.int (1 : Int32)), .unset] [(.int (0 : Int32))])) (fun _ k => XS.iand X4.here hx rfl (hb hby at_28) rfl (by rw [show ((1 : Int32) &&& (-2 : Int32)) = (0 : Int32) by decide]; exact k)) ?_
      have hc5 : (0 : Int32) = (0 : Int32) := by decide
      refine own_go (st' := T4.setTop (mkF m 32 #[.val (.int xa), .val (.int xb), .val (.ref a_FALSE), .val (.ref a_FALSE), .val (.int (1 : Int32)), .val (.int (1 : Int32)), .unset] [])) (fun _ k => XS.ifNo X4.here hx rfl (hb hby at_29) rfl ((if0 _ _).trans (teq hc5).2) k) ?_
      refine own_go (st' := T4.setTop (mkF m 33 #[.val (.int xa), .val (.int xb), .val (.ref a_FALSE), .val (.ref a_FALSE), .val (.int (1 : Int32)), .val (.int (1 : Int32)), .unset] [(.int (1 : Int32))])) (fun _ k => XS.iconst X4.here hx rfl (hb hby at_32) k) ?_
      refine own_go (st' := T4.setTop (mkF m 37 #[.val (.int xa), .val (.int xb), .val (.ref a_FALSE), .val (.ref a_FALSE), .val (.int (1 : Int32)), .val (.int (1 : Int32)), .unset] [(.int (1 : Int32))])) (fun _ k => XS.goto X4.here hx rfl (pc0 := 33) (pc' := 37) rfl (hb hby at_33) (by decide) (by decide) k) ?_
      refine own_go (st' := T4.setTop (mkF m 39 #[.val (.int xa), .val (.int xb), .val (.ref a_FALSE), .val (.ref a_FALSE), .val (.int (1 : Int32)), .val (.int (1 : Int32)), .val (.int (1 : Int32))] [])) (fun _ k => XS.istore X4.here hx rfl (hb hby at_37) rfl (l' := #[.val (.int xa), .val (.int xb), .val (.ref a_FALSE), .val (.ref a_FALSE), .val (.int (1 : Int32)), .val (.int (1 : Int32)), .val (.int (1 : Int32))]) rfl k) ?_
      refine own_go (st' := T4.setTop (mkF m 40 #[.val (.int xa), .val (.int xb), .val (.ref a_FALSE), .val (.ref a_FALSE), .val (.int (1 : Int32)), .val (.int (1 : Int32)), .val (.int (1 : Int32))] [(.ref a_FALSE)])) (fun _ k => XS.aloadN X4.here hx rfl (hb hby at_39) rfl rfl k) ?_
      refine own_go (st' := T4.setTop (mkF m 41 #[.val (.int xa), .val (.int xb), .val (.ref a_FALSE), .val (.ref a_FALSE), .val (.int (1 : Int32)), .val (.int (1 : Int32)), .val (.int (1 : Int32))] [(.ref a_FALSE), (.ref a_FALSE)])) (fun _ k => XS.aloadN X4.here hx rfl (hb hby at_40) rfl rfl k) ?_
      obtain ⟨cq6, kq6, q6a, q6b, q6c⟩ := isOf hZ eq4 pr2
      obtain ⟨_, _, ⟨T6, LC6, kC6, nC6⟩, -, X6, ⟨Lc6, hQ6, lq6, yq6, zq6⟩, st6⟩ := X4.virtualBack hx (y := (⟨"com/example/festung/festung/engine/Truth", "within", "(Lcom/example/festung/festung/engine/Truth;)Z"⟩ : MethodName)) (z := (⟨"com/example/festung/festung/engine/Truth", "within", "(Lcom/example/festung/festung/engine/Truth;)Z"⟩ : MethodName)) hown (mvT hZ (hw _ (List.mem_of_getElem? (i := 14) rfl))) (mvT hZ (hw _ (List.mem_of_getElem? (i := 15) rfl))) (notFace_of_selects (args := #[]) (mvT hZ (hw _ (List.mem_of_getElem? (i := 17) rfl)))) (mvT hZ (hw _ (List.mem_of_getElem? (i := 17) rfl))) (mvT hZ (hw _ (List.mem_of_getElem? (i := 16) rfl))) (by decide) (backOf (W := 0) (rm4b l Z a0 hw [] a_FALSE a_EITHER h0 n0 (by omega) pr3 (by first | assumption | exact Ne.symm (by assumption) | (apply Nat.ne_of_lt; omega) | (apply Nat.ne_of_gt; omega))) hZ (hw _ (List.mem_of_getElem? (i := 18) rfl)) (hw _ (List.mem_of_getElem? (i := 9) rfl)) (by decide) (by decide)) q6a q6c (g := (mkF m 41 #[.val (.int xa), .val (.int xb), .val (.ref a_FALSE), .val (.ref a_FALSE), .val (.int (1 : Int32)), .val (.int (1 : Int32)), .val (.int (1 : Int32))] [(.ref a_FALSE), (.ref a_FALSE)])) rfl (by rw [hml]; rfl) (Steps.refl _) (argsL := [(.ref a_FALSE)]) (rest := []) (lenOf pd_2 rfl) rfl (by show 2 * 0 + _ ≤ _; exact Nat.le_of_eq rfl) (hb hby at_41) (fun _ _ => ⟨rfl, eq4, (by decide : 0 + 0 ≤ _), (by decide : 0 + 0 ≤ _)⟩)
      dsimp only [Pt.U, Pt.locs, Pt.cells, Pt.slots] at X6 lq6 yq6 zq6 st6 hQ6
      subst lq6 yq6 zq6
      obtain ⟨rfl, Nq6, eq6⟩ := hQ6
      have N6 := Fr.app N4 Nq6
      refine own_go (st' := T6.setTop (mkF m 44 #[.val (.int xa), .val (.int xb), .val (.ref a_FALSE), .val (.ref a_FALSE), .val (.int (1 : Int32)), .val (.int (1 : Int32)), .val (.int (1 : Int32))] [(.int (1 : Int32))])) (fun _ k => st6.trans k) ?_
      refine own_go (st' := T6.setTop (mkF m 46 #[.val (.int xa), .val (.int xb), .val (.ref a_FALSE), .val (.ref a_FALSE), .val (.int (1 : Int32)), .val (.int (1 : Int32)), .val (.int (1 : Int32))] [(.int (1 : Int32)), (.int (1 : Int32))])) (fun _ k => XS.iload X6.here hx rfl (hb hby at_44) rfl k) ?_
      have hc7 : (1 : Int32) = (1 : Int32) := by decide
      refine own_go (st' := T6.setTop (mkF m 49 #[.val (.int xa), .val (.int xb), .val (.ref a_FALSE), .val (.ref a_FALSE), .val (.int (1 : Int32)), .val (.int (1 : Int32)), .val (.int (1 : Int32))] [])) (fun _ k => XS.icmpNo X6.here hx rfl (hb hby at_46) rfl (teq hc7).2 k) ?_
      refine own_go (st' := T6.setTop (mkF m 50 #[.val (.int xa), .val (.int xb), .val (.ref a_FALSE), .val (.ref a_FALSE), .val (.int (1 : Int32)), .val (.int (1 : Int32)), .val (.int (1 : Int32))] [(.int (1 : Int32))])) (fun _ k => XS.iconst X6.here hx rfl (hb hby at_49) k) ?_
      refine own_go (st' := T6.setTop (mkF m 54 #[.val (.int xa), .val (.int xb), .val (.ref a_FALSE), .val (.ref a_FALSE), .val (.int (1 : Int32)), .val (.int (1 : Int32)), .val (.int (1 : Int32))] [(.int (1 : Int32))])) (fun _ k => XS.goto X6.here hx rfl (pc0 := 50) (pc' := 54) rfl (hb hby at_50) (by decide) (by decide) k) ?_
      obtain ⟨fs, hr, hrun, hended, hW, hsame⟩ := X6.leave (v := some (.int (1 : Int32))) (fun h => by rw [Bd.returns] at h; cases h)
      refine ⟨_, _, ?_, hP _ _ hrun hended ⟨_, _, rfl, ?_, ⟨_, rfl⟩, hW, hsame.mono (by decide) (by decide)⟩⟩
      · exact retN X6 hx (t := .boolean) Bd.returns (by simp) (hb hby at_54) hr
      · show Qrm0 Z xa xb a_FALSE a_EITHER a_TRUE h0 n0 _ T6.heap _
        rw [eq6]
        exact ⟨rfl, N6, trivial⟩
    · --
      refine own_go (st' := s₁.setTop (mkF m 1 #[.val (.int xa), .val (.int xb), .unset, .unset, .unset, .unset, .unset] [(.int xa)])) (fun _ k => XS.iloadN X0.here hx rfl (hb hby at_0) rfl k) ?_
      obtain ⟨_, _, ⟨T9, LC9, kC9, nC9⟩, -, X9, ⟨Lc9, hQ9, lq9, yq9, zq9⟩, st9⟩ := Jvm.LawKit.callS X0 hx (y := (⟨"com/example/festung/festung/engine/TruthWithinPinLaw", "pick", "(I)Lcom/example/festung/festung/engine/Truth;"⟩ : MethodName)) hown (mvT hZ (hw _ (List.mem_of_getElem? (i := 0) rfl))) (mvT hZ (hw _ (List.mem_of_getElem? (i := 1) rfl))) (mvT hZ (hw _ (List.mem_of_getElem? (i := 2) rfl))) (mvT hZ (hw _ (List.mem_of_getElem? (i := 3) rfl))) (by decide) (backOf (W := 0) (rm1_0 l Z a0 hw [] xa a_FALSE a_TRUE a_EITHER h0 n0 (by omega) pr1 pr5 pr3 hm_xa) hZ (hw _ (List.mem_of_getElem? (i := 3) rfl)) (hw _ (List.mem_of_getElem? (i := 2) rfl)) (by decide) (by decide)) (g := (mkF m 1 #[.val (.int xa), .val (.int xb), .unset, .unset, .unset, .unset, .unset] [(.int xa)])) rfl (by rw [hml]; rfl) (argsL := [(.int xa)]) (rest := []) (lenOf pd_1 rfl) rfl (by show 2 * 0 + _ ≤ _; exact Nat.le_of_eq rfl) (hb hby at_1) (fun _ _ => ⟨rfl, e0, (by decide : 0 + 0 ≤ _), (by decide : 0 + 0 ≤ _)⟩)
      dsimp only [Pt.U, Pt.locs, Pt.cells, Pt.slots] at X9 lq9 yq9 zq9 st9 hQ9
      subst lq9 yq9 zq9
      obtain ⟨rfl, Nq9, eq9⟩ := hQ9
      have N9 := Fr.app N0 Nq9
      refine own_go (st' := T9.setTop (mkF m 4 #[.val (.int xa), .val (.int xb), .unset, .unset, .unset, .unset, .unset] [(.ref a_FALSE)])) (fun t k => st9 t k) ?_
      refine own_go (st' := T9.setTop (mkF m 5 #[.val (.int xa), .val (.int xb), .val (.ref a_FALSE), .unset, .unset, .unset, .unset] [])) (fun _ k => XS.astoreN X9.here hx rfl (hb hby at_4) rfl rfl (l' := #[.val (.int xa), .val (.int xb), .val (.ref a_FALSE), .unset, .unset, .unset, .unset]) rfl k) ?_
      refine own_go (st' := T9.setTop (mkF m 6 #[.val (.int xa), .val (.int xb), .val (.ref a_FALSE), .unset, .unset, .unset, .unset] [(.int xb)])) (fun _ k => XS.iloadN X9.here hx rfl (hb hby at_5) rfl k) ?_
      obtain ⟨_, _, ⟨T10, LC10, kC10, nC10⟩, -, X10, ⟨Lc10, hQ10, lq10, yq10, zq10⟩, st10⟩ := Jvm.LawKit.callS X9 hx (y := (⟨"com/example/festung/festung/engine/TruthWithinPinLaw", "pick", "(I)Lcom/example/festung/festung/engine/Truth;"⟩ : MethodName)) hown (mvT hZ (hw _ (List.mem_of_getElem? (i := 0) rfl))) (mvT hZ (hw _ (List.mem_of_getElem? (i := 1) rfl))) (mvT hZ (hw _ (List.mem_of_getElem? (i := 2) rfl))) (mvT hZ (hw _ (List.mem_of_getElem? (i := 3) rfl))) (by decide) (backOf (W := 0) (rm1_1 l Z a0 hw [] xb a_FALSE a_TRUE a_EITHER h0 n0 (by omega) pr1 pr5 pr3 hm_xb) hZ (hw _ (List.mem_of_getElem? (i := 3) rfl)) (hw _ (List.mem_of_getElem? (i := 2) rfl)) (by decide) (by decide)) (g := (mkF m 6 #[.val (.int xa), .val (.int xb), .val (.ref a_FALSE), .unset, .unset, .unset, .unset] [(.int xb)])) rfl (by rw [hml]; rfl) (argsL := [(.int xb)]) (rest := []) (lenOf pd_1 rfl) rfl (by show 2 * 0 + _ ≤ _; exact Nat.le_of_eq rfl) (hb hby at_6) (fun _ _ => ⟨rfl, eq9, (by decide : 0 + 0 ≤ _), (by decide : 0 + 0 ≤ _)⟩)
      dsimp only [Pt.U, Pt.locs, Pt.cells, Pt.slots] at X10 lq10 yq10 zq10 st10 hQ10
      subst lq10 yq10 zq10
      obtain ⟨rfl, Nq10, eq10⟩ := hQ10
      have N10 := Fr.app N9 Nq10
      refine own_go (st' := T10.setTop (mkF m 9 #[.val (.int xa), .val (.int xb), .val (.ref a_FALSE), .unset, .unset, .unset, .unset] [(.ref a_TRUE)])) (fun t k => st10 t k) ?_
      refine own_go (st' := T10.setTop (mkF m 10 #[.val (.int xa), .val (.int xb), .val (.ref a_FALSE), .val (.ref a_TRUE), .unset, .unset, .unset] [])) (fun _ k => XS.astoreN X10.here hx rfl (hb hby at_9) rfl rfl (l' := #[.val (.int xa), .val (.int xb), .val (.ref a_FALSE), .val (.ref a_TRUE), .unset, .unset, .unset]) rfl k) ?_
      refine own_go (st' := T10.setTop (mkF m 11 #[.val (.int xa), .val (.int xb), .val (.ref a_FALSE), .val (.ref a_TRUE), .unset, .unset, .unset] [(.int xa)])) (fun _ k => XS.iloadN X10.here hx rfl (hb hby at_10) rfl k) ?_
      obtain ⟨_, _, ⟨T11, LC11, kC11, nC11⟩, -, X11, ⟨Lc11, hQ11, lq11, yq11, zq11⟩, st11⟩ := Jvm.LawKit.callS X10 hx (y := (⟨"com/example/festung/festung/engine/TruthWithinPinLaw", "allowed", "(I)I"⟩ : MethodName)) hown (mvT hZ (hw _ (List.mem_of_getElem? (i := 11) rfl))) (mvT hZ (hw _ (List.mem_of_getElem? (i := 12) rfl))) (mvT hZ (hw _ (List.mem_of_getElem? (i := 2) rfl))) (mvT hZ (hw _ (List.mem_of_getElem? (i := 13) rfl))) (by decide) (backOf (W := 0) (rm3_0 l Z a0 hw [] xa h0 n0 (by omega) hm_xa) hZ (hw _ (List.mem_of_getElem? (i := 13) rfl)) (hw _ (List.mem_of_getElem? (i := 2) rfl)) (by decide) (by decide)) (g := (mkF m 11 #[.val (.int xa), .val (.int xb), .val (.ref a_FALSE), .val (.ref a_TRUE), .unset, .unset, .unset] [(.int xa)])) rfl (by rw [hml]; rfl) (argsL := [(.int xa)]) (rest := []) (lenOf pd_0 rfl) rfl (by show 2 * 0 + _ ≤ _; exact Nat.le_of_eq rfl) (hb hby at_11) (fun _ _ => ⟨rfl, eq10, (by decide : 0 + 0 ≤ _), (by decide : 0 + 0 ≤ _)⟩)
      dsimp only [Pt.U, Pt.locs, Pt.cells, Pt.slots] at X11 lq11 yq11 zq11 st11 hQ11
      subst lq11 yq11 zq11
      obtain ⟨rfl, Nq11, eq11⟩ := hQ11
      have N11 := Fr.app N10 Nq11
      refine own_go (st' := T11.setTop (mkF m 14 #[.val (.int xa), .val (.int xb), .val (.ref a_FALSE), .val (.ref a_TRUE), .unset, .unset, .unset] [(.int (1 : Int32))])) (fun t k => st11 t k) ?_
      refine own_go (st' := T11.setTop (mkF m 16 #[.val (.int xa), .val (.int xb), .val (.ref a_FALSE), .val (.ref a_TRUE), .val (.int (1 : Int32)), .unset, .unset] [])) (fun _ k => XS.istore X11.here hx rfl (hb hby at_14) rfl (l' := #[.val (.int xa), .val (.int xb), .val (.ref a_FALSE), .val (.ref a_TRUE), .val (.int (1 : Int32)), .unset, .unset]) rfl k) ?_
      refine own_go (st' := T11.setTop (mkF m 17 #[.val (.int xa), .val (.int xb), .val (.ref a_FALSE), .val (.ref a_TRUE), .val (.int (1 : Int32)), .unset, .unset] [(.int xb)])) (fun _ k => XS.iloadN X11.here hx rfl (hb hby at_16) rfl k) ?_
      obtain ⟨_, _, ⟨T12, LC12, kC12, nC12⟩, -, X12, ⟨Lc12, hQ12, lq12, yq12, zq12⟩, st12⟩ := Jvm.LawKit.callS X11 hx (y := (⟨"com/example/festung/festung/engine/TruthWithinPinLaw", "allowed", "(I)I"⟩ : MethodName)) hown (mvT hZ (hw _ (List.mem_of_getElem? (i := 11) rfl))) (mvT hZ (hw _ (List.mem_of_getElem? (i := 12) rfl))) (mvT hZ (hw _ (List.mem_of_getElem? (i := 2) rfl))) (mvT hZ (hw _ (List.mem_of_getElem? (i := 13) rfl))) (by decide) (backOf (W := 0) (rm3_1 l Z a0 hw [] xb h0 n0 (by omega) hm_xb) hZ (hw _ (List.mem_of_getElem? (i := 13) rfl)) (hw _ (List.mem_of_getElem? (i := 2) rfl)) (by decide) (by decide)) (g := (mkF m 17 #[.val (.int xa), .val (.int xb), .val (.ref a_FALSE), .val (.ref a_TRUE), .val (.int (1 : Int32)), .unset, .unset] [(.int xb)])) rfl (by rw [hml]; rfl) (argsL := [(.int xb)]) (rest := []) (lenOf pd_0 rfl) rfl (by show 2 * 0 + _ ≤ _; exact Nat.le_of_eq rfl) (hb hby at_17) (fun _ _ => ⟨rfl, eq11, (by decide : 0 + 0 ≤ _), (by decide : 0 + 0 ≤ _)⟩)
      dsimp only [Pt.U, Pt.locs, Pt.cells, Pt.slots] at X12 lq12 yq12 zq12 st12 hQ12
      subst lq12 yq12 zq12
      obtain ⟨rfl, Nq12, eq12⟩ := hQ12
      have N12 := Fr.app N11 Nq12
      refine own_go (st' := T12.setTop (mkF m 20 #[.val (.int xa), .val (.int xb), .val (.ref a_FALSE), .val (.ref a_TRUE), .val (.int (1 : Int32)), .unset, .unset] [(.int (2 : Int32))])) (fun t k => st12 t k) ?_
      refine own_go (st' := T12.setTop (mkF m 22 #[.val (.int xa), .val (.int xb), .val (.ref a_FALSE), .val (.ref a_TRUE), .val (.int (1 : Int32)), .val (.int (2 : Int32)), .unset] [])) (fun _ k => XS.istore X12.here hx rfl (hb hby at_20) rfl (l' := #[.val (.int xa), .val (.int xb), .val (.ref a_FALSE), .val (.ref a_TRUE), .val (.int (1 : Int32)), .val (.int (2 : Int32)), .unset]) rfl k) ?_
      refine own_go (st' := T12.setTop (mkF m 24 #[.val (.int xa), .val (.int xb), .val (.ref a_FALSE), .val (.ref a_TRUE), .val (.int (1 : Int32)), .val (.int (2 : Int32)), .unset] [(.int (1 : Int32))])) (fun _ k => XS.iload X12.here hx rfl (hb hby at_22) rfl k) ?_
      refine own_go (st' := T12.setTop (mkF m 26 #[.val (.int xa), .val (.int xb), .val (.ref a_FALSE), .val (.ref a_TRUE), .val (.int (1 : Int32)), .val (.int (2 : Int32)), .unset] [(.int (2 : Int32)), (.int (1 : Int32))])) (fun _ k => XS.iload X12.here hx rfl (hb hby at_24) rfl k) ?_
      refine own_go (st' := T12.setTop (mkF m 27 #[.val (.int xa), .val (.int xb), .val (.ref a_FALSE), .val (.ref a_TRUE), .val (.int (1 : Int32)), .val (.int (2 : Int32)), .unset] [(.int (-1 : Int32)), (.int (2 : Int32)), (.int (1 : Int32))])) (fun _ k => XS.iconst X12.here hx rfl (hb hby at_26) k) ?_
      refine own_go (st' := T12.setTop (mkF m 28 #[.val (.int xa), .val (.int xb), .val (.ref a_FALSE), .val (.ref a_TRUE), .val (.int (1 : Int32)), .val (.int (2 : Int32)), .unset] [(.int (-3 : Int32)), (.int (1 : Int32))])) (fun _ k => XS.ixor X12.here hx rfl (hb hby at_27) rfl (by rw [show ((2 : Int32) ^^^ (-1 : Int32)) = (-3 : Int32) by decide]; exact k)) ?_
      refine own_go (st' := T12.setTop (mkF m 29 #[.val (.int xa), .val (.int xb), .val (.ref a_FALSE), .val (.ref a_TRUE), .val (.int (1 : Int32)), .val (.int (2 : Int32)), .unset] [(.int (1 : Int32))])) (fun _ k => XS.iand X12.here hx rfl (hb hby at_28) rfl (by rw [show ((1 : Int32) &&& (-3 : Int32)) = (1 : Int32) by decide]; exact k)) ?_
      have hc13 : ¬ ((1 : Int32) = (0 : Int32)) := by decide
      refine own_go (st' := T12.setTop (mkF m 36 #[.val (.int xa), .val (.int xb), .val (.ref a_FALSE), .val (.ref a_TRUE), .val (.int (1 : Int32)), .val (.int (2 : Int32)), .unset] [])) (fun _ k => XS.ifYes X12.here hx rfl (pc0 := 29) (pc' := 36) rfl (hb hby at_29) rfl ((if0 _ _).trans (feq hc13).2) (by decide) (by decide) k) ?_
      refine own_go (st' := T12.setTop (mkF m 37 #[.val (.int xa), .val (.int xb), .val (.ref a_FALSE), .val (.ref a_TRUE), .val (.int (1 : Int32)), .val (.int (2 : Int32)), .unset] [(.int (0 : Int32))])) (fun _ k => XS.iconst X12.here hx rfl (hb hby at_36) k) ?_
      refine own_go (st' := T12.setTop (mkF m 39 #[.val (.int xa), .val (.int xb), .val (.ref a_FALSE), .val (.ref a_TRUE), .val (.int (1 : Int32)), .val (.int (2 : Int32)), .val (.int (0 : Int32))] [])) (fun _ k => XS.istore X12.here hx rfl (hb hby at_37) rfl (l' := #[.val (.int xa), .val (.int xb), .val (.ref a_FALSE), .val (.ref a_TRUE), .val (.int (1 : Int32)), .val (.int (2 : Int32)), .val (.int (0 : Int32))]) rfl k) ?_
      refine own_go (st' := T12.setTop (mkF m 40 #[.val (.int xa), .val (.int xb), .val (.ref a_FALSE), .val (.ref a_TRUE), .val (.int (1 : Int32)), .val (.int (2 : Int32)), .val (.int (0 : Int32))] [(.ref a_FALSE)])) (fun _ k => XS.aloadN X12.here hx rfl (hb hby at_39) rfl rfl k) ?_
      refine own_go (st' := T12.setTop (mkF m 41 #[.val (.int xa), .val (.int xb), .val (.ref a_FALSE), .val (.ref a_TRUE), .val (.int (1 : Int32)), .val (.int (2 : Int32)), .val (.int (0 : Int32))] [(.ref a_TRUE), (.ref a_FALSE)])) (fun _ k => XS.aloadN X12.here hx rfl (hb hby at_40) rfl rfl k) ?_
      obtain ⟨cq14, kq14, q14a, q14b, q14c⟩ := isOf hZ eq12 pr2
      obtain ⟨_, _, ⟨T14, LC14, kC14, nC14⟩, -, X14, ⟨Lc14, hQ14, lq14, yq14, zq14⟩, st14⟩ := X12.virtualBack hx (y := (⟨"com/example/festung/festung/engine/Truth", "within", "(Lcom/example/festung/festung/engine/Truth;)Z"⟩ : MethodName)) (z := (⟨"com/example/festung/festung/engine/Truth", "within", "(Lcom/example/festung/festung/engine/Truth;)Z"⟩ : MethodName)) hown (mvT hZ (hw _ (List.mem_of_getElem? (i := 14) rfl))) (mvT hZ (hw _ (List.mem_of_getElem? (i := 15) rfl))) (notFace_of_selects (args := #[]) (mvT hZ (hw _ (List.mem_of_getElem? (i := 17) rfl)))) (mvT hZ (hw _ (List.mem_of_getElem? (i := 17) rfl))) (mvT hZ (hw _ (List.mem_of_getElem? (i := 16) rfl))) (by decide) (backOf (W := 0) (rm4c l Z a0 hw [] a_FALSE a_TRUE a_EITHER h0 n0 (by omega) pr3 (by first | assumption | exact Ne.symm (by assumption) | (apply Nat.ne_of_lt; omega) | (apply Nat.ne_of_gt; omega)) (by first | assumption | exact Ne.symm (by assumption) | (apply Nat.ne_of_lt; omega) | (apply Nat.ne_of_gt; omega))) hZ (hw _ (List.mem_of_getElem? (i := 18) rfl)) (hw _ (List.mem_of_getElem? (i := 9) rfl)) (by decide) (by decide)) q14a q14c (g := (mkF m 41 #[.val (.int xa), .val (.int xb), .val (.ref a_FALSE), .val (.ref a_TRUE), .val (.int (1 : Int32)), .val (.int (2 : Int32)), .val (.int (0 : Int32))] [(.ref a_TRUE), (.ref a_FALSE)])) rfl (by rw [hml]; rfl) (Steps.refl _) (argsL := [(.ref a_TRUE)]) (rest := []) (lenOf pd_2 rfl) rfl (by show 2 * 0 + _ ≤ _; exact Nat.le_of_eq rfl) (hb hby at_41) (fun _ _ => ⟨rfl, eq12, (by decide : 0 + 0 ≤ _), (by decide : 0 + 0 ≤ _)⟩)
      dsimp only [Pt.U, Pt.locs, Pt.cells, Pt.slots] at X14 lq14 yq14 zq14 st14 hQ14
      subst lq14 yq14 zq14
      obtain ⟨rfl, Nq14, eq14⟩ := hQ14
      have N14 := Fr.app N12 Nq14
      refine own_go (st' := T14.setTop (mkF m 44 #[.val (.int xa), .val (.int xb), .val (.ref a_FALSE), .val (.ref a_TRUE), .val (.int (1 : Int32)), .val (.int (2 : Int32)), .val (.int (0 : Int32))] [(.int (0 : Int32))])) (fun _ k => st14.trans k) ?_
      refine own_go (st' := T14.setTop (mkF m 46 #[.val (.int xa), .val (.int xb), .val (.ref a_FALSE), .val (.ref a_TRUE), .val (.int (1 : Int32)), .val (.int (2 : Int32)), .val (.int (0 : Int32))] [(.int (0 : Int32)), (.int (0 : Int32))])) (fun _ k => XS.iload X14.here hx rfl (hb hby at_44) rfl k) ?_
      have hc15 : (0 : Int32) = (0 : Int32) := by decide
      refine own_go (st' := T14.setTop (mkF m 49 #[.val (.int xa), .val (.int xb), .val (.ref a_FALSE), .val (.ref a_TRUE), .val (.int (1 : Int32)), .val (.int (2 : Int32)), .val (.int (0 : Int32))] [])) (fun _ k => XS.icmpNo X14.here hx rfl (hb hby at_46) rfl (teq hc15).2 k) ?_
      refine own_go (st' := T14.setTop (mkF m 50 #[.val (.int xa), .val (.int xb), .val (.ref a_FALSE), .val (.ref a_TRUE), .val (.int (1 : Int32)), .val (.int (2 : Int32)), .val (.int (0 : Int32))] [(.int (1 : Int32))])) (fun _ k => XS.iconst X14.here hx rfl (hb hby at_49) k) ?_
      refine own_go (st' := T14.setTop (mkF m 54 #[.val (.int xa), .val (.int xb), .val (.ref a_FALSE), .val (.ref a_TRUE), .val (.int (1 : Int32)), .val (.int (2 : Int32)), .val (.int (0 : Int32))] [(.int (1 : Int32))])) (fun _ k => XS.goto X14.here hx rfl (pc0 := 50) (pc' := 54) rfl (hb hby at_50) (by decide) (by decide) k) ?_
      obtain ⟨fs, hr, hrun, hended, hW, hsame⟩ := X14.leave (v := some (.int (1 : Int32))) (fun h => by rw [Bd.returns] at h; cases h)
      refine ⟨_, _, ?_, hP _ _ hrun hended ⟨_, _, rfl, ?_, ⟨_, rfl⟩, hW, hsame.mono (by decide) (by decide)⟩⟩
      · exact retN X14 hx (t := .boolean) Bd.returns (by simp) (hb hby at_54) hr
      · show Qrm0 Z xa xb a_FALSE a_EITHER a_TRUE h0 n0 _ T14.heap _
        rw [eq14]
        exact ⟨rfl, N14, trivial⟩
    · --
      refine own_go (st' := s₁.setTop (mkF m 1 #[.val (.int xa), .val (.int xb), .unset, .unset, .unset, .unset, .unset] [(.int xa)])) (fun _ k => XS.iloadN X0.here hx rfl (hb hby at_0) rfl k) ?_
      obtain ⟨_, _, ⟨T17, LC17, kC17, nC17⟩, -, X17, ⟨Lc17, hQ17, lq17, yq17, zq17⟩, st17⟩ := Jvm.LawKit.callS X0 hx (y := (⟨"com/example/festung/festung/engine/TruthWithinPinLaw", "pick", "(I)Lcom/example/festung/festung/engine/Truth;"⟩ : MethodName)) hown (mvT hZ (hw _ (List.mem_of_getElem? (i := 0) rfl))) (mvT hZ (hw _ (List.mem_of_getElem? (i := 1) rfl))) (mvT hZ (hw _ (List.mem_of_getElem? (i := 2) rfl))) (mvT hZ (hw _ (List.mem_of_getElem? (i := 3) rfl))) (by decide) (backOf (W := 0) (rm1_0 l Z a0 hw [] xa a_FALSE a_TRUE a_EITHER h0 n0 (by omega) pr1 pr5 pr3 hm_xa) hZ (hw _ (List.mem_of_getElem? (i := 3) rfl)) (hw _ (List.mem_of_getElem? (i := 2) rfl)) (by decide) (by decide)) (g := (mkF m 1 #[.val (.int xa), .val (.int xb), .unset, .unset, .unset, .unset, .unset] [(.int xa)])) rfl (by rw [hml]; rfl) (argsL := [(.int xa)]) (rest := []) (lenOf pd_1 rfl) rfl (by show 2 * 0 + _ ≤ _; exact Nat.le_of_eq rfl) (hb hby at_1) (fun _ _ => ⟨rfl, e0, (by decide : 0 + 0 ≤ _), (by decide : 0 + 0 ≤ _)⟩)
      dsimp only [Pt.U, Pt.locs, Pt.cells, Pt.slots] at X17 lq17 yq17 zq17 st17 hQ17
      subst lq17 yq17 zq17
      obtain ⟨rfl, Nq17, eq17⟩ := hQ17
      have N17 := Fr.app N0 Nq17
      refine own_go (st' := T17.setTop (mkF m 4 #[.val (.int xa), .val (.int xb), .unset, .unset, .unset, .unset, .unset] [(.ref a_FALSE)])) (fun t k => st17 t k) ?_
      refine own_go (st' := T17.setTop (mkF m 5 #[.val (.int xa), .val (.int xb), .val (.ref a_FALSE), .unset, .unset, .unset, .unset] [])) (fun _ k => XS.astoreN X17.here hx rfl (hb hby at_4) rfl rfl (l' := #[.val (.int xa), .val (.int xb), .val (.ref a_FALSE), .unset, .unset, .unset, .unset]) rfl k) ?_
      refine own_go (st' := T17.setTop (mkF m 6 #[.val (.int xa), .val (.int xb), .val (.ref a_FALSE), .unset, .unset, .unset, .unset] [(.int xb)])) (fun _ k => XS.iloadN X17.here hx rfl (hb hby at_5) rfl k) ?_
      obtain ⟨_, _, ⟨T18, LC18, kC18, nC18⟩, -, X18, ⟨Lc18, hQ18, lq18, yq18, zq18⟩, st18⟩ := Jvm.LawKit.callS X17 hx (y := (⟨"com/example/festung/festung/engine/TruthWithinPinLaw", "pick", "(I)Lcom/example/festung/festung/engine/Truth;"⟩ : MethodName)) hown (mvT hZ (hw _ (List.mem_of_getElem? (i := 0) rfl))) (mvT hZ (hw _ (List.mem_of_getElem? (i := 1) rfl))) (mvT hZ (hw _ (List.mem_of_getElem? (i := 2) rfl))) (mvT hZ (hw _ (List.mem_of_getElem? (i := 3) rfl))) (by decide) (backOf (W := 0) (rm1_2 l Z a0 hw [] xb a_FALSE a_TRUE a_EITHER h0 n0 (by omega) pr1 pr5 pr3 hm_xb) hZ (hw _ (List.mem_of_getElem? (i := 3) rfl)) (hw _ (List.mem_of_getElem? (i := 2) rfl)) (by decide) (by decide)) (g := (mkF m 6 #[.val (.int xa), .val (.int xb), .val (.ref a_FALSE), .unset, .unset, .unset, .unset] [(.int xb)])) rfl (by rw [hml]; rfl) (argsL := [(.int xb)]) (rest := []) (lenOf pd_1 rfl) rfl (by show 2 * 0 + _ ≤ _; exact Nat.le_of_eq rfl) (hb hby at_6) (fun _ _ => ⟨rfl, eq17, (by decide : 0 + 0 ≤ _), (by decide : 0 + 0 ≤ _)⟩)
      dsimp only [Pt.U, Pt.locs, Pt.cells, Pt.slots] at X18 lq18 yq18 zq18 st18 hQ18
      subst lq18 yq18 zq18
      obtain ⟨rfl, Nq18, eq18⟩ := hQ18
      have N18 := Fr.app N17 Nq18
      refine own_go (st' := T18.setTop (mkF m 9 #[.val (.int xa), .val (.int xb), .val (.ref a_FALSE), .unset, .unset, .unset, .unset] [(.ref a_EITHER)])) (fun t k => st18 t k) ?_
      refine own_go (st' := T18.setTop (mkF m 10 #[.val (.int xa), .val (.int xb), .val (.ref a_FALSE), .val (.ref a_EITHER), .unset, .unset, .unset] [])) (fun _ k => XS.astoreN X18.here hx rfl (hb hby at_9) rfl rfl (l' := #[.val (.int xa), .val (.int xb), .val (.ref a_FALSE), .val (.ref a_EITHER), .unset, .unset, .unset]) rfl k) ?_
      refine own_go (st' := T18.setTop (mkF m 11 #[.val (.int xa), .val (.int xb), .val (.ref a_FALSE), .val (.ref a_EITHER), .unset, .unset, .unset] [(.int xa)])) (fun _ k => XS.iloadN X18.here hx rfl (hb hby at_10) rfl k) ?_
      obtain ⟨_, _, ⟨T19, LC19, kC19, nC19⟩, -, X19, ⟨Lc19, hQ19, lq19, yq19, zq19⟩, st19⟩ := Jvm.LawKit.callS X18 hx (y := (⟨"com/example/festung/festung/engine/TruthWithinPinLaw", "allowed", "(I)I"⟩ : MethodName)) hown (mvT hZ (hw _ (List.mem_of_getElem? (i := 11) rfl))) (mvT hZ (hw _ (List.mem_of_getElem? (i := 12) rfl))) (mvT hZ (hw _ (List.mem_of_getElem? (i := 2) rfl))) (mvT hZ (hw _ (List.mem_of_getElem? (i := 13) rfl))) (by decide) (backOf (W := 0) (rm3_0 l Z a0 hw [] xa h0 n0 (by omega) hm_xa) hZ (hw _ (List.mem_of_getElem? (i := 13) rfl)) (hw _ (List.mem_of_getElem? (i := 2) rfl)) (by decide) (by decide)) (g := (mkF m 11 #[.val (.int xa), .val (.int xb), .val (.ref a_FALSE), .val (.ref a_EITHER), .unset, .unset, .unset] [(.int xa)])) rfl (by rw [hml]; rfl) (argsL := [(.int xa)]) (rest := []) (lenOf pd_0 rfl) rfl (by show 2 * 0 + _ ≤ _; exact Nat.le_of_eq rfl) (hb hby at_11) (fun _ _ => ⟨rfl, eq18, (by decide : 0 + 0 ≤ _), (by decide : 0 + 0 ≤ _)⟩)
      dsimp only [Pt.U, Pt.locs, Pt.cells, Pt.slots] at X19 lq19 yq19 zq19 st19 hQ19
      subst lq19 yq19 zq19
      obtain ⟨rfl, Nq19, eq19⟩ := hQ19
      have N19 := Fr.app N18 Nq19
      refine own_go (st' := T19.setTop (mkF m 14 #[.val (.int xa), .val (.int xb), .val (.ref a_FALSE), .val (.ref a_EITHER), .unset, .unset, .unset] [(.int (1 : Int32))])) (fun t k => st19 t k) ?_
      refine own_go (st' := T19.setTop (mkF m 16 #[.val (.int xa), .val (.int xb), .val (.ref a_FALSE), .val (.ref a_EITHER), .val (.int (1 : Int32)), .unset, .unset] [])) (fun _ k => XS.istore X19.here hx rfl (hb hby at_14) rfl (l' := #[.val (.int xa), .val (.int xb), .val (.ref a_FALSE), .val (.ref a_EITHER), .val (.int (1 : Int32)), .unset, .unset]) rfl k) ?_
      refine own_go (st' := T19.setTop (mkF m 17 #[.val (.int xa), .val (.int xb), .val (.ref a_FALSE), .val (.ref a_EITHER), .val (.int (1 : Int32)), .unset, .unset] [(.int xb)])) (fun _ k => XS.iloadN X19.here hx rfl (hb hby at_16) rfl k) ?_
      obtain ⟨_, _, ⟨T20, LC20, kC20, nC20⟩, -, X20, ⟨Lc20, hQ20, lq20, yq20, zq20⟩, st20⟩ := Jvm.LawKit.callS X19 hx (y := (⟨"com/example/festung/festung/engine/TruthWithinPinLaw", "allowed", "(I)I"⟩ : MethodName)) hown (mvT hZ (hw _ (List.mem_of_getElem? (i := 11) rfl))) (mvT hZ (hw _ (List.mem_of_getElem? (i := 12) rfl))) (mvT hZ (hw _ (List.mem_of_getElem? (i := 2) rfl))) (mvT hZ (hw _ (List.mem_of_getElem? (i := 13) rfl))) (by decide) (backOf (W := 0) (rm3_2 l Z a0 hw [] xb h0 n0 (by omega) hm_xb) hZ (hw _ (List.mem_of_getElem? (i := 13) rfl)) (hw _ (List.mem_of_getElem? (i := 2) rfl)) (by decide) (by decide)) (g := (mkF m 17 #[.val (.int xa), .val (.int xb), .val (.ref a_FALSE), .val (.ref a_EITHER), .val (.int (1 : Int32)), .unset, .unset] [(.int xb)])) rfl (by rw [hml]; rfl) (argsL := [(.int xb)]) (rest := []) (lenOf pd_0 rfl) rfl (by show 2 * 0 + _ ≤ _; exact Nat.le_of_eq rfl) (hb hby at_17) (fun _ _ => ⟨rfl, eq19, (by decide : 0 + 0 ≤ _), (by decide : 0 + 0 ≤ _)⟩)
      dsimp only [Pt.U, Pt.locs, Pt.cells, Pt.slots] at X20 lq20 yq20 zq20 st20 hQ20
      subst lq20 yq20 zq20
      obtain ⟨rfl, Nq20, eq20⟩ := hQ20
      have N20 := Fr.app N19 Nq20
      refine own_go (st' := T20.setTop (mkF m 20 #[.val (.int xa), .val (.int xb), .val (.ref a_FALSE), .val (.ref a_EITHER), .val (.int (1 : Int32)), .unset, .unset] [(.int (3 : Int32))])) (fun t k => st20 t k) ?_
      refine own_go (st' := T20.setTop (mkF m 22 #[.val (.int xa), .val (.int xb), .val (.ref a_FALSE), .val (.ref a_EITHER), .val (.int (1 : Int32)), .val (.int (3 : Int32)), .unset] [])) (fun _ k => XS.istore X20.here hx rfl (hb hby at_20) rfl (l' := #[.val (.int xa), .val (.int xb), .val (.ref a_FALSE), .val (.ref a_EITHER), .val (.int (1 : Int32)), .val (.int (3 : Int32)), .unset]) rfl k) ?_
      refine own_go (st' := T20.setTop (mkF m 24 #[.val (.int xa), .val (.int xb), .val (.ref a_FALSE), .val (.ref a_EITHER), .val (.int (1 : Int32)), .val (.int (3 : Int32)), .unset] [(.int (1 : Int32))])) (fun _ k => XS.iload X20.here hx rfl (hb hby at_22) rfl k) ?_
      refine own_go (st' := T20.setTop (mkF m 26 #[.val (.int xa), .val (.int xb), .val (.ref a_FALSE), .val (.ref a_EITHER), .val (.int (1 : Int32)), .val (.int (3 : Int32)), .unset] [(.int (3 : Int32)), (.int (1 : Int32))])) (fun _ k => XS.iload X20.here hx rfl (hb hby at_24) rfl k) ?_
      refine own_go (st' := T20.setTop (mkF m 27 #[.val (.int xa), .val (.int xb), .val (.ref a_FALSE), .val (.ref a_EITHER), .val (.int (1 : Int32)), .val (.int (3 : Int32)), .unset] [(.int (-1 : Int32)), (.int (3 : Int32)), (.int (1 : Int32))])) (fun _ k => XS.iconst X20.here hx rfl (hb hby at_26) k) ?_
      refine own_go (st' := T20.setTop (mkF m 28 #[.val (.int xa), .val (.int xb), .val (.ref a_FALSE), .val (.ref a_EITHER), .val (.int (1 : Int32)), .val (.int (3 : Int32)), .unset] [(.int (-4 : Int32)), (.int (1 : Int32))])) (fun _ k => XS.ixor X20.here hx rfl (hb hby at_27) rfl (by rw [show ((3 : Int32) ^^^ (-1 : Int32)) = (-4 : Int32) by decide]; exact k)) ?_
      refine own_go (st' := T20.setTop (mkF m 29 #[.val (.int xa), .val (.int xb), .val (.ref a_FALSE), .val (.ref a_EITHER), .val (.int (1 : Int32)), .val (.int (3 : Int32)), .unset] [(.int (0 : Int32))])) (fun _ k => XS.iand X20.here hx rfl (hb hby at_28) rfl (by rw [show ((1 : Int32) &&& (-4 : Int32)) = (0 : Int32) by decide]; exact k)) ?_
      have hc21 : (0 : Int32) = (0 : Int32) := by decide
      refine own_go (st' := T20.setTop (mkF m 32 #[.val (.int xa), .val (.int xb), .val (.ref a_FALSE), .val (.ref a_EITHER), .val (.int (1 : Int32)), .val (.int (3 : Int32)), .unset] [])) (fun _ k => XS.ifNo X20.here hx rfl (hb hby at_29) rfl ((if0 _ _).trans (teq hc21).2) k) ?_
      refine own_go (st' := T20.setTop (mkF m 33 #[.val (.int xa), .val (.int xb), .val (.ref a_FALSE), .val (.ref a_EITHER), .val (.int (1 : Int32)), .val (.int (3 : Int32)), .unset] [(.int (1 : Int32))])) (fun _ k => XS.iconst X20.here hx rfl (hb hby at_32) k) ?_
      refine own_go (st' := T20.setTop (mkF m 37 #[.val (.int xa), .val (.int xb), .val (.ref a_FALSE), .val (.ref a_EITHER), .val (.int (1 : Int32)), .val (.int (3 : Int32)), .unset] [(.int (1 : Int32))])) (fun _ k => XS.goto X20.here hx rfl (pc0 := 33) (pc' := 37) rfl (hb hby at_33) (by decide) (by decide) k) ?_
      refine own_go (st' := T20.setTop (mkF m 39 #[.val (.int xa), .val (.int xb), .val (.ref a_FALSE), .val (.ref a_EITHER), .val (.int (1 : Int32)), .val (.int (3 : Int32)), .val (.int (1 : Int32))] [])) (fun _ k => XS.istore X20.here hx rfl (hb hby at_37) rfl (l' := #[.val (.int xa), .val (.int xb), .val (.ref a_FALSE), .val (.ref a_EITHER), .val (.int (1 : Int32)), .val (.int (3 : Int32)), .val (.int (1 : Int32))]) rfl k) ?_
      refine own_go (st' := T20.setTop (mkF m 40 #[.val (.int xa), .val (.int xb), .val (.ref a_FALSE), .val (.ref a_EITHER), .val (.int (1 : Int32)), .val (.int (3 : Int32)), .val (.int (1 : Int32))] [(.ref a_FALSE)])) (fun _ k => XS.aloadN X20.here hx rfl (hb hby at_39) rfl rfl k) ?_
      refine own_go (st' := T20.setTop (mkF m 41 #[.val (.int xa), .val (.int xb), .val (.ref a_FALSE), .val (.ref a_EITHER), .val (.int (1 : Int32)), .val (.int (3 : Int32)), .val (.int (1 : Int32))] [(.ref a_EITHER), (.ref a_FALSE)])) (fun _ k => XS.aloadN X20.here hx rfl (hb hby at_40) rfl rfl k) ?_
      obtain ⟨cq22, kq22, q22a, q22b, q22c⟩ := isOf hZ eq20 pr2
      obtain ⟨_, _, ⟨T22, LC22, kC22, nC22⟩, -, X22, ⟨Lc22, hQ22, lq22, yq22, zq22⟩, st22⟩ := X20.virtualBack hx (y := (⟨"com/example/festung/festung/engine/Truth", "within", "(Lcom/example/festung/festung/engine/Truth;)Z"⟩ : MethodName)) (z := (⟨"com/example/festung/festung/engine/Truth", "within", "(Lcom/example/festung/festung/engine/Truth;)Z"⟩ : MethodName)) hown (mvT hZ (hw _ (List.mem_of_getElem? (i := 14) rfl))) (mvT hZ (hw _ (List.mem_of_getElem? (i := 15) rfl))) (notFace_of_selects (args := #[]) (mvT hZ (hw _ (List.mem_of_getElem? (i := 17) rfl)))) (mvT hZ (hw _ (List.mem_of_getElem? (i := 17) rfl))) (mvT hZ (hw _ (List.mem_of_getElem? (i := 16) rfl))) (by decide) (backOf (W := 0) (rm4a l Z a0 hw [] a_FALSE a_EITHER h0 n0 (by omega) pr3) hZ (hw _ (List.mem_of_getElem? (i := 18) rfl)) (hw _ (List.mem_of_getElem? (i := 9) rfl)) (by decide) (by decide)) q22a q22c (g := (mkF m 41 #[.val (.int xa), .val (.int xb), .val (.ref a_FALSE), .val (.ref a_EITHER), .val (.int (1 : Int32)), .val (.int (3 : Int32)), .val (.int (1 : Int32))] [(.ref a_EITHER), (.ref a_FALSE)])) rfl (by rw [hml]; rfl) (Steps.refl _) (argsL := [(.ref a_EITHER)]) (rest := []) (lenOf pd_2 rfl) rfl (by show 2 * 0 + _ ≤ _; exact Nat.le_of_eq rfl) (hb hby at_41) (fun _ _ => ⟨rfl, eq20, (by decide : 0 + 0 ≤ _), (by decide : 0 + 0 ≤ _)⟩)
      dsimp only [Pt.U, Pt.locs, Pt.cells, Pt.slots] at X22 lq22 yq22 zq22 st22 hQ22
      subst lq22 yq22 zq22
      obtain ⟨rfl, Nq22, eq22⟩ := hQ22
      have N22 := Fr.app N20 Nq22
      refine own_go (st' := T22.setTop (mkF m 44 #[.val (.int xa), .val (.int xb), .val (.ref a_FALSE), .val (.ref a_EITHER), .val (.int (1 : Int32)), .val (.int (3 : Int32)), .val (.int (1 : Int32))] [(.int (1 : Int32))])) (fun _ k => st22.trans k) ?_
      refine own_go (st' := T22.setTop (mkF m 46 #[.val (.int xa), .val (.int xb), .val (.ref a_FALSE), .val (.ref a_EITHER), .val (.int (1 : Int32)), .val (.int (3 : Int32)), .val (.int (1 : Int32))] [(.int (1 : Int32)), (.int (1 : Int32))])) (fun _ k => XS.iload X22.here hx rfl (hb hby at_44) rfl k) ?_
      have hc23 : (1 : Int32) = (1 : Int32) := by decide
      refine own_go (st' := T22.setTop (mkF m 49 #[.val (.int xa), .val (.int xb), .val (.ref a_FALSE), .val (.ref a_EITHER), .val (.int (1 : Int32)), .val (.int (3 : Int32)), .val (.int (1 : Int32))] [])) (fun _ k => XS.icmpNo X22.here hx rfl (hb hby at_46) rfl (teq hc23).2 k) ?_
      refine own_go (st' := T22.setTop (mkF m 50 #[.val (.int xa), .val (.int xb), .val (.ref a_FALSE), .val (.ref a_EITHER), .val (.int (1 : Int32)), .val (.int (3 : Int32)), .val (.int (1 : Int32))] [(.int (1 : Int32))])) (fun _ k => XS.iconst X22.here hx rfl (hb hby at_49) k) ?_
      refine own_go (st' := T22.setTop (mkF m 54 #[.val (.int xa), .val (.int xb), .val (.ref a_FALSE), .val (.ref a_EITHER), .val (.int (1 : Int32)), .val (.int (3 : Int32)), .val (.int (1 : Int32))] [(.int (1 : Int32))])) (fun _ k => XS.goto X22.here hx rfl (pc0 := 50) (pc' := 54) rfl (hb hby at_50) (by decide) (by decide) k) ?_
      obtain ⟨fs, hr, hrun, hended, hW, hsame⟩ := X22.leave (v := some (.int (1 : Int32))) (fun h => by rw [Bd.returns] at h; cases h)
      refine ⟨_, _, ?_, hP _ _ hrun hended ⟨_, _, rfl, ?_, ⟨_, rfl⟩, hW, hsame.mono (by decide) (by decide)⟩⟩
      · exact retN X22 hx (t := .boolean) Bd.returns (by simp) (hb hby at_54) hr
      · show Qrm0 Z xa xb a_FALSE a_EITHER a_TRUE h0 n0 _ T22.heap _
        rw [eq22]
        exact ⟨rfl, N22, trivial⟩
    · --
      exact absurd hm_xb (own_pos xb)
  · --
    rcases own_mod3 (xb &&& (2147483647 : Int32)) with hm_xb | hm_xb | hm_xb | hm_xb
    · --
      refine own_go (st' := s₁.setTop (mkF m 1 #[.val (.int xa), .val (.int xb), .unset, .unset, .unset, .unset, .unset] [(.int xa)])) (fun _ k => XS.iloadN X0.here hx rfl (hb hby at_0) rfl k) ?_
      obtain ⟨_, _, ⟨T25, LC25, kC25, nC25⟩, -, X25, ⟨Lc25, hQ25, lq25, yq25, zq25⟩, st25⟩ := Jvm.LawKit.callS X0 hx (y := (⟨"com/example/festung/festung/engine/TruthWithinPinLaw", "pick", "(I)Lcom/example/festung/festung/engine/Truth;"⟩ : MethodName)) hown (mvT hZ (hw _ (List.mem_of_getElem? (i := 0) rfl))) (mvT hZ (hw _ (List.mem_of_getElem? (i := 1) rfl))) (mvT hZ (hw _ (List.mem_of_getElem? (i := 2) rfl))) (mvT hZ (hw _ (List.mem_of_getElem? (i := 3) rfl))) (by decide) (backOf (W := 0) (rm1_1 l Z a0 hw [] xa a_FALSE a_TRUE a_EITHER h0 n0 (by omega) pr1 pr5 pr3 hm_xa) hZ (hw _ (List.mem_of_getElem? (i := 3) rfl)) (hw _ (List.mem_of_getElem? (i := 2) rfl)) (by decide) (by decide)) (g := (mkF m 1 #[.val (.int xa), .val (.int xb), .unset, .unset, .unset, .unset, .unset] [(.int xa)])) rfl (by rw [hml]; rfl) (argsL := [(.int xa)]) (rest := []) (lenOf pd_1 rfl) rfl (by show 2 * 0 + _ ≤ _; exact Nat.le_of_eq rfl) (hb hby at_1) (fun _ _ => ⟨rfl, e0, (by decide : 0 + 0 ≤ _), (by decide : 0 + 0 ≤ _)⟩)
      dsimp only [Pt.U, Pt.locs, Pt.cells, Pt.slots] at X25 lq25 yq25 zq25 st25 hQ25
      subst lq25 yq25 zq25
      obtain ⟨rfl, Nq25, eq25⟩ := hQ25
      have N25 := Fr.app N0 Nq25
      refine own_go (st' := T25.setTop (mkF m 4 #[.val (.int xa), .val (.int xb), .unset, .unset, .unset, .unset, .unset] [(.ref a_TRUE)])) (fun t k => st25 t k) ?_
      refine own_go (st' := T25.setTop (mkF m 5 #[.val (.int xa), .val (.int xb), .val (.ref a_TRUE), .unset, .unset, .unset, .unset] [])) (fun _ k => XS.astoreN X25.here hx rfl (hb hby at_4) rfl rfl (l' := #[.val (.int xa), .val (.int xb), .val (.ref a_TRUE), .unset, .unset, .unset, .unset]) rfl k) ?_
      refine own_go (st' := T25.setTop (mkF m 6 #[.val (.int xa), .val (.int xb), .val (.ref a_TRUE), .unset, .unset, .unset, .unset] [(.int xb)])) (fun _ k => XS.iloadN X25.here hx rfl (hb hby at_5) rfl k) ?_
      obtain ⟨_, _, ⟨T26, LC26, kC26, nC26⟩, -, X26, ⟨Lc26, hQ26, lq26, yq26, zq26⟩, st26⟩ := Jvm.LawKit.callS X25 hx (y := (⟨"com/example/festung/festung/engine/TruthWithinPinLaw", "pick", "(I)Lcom/example/festung/festung/engine/Truth;"⟩ : MethodName)) hown (mvT hZ (hw _ (List.mem_of_getElem? (i := 0) rfl))) (mvT hZ (hw _ (List.mem_of_getElem? (i := 1) rfl))) (mvT hZ (hw _ (List.mem_of_getElem? (i := 2) rfl))) (mvT hZ (hw _ (List.mem_of_getElem? (i := 3) rfl))) (by decide) (backOf (W := 0) (rm1_0 l Z a0 hw [] xb a_FALSE a_TRUE a_EITHER h0 n0 (by omega) pr1 pr5 pr3 hm_xb) hZ (hw _ (List.mem_of_getElem? (i := 3) rfl)) (hw _ (List.mem_of_getElem? (i := 2) rfl)) (by decide) (by decide)) (g := (mkF m 6 #[.val (.int xa), .val (.int xb), .val (.ref a_TRUE), .unset, .unset, .unset, .unset] [(.int xb)])) rfl (by rw [hml]; rfl) (argsL := [(.int xb)]) (rest := []) (lenOf pd_1 rfl) rfl (by show 2 * 0 + _ ≤ _; exact Nat.le_of_eq rfl) (hb hby at_6) (fun _ _ => ⟨rfl, eq25, (by decide : 0 + 0 ≤ _), (by decide : 0 + 0 ≤ _)⟩)
      dsimp only [Pt.U, Pt.locs, Pt.cells, Pt.slots] at X26 lq26 yq26 zq26 st26 hQ26
      subst lq26 yq26 zq26
      obtain ⟨rfl, Nq26, eq26⟩ := hQ26
      have N26 := Fr.app N25 Nq26
      refine own_go (st' := T26.setTop (mkF m 9 #[.val (.int xa), .val (.int xb), .val (.ref a_TRUE), .unset, .unset, .unset, .unset] [(.ref a_FALSE)])) (fun t k => st26 t k) ?_
      refine own_go (st' := T26.setTop (mkF m 10 #[.val (.int xa), .val (.int xb), .val (.ref a_TRUE), .val (.ref a_FALSE), .unset, .unset, .unset] [])) (fun _ k => XS.astoreN X26.here hx rfl (hb hby at_9) rfl rfl (l' := #[.val (.int xa), .val (.int xb), .val (.ref a_TRUE), .val (.ref a_FALSE), .unset, .unset, .unset]) rfl k) ?_
      refine own_go (st' := T26.setTop (mkF m 11 #[.val (.int xa), .val (.int xb), .val (.ref a_TRUE), .val (.ref a_FALSE), .unset, .unset, .unset] [(.int xa)])) (fun _ k => XS.iloadN X26.here hx rfl (hb hby at_10) rfl k) ?_
      obtain ⟨_, _, ⟨T27, LC27, kC27, nC27⟩, -, X27, ⟨Lc27, hQ27, lq27, yq27, zq27⟩, st27⟩ := Jvm.LawKit.callS X26 hx (y := (⟨"com/example/festung/festung/engine/TruthWithinPinLaw", "allowed", "(I)I"⟩ : MethodName)) hown (mvT hZ (hw _ (List.mem_of_getElem? (i := 11) rfl))) (mvT hZ (hw _ (List.mem_of_getElem? (i := 12) rfl))) (mvT hZ (hw _ (List.mem_of_getElem? (i := 2) rfl))) (mvT hZ (hw _ (List.mem_of_getElem? (i := 13) rfl))) (by decide) (backOf (W := 0) (rm3_1 l Z a0 hw [] xa h0 n0 (by omega) hm_xa) hZ (hw _ (List.mem_of_getElem? (i := 13) rfl)) (hw _ (List.mem_of_getElem? (i := 2) rfl)) (by decide) (by decide)) (g := (mkF m 11 #[.val (.int xa), .val (.int xb), .val (.ref a_TRUE), .val (.ref a_FALSE), .unset, .unset, .unset] [(.int xa)])) rfl (by rw [hml]; rfl) (argsL := [(.int xa)]) (rest := []) (lenOf pd_0 rfl) rfl (by show 2 * 0 + _ ≤ _; exact Nat.le_of_eq rfl) (hb hby at_11) (fun _ _ => ⟨rfl, eq26, (by decide : 0 + 0 ≤ _), (by decide : 0 + 0 ≤ _)⟩)
      dsimp only [Pt.U, Pt.locs, Pt.cells, Pt.slots] at X27 lq27 yq27 zq27 st27 hQ27
      subst lq27 yq27 zq27
      obtain ⟨rfl, Nq27, eq27⟩ := hQ27
      have N27 := Fr.app N26 Nq27
      refine own_go (st' := T27.setTop (mkF m 14 #[.val (.int xa), .val (.int xb), .val (.ref a_TRUE), .val (.ref a_FALSE), .unset, .unset, .unset] [(.int (2 : Int32))])) (fun t k => st27 t k) ?_
      refine own_go (st' := T27.setTop (mkF m 16 #[.val (.int xa), .val (.int xb), .val (.ref a_TRUE), .val (.ref a_FALSE), .val (.int (2 : Int32)), .unset, .unset] [])) (fun _ k => XS.istore X27.here hx rfl (hb hby at_14) rfl (l' := #[.val (.int xa), .val (.int xb), .val (.ref a_TRUE), .val (.ref a_FALSE), .val (.int (2 : Int32)), .unset, .unset]) rfl k) ?_
      refine own_go (st' := T27.setTop (mkF m 17 #[.val (.int xa), .val (.int xb), .val (.ref a_TRUE), .val (.ref a_FALSE), .val (.int (2 : Int32)), .unset, .unset] [(.int xb)])) (fun _ k => XS.iloadN X27.here hx rfl (hb hby at_16) rfl k) ?_
      obtain ⟨_, _, ⟨T28, LC28, kC28, nC28⟩, -, X28, ⟨Lc28, hQ28, lq28, yq28, zq28⟩, st28⟩ := Jvm.LawKit.callS X27 hx (y := (⟨"com/example/festung/festung/engine/TruthWithinPinLaw", "allowed", "(I)I"⟩ : MethodName)) hown (mvT hZ (hw _ (List.mem_of_getElem? (i := 11) rfl))) (mvT hZ (hw _ (List.mem_of_getElem? (i := 12) rfl))) (mvT hZ (hw _ (List.mem_of_getElem? (i := 2) rfl))) (mvT hZ (hw _ (List.mem_of_getElem? (i := 13) rfl))) (by decide) (backOf (W := 0) (rm3_0 l Z a0 hw [] xb h0 n0 (by omega) hm_xb) hZ (hw _ (List.mem_of_getElem? (i := 13) rfl)) (hw _ (List.mem_of_getElem? (i := 2) rfl)) (by decide) (by decide)) (g := (mkF m 17 #[.val (.int xa), .val (.int xb), .val (.ref a_TRUE), .val (.ref a_FALSE), .val (.int (2 : Int32)), .unset, .unset] [(.int xb)])) rfl (by rw [hml]; rfl) (argsL := [(.int xb)]) (rest := []) (lenOf pd_0 rfl) rfl (by show 2 * 0 + _ ≤ _; exact Nat.le_of_eq rfl) (hb hby at_17) (fun _ _ => ⟨rfl, eq27, (by decide : 0 + 0 ≤ _), (by decide : 0 + 0 ≤ _)⟩)
      dsimp only [Pt.U, Pt.locs, Pt.cells, Pt.slots] at X28 lq28 yq28 zq28 st28 hQ28
      subst lq28 yq28 zq28
      obtain ⟨rfl, Nq28, eq28⟩ := hQ28
      have N28 := Fr.app N27 Nq28
      refine own_go (st' := T28.setTop (mkF m 20 #[.val (.int xa), .val (.int xb), .val (.ref a_TRUE), .val (.ref a_FALSE), .val (.int (2 : Int32)), .unset, .unset] [(.int (1 : Int32))])) (fun t k => st28 t k) ?_
      refine own_go (st' := T28.setTop (mkF m 22 #[.val (.int xa), .val (.int xb), .val (.ref a_TRUE), .val (.ref a_FALSE), .val (.int (2 : Int32)), .val (.int (1 : Int32)), .unset] [])) (fun _ k => XS.istore X28.here hx rfl (hb hby at_20) rfl (l' := #[.val (.int xa), .val (.int xb), .val (.ref a_TRUE), .val (.ref a_FALSE), .val (.int (2 : Int32)), .val (.int (1 : Int32)), .unset]) rfl k) ?_
      refine own_go (st' := T28.setTop (mkF m 24 #[.val (.int xa), .val (.int xb), .val (.ref a_TRUE), .val (.ref a_FALSE), .val (.int (2 : Int32)), .val (.int (1 : Int32)), .unset] [(.int (2 : Int32))])) (fun _ k => XS.iload X28.here hx rfl (hb hby at_22) rfl k) ?_
      refine own_go (st' := T28.setTop (mkF m 26 #[.val (.int xa), .val (.int xb), .val (.ref a_TRUE), .val (.ref a_FALSE), .val (.int (2 : Int32)), .val (.int (1 : Int32)), .unset] [(.int (1 : Int32)), (.int (2 : Int32))])) (fun _ k => XS.iload X28.here hx rfl (hb hby at_24) rfl k) ?_
      refine own_go (st' := T28.setTop (mkF m 27 #[.val (.int xa), .val (.int xb), .val (.ref a_TRUE), .val (.ref a_FALSE), .val (.int (2 : Int32)), .val (.int (1 : Int32)), .unset] [(.int (-1 : Int32)), (.int (1 : Int32)), (.int (2 : Int32))])) (fun _ k => XS.iconst X28.here hx rfl (hb hby at_26) k) ?_
      refine own_go (st' := T28.setTop (mkF m 28 #[.val (.int xa), .val (.int xb), .val (.ref a_TRUE), .val (.ref a_FALSE), .val (.int (2 : Int32)), .val (.int (1 : Int32)), .unset] [(.int (-2 : Int32)), (.int (2 : Int32))])) (fun _ k => XS.ixor X28.here hx rfl (hb hby at_27) rfl (by rw [show ((1 : Int32) ^^^ (-1 : Int32)) = (-2 : Int32) by decide]; exact k)) ?_
      refine own_go (st' := T28.setTop (mkF m 29 #[.val (.int xa), .val (.int xb), .val (.ref a_TRUE), .val (.ref a_FALSE), .val (.int (2 : Int32)), .val (.int (1 : Int32)), .unset] [(.int (2 : Int32))])) (fun _ k => XS.iand X28.here hx rfl (hb hby at_28) rfl (by rw [show ((2 : Int32) &&& (-2 : Int32)) = (2 : Int32) by decide]; exact k)) ?_
      have hc29 : ¬ ((2 : Int32) = (0 : Int32)) := by decide
      refine own_go (st' := T28.setTop (mkF m 36 #[.val (.int xa), .val (.int xb), .val (.ref a_TRUE), .val (.ref a_FALSE), .val (.int (2 : Int32)), .val (.int (1 : Int32)), .unset] [])) (fun _ k => XS.ifYes X28.here hx rfl (pc0 := 29) (pc' := 36) rfl (hb hby at_29) rfl ((if0 _ _).trans (feq hc29).2) (by decide) (by decide) k) ?_
      refine own_go (st' := T28.setTop (mkF m 37 #[.val (.int xa), .val (.int xb), .val (.ref a_TRUE), .val (.ref a_FALSE), .val (.int (2 : Int32)), .val (.int (1 : Int32)), .unset] [(.int (0 : Int32))])) (fun _ k => XS.iconst X28.here hx rfl (hb hby at_36) k) ?_
      refine own_go (st' := T28.setTop (mkF m 39 #[.val (.int xa), .val (.int xb), .val (.ref a_TRUE), .val (.ref a_FALSE), .val (.int (2 : Int32)), .val (.int (1 : Int32)), .val (.int (0 : Int32))] [])) (fun _ k => XS.istore X28.here hx rfl (hb hby at_37) rfl (l' := #[.val (.int xa), .val (.int xb), .val (.ref a_TRUE), .val (.ref a_FALSE), .val (.int (2 : Int32)), .val (.int (1 : Int32)), .val (.int (0 : Int32))]) rfl k) ?_
      refine own_go (st' := T28.setTop (mkF m 40 #[.val (.int xa), .val (.int xb), .val (.ref a_TRUE), .val (.ref a_FALSE), .val (.int (2 : Int32)), .val (.int (1 : Int32)), .val (.int (0 : Int32))] [(.ref a_TRUE)])) (fun _ k => XS.aloadN X28.here hx rfl (hb hby at_39) rfl rfl k) ?_
      refine own_go (st' := T28.setTop (mkF m 41 #[.val (.int xa), .val (.int xb), .val (.ref a_TRUE), .val (.ref a_FALSE), .val (.int (2 : Int32)), .val (.int (1 : Int32)), .val (.int (0 : Int32))] [(.ref a_FALSE), (.ref a_TRUE)])) (fun _ k => XS.aloadN X28.here hx rfl (hb hby at_40) rfl rfl k) ?_
      obtain ⟨cq30, kq30, q30a, q30b, q30c⟩ := isOf hZ eq28 pr6
      obtain ⟨_, _, ⟨T30, LC30, kC30, nC30⟩, -, X30, ⟨Lc30, hQ30, lq30, yq30, zq30⟩, st30⟩ := X28.virtualBack hx (y := (⟨"com/example/festung/festung/engine/Truth", "within", "(Lcom/example/festung/festung/engine/Truth;)Z"⟩ : MethodName)) (z := (⟨"com/example/festung/festung/engine/Truth", "within", "(Lcom/example/festung/festung/engine/Truth;)Z"⟩ : MethodName)) hown (mvT hZ (hw _ (List.mem_of_getElem? (i := 14) rfl))) (mvT hZ (hw _ (List.mem_of_getElem? (i := 15) rfl))) (notFace_of_selects (args := #[]) (mvT hZ (hw _ (List.mem_of_getElem? (i := 17) rfl)))) (mvT hZ (hw _ (List.mem_of_getElem? (i := 17) rfl))) (mvT hZ (hw _ (List.mem_of_getElem? (i := 16) rfl))) (by decide) (backOf (W := 0) (rm4c l Z a0 hw [] a_TRUE a_FALSE a_EITHER h0 n0 (by omega) pr3 (by first | assumption | exact Ne.symm (by assumption) | (apply Nat.ne_of_lt; omega) | (apply Nat.ne_of_gt; omega)) (by first | assumption | exact Ne.symm (by assumption) | (apply Nat.ne_of_lt; omega) | (apply Nat.ne_of_gt; omega))) hZ (hw _ (List.mem_of_getElem? (i := 18) rfl)) (hw _ (List.mem_of_getElem? (i := 9) rfl)) (by decide) (by decide)) q30a q30c (g := (mkF m 41 #[.val (.int xa), .val (.int xb), .val (.ref a_TRUE), .val (.ref a_FALSE), .val (.int (2 : Int32)), .val (.int (1 : Int32)), .val (.int (0 : Int32))] [(.ref a_FALSE), (.ref a_TRUE)])) rfl (by rw [hml]; rfl) (Steps.refl _) (argsL := [(.ref a_FALSE)]) (rest := []) (lenOf pd_2 rfl) rfl (by show 2 * 0 + _ ≤ _; exact Nat.le_of_eq rfl) (hb hby at_41) (fun _ _ => ⟨rfl, eq28, (by decide : 0 + 0 ≤ _), (by decide : 0 + 0 ≤ _)⟩)
      dsimp only [Pt.U, Pt.locs, Pt.cells, Pt.slots] at X30 lq30 yq30 zq30 st30 hQ30
      subst lq30 yq30 zq30
      obtain ⟨rfl, Nq30, eq30⟩ := hQ30
      have N30 := Fr.app N28 Nq30
      refine own_go (st' := T30.setTop (mkF m 44 #[.val (.int xa), .val (.int xb), .val (.ref a_TRUE), .val (.ref a_FALSE), .val (.int (2 : Int32)), .val (.int (1 : Int32)), .val (.int (0 : Int32))] [(.int (0 : Int32))])) (fun _ k => st30.trans k) ?_
      refine own_go (st' := T30.setTop (mkF m 46 #[.val (.int xa), .val (.int xb), .val (.ref a_TRUE), .val (.ref a_FALSE), .val (.int (2 : Int32)), .val (.int (1 : Int32)), .val (.int (0 : Int32))] [(.int (0 : Int32)), (.int (0 : Int32))])) (fun _ k => XS.iload X30.here hx rfl (hb hby at_44) rfl k) ?_
      have hc31 : (0 : Int32) = (0 : Int32) := by decide
      refine own_go (st' := T30.setTop (mkF m 49 #[.val (.int xa), .val (.int xb), .val (.ref a_TRUE), .val (.ref a_FALSE), .val (.int (2 : Int32)), .val (.int (1 : Int32)), .val (.int (0 : Int32))] [])) (fun _ k => XS.icmpNo X30.here hx rfl (hb hby at_46) rfl (teq hc31).2 k) ?_
      refine own_go (st' := T30.setTop (mkF m 50 #[.val (.int xa), .val (.int xb), .val (.ref a_TRUE), .val (.ref a_FALSE), .val (.int (2 : Int32)), .val (.int (1 : Int32)), .val (.int (0 : Int32))] [(.int (1 : Int32))])) (fun _ k => XS.iconst X30.here hx rfl (hb hby at_49) k) ?_
      refine own_go (st' := T30.setTop (mkF m 54 #[.val (.int xa), .val (.int xb), .val (.ref a_TRUE), .val (.ref a_FALSE), .val (.int (2 : Int32)), .val (.int (1 : Int32)), .val (.int (0 : Int32))] [(.int (1 : Int32))])) (fun _ k => XS.goto X30.here hx rfl (pc0 := 50) (pc' := 54) rfl (hb hby at_50) (by decide) (by decide) k) ?_
      obtain ⟨fs, hr, hrun, hended, hW, hsame⟩ := X30.leave (v := some (.int (1 : Int32))) (fun h => by rw [Bd.returns] at h; cases h)
      refine ⟨_, _, ?_, hP _ _ hrun hended ⟨_, _, rfl, ?_, ⟨_, rfl⟩, hW, hsame.mono (by decide) (by decide)⟩⟩
      · exact retN X30 hx (t := .boolean) Bd.returns (by simp) (hb hby at_54) hr
      · show Qrm0 Z xa xb a_FALSE a_EITHER a_TRUE h0 n0 _ T30.heap _
        rw [eq30]
        exact ⟨rfl, N30, trivial⟩
    · --
      refine own_go (st' := s₁.setTop (mkF m 1 #[.val (.int xa), .val (.int xb), .unset, .unset, .unset, .unset, .unset] [(.int xa)])) (fun _ k => XS.iloadN X0.here hx rfl (hb hby at_0) rfl k) ?_
      obtain ⟨_, _, ⟨T33, LC33, kC33, nC33⟩, -, X33, ⟨Lc33, hQ33, lq33, yq33, zq33⟩, st33⟩ := Jvm.LawKit.callS X0 hx (y := (⟨"com/example/festung/festung/engine/TruthWithinPinLaw", "pick", "(I)Lcom/example/festung/festung/engine/Truth;"⟩ : MethodName)) hown (mvT hZ (hw _ (List.mem_of_getElem? (i := 0) rfl))) (mvT hZ (hw _ (List.mem_of_getElem? (i := 1) rfl))) (mvT hZ (hw _ (List.mem_of_getElem? (i := 2) rfl))) (mvT hZ (hw _ (List.mem_of_getElem? (i := 3) rfl))) (by decide) (backOf (W := 0) (rm1_1 l Z a0 hw [] xa a_FALSE a_TRUE a_EITHER h0 n0 (by omega) pr1 pr5 pr3 hm_xa) hZ (hw _ (List.mem_of_getElem? (i := 3) rfl)) (hw _ (List.mem_of_getElem? (i := 2) rfl)) (by decide) (by decide)) (g := (mkF m 1 #[.val (.int xa), .val (.int xb), .unset, .unset, .unset, .unset, .unset] [(.int xa)])) rfl (by rw [hml]; rfl) (argsL := [(.int xa)]) (rest := []) (lenOf pd_1 rfl) rfl (by show 2 * 0 + _ ≤ _; exact Nat.le_of_eq rfl) (hb hby at_1) (fun _ _ => ⟨rfl, e0, (by decide : 0 + 0 ≤ _), (by decide : 0 + 0 ≤ _)⟩)
      dsimp only [Pt.U, Pt.locs, Pt.cells, Pt.slots] at X33 lq33 yq33 zq33 st33 hQ33
      subst lq33 yq33 zq33
      obtain ⟨rfl, Nq33, eq33⟩ := hQ33
      have N33 := Fr.app N0 Nq33
      refine own_go (st' := T33.setTop (mkF m 4 #[.val (.int xa), .val (.int xb), .unset, .unset, .unset, .unset, .unset] [(.ref a_TRUE)])) (fun t k => st33 t k) ?_
      refine own_go (st' := T33.setTop (mkF m 5 #[.val (.int xa), .val (.int xb), .val (.ref a_TRUE), .unset, .unset, .unset, .unset] [])) (fun _ k => XS.astoreN X33.here hx rfl (hb hby at_4) rfl rfl (l' := #[.val (.int xa), .val (.int xb), .val (.ref a_TRUE), .unset, .unset, .unset, .unset]) rfl k) ?_
      refine own_go (st' := T33.setTop (mkF m 6 #[.val (.int xa), .val (.int xb), .val (.ref a_TRUE), .unset, .unset, .unset, .unset] [(.int xb)])) (fun _ k => XS.iloadN X33.here hx rfl (hb hby at_5) rfl k) ?_
      obtain ⟨_, _, ⟨T34, LC34, kC34, nC34⟩, -, X34, ⟨Lc34, hQ34, lq34, yq34, zq34⟩, st34⟩ := Jvm.LawKit.callS X33 hx (y := (⟨"com/example/festung/festung/engine/TruthWithinPinLaw", "pick", "(I)Lcom/example/festung/festung/engine/Truth;"⟩ : MethodName)) hown (mvT hZ (hw _ (List.mem_of_getElem? (i := 0) rfl))) (mvT hZ (hw _ (List.mem_of_getElem? (i := 1) rfl))) (mvT hZ (hw _ (List.mem_of_getElem? (i := 2) rfl))) (mvT hZ (hw _ (List.mem_of_getElem? (i := 3) rfl))) (by decide) (backOf (W := 0) (rm1_1 l Z a0 hw [] xb a_FALSE a_TRUE a_EITHER h0 n0 (by omega) pr1 pr5 pr3 hm_xb) hZ (hw _ (List.mem_of_getElem? (i := 3) rfl)) (hw _ (List.mem_of_getElem? (i := 2) rfl)) (by decide) (by decide)) (g := (mkF m 6 #[.val (.int xa), .val (.int xb), .val (.ref a_TRUE), .unset, .unset, .unset, .unset] [(.int xb)])) rfl (by rw [hml]; rfl) (argsL := [(.int xb)]) (rest := []) (lenOf pd_1 rfl) rfl (by show 2 * 0 + _ ≤ _; exact Nat.le_of_eq rfl) (hb hby at_6) (fun _ _ => ⟨rfl, eq33, (by decide : 0 + 0 ≤ _), (by decide : 0 + 0 ≤ _)⟩)
      dsimp only [Pt.U, Pt.locs, Pt.cells, Pt.slots] at X34 lq34 yq34 zq34 st34 hQ34
      subst lq34 yq34 zq34
      obtain ⟨rfl, Nq34, eq34⟩ := hQ34
      have N34 := Fr.app N33 Nq34
      refine own_go (st' := T34.setTop (mkF m 9 #[.val (.int xa), .val (.int xb), .val (.ref a_TRUE), .unset, .unset, .unset, .unset] [(.ref a_TRUE)])) (fun t k => st34 t k) ?_
      refine own_go (st' := T34.setTop (mkF m 10 #[.val (.int xa), .val (.int xb), .val (.ref a_TRUE), .val (.ref a_TRUE), .unset, .unset, .unset] [])) (fun _ k => XS.astoreN X34.here hx rfl (hb hby at_9) rfl rfl (l' := #[.val (.int xa), .val (.int xb), .val (.ref a_TRUE), .val (.ref a_TRUE), .unset, .unset, .unset]) rfl k) ?_
      refine own_go (st' := T34.setTop (mkF m 11 #[.val (.int xa), .val (.int xb), .val (.ref a_TRUE), .val (.ref a_TRUE), .unset, .unset, .unset] [(.int xa)])) (fun _ k => XS.iloadN X34.here hx rfl (hb hby at_10) rfl k) ?_
      obtain ⟨_, _, ⟨T35, LC35, kC35, nC35⟩, -, X35, ⟨Lc35, hQ35, lq35, yq35, zq35⟩, st35⟩ := Jvm.LawKit.callS X34 hx (y := (⟨"com/example/festung/festung/engine/TruthWithinPinLaw", "allowed", "(I)I"⟩ : MethodName)) hown (mvT hZ (hw _ (List.mem_of_getElem? (i := 11) rfl))) (mvT hZ (hw _ (List.mem_of_getElem? (i := 12) rfl))) (mvT hZ (hw _ (List.mem_of_getElem? (i := 2) rfl))) (mvT hZ (hw _ (List.mem_of_getElem? (i := 13) rfl))) (by decide) (backOf (W := 0) (rm3_1 l Z a0 hw [] xa h0 n0 (by omega) hm_xa) hZ (hw _ (List.mem_of_getElem? (i := 13) rfl)) (hw _ (List.mem_of_getElem? (i := 2) rfl)) (by decide) (by decide)) (g := (mkF m 11 #[.val (.int xa), .val (.int xb), .val (.ref a_TRUE), .val (.ref a_TRUE), .unset, .unset, .unset] [(.int xa)])) rfl (by rw [hml]; rfl) (argsL := [(.int xa)]) (rest := []) (lenOf pd_0 rfl) rfl (by show 2 * 0 + _ ≤ _; exact Nat.le_of_eq rfl) (hb hby at_11) (fun _ _ => ⟨rfl, eq34, (by decide : 0 + 0 ≤ _), (by decide : 0 + 0 ≤ _)⟩)
      dsimp only [Pt.U, Pt.locs, Pt.cells, Pt.slots] at X35 lq35 yq35 zq35 st35 hQ35
      subst lq35 yq35 zq35
      obtain ⟨rfl, Nq35, eq35⟩ := hQ35
      have N35 := Fr.app N34 Nq35
      refine own_go (st' := T35.setTop (mkF m 14 #[.val (.int xa), .val (.int xb), .val (.ref a_TRUE), .val (.ref a_TRUE), .unset, .unset, .unset] [(.int (2 : Int32))])) (fun t k => st35 t k) ?_
      refine own_go (st' := T35.setTop (mkF m 16 #[.val (.int xa), .val (.int xb), .val (.ref a_TRUE), .val (.ref a_TRUE), .val (.int (2 : Int32)), .unset, .unset] [])) (fun _ k => XS.istore X35.here hx rfl (hb hby at_14) rfl (l' := #[.val (.int xa), .val (.int xb), .val (.ref a_TRUE), .val (.ref a_TRUE), .val (.int (2 : Int32)), .unset, .unset]) rfl k) ?_
      refine own_go (st' := T35.setTop (mkF m 17 #[.val (.int xa), .val (.int xb), .val (.ref a_TRUE), .val (.ref a_TRUE), .val (.int (2 : Int32)), .unset, .unset] [(.int xb)])) (fun _ k => XS.iloadN X35.here hx rfl (hb hby at_16) rfl k) ?_
      obtain ⟨_, _, ⟨T36, LC36, kC36, nC36⟩, -, X36, ⟨Lc36, hQ36, lq36, yq36, zq36⟩, st36⟩ := Jvm.LawKit.callS X35 hx (y := (⟨"com/example/festung/festung/engine/TruthWithinPinLaw", "allowed", "(I)I"⟩ : MethodName)) hown (mvT hZ (hw _ (List.mem_of_getElem? (i := 11) rfl))) (mvT hZ (hw _ (List.mem_of_getElem? (i := 12) rfl))) (mvT hZ (hw _ (List.mem_of_getElem? (i := 2) rfl))) (mvT hZ (hw _ (List.mem_of_getElem? (i := 13) rfl))) (by decide) (backOf (W := 0) (rm3_1 l Z a0 hw [] xb h0 n0 (by omega) hm_xb) hZ (hw _ (List.mem_of_getElem? (i := 13) rfl)) (hw _ (List.mem_of_getElem? (i := 2) rfl)) (by decide) (by decide)) (g := (mkF m 17 #[.val (.int xa), .val (.int xb), .val (.ref a_TRUE), .val (.ref a_TRUE), .val (.int (2 : Int32)), .unset, .unset] [(.int xb)])) rfl (by rw [hml]; rfl) (argsL := [(.int xb)]) (rest := []) (lenOf pd_0 rfl) rfl (by show 2 * 0 + _ ≤ _; exact Nat.le_of_eq rfl) (hb hby at_17) (fun _ _ => ⟨rfl, eq35, (by decide : 0 + 0 ≤ _), (by decide : 0 + 0 ≤ _)⟩)
      dsimp only [Pt.U, Pt.locs, Pt.cells, Pt.slots] at X36 lq36 yq36 zq36 st36 hQ36
      subst lq36 yq36 zq36
      obtain ⟨rfl, Nq36, eq36⟩ := hQ36
      have N36 := Fr.app N35 Nq36
      refine own_go (st' := T36.setTop (mkF m 20 #[.val (.int xa), .val (.int xb), .val (.ref a_TRUE), .val (.ref a_TRUE), .val (.int (2 : Int32)), .unset, .unset] [(.int (2 : Int32))])) (fun t k => st36 t k) ?_
      refine own_go (st' := T36.setTop (mkF m 22 #[.val (.int xa), .val (.int xb), .val (.ref a_TRUE), .val (.ref a_TRUE), .val (.int (2 : Int32)), .val (.int (2 : Int32)), .unset] [])) (fun _ k => XS.istore X36.here hx rfl (hb hby at_20) rfl (l' := #[.val (.int xa), .val (.int xb), .val (.ref a_TRUE), .val (.ref a_TRUE), .val (.int (2 : Int32)), .val (.int (2 : Int32)), .unset]) rfl k) ?_
      refine own_go (st' := T36.setTop (mkF m 24 #[.val (.int xa), .val (.int xb), .val (.ref a_TRUE), .val (.ref a_TRUE), .val (.int (2 : Int32)), .val (.int (2 : Int32)), .unset] [(.int (2 : Int32))])) (fun _ k => XS.iload X36.here hx rfl (hb hby at_22) rfl k) ?_
      refine own_go (st' := T36.setTop (mkF m 26 #[.val (.int xa), .val (.int xb), .val (.ref a_TRUE), .val (.ref a_TRUE), .val (.int (2 : Int32)), .val (.int (2 : Int32)), .unset] [(.int (2 : Int32)), (.int (2 : Int32))])) (fun _ k => XS.iload X36.here hx rfl (hb hby at_24) rfl k) ?_
      refine own_go (st' := T36.setTop (mkF m 27 #[.val (.int xa), .val (.int xb), .val (.ref a_TRUE), .val (.ref a_TRUE), .val (.int (2 : Int32)), .val (.int (2 : Int32)), .unset] [(.int (-1 : Int32)), (.int (2 : Int32)), (.int (2 : Int32))])) (fun _ k => XS.iconst X36.here hx rfl (hb hby at_26) k) ?_
      refine own_go (st' := T36.setTop (mkF m 28 #[.val (.int xa), .val (.int xb), .val (.ref a_TRUE), .val (.ref a_TRUE), .val (.int (2 : Int32)), .val (.int (2 : Int32)), .unset] [(.int (-3 : Int32)), (.int (2 : Int32))])) (fun _ k => XS.ixor X36.here hx rfl (hb hby at_27) rfl (by rw [show ((2 : Int32) ^^^ (-1 : Int32)) = (-3 : Int32) by decide]; exact k)) ?_
      refine own_go (st' := T36.setTop (mkF m 29 #[.val (.int xa), .val (.int xb), .val (.ref a_TRUE), .val (.ref a_TRUE), .val (.int (2 : Int32)), .val (.int (2 : Int32)), .unset] [(.int (0 : Int32))])) (fun _ k => XS.iand X36.here hx rfl (hb hby at_28) rfl (by rw [show ((2 : Int32) &&& (-3 : Int32)) = (0 : Int32) by decide]; exact k)) ?_
      have hc37 : (0 : Int32) = (0 : Int32) := by decide
      refine own_go (st' := T36.setTop (mkF m 32 #[.val (.int xa), .val (.int xb), .val (.ref a_TRUE), .val (.ref a_TRUE), .val (.int (2 : Int32)), .val (.int (2 : Int32)), .unset] [])) (fun _ k => XS.ifNo X36.here hx rfl (hb hby at_29) rfl ((if0 _ _).trans (teq hc37).2) k) ?_
      refine own_go (st' := T36.setTop (mkF m 33 #[.val (.int xa), .val (.int xb), .val (.ref a_TRUE), .val (.ref a_TRUE), .val (.int (2 : Int32)), .val (.int (2 : Int32)), .unset] [(.int (1 : Int32))])) (fun _ k => XS.iconst X36.here hx rfl (hb hby at_32) k) ?_
      refine own_go (st' := T36.setTop (mkF m 37 #[.val (.int xa), .val (.int xb), .val (.ref a_TRUE), .val (.ref a_TRUE), .val (.int (2 : Int32)), .val (.int (2 : Int32)), .unset] [(.int (1 : Int32))])) (fun _ k => XS.goto X36.here hx rfl (pc0 := 33) (pc' := 37) rfl (hb hby at_33) (by decide) (by decide) k) ?_
      refine own_go (st' := T36.setTop (mkF m 39 #[.val (.int xa), .val (.int xb), .val (.ref a_TRUE), .val (.ref a_TRUE), .val (.int (2 : Int32)), .val (.int (2 : Int32)), .val (.int (1 : Int32))] [])) (fun _ k => XS.istore X36.here hx rfl (hb hby at_37) rfl (l' := #[.val (.int xa), .val (.int xb), .val (.ref a_TRUE), .val (.ref a_TRUE), .val (.int (2 : Int32)), .val (.int (2 : Int32)), .val (.int (1 : Int32))]) rfl k) ?_
      refine own_go (st' := T36.setTop (mkF m 40 #[.val (.int xa), .val (.int xb), .val (.ref a_TRUE), .val (.ref a_TRUE), .val (.int (2 : Int32)), .val (.int (2 : Int32)), .val (.int (1 : Int32))] [(.ref a_TRUE)])) (fun _ k => XS.aloadN X36.here hx rfl (hb hby at_39) rfl rfl k) ?_
      refine own_go (st' := T36.setTop (mkF m 41 #[.val (.int xa), .val (.int xb), .val (.ref a_TRUE), .val (.ref a_TRUE), .val (.int (2 : Int32)), .val (.int (2 : Int32)), .val (.int (1 : Int32))] [(.ref a_TRUE), (.ref a_TRUE)])) (fun _ k => XS.aloadN X36.here hx rfl (hb hby at_40) rfl rfl k) ?_
      obtain ⟨cq38, kq38, q38a, q38b, q38c⟩ := isOf hZ eq36 pr6
      obtain ⟨_, _, ⟨T38, LC38, kC38, nC38⟩, -, X38, ⟨Lc38, hQ38, lq38, yq38, zq38⟩, st38⟩ := X36.virtualBack hx (y := (⟨"com/example/festung/festung/engine/Truth", "within", "(Lcom/example/festung/festung/engine/Truth;)Z"⟩ : MethodName)) (z := (⟨"com/example/festung/festung/engine/Truth", "within", "(Lcom/example/festung/festung/engine/Truth;)Z"⟩ : MethodName)) hown (mvT hZ (hw _ (List.mem_of_getElem? (i := 14) rfl))) (mvT hZ (hw _ (List.mem_of_getElem? (i := 15) rfl))) (notFace_of_selects (args := #[]) (mvT hZ (hw _ (List.mem_of_getElem? (i := 17) rfl)))) (mvT hZ (hw _ (List.mem_of_getElem? (i := 17) rfl))) (mvT hZ (hw _ (List.mem_of_getElem? (i := 16) rfl))) (by decide) (backOf (W := 0) (rm4b l Z a0 hw [] a_TRUE a_EITHER h0 n0 (by omega) pr3 (by first | assumption | exact Ne.symm (by assumption) | (apply Nat.ne_of_lt; omega) | (apply Nat.ne_of_gt; omega))) hZ (hw _ (List.mem_of_getElem? (i := 18) rfl)) (hw _ (List.mem_of_getElem? (i := 9) rfl)) (by decide) (by decide)) q38a q38c (g := (mkF m 41 #[.val (.int xa), .val (.int xb), .val (.ref a_TRUE), .val (.ref a_TRUE), .val (.int (2 : Int32)), .val (.int (2 : Int32)), .val (.int (1 : Int32))] [(.ref a_TRUE), (.ref a_TRUE)])) rfl (by rw [hml]; rfl) (Steps.refl _) (argsL := [(.ref a_TRUE)]) (rest := []) (lenOf pd_2 rfl) rfl (by show 2 * 0 + _ ≤ _; exact Nat.le_of_eq rfl) (hb hby at_41) (fun _ _ => ⟨rfl, eq36, (by decide : 0 + 0 ≤ _), (by decide : 0 + 0 ≤ _)⟩)
      dsimp only [Pt.U, Pt.locs, Pt.cells, Pt.slots] at X38 lq38 yq38 zq38 st38 hQ38
      subst lq38 yq38 zq38
      obtain ⟨rfl, Nq38, eq38⟩ := hQ38
      have N38 := Fr.app N36 Nq38
      refine own_go (st' := T38.setTop (mkF m 44 #[.val (.int xa), .val (.int xb), .val (.ref a_TRUE), .val (.ref a_TRUE), .val (.int (2 : Int32)), .val (.int (2 : Int32)), .val (.int (1 : Int32))] [(.int (1 : Int32))])) (fun _ k => st38.trans k) ?_
      refine own_go (st' := T38.setTop (mkF m 46 #[.val (.int xa), .val (.int xb), .val (.ref a_TRUE), .val (.ref a_TRUE), .val (.int (2 : Int32)), .val (.int (2 : Int32)), .val (.int (1 : Int32))] [(.int (1 : Int32)), (.int (1 : Int32))])) (fun _ k => XS.iload X38.here hx rfl (hb hby at_44) rfl k) ?_
      have hc39 : (1 : Int32) = (1 : Int32) := by decide
      refine own_go (st' := T38.setTop (mkF m 49 #[.val (.int xa), .val (.int xb), .val (.ref a_TRUE), .val (.ref a_TRUE), .val (.int (2 : Int32)), .val (.int (2 : Int32)), .val (.int (1 : Int32))] [])) (fun _ k => XS.icmpNo X38.here hx rfl (hb hby at_46) rfl (teq hc39).2 k) ?_
      refine own_go (st' := T38.setTop (mkF m 50 #[.val (.int xa), .val (.int xb), .val (.ref a_TRUE), .val (.ref a_TRUE), .val (.int (2 : Int32)), .val (.int (2 : Int32)), .val (.int (1 : Int32))] [(.int (1 : Int32))])) (fun _ k => XS.iconst X38.here hx rfl (hb hby at_49) k) ?_
      refine own_go (st' := T38.setTop (mkF m 54 #[.val (.int xa), .val (.int xb), .val (.ref a_TRUE), .val (.ref a_TRUE), .val (.int (2 : Int32)), .val (.int (2 : Int32)), .val (.int (1 : Int32))] [(.int (1 : Int32))])) (fun _ k => XS.goto X38.here hx rfl (pc0 := 50) (pc' := 54) rfl (hb hby at_50) (by decide) (by decide) k) ?_
      obtain ⟨fs, hr, hrun, hended, hW, hsame⟩ := X38.leave (v := some (.int (1 : Int32))) (fun h => by rw [Bd.returns] at h; cases h)
      refine ⟨_, _, ?_, hP _ _ hrun hended ⟨_, _, rfl, ?_, ⟨_, rfl⟩, hW, hsame.mono (by decide) (by decide)⟩⟩
      · exact retN X38 hx (t := .boolean) Bd.returns (by simp) (hb hby at_54) hr
      · show Qrm0 Z xa xb a_FALSE a_EITHER a_TRUE h0 n0 _ T38.heap _
        rw [eq38]
        exact ⟨rfl, N38, trivial⟩
    · --
      refine own_go (st' := s₁.setTop (mkF m 1 #[.val (.int xa), .val (.int xb), .unset, .unset, .unset, .unset, .unset] [(.int xa)])) (fun _ k => XS.iloadN X0.here hx rfl (hb hby at_0) rfl k) ?_
      obtain ⟨_, _, ⟨T41, LC41, kC41, nC41⟩, -, X41, ⟨Lc41, hQ41, lq41, yq41, zq41⟩, st41⟩ := Jvm.LawKit.callS X0 hx (y := (⟨"com/example/festung/festung/engine/TruthWithinPinLaw", "pick", "(I)Lcom/example/festung/festung/engine/Truth;"⟩ : MethodName)) hown (mvT hZ (hw _ (List.mem_of_getElem? (i := 0) rfl))) (mvT hZ (hw _ (List.mem_of_getElem? (i := 1) rfl))) (mvT hZ (hw _ (List.mem_of_getElem? (i := 2) rfl))) (mvT hZ (hw _ (List.mem_of_getElem? (i := 3) rfl))) (by decide) (backOf (W := 0) (rm1_1 l Z a0 hw [] xa a_FALSE a_TRUE a_EITHER h0 n0 (by omega) pr1 pr5 pr3 hm_xa) hZ (hw _ (List.mem_of_getElem? (i := 3) rfl)) (hw _ (List.mem_of_getElem? (i := 2) rfl)) (by decide) (by decide)) (g := (mkF m 1 #[.val (.int xa), .val (.int xb), .unset, .unset, .unset, .unset, .unset] [(.int xa)])) rfl (by rw [hml]; rfl) (argsL := [(.int xa)]) (rest := []) (lenOf pd_1 rfl) rfl (by show 2 * 0 + _ ≤ _; exact Nat.le_of_eq rfl) (hb hby at_1) (fun _ _ => ⟨rfl, e0, (by decide : 0 + 0 ≤ _), (by decide : 0 + 0 ≤ _)⟩)
      dsimp only [Pt.U, Pt.locs, Pt.cells, Pt.slots] at X41 lq41 yq41 zq41 st41 hQ41
      subst lq41 yq41 zq41
      obtain ⟨rfl, Nq41, eq41⟩ := hQ41
      have N41 := Fr.app N0 Nq41
      refine own_go (st' := T41.setTop (mkF m 4 #[.val (.int xa), .val (.int xb), .unset, .unset, .unset, .unset, .unset] [(.ref a_TRUE)])) (fun t k => st41 t k) ?_
      refine own_go (st' := T41.setTop (mkF m 5 #[.val (.int xa), .val (.int xb), .val (.ref a_TRUE), .unset, .unset, .unset, .unset] [])) (fun _ k => XS.astoreN X41.here hx rfl (hb hby at_4) rfl rfl (l' := #[.val (.int xa), .val (.int xb), .val (.ref a_TRUE), .unset, .unset, .unset, .unset]) rfl k) ?_
      refine own_go (st' := T41.setTop (mkF m 6 #[.val (.int xa), .val (.int xb), .val (.ref a_TRUE), .unset, .unset, .unset, .unset] [(.int xb)])) (fun _ k => XS.iloadN X41.here hx rfl (hb hby at_5) rfl k) ?_
      obtain ⟨_, _, ⟨T42, LC42, kC42, nC42⟩, -, X42, ⟨Lc42, hQ42, lq42, yq42, zq42⟩, st42⟩ := Jvm.LawKit.callS X41 hx (y := (⟨"com/example/festung/festung/engine/TruthWithinPinLaw", "pick", "(I)Lcom/example/festung/festung/engine/Truth;"⟩ : MethodName)) hown (mvT hZ (hw _ (List.mem_of_getElem? (i := 0) rfl))) (mvT hZ (hw _ (List.mem_of_getElem? (i := 1) rfl))) (mvT hZ (hw _ (List.mem_of_getElem? (i := 2) rfl))) (mvT hZ (hw _ (List.mem_of_getElem? (i := 3) rfl))) (by decide) (backOf (W := 0) (rm1_2 l Z a0 hw [] xb a_FALSE a_TRUE a_EITHER h0 n0 (by omega) pr1 pr5 pr3 hm_xb) hZ (hw _ (List.mem_of_getElem? (i := 3) rfl)) (hw _ (List.mem_of_getElem? (i := 2) rfl)) (by decide) (by decide)) (g := (mkF m 6 #[.val (.int xa), .val (.int xb), .val (.ref a_TRUE), .unset, .unset, .unset, .unset] [(.int xb)])) rfl (by rw [hml]; rfl) (argsL := [(.int xb)]) (rest := []) (lenOf pd_1 rfl) rfl (by show 2 * 0 + _ ≤ _; exact Nat.le_of_eq rfl) (hb hby at_6) (fun _ _ => ⟨rfl, eq41, (by decide : 0 + 0 ≤ _), (by decide : 0 + 0 ≤ _)⟩)
      dsimp only [Pt.U, Pt.locs, Pt.cells, Pt.slots] at X42 lq42 yq42 zq42 st42 hQ42
      subst lq42 yq42 zq42
      obtain ⟨rfl, Nq42, eq42⟩ := hQ42
      have N42 := Fr.app N41 Nq42
      refine own_go (st' := T42.setTop (mkF m 9 #[.val (.int xa), .val (.int xb), .val (.ref a_TRUE), .unset, .unset, .unset, .unset] [(.ref a_EITHER)])) (fun t k => st42 t k) ?_
      refine own_go (st' := T42.setTop (mkF m 10 #[.val (.int xa), .val (.int xb), .val (.ref a_TRUE), .val (.ref a_EITHER), .unset, .unset, .unset] [])) (fun _ k => XS.astoreN X42.here hx rfl (hb hby at_9) rfl rfl (l' := #[.val (.int xa), .val (.int xb), .val (.ref a_TRUE), .val (.ref a_EITHER), .unset, .unset, .unset]) rfl k) ?_
      refine own_go (st' := T42.setTop (mkF m 11 #[.val (.int xa), .val (.int xb), .val (.ref a_TRUE), .val (.ref a_EITHER), .unset, .unset, .unset] [(.int xa)])) (fun _ k => XS.iloadN X42.here hx rfl (hb hby at_10) rfl k) ?_
      obtain ⟨_, _, ⟨T43, LC43, kC43, nC43⟩, -, X43, ⟨Lc43, hQ43, lq43, yq43, zq43⟩, st43⟩ := Jvm.LawKit.callS X42 hx (y := (⟨"com/example/festung/festung/engine/TruthWithinPinLaw", "allowed", "(I)I"⟩ : MethodName)) hown (mvT hZ (hw _ (List.mem_of_getElem? (i := 11) rfl))) (mvT hZ (hw _ (List.mem_of_getElem? (i := 12) rfl))) (mvT hZ (hw _ (List.mem_of_getElem? (i := 2) rfl))) (mvT hZ (hw _ (List.mem_of_getElem? (i := 13) rfl))) (by decide) (backOf (W := 0) (rm3_1 l Z a0 hw [] xa h0 n0 (by omega) hm_xa) hZ (hw _ (List.mem_of_getElem? (i := 13) rfl)) (hw _ (List.mem_of_getElem? (i := 2) rfl)) (by decide) (by decide)) (g := (mkF m 11 #[.val (.int xa), .val (.int xb), .val (.ref a_TRUE), .val (.ref a_EITHER), .unset, .unset, .unset] [(.int xa)])) rfl (by rw [hml]; rfl) (argsL := [(.int xa)]) (rest := []) (lenOf pd_0 rfl) rfl (by show 2 * 0 + _ ≤ _; exact Nat.le_of_eq rfl) (hb hby at_11) (fun _ _ => ⟨rfl, eq42, (by decide : 0 + 0 ≤ _), (by decide : 0 + 0 ≤ _)⟩)
      dsimp only [Pt.U, Pt.locs, Pt.cells, Pt.slots] at X43 lq43 yq43 zq43 st43 hQ43
      subst lq43 yq43 zq43
      obtain ⟨rfl, Nq43, eq43⟩ := hQ43
      have N43 := Fr.app N42 Nq43
      refine own_go (st' := T43.setTop (mkF m 14 #[.val (.int xa), .val (.int xb), .val (.ref a_TRUE), .val (.ref a_EITHER), .unset, .unset, .unset] [(.int (2 : Int32))])) (fun t k => st43 t k) ?_
      refine own_go (st' := T43.setTop (mkF m 16 #[.val (.int xa), .val (.int xb), .val (.ref a_TRUE), .val (.ref a_EITHER), .val (.int (2 : Int32)), .unset, .unset] [])) (fun _ k => XS.istore X43.here hx rfl (hb hby at_14) rfl (l' := #[.val (.int xa), .val (.int xb), .val (.ref a_TRUE), .val (.ref a_EITHER), .val (.int (2 : Int32)), .unset, .unset]) rfl k) ?_
      refine own_go (st' := T43.setTop (mkF m 17 #[.val (.int xa), .val (.int xb), .val (.ref a_TRUE), .val (.ref a_EITHER), .val (.int (2 : Int32)), .unset, .unset] [(.int xb)])) (fun _ k => XS.iloadN X43.here hx rfl (hb hby at_16) rfl k) ?_
      obtain ⟨_, _, ⟨T44, LC44, kC44, nC44⟩, -, X44, ⟨Lc44, hQ44, lq44, yq44, zq44⟩, st44⟩ := Jvm.LawKit.callS X43 hx (y := (⟨"com/example/festung/festung/engine/TruthWithinPinLaw", "allowed", "(I)I"⟩ : MethodName)) hown (mvT hZ (hw _ (List.mem_of_getElem? (i := 11) rfl))) (mvT hZ (hw _ (List.mem_of_getElem? (i := 12) rfl))) (mvT hZ (hw _ (List.mem_of_getElem? (i := 2) rfl))) (mvT hZ (hw _ (List.mem_of_getElem? (i := 13) rfl))) (by decide) (backOf (W := 0) (rm3_2 l Z a0 hw [] xb h0 n0 (by omega) hm_xb) hZ (hw _ (List.mem_of_getElem? (i := 13) rfl)) (hw _ (List.mem_of_getElem? (i := 2) rfl)) (by decide) (by decide)) (g := (mkF m 17 #[.val (.int xa), .val (.int xb), .val (.ref a_TRUE), .val (.ref a_EITHER), .val (.int (2 : Int32)), .unset, .unset] [(.int xb)])) rfl (by rw [hml]; rfl) (argsL := [(.int xb)]) (rest := []) (lenOf pd_0 rfl) rfl (by show 2 * 0 + _ ≤ _; exact Nat.le_of_eq rfl) (hb hby at_17) (fun _ _ => ⟨rfl, eq43, (by decide : 0 + 0 ≤ _), (by decide : 0 + 0 ≤ _)⟩)
      dsimp only [Pt.U, Pt.locs, Pt.cells, Pt.slots] at X44 lq44 yq44 zq44 st44 hQ44
      subst lq44 yq44 zq44
      obtain ⟨rfl, Nq44, eq44⟩ := hQ44
      have N44 := Fr.app N43 Nq44
      refine own_go (st' := T44.setTop (mkF m 20 #[.val (.int xa), .val (.int xb), .val (.ref a_TRUE), .val (.ref a_EITHER), .val (.int (2 : Int32)), .unset, .unset] [(.int (3 : Int32))])) (fun t k => st44 t k) ?_
      refine own_go (st' := T44.setTop (mkF m 22 #[.val (.int xa), .val (.int xb), .val (.ref a_TRUE), .val (.ref a_EITHER), .val (.int (2 : Int32)), .val (.int (3 : Int32)), .unset] [])) (fun _ k => XS.istore X44.here hx rfl (hb hby at_20) rfl (l' := #[.val (.int xa), .val (.int xb), .val (.ref a_TRUE), .val (.ref a_EITHER), .val (.int (2 : Int32)), .val (.int (3 : Int32)), .unset]) rfl k) ?_
      refine own_go (st' := T44.setTop (mkF m 24 #[.val (.int xa), .val (.int xb), .val (.ref a_TRUE), .val (.ref a_EITHER), .val (.int (2 : Int32)), .val (.int (3 : Int32)), .unset] [(.int (2 : Int32))])) (fun _ k => XS.iload X44.here hx rfl (hb hby at_22) rfl k) ?_
      refine own_go (st' := T44.setTop (mkF m 26 #[.val (.int xa), .val (.int xb), .val (.ref a_TRUE), .val (.ref a_EITHER), .val (.int (2 : Int32)), .val (.int (3 : Int32)), .unset] [(.int (3 : Int32)), (.int (2 : Int32))])) (fun _ k => XS.iload X44.here hx rfl (hb hby at_24) rfl k) ?_
      refine own_go (st' := T44.setTop (mkF m 27 #[.val (.int xa), .val (.int xb), .val (.ref a_TRUE), .val (.ref a_EITHER), .val (.int (2 : Int32)), .val (.int (3 : Int32)), .unset] [(.int (-1 : Int32)), (.int (3 : Int32)), (.int (2 : Int32))])) (fun _ k => XS.iconst X44.here hx rfl (hb hby at_26) k) ?_
      refine own_go (st' := T44.setTop (mkF m 28 #[.val (.int xa), .val (.int xb), .val (.ref a_TRUE), .val (.ref a_EITHER), .val (.int (2 : Int32)), .val (.int (3 : Int32)), .unset] [(.int (-4 : Int32)), (.int (2 : Int32))])) (fun _ k => XS.ixor X44.here hx rfl (hb hby at_27) rfl (by rw [show ((3 : Int32) ^^^ (-1 : Int32)) = (-4 : Int32) by decide]; exact k)) ?_
      refine own_go (st' := T44.setTop (mkF m 29 #[.val (.int xa), .val (.int xb), .val (.ref a_TRUE), .val (.ref a_EITHER), .val (.int (2 : Int32)), .val (.int (3 : Int32)), .unset] [(.int (0 : Int32))])) (fun _ k => XS.iand X44.here hx rfl (hb hby at_28) rfl (by rw [show ((2 : Int32) &&& (-4 : Int32)) = (0 : Int32) by decide]; exact k)) ?_
      have hc45 : (0 : Int32) = (0 : Int32) := by decide
      refine own_go (st' := T44.setTop (mkF m 32 #[.val (.int xa), .val (.int xb), .val (.ref a_TRUE), .val (.ref a_EITHER), .val (.int (2 : Int32)), .val (.int (3 : Int32)), .unset] [])) (fun _ k => XS.ifNo X44.here hx rfl (hb hby at_29) rfl ((if0 _ _).trans (teq hc45).2) k) ?_
      refine own_go (st' := T44.setTop (mkF m 33 #[.val (.int xa), .val (.int xb), .val (.ref a_TRUE), .val (.ref a_EITHER), .val (.int (2 : Int32)), .val (.int (3 : Int32)), .unset] [(.int (1 : Int32))])) (fun _ k => XS.iconst X44.here hx rfl (hb hby at_32) k) ?_
      refine own_go (st' := T44.setTop (mkF m 37 #[.val (.int xa), .val (.int xb), .val (.ref a_TRUE), .val (.ref a_EITHER), .val (.int (2 : Int32)), .val (.int (3 : Int32)), .unset] [(.int (1 : Int32))])) (fun _ k => XS.goto X44.here hx rfl (pc0 := 33) (pc' := 37) rfl (hb hby at_33) (by decide) (by decide) k) ?_
      refine own_go (st' := T44.setTop (mkF m 39 #[.val (.int xa), .val (.int xb), .val (.ref a_TRUE), .val (.ref a_EITHER), .val (.int (2 : Int32)), .val (.int (3 : Int32)), .val (.int (1 : Int32))] [])) (fun _ k => XS.istore X44.here hx rfl (hb hby at_37) rfl (l' := #[.val (.int xa), .val (.int xb), .val (.ref a_TRUE), .val (.ref a_EITHER), .val (.int (2 : Int32)), .val (.int (3 : Int32)), .val (.int (1 : Int32))]) rfl k) ?_
      refine own_go (st' := T44.setTop (mkF m 40 #[.val (.int xa), .val (.int xb), .val (.ref a_TRUE), .val (.ref a_EITHER), .val (.int (2 : Int32)), .val (.int (3 : Int32)), .val (.int (1 : Int32))] [(.ref a_TRUE)])) (fun _ k => XS.aloadN X44.here hx rfl (hb hby at_39) rfl rfl k) ?_
      refine own_go (st' := T44.setTop (mkF m 41 #[.val (.int xa), .val (.int xb), .val (.ref a_TRUE), .val (.ref a_EITHER), .val (.int (2 : Int32)), .val (.int (3 : Int32)), .val (.int (1 : Int32))] [(.ref a_EITHER), (.ref a_TRUE)])) (fun _ k => XS.aloadN X44.here hx rfl (hb hby at_40) rfl rfl k) ?_
      obtain ⟨cq46, kq46, q46a, q46b, q46c⟩ := isOf hZ eq44 pr6
      obtain ⟨_, _, ⟨T46, LC46, kC46, nC46⟩, -, X46, ⟨Lc46, hQ46, lq46, yq46, zq46⟩, st46⟩ := X44.virtualBack hx (y := (⟨"com/example/festung/festung/engine/Truth", "within", "(Lcom/example/festung/festung/engine/Truth;)Z"⟩ : MethodName)) (z := (⟨"com/example/festung/festung/engine/Truth", "within", "(Lcom/example/festung/festung/engine/Truth;)Z"⟩ : MethodName)) hown (mvT hZ (hw _ (List.mem_of_getElem? (i := 14) rfl))) (mvT hZ (hw _ (List.mem_of_getElem? (i := 15) rfl))) (notFace_of_selects (args := #[]) (mvT hZ (hw _ (List.mem_of_getElem? (i := 17) rfl)))) (mvT hZ (hw _ (List.mem_of_getElem? (i := 17) rfl))) (mvT hZ (hw _ (List.mem_of_getElem? (i := 16) rfl))) (by decide) (backOf (W := 0) (rm4a l Z a0 hw [] a_TRUE a_EITHER h0 n0 (by omega) pr3) hZ (hw _ (List.mem_of_getElem? (i := 18) rfl)) (hw _ (List.mem_of_getElem? (i := 9) rfl)) (by decide) (by decide)) q46a q46c (g := (mkF m 41 #[.val (.int xa), .val (.int xb), .val (.ref a_TRUE), .val (.ref a_EITHER), .val (.int (2 : Int32)), .val (.int (3 : Int32)), .val (.int (1 : Int32))] [(.ref a_EITHER), (.ref a_TRUE)])) rfl (by rw [hml]; rfl) (Steps.refl _) (argsL := [(.ref a_EITHER)]) (rest := []) (lenOf pd_2 rfl) rfl (by show 2 * 0 + _ ≤ _; exact Nat.le_of_eq rfl) (hb hby at_41) (fun _ _ => ⟨rfl, eq44, (by decide : 0 + 0 ≤ _), (by decide : 0 + 0 ≤ _)⟩)
      dsimp only [Pt.U, Pt.locs, Pt.cells, Pt.slots] at X46 lq46 yq46 zq46 st46 hQ46
      subst lq46 yq46 zq46
      obtain ⟨rfl, Nq46, eq46⟩ := hQ46
      have N46 := Fr.app N44 Nq46
      refine own_go (st' := T46.setTop (mkF m 44 #[.val (.int xa), .val (.int xb), .val (.ref a_TRUE), .val (.ref a_EITHER), .val (.int (2 : Int32)), .val (.int (3 : Int32)), .val (.int (1 : Int32))] [(.int (1 : Int32))])) (fun _ k => st46.trans k) ?_
      refine own_go (st' := T46.setTop (mkF m 46 #[.val (.int xa), .val (.int xb), .val (.ref a_TRUE), .val (.ref a_EITHER), .val (.int (2 : Int32)), .val (.int (3 : Int32)), .val (.int (1 : Int32))] [(.int (1 : Int32)), (.int (1 : Int32))])) (fun _ k => XS.iload X46.here hx rfl (hb hby at_44) rfl k) ?_
      have hc47 : (1 : Int32) = (1 : Int32) := by decide
      refine own_go (st' := T46.setTop (mkF m 49 #[.val (.int xa), .val (.int xb), .val (.ref a_TRUE), .val (.ref a_EITHER), .val (.int (2 : Int32)), .val (.int (3 : Int32)), .val (.int (1 : Int32))] [])) (fun _ k => XS.icmpNo X46.here hx rfl (hb hby at_46) rfl (teq hc47).2 k) ?_
      refine own_go (st' := T46.setTop (mkF m 50 #[.val (.int xa), .val (.int xb), .val (.ref a_TRUE), .val (.ref a_EITHER), .val (.int (2 : Int32)), .val (.int (3 : Int32)), .val (.int (1 : Int32))] [(.int (1 : Int32))])) (fun _ k => XS.iconst X46.here hx rfl (hb hby at_49) k) ?_
      refine own_go (st' := T46.setTop (mkF m 54 #[.val (.int xa), .val (.int xb), .val (.ref a_TRUE), .val (.ref a_EITHER), .val (.int (2 : Int32)), .val (.int (3 : Int32)), .val (.int (1 : Int32))] [(.int (1 : Int32))])) (fun _ k => XS.goto X46.here hx rfl (pc0 := 50) (pc' := 54) rfl (hb hby at_50) (by decide) (by decide) k) ?_
      obtain ⟨fs, hr, hrun, hended, hW, hsame⟩ := X46.leave (v := some (.int (1 : Int32))) (fun h => by rw [Bd.returns] at h; cases h)
      refine ⟨_, _, ?_, hP _ _ hrun hended ⟨_, _, rfl, ?_, ⟨_, rfl⟩, hW, hsame.mono (by decide) (by decide)⟩⟩
      · exact retN X46 hx (t := .boolean) Bd.returns (by simp) (hb hby at_54) hr
      · show Qrm0 Z xa xb a_FALSE a_EITHER a_TRUE h0 n0 _ T46.heap _
        rw [eq46]
        exact ⟨rfl, N46, trivial⟩
    · --
      exact absurd hm_xb (own_pos xb)
  · --
    rcases own_mod3 (xb &&& (2147483647 : Int32)) with hm_xb | hm_xb | hm_xb | hm_xb
    · --
      refine own_go (st' := s₁.setTop (mkF m 1 #[.val (.int xa), .val (.int xb), .unset, .unset, .unset, .unset, .unset] [(.int xa)])) (fun _ k => XS.iloadN X0.here hx rfl (hb hby at_0) rfl k) ?_
      obtain ⟨_, _, ⟨T49, LC49, kC49, nC49⟩, -, X49, ⟨Lc49, hQ49, lq49, yq49, zq49⟩, st49⟩ := Jvm.LawKit.callS X0 hx (y := (⟨"com/example/festung/festung/engine/TruthWithinPinLaw", "pick", "(I)Lcom/example/festung/festung/engine/Truth;"⟩ : MethodName)) hown (mvT hZ (hw _ (List.mem_of_getElem? (i := 0) rfl))) (mvT hZ (hw _ (List.mem_of_getElem? (i := 1) rfl))) (mvT hZ (hw _ (List.mem_of_getElem? (i := 2) rfl))) (mvT hZ (hw _ (List.mem_of_getElem? (i := 3) rfl))) (by decide) (backOf (W := 0) (rm1_2 l Z a0 hw [] xa a_FALSE a_TRUE a_EITHER h0 n0 (by omega) pr1 pr5 pr3 hm_xa) hZ (hw _ (List.mem_of_getElem? (i := 3) rfl)) (hw _ (List.mem_of_getElem? (i := 2) rfl)) (by decide) (by decide)) (g := (mkF m 1 #[.val (.int xa), .val (.int xb), .unset, .unset, .unset, .unset, .unset] [(.int xa)])) rfl (by rw [hml]; rfl) (argsL := [(.int xa)]) (rest := []) (lenOf pd_1 rfl) rfl (by show 2 * 0 + _ ≤ _; exact Nat.le_of_eq rfl) (hb hby at_1) (fun _ _ => ⟨rfl, e0, (by decide : 0 + 0 ≤ _), (by decide : 0 + 0 ≤ _)⟩)
      dsimp only [Pt.U, Pt.locs, Pt.cells, Pt.slots] at X49 lq49 yq49 zq49 st49 hQ49
      subst lq49 yq49 zq49
      obtain ⟨rfl, Nq49, eq49⟩ := hQ49
      have N49 := Fr.app N0 Nq49
      refine own_go (st' := T49.setTop (mkF m 4 #[.val (.int xa), .val (.int xb), .unset, .unset, .unset, .unset, .unset] [(.ref a_EITHER)])) (fun t k => st49 t k) ?_
      refine own_go (st' := T49.setTop (mkF m 5 #[.val (.int xa), .val (.int xb), .val (.ref a_EITHER), .unset, .unset, .unset, .unset] [])) (fun _ k => XS.astoreN X49.here hx rfl (hb hby at_4) rfl rfl (l' := #[.val (.int xa), .val (.int xb), .val (.ref a_EITHER), .unset, .unset, .unset, .unset]) rfl k) ?_
      refine own_go (st' := T49.setTop (mkF m 6 #[.val (.int xa), .val (.int xb), .val (.ref a_EITHER), .unset, .unset, .unset, .unset] [(.int xb)])) (fun _ k => XS.iloadN X49.here hx rfl (hb hby at_5) rfl k) ?_
      obtain ⟨_, _, ⟨T50, LC50, kC50, nC50⟩, -, X50, ⟨Lc50, hQ50, lq50, yq50, zq50⟩, st50⟩ := Jvm.LawKit.callS X49 hx (y := (⟨"com/example/festung/festung/engine/TruthWithinPinLaw", "pick", "(I)Lcom/example/festung/festung/engine/Truth;"⟩ : MethodName)) hown (mvT hZ (hw _ (List.mem_of_getElem? (i := 0) rfl))) (mvT hZ (hw _ (List.mem_of_getElem? (i := 1) rfl))) (mvT hZ (hw _ (List.mem_of_getElem? (i := 2) rfl))) (mvT hZ (hw _ (List.mem_of_getElem? (i := 3) rfl))) (by decide) (backOf (W := 0) (rm1_0 l Z a0 hw [] xb a_FALSE a_TRUE a_EITHER h0 n0 (by omega) pr1 pr5 pr3 hm_xb) hZ (hw _ (List.mem_of_getElem? (i := 3) rfl)) (hw _ (List.mem_of_getElem? (i := 2) rfl)) (by decide) (by decide)) (g := (mkF m 6 #[.val (.int xa), .val (.int xb), .val (.ref a_EITHER), .unset, .unset, .unset, .unset] [(.int xb)])) rfl (by rw [hml]; rfl) (argsL := [(.int xb)]) (rest := []) (lenOf pd_1 rfl) rfl (by show 2 * 0 + _ ≤ _; exact Nat.le_of_eq rfl) (hb hby at_6) (fun _ _ => ⟨rfl, eq49, (by decide : 0 + 0 ≤ _), (by decide : 0 + 0 ≤ _)⟩)
      dsimp only [Pt.U, Pt.locs, Pt.cells, Pt.slots] at X50 lq50 yq50 zq50 st50 hQ50
      subst lq50 yq50 zq50
      obtain ⟨rfl, Nq50, eq50⟩ := hQ50
      have N50 := Fr.app N49 Nq50
      refine own_go (st' := T50.setTop (mkF m 9 #[.val (.int xa), .val (.int xb), .val (.ref a_EITHER), .unset, .unset, .unset, .unset] [(.ref a_FALSE)])) (fun t k => st50 t k) ?_
      refine own_go (st' := T50.setTop (mkF m 10 #[.val (.int xa), .val (.int xb), .val (.ref a_EITHER), .val (.ref a_FALSE), .unset, .unset, .unset] [])) (fun _ k => XS.astoreN X50.here hx rfl (hb hby at_9) rfl rfl (l' := #[.val (.int xa), .val (.int xb), .val (.ref a_EITHER), .val (.ref a_FALSE), .unset, .unset, .unset]) rfl k) ?_
      refine own_go (st' := T50.setTop (mkF m 11 #[.val (.int xa), .val (.int xb), .val (.ref a_EITHER), .val (.ref a_FALSE), .unset, .unset, .unset] [(.int xa)])) (fun _ k => XS.iloadN X50.here hx rfl (hb hby at_10) rfl k) ?_
      obtain ⟨_, _, ⟨T51, LC51, kC51, nC51⟩, -, X51, ⟨Lc51, hQ51, lq51, yq51, zq51⟩, st51⟩ := Jvm.LawKit.callS X50 hx (y := (⟨"com/example/festung/festung/engine/TruthWithinPinLaw", "allowed", "(I)I"⟩ : MethodName)) hown (mvT hZ (hw _ (List.mem_of_getElem? (i := 11) rfl))) (mvT hZ (hw _ (List.mem_of_getElem? (i := 12) rfl))) (mvT hZ (hw _ (List.mem_of_getElem? (i := 2) rfl))) (mvT hZ (hw _ (List.mem_of_getElem? (i := 13) rfl))) (by decide) (backOf (W := 0) (rm3_2 l Z a0 hw [] xa h0 n0 (by omega) hm_xa) hZ (hw _ (List.mem_of_getElem? (i := 13) rfl)) (hw _ (List.mem_of_getElem? (i := 2) rfl)) (by decide) (by decide)) (g := (mkF m 11 #[.val (.int xa), .val (.int xb), .val (.ref a_EITHER), .val (.ref a_FALSE), .unset, .unset, .unset] [(.int xa)])) rfl (by rw [hml]; rfl) (argsL := [(.int xa)]) (rest := []) (lenOf pd_0 rfl) rfl (by show 2 * 0 + _ ≤ _; exact Nat.le_of_eq rfl) (hb hby at_11) (fun _ _ => ⟨rfl, eq50, (by decide : 0 + 0 ≤ _), (by decide : 0 + 0 ≤ _)⟩)
      dsimp only [Pt.U, Pt.locs, Pt.cells, Pt.slots] at X51 lq51 yq51 zq51 st51 hQ51
      subst lq51 yq51 zq51
      obtain ⟨rfl, Nq51, eq51⟩ := hQ51
      have N51 := Fr.app N50 Nq51
      refine own_go (st' := T51.setTop (mkF m 14 #[.val (.int xa), .val (.int xb), .val (.ref a_EITHER), .val (.ref a_FALSE), .unset, .unset, .unset] [(.int (3 : Int32))])) (fun t k => st51 t k) ?_
      refine own_go (st' := T51.setTop (mkF m 16 #[.val (.int xa), .val (.int xb), .val (.ref a_EITHER), .val (.ref a_FALSE), .val (.int (3 : Int32)), .unset, .unset] [])) (fun _ k => XS.istore X51.here hx rfl (hb hby at_14) rfl (l' := #[.val (.int xa), .val (.int xb), .val (.ref a_EITHER), .val (.ref a_FALSE), .val (.int (3 : Int32)), .unset, .unset]) rfl k) ?_
      refine own_go (st' := T51.setTop (mkF m 17 #[.val (.int xa), .val (.int xb), .val (.ref a_EITHER), .val (.ref a_FALSE), .val (.int (3 : Int32)), .unset, .unset] [(.int xb)])) (fun _ k => XS.iloadN X51.here hx rfl (hb hby at_16) rfl k) ?_
      obtain ⟨_, _, ⟨T52, LC52, kC52, nC52⟩, -, X52, ⟨Lc52, hQ52, lq52, yq52, zq52⟩, st52⟩ := Jvm.LawKit.callS X51 hx (y := (⟨"com/example/festung/festung/engine/TruthWithinPinLaw", "allowed", "(I)I"⟩ : MethodName)) hown (mvT hZ (hw _ (List.mem_of_getElem? (i := 11) rfl))) (mvT hZ (hw _ (List.mem_of_getElem? (i := 12) rfl))) (mvT hZ (hw _ (List.mem_of_getElem? (i := 2) rfl))) (mvT hZ (hw _ (List.mem_of_getElem? (i := 13) rfl))) (by decide) (backOf (W := 0) (rm3_0 l Z a0 hw [] xb h0 n0 (by omega) hm_xb) hZ (hw _ (List.mem_of_getElem? (i := 13) rfl)) (hw _ (List.mem_of_getElem? (i := 2) rfl)) (by decide) (by decide)) (g := (mkF m 17 #[.val (.int xa), .val (.int xb), .val (.ref a_EITHER), .val (.ref a_FALSE), .val (.int (3 : Int32)), .unset, .unset] [(.int xb)])) rfl (by rw [hml]; rfl) (argsL := [(.int xb)]) (rest := []) (lenOf pd_0 rfl) rfl (by show 2 * 0 + _ ≤ _; exact Nat.le_of_eq rfl) (hb hby at_17) (fun _ _ => ⟨rfl, eq51, (by decide : 0 + 0 ≤ _), (by decide : 0 + 0 ≤ _)⟩)
      dsimp only [Pt.U, Pt.locs, Pt.cells, Pt.slots] at X52 lq52 yq52 zq52 st52 hQ52
      subst lq52 yq52 zq52
      obtain ⟨rfl, Nq52, eq52⟩ := hQ52
      have N52 := Fr.app N51 Nq52
      refine own_go (st' := T52.setTop (mkF m 20 #[.val (.int xa), .val (.int xb), .val (.ref a_EITHER), .val (.ref a_FALSE), .val (.int (3 : Int32)), .unset, .unset] [(.int (1 : Int32))])) (fun t k => st52 t k) ?_
      refine own_go (st' := T52.setTop (mkF m 22 #[.val (.int xa), .val (.int xb), .val (.ref a_EITHER), .val (.ref a_FALSE), .val (.int (3 : Int32)), .val (.int (1 : Int32)), .unset] [])) (fun _ k => XS.istore X52.here hx rfl (hb hby at_20) rfl (l' := #[.val (.int xa), .val (.int xb), .val (.ref a_EITHER), .val (.ref a_FALSE), .val (.int (3 : Int32)), .val (.int (1 : Int32)), .unset]) rfl k) ?_
      refine own_go (st' := T52.setTop (mkF m 24 #[.val (.int xa), .val (.int xb), .val (.ref a_EITHER), .val (.ref a_FALSE), .val (.int (3 : Int32)), .val (.int (1 : Int32)), .unset] [(.int (3 : Int32))])) (fun _ k => XS.iload X52.here hx rfl (hb hby at_22) rfl k) ?_
      refine own_go (st' := T52.setTop (mkF m 26 #[.val (.int xa), .val (.int xb), .val (.ref a_EITHER), .val (.ref a_FALSE), .val (.int (3 : Int32)), .val (.int (1 : Int32)), .unset] [(.int (1 : Int32)), (.int (3 : Int32))])) (fun _ k => XS.iload X52.here hx rfl (hb hby at_24) rfl k) ?_
      refine own_go (st' := T52.setTop (mkF m 27 #[.val (.int xa), .val (.int xb), .val (.ref a_EITHER), .val (.ref a_FALSE), .val (.int (3 : Int32)), .val (.int (1 : Int32)), .unset] [(.int (-1 : Int32)), (.int (1 : Int32)), (.int (3 : Int32))])) (fun _ k => XS.iconst X52.here hx rfl (hb hby at_26) k) ?_
      refine own_go (st' := T52.setTop (mkF m 28 #[.val (.int xa), .val (.int xb), .val (.ref a_EITHER), .val (.ref a_FALSE), .val (.int (3 : Int32)), .val (.int (1 : Int32)), .unset] [(.int (-2 : Int32)), (.int (3 : Int32))])) (fun _ k => XS.ixor X52.here hx rfl (hb hby at_27) rfl (by rw [show ((1 : Int32) ^^^ (-1 : Int32)) = (-2 : Int32) by decide]; exact k)) ?_
      refine own_go (st' := T52.setTop (mkF m 29 #[.val (.int xa), .val (.int xb), .val (.ref a_EITHER), .val (.ref a_FALSE), .val (.int (3 : Int32)), .val (.int (1 : Int32)), .unset] [(.int (2 : Int32))])) (fun _ k => XS.iand X52.here hx rfl (hb hby at_28) rfl (by rw [show ((3 : Int32) &&& (-2 : Int32)) = (2 : Int32) by decide]; exact k)) ?_
      have hc53 : ¬ ((2 : Int32) = (0 : Int32)) := by decide
      refine own_go (st' := T52.setTop (mkF m 36 #[.val (.int xa), .val (.int xb), .val (.ref a_EITHER), .val (.ref a_FALSE), .val (.int (3 : Int32)), .val (.int (1 : Int32)), .unset] [])) (fun _ k => XS.ifYes X52.here hx rfl (pc0 := 29) (pc' := 36) rfl (hb hby at_29) rfl ((if0 _ _).trans (feq hc53).2) (by decide) (by decide) k) ?_
      refine own_go (st' := T52.setTop (mkF m 37 #[.val (.int xa), .val (.int xb), .val (.ref a_EITHER), .val (.ref a_FALSE), .val (.int (3 : Int32)), .val (.int (1 : Int32)), .unset] [(.int (0 : Int32))])) (fun _ k => XS.iconst X52.here hx rfl (hb hby at_36) k) ?_
      refine own_go (st' := T52.setTop (mkF m 39 #[.val (.int xa), .val (.int xb), .val (.ref a_EITHER), .val (.ref a_FALSE), .val (.int (3 : Int32)), .val (.int (1 : Int32)), .val (.int (0 : Int32))] [])) (fun _ k => XS.istore X52.here hx rfl (hb hby at_37) rfl (l' := #[.val (.int xa), .val (.int xb), .val (.ref a_EITHER), .val (.ref a_FALSE), .val (.int (3 : Int32)), .val (.int (1 : Int32)), .val (.int (0 : Int32))]) rfl k) ?_
      refine own_go (st' := T52.setTop (mkF m 40 #[.val (.int xa), .val (.int xb), .val (.ref a_EITHER), .val (.ref a_FALSE), .val (.int (3 : Int32)), .val (.int (1 : Int32)), .val (.int (0 : Int32))] [(.ref a_EITHER)])) (fun _ k => XS.aloadN X52.here hx rfl (hb hby at_39) rfl rfl k) ?_
      refine own_go (st' := T52.setTop (mkF m 41 #[.val (.int xa), .val (.int xb), .val (.ref a_EITHER), .val (.ref a_FALSE), .val (.int (3 : Int32)), .val (.int (1 : Int32)), .val (.int (0 : Int32))] [(.ref a_FALSE), (.ref a_EITHER)])) (fun _ k => XS.aloadN X52.here hx rfl (hb hby at_40) rfl rfl k) ?_
      obtain ⟨cq54, kq54, q54a, q54b, q54c⟩ := isOf hZ eq52 pr4
      obtain ⟨_, _, ⟨T54, LC54, kC54, nC54⟩, -, X54, ⟨Lc54, hQ54, lq54, yq54, zq54⟩, st54⟩ := X52.virtualBack hx (y := (⟨"com/example/festung/festung/engine/Truth", "within", "(Lcom/example/festung/festung/engine/Truth;)Z"⟩ : MethodName)) (z := (⟨"com/example/festung/festung/engine/Truth", "within", "(Lcom/example/festung/festung/engine/Truth;)Z"⟩ : MethodName)) hown (mvT hZ (hw _ (List.mem_of_getElem? (i := 14) rfl))) (mvT hZ (hw _ (List.mem_of_getElem? (i := 15) rfl))) (notFace_of_selects (args := #[]) (mvT hZ (hw _ (List.mem_of_getElem? (i := 17) rfl)))) (mvT hZ (hw _ (List.mem_of_getElem? (i := 17) rfl))) (mvT hZ (hw _ (List.mem_of_getElem? (i := 16) rfl))) (by decide) (backOf (W := 0) (rm4c l Z a0 hw [] a_EITHER a_FALSE a_EITHER h0 n0 (by omega) pr3 (by first | assumption | exact Ne.symm (by assumption) | (apply Nat.ne_of_lt; omega) | (apply Nat.ne_of_gt; omega)) (by first | assumption | exact Ne.symm (by assumption) | (apply Nat.ne_of_lt; omega) | (apply Nat.ne_of_gt; omega))) hZ (hw _ (List.mem_of_getElem? (i := 18) rfl)) (hw _ (List.mem_of_getElem? (i := 9) rfl)) (by decide) (by decide)) q54a q54c (g := (mkF m 41 #[.val (.int xa), .val (.int xb), .val (.ref a_EITHER), .val (.ref a_FALSE), .val (.int (3 : Int32)), .val (.int (1 : Int32)), .val (.int (0 : Int32))] [(.ref a_FALSE), (.ref a_EITHER)])) rfl (by rw [hml]; rfl) (Steps.refl _) (argsL := [(.ref a_FALSE)]) (rest := []) (lenOf pd_2 rfl) rfl (by show 2 * 0 + _ ≤ _; exact Nat.le_of_eq rfl) (hb hby at_41) (fun _ _ => ⟨rfl, eq52, (by decide : 0 + 0 ≤ _), (by decide : 0 + 0 ≤ _)⟩)
      dsimp only [Pt.U, Pt.locs, Pt.cells, Pt.slots] at X54 lq54 yq54 zq54 st54 hQ54
      subst lq54 yq54 zq54
      obtain ⟨rfl, Nq54, eq54⟩ := hQ54
      have N54 := Fr.app N52 Nq54
      refine own_go (st' := T54.setTop (mkF m 44 #[.val (.int xa), .val (.int xb), .val (.ref a_EITHER), .val (.ref a_FALSE), .val (.int (3 : Int32)), .val (.int (1 : Int32)), .val (.int (0 : Int32))] [(.int (0 : Int32))])) (fun _ k => st54.trans k) ?_
      refine own_go (st' := T54.setTop (mkF m 46 #[.val (.int xa), .val (.int xb), .val (.ref a_EITHER), .val (.ref a_FALSE), .val (.int (3 : Int32)), .val (.int (1 : Int32)), .val (.int (0 : Int32))] [(.int (0 : Int32)), (.int (0 : Int32))])) (fun _ k => XS.iload X54.here hx rfl (hb hby at_44) rfl k) ?_
      have hc55 : (0 : Int32) = (0 : Int32) := by decide
      refine own_go (st' := T54.setTop (mkF m 49 #[.val (.int xa), .val (.int xb), .val (.ref a_EITHER), .val (.ref a_FALSE), .val (.int (3 : Int32)), .val (.int (1 : Int32)), .val (.int (0 : Int32))] [])) (fun _ k => XS.icmpNo X54.here hx rfl (hb hby at_46) rfl (teq hc55).2 k) ?_
      refine own_go (st' := T54.setTop (mkF m 50 #[.val (.int xa), .val (.int xb), .val (.ref a_EITHER), .val (.ref a_FALSE), .val (.int (3 : Int32)), .val (.int (1 : Int32)), .val (.int (0 : Int32))] [(.int (1 : Int32))])) (fun _ k => XS.iconst X54.here hx rfl (hb hby at_49) k) ?_
      refine own_go (st' := T54.setTop (mkF m 54 #[.val (.int xa), .val (.int xb), .val (.ref a_EITHER), .val (.ref a_FALSE), .val (.int (3 : Int32)), .val (.int (1 : Int32)), .val (.int (0 : Int32))] [(.int (1 : Int32))])) (fun _ k => XS.goto X54.here hx rfl (pc0 := 50) (pc' := 54) rfl (hb hby at_50) (by decide) (by decide) k) ?_
      obtain ⟨fs, hr, hrun, hended, hW, hsame⟩ := X54.leave (v := some (.int (1 : Int32))) (fun h => by rw [Bd.returns] at h; cases h)
      refine ⟨_, _, ?_, hP _ _ hrun hended ⟨_, _, rfl, ?_, ⟨_, rfl⟩, hW, hsame.mono (by decide) (by decide)⟩⟩
      · exact retN X54 hx (t := .boolean) Bd.returns (by simp) (hb hby at_54) hr
      · show Qrm0 Z xa xb a_FALSE a_EITHER a_TRUE h0 n0 _ T54.heap _
        rw [eq54]
        exact ⟨rfl, N54, trivial⟩
    · --
      refine own_go (st' := s₁.setTop (mkF m 1 #[.val (.int xa), .val (.int xb), .unset, .unset, .unset, .unset, .unset] [(.int xa)])) (fun _ k => XS.iloadN X0.here hx rfl (hb hby at_0) rfl k) ?_
      obtain ⟨_, _, ⟨T57, LC57, kC57, nC57⟩, -, X57, ⟨Lc57, hQ57, lq57, yq57, zq57⟩, st57⟩ := Jvm.LawKit.callS X0 hx (y := (⟨"com/example/festung/festung/engine/TruthWithinPinLaw", "pick", "(I)Lcom/example/festung/festung/engine/Truth;"⟩ : MethodName)) hown (mvT hZ (hw _ (List.mem_of_getElem? (i := 0) rfl))) (mvT hZ (hw _ (List.mem_of_getElem? (i := 1) rfl))) (mvT hZ (hw _ (List.mem_of_getElem? (i := 2) rfl))) (mvT hZ (hw _ (List.mem_of_getElem? (i := 3) rfl))) (by decide) (backOf (W := 0) (rm1_2 l Z a0 hw [] xa a_FALSE a_TRUE a_EITHER h0 n0 (by omega) pr1 pr5 pr3 hm_xa) hZ (hw _ (List.mem_of_getElem? (i := 3) rfl)) (hw _ (List.mem_of_getElem? (i := 2) rfl)) (by decide) (by decide)) (g := (mkF m 1 #[.val (.int xa), .val (.int xb), .unset, .unset, .unset, .unset, .unset] [(.int xa)])) rfl (by rw [hml]; rfl) (argsL := [(.int xa)]) (rest := []) (lenOf pd_1 rfl) rfl (by show 2 * 0 + _ ≤ _; exact Nat.le_of_eq rfl) (hb hby at_1) (fun _ _ => ⟨rfl, e0, (by decide : 0 + 0 ≤ _), (by decide : 0 + 0 ≤ _)⟩)
      dsimp only [Pt.U, Pt.locs, Pt.cells, Pt.slots] at X57 lq57 yq57 zq57 st57 hQ57
      subst lq57 yq57 zq57
      obtain ⟨rfl, Nq57, eq57⟩ := hQ57
      have N57 := Fr.app N0 Nq57
      refine own_go (st' := T57.setTop (mkF m 4 #[.val (.int xa), .val (.int xb), .unset, .unset, .unset, .unset, .unset] [(.ref a_EITHER)])) (fun t k => st57 t k) ?_
      refine own_go (st' := T57.setTop (mkF m 5 #[.val (.int xa), .val (.int xb), .val (.ref a_EITHER), .unset, .unset, .unset, .unset] [])) (fun _ k => XS.astoreN X57.here hx rfl (hb hby at_4) rfl rfl (l' := #[.val (.int xa), .val (.int xb), .val (.ref a_EITHER), .unset, .unset, .unset, .unset]) rfl k) ?_
      refine own_go (st' := T57.setTop (mkF m 6 #[.val (.int xa), .val (.int xb), .val (.ref a_EITHER), .unset, .unset, .unset, .unset] [(.int xb)])) (fun _ k => XS.iloadN X57.here hx rfl (hb hby at_5) rfl k) ?_
      obtain ⟨_, _, ⟨T58, LC58, kC58, nC58⟩, -, X58, ⟨Lc58, hQ58, lq58, yq58, zq58⟩, st58⟩ := Jvm.LawKit.callS X57 hx (y := (⟨"com/example/festung/festung/engine/TruthWithinPinLaw", "pick", "(I)Lcom/example/festung/festung/engine/Truth;"⟩ : MethodName)) hown (mvT hZ (hw _ (List.mem_of_getElem? (i := 0) rfl))) (mvT hZ (hw _ (List.mem_of_getElem? (i := 1) rfl))) (mvT hZ (hw _ (List.mem_of_getElem? (i := 2) rfl))) (mvT hZ (hw _ (List.mem_of_getElem? (i := 3) rfl))) (by decide) (backOf (W := 0) (rm1_1 l Z a0 hw [] xb a_FALSE a_TRUE a_EITHER h0 n0 (by omega) pr1 pr5 pr3 hm_xb) hZ (hw _ (List.mem_of_getElem? (i := 3) rfl)) (hw _ (List.mem_of_getElem? (i := 2) rfl)) (by decide) (by decide)) (g := (mkF m 6 #[.val (.int xa), .val (.int xb), .val (.ref a_EITHER), .unset, .unset, .unset, .unset] [(.int xb)])) rfl (by rw [hml]; rfl) (argsL := [(.int xb)]) (rest := []) (lenOf pd_1 rfl) rfl (by show 2 * 0 + _ ≤ _; exact Nat.le_of_eq rfl) (hb hby at_6) (fun _ _ => ⟨rfl, eq57, (by decide : 0 + 0 ≤ _), (by decide : 0 + 0 ≤ _)⟩)
      dsimp only [Pt.U, Pt.locs, Pt.cells, Pt.slots] at X58 lq58 yq58 zq58 st58 hQ58
      subst lq58 yq58 zq58
      obtain ⟨rfl, Nq58, eq58⟩ := hQ58
      have N58 := Fr.app N57 Nq58
      refine own_go (st' := T58.setTop (mkF m 9 #[.val (.int xa), .val (.int xb), .val (.ref a_EITHER), .unset, .unset, .unset, .unset] [(.ref a_TRUE)])) (fun t k => st58 t k) ?_
      refine own_go (st' := T58.setTop (mkF m 10 #[.val (.int xa), .val (.int xb), .val (.ref a_EITHER), .val (.ref a_TRUE), .unset, .unset, .unset] [])) (fun _ k => XS.astoreN X58.here hx rfl (hb hby at_9) rfl rfl (l' := #[.val (.int xa), .val (.int xb), .val (.ref a_EITHER), .val (.ref a_TRUE), .unset, .unset, .unset]) rfl k) ?_
      refine own_go (st' := T58.setTop (mkF m 11 #[.val (.int xa), .val (.int xb), .val (.ref a_EITHER), .val (.ref a_TRUE), .unset, .unset, .unset] [(.int xa)])) (fun _ k => XS.iloadN X58.here hx rfl (hb hby at_10) rfl k) ?_
      obtain ⟨_, _, ⟨T59, LC59, kC59, nC59⟩, -, X59, ⟨Lc59, hQ59, lq59, yq59, zq59⟩, st59⟩ := Jvm.LawKit.callS X58 hx (y := (⟨"com/example/festung/festung/engine/TruthWithinPinLaw", "allowed", "(I)I"⟩ : MethodName)) hown (mvT hZ (hw _ (List.mem_of_getElem? (i := 11) rfl))) (mvT hZ (hw _ (List.mem_of_getElem? (i := 12) rfl))) (mvT hZ (hw _ (List.mem_of_getElem? (i := 2) rfl))) (mvT hZ (hw _ (List.mem_of_getElem? (i := 13) rfl))) (by decide) (backOf (W := 0) (rm3_2 l Z a0 hw [] xa h0 n0 (by omega) hm_xa) hZ (hw _ (List.mem_of_getElem? (i := 13) rfl)) (hw _ (List.mem_of_getElem? (i := 2) rfl)) (by decide) (by decide)) (g := (mkF m 11 #[.val (.int xa), .val (.int xb), .val (.ref a_EITHER), .val (.ref a_TRUE), .unset, .unset, .unset] [(.int xa)])) rfl (by rw [hml]; rfl) (argsL := [(.int xa)]) (rest := []) (lenOf pd_0 rfl) rfl (by show 2 * 0 + _ ≤ _; exact Nat.le_of_eq rfl) (hb hby at_11) (fun _ _ => ⟨rfl, eq58, (by decide : 0 + 0 ≤ _), (by decide : 0 + 0 ≤ _)⟩)
      dsimp only [Pt.U, Pt.locs, Pt.cells, Pt.slots] at X59 lq59 yq59 zq59 st59 hQ59
      subst lq59 yq59 zq59
      obtain ⟨rfl, Nq59, eq59⟩ := hQ59
      have N59 := Fr.app N58 Nq59
      refine own_go (st' := T59.setTop (mkF m 14 #[.val (.int xa), .val (.int xb), .val (.ref a_EITHER), .val (.ref a_TRUE), .unset, .unset, .unset] [(.int (3 : Int32))])) (fun t k => st59 t k) ?_
      refine own_go (st' := T59.setTop (mkF m 16 #[.val (.int xa), .val (.int xb), .val (.ref a_EITHER), .val (.ref a_TRUE), .val (.int (3 : Int32)), .unset, .unset] [])) (fun _ k => XS.istore X59.here hx rfl (hb hby at_14) rfl (l' := #[.val (.int xa), .val (.int xb), .val (.ref a_EITHER), .val (.ref a_TRUE), .val (.int (3 : Int32)), .unset, .unset]) rfl k) ?_
      refine own_go (st' := T59.setTop (mkF m 17 #[.val (.int xa), .val (.int xb), .val (.ref a_EITHER), .val (.ref a_TRUE), .val (.int (3 : Int32)), .unset, .unset] [(.int xb)])) (fun _ k => XS.iloadN X59.here hx rfl (hb hby at_16) rfl k) ?_
      obtain ⟨_, _, ⟨T60, LC60, kC60, nC60⟩, -, X60, ⟨Lc60, hQ60, lq60, yq60, zq60⟩, st60⟩ := Jvm.LawKit.callS X59 hx (y := (⟨"com/example/festung/festung/engine/TruthWithinPinLaw", "allowed", "(I)I"⟩ : MethodName)) hown (mvT hZ (hw _ (List.mem_of_getElem? (i := 11) rfl))) (mvT hZ (hw _ (List.mem_of_getElem? (i := 12) rfl))) (mvT hZ (hw _ (List.mem_of_getElem? (i := 2) rfl))) (mvT hZ (hw _ (List.mem_of_getElem? (i := 13) rfl))) (by decide) (backOf (W := 0) (rm3_1 l Z a0 hw [] xb h0 n0 (by omega) hm_xb) hZ (hw _ (List.mem_of_getElem? (i := 13) rfl)) (hw _ (List.mem_of_getElem? (i := 2) rfl)) (by decide) (by decide)) (g := (mkF m 17 #[.val (.int xa), .val (.int xb), .val (.ref a_EITHER), .val (.ref a_TRUE), .val (.int (3 : Int32)), .unset, .unset] [(.int xb)])) rfl (by rw [hml]; rfl) (argsL := [(.int xb)]) (rest := []) (lenOf pd_0 rfl) rfl (by show 2 * 0 + _ ≤ _; exact Nat.le_of_eq rfl) (hb hby at_17) (fun _ _ => ⟨rfl, eq59, (by decide : 0 + 0 ≤ _), (by decide : 0 + 0 ≤ _)⟩)
      dsimp only [Pt.U, Pt.locs, Pt.cells, Pt.slots] at X60 lq60 yq60 zq60 st60 hQ60
      subst lq60 yq60 zq60
      obtain ⟨rfl, Nq60, eq60⟩ := hQ60
      have N60 := Fr.app N59 Nq60
      refine own_go (st' := T60.setTop (mkF m 20 #[.val (.int xa), .val (.int xb), .val (.ref a_EITHER), .val (.ref a_TRUE), .val (.int (3 : Int32)), .unset, .unset] [(.int (2 : Int32))])) (fun t k => st60 t k) ?_
      refine own_go (st' := T60.setTop (mkF m 22 #[.val (.int xa), .val (.int xb), .val (.ref a_EITHER), .val (.ref a_TRUE), .val (.int (3 : Int32)), .val (.int (2 : Int32)), .unset] [])) (fun _ k => XS.istore X60.here hx rfl (hb hby at_20) rfl (l' := #[.val (.int xa), .val (.int xb), .val (.ref a_EITHER), .val (.ref a_TRUE), .val (.int (3 : Int32)), .val (.int (2 : Int32)), .unset]) rfl k) ?_
      refine own_go (st' := T60.setTop (mkF m 24 #[.val (.int xa), .val (.int xb), .val (.ref a_EITHER), .val (.ref a_TRUE), .val (.int (3 : Int32)), .val (.int (2 : Int32)), .unset] [(.int (3 : Int32))])) (fun _ k => XS.iload X60.here hx rfl (hb hby at_22) rfl k) ?_
      refine own_go (st' := T60.setTop (mkF m 26 #[.val (.int xa), .val (.int xb), .val (.ref a_EITHER), .val (.ref a_TRUE), .val (.int (3 : Int32)), .val (.int (2 : Int32)), .unset] [(.int (2 : Int32)), (.int (3 : Int32))])) (fun _ k => XS.iload X60.here hx rfl (hb hby at_24) rfl k) ?_
      refine own_go (st' := T60.setTop (mkF m 27 #[.val (.int xa), .val (.int xb), .val (.ref a_EITHER), .val (.ref a_TRUE), .val (.int (3 : Int32)), .val (.int (2 : Int32)), .unset] [(.int (-1 : Int32)), (.int (2 : Int32)), (.int (3 : Int32))])) (fun _ k => XS.iconst X60.here hx rfl (hb hby at_26) k) ?_
      refine own_go (st' := T60.setTop (mkF m 28 #[.val (.int xa), .val (.int xb), .val (.ref a_EITHER), .val (.ref a_TRUE), .val (.int (3 : Int32)), .val (.int (2 : Int32)), .unset] [(.int (-3 : Int32)), (.int (3 : Int32))])) (fun _ k => XS.ixor X60.here hx rfl (hb hby at_27) rfl (by rw [show ((2 : Int32) ^^^ (-1 : Int32)) = (-3 : Int32) by decide]; exact k)) ?_
      refine own_go (st' := T60.setTop (mkF m 29 #[.val (.int xa), .val (.int xb), .val (.ref a_EITHER), .val (.ref a_TRUE), .val (.int (3 : Int32)), .val (.int (2 : Int32)), .unset] [(.int (1 : Int32))])) (fun _ k => XS.iand X60.here hx rfl (hb hby at_28) rfl (by rw [show ((3 : Int32) &&& (-3 : Int32)) = (1 : Int32) by decide]; exact k)) ?_
      have hc61 : ¬ ((1 : Int32) = (0 : Int32)) := by decide
      refine own_go (st' := T60.setTop (mkF m 36 #[.val (.int xa), .val (.int xb), .val (.ref a_EITHER), .val (.ref a_TRUE), .val (.int (3 : Int32)), .val (.int (2 : Int32)), .unset] [])) (fun _ k => XS.ifYes X60.here hx rfl (pc0 := 29) (pc' := 36) rfl (hb hby at_29) rfl ((if0 _ _).trans (feq hc61).2) (by decide) (by decide) k) ?_
      refine own_go (st' := T60.setTop (mkF m 37 #[.val (.int xa), .val (.int xb), .val (.ref a_EITHER), .val (.ref a_TRUE), .val (.int (3 : Int32)), .val (.int (2 : Int32)), .unset] [(.int (0 : Int32))])) (fun _ k => XS.iconst X60.here hx rfl (hb hby at_36) k) ?_
      refine own_go (st' := T60.setTop (mkF m 39 #[.val (.int xa), .val (.int xb), .val (.ref a_EITHER), .val (.ref a_TRUE), .val (.int (3 : Int32)), .val (.int (2 : Int32)), .val (.int (0 : Int32))] [])) (fun _ k => XS.istore X60.here hx rfl (hb hby at_37) rfl (l' := #[.val (.int xa), .val (.int xb), .val (.ref a_EITHER), .val (.ref a_TRUE), .val (.int (3 : Int32)), .val (.int (2 : Int32)), .val (.int (0 : Int32))]) rfl k) ?_
      refine own_go (st' := T60.setTop (mkF m 40 #[.val (.int xa), .val (.int xb), .val (.ref a_EITHER), .val (.ref a_TRUE), .val (.int (3 : Int32)), .val (.int (2 : Int32)), .val (.int (0 : Int32))] [(.ref a_EITHER)])) (fun _ k => XS.aloadN X60.here hx rfl (hb hby at_39) rfl rfl k) ?_
      refine own_go (st' := T60.setTop (mkF m 41 #[.val (.int xa), .val (.int xb), .val (.ref a_EITHER), .val (.ref a_TRUE), .val (.int (3 : Int32)), .val (.int (2 : Int32)), .val (.int (0 : Int32))] [(.ref a_TRUE), (.ref a_EITHER)])) (fun _ k => XS.aloadN X60.here hx rfl (hb hby at_40) rfl rfl k) ?_
      obtain ⟨cq62, kq62, q62a, q62b, q62c⟩ := isOf hZ eq60 pr4
      obtain ⟨_, _, ⟨T62, LC62, kC62, nC62⟩, -, X62, ⟨Lc62, hQ62, lq62, yq62, zq62⟩, st62⟩ := X60.virtualBack hx (y := (⟨"com/example/festung/festung/engine/Truth", "within", "(Lcom/example/festung/festung/engine/Truth;)Z"⟩ : MethodName)) (z := (⟨"com/example/festung/festung/engine/Truth", "within", "(Lcom/example/festung/festung/engine/Truth;)Z"⟩ : MethodName)) hown (mvT hZ (hw _ (List.mem_of_getElem? (i := 14) rfl))) (mvT hZ (hw _ (List.mem_of_getElem? (i := 15) rfl))) (notFace_of_selects (args := #[]) (mvT hZ (hw _ (List.mem_of_getElem? (i := 17) rfl)))) (mvT hZ (hw _ (List.mem_of_getElem? (i := 17) rfl))) (mvT hZ (hw _ (List.mem_of_getElem? (i := 16) rfl))) (by decide) (backOf (W := 0) (rm4c l Z a0 hw [] a_EITHER a_TRUE a_EITHER h0 n0 (by omega) pr3 (by first | assumption | exact Ne.symm (by assumption) | (apply Nat.ne_of_lt; omega) | (apply Nat.ne_of_gt; omega)) (by first | assumption | exact Ne.symm (by assumption) | (apply Nat.ne_of_lt; omega) | (apply Nat.ne_of_gt; omega))) hZ (hw _ (List.mem_of_getElem? (i := 18) rfl)) (hw _ (List.mem_of_getElem? (i := 9) rfl)) (by decide) (by decide)) q62a q62c (g := (mkF m 41 #[.val (.int xa), .val (.int xb), .val (.ref a_EITHER), .val (.ref a_TRUE), .val (.int (3 : Int32)), .val (.int (2 : Int32)), .val (.int (0 : Int32))] [(.ref a_TRUE), (.ref a_EITHER)])) rfl (by rw [hml]; rfl) (Steps.refl _) (argsL := [(.ref a_TRUE)]) (rest := []) (lenOf pd_2 rfl) rfl (by show 2 * 0 + _ ≤ _; exact Nat.le_of_eq rfl) (hb hby at_41) (fun _ _ => ⟨rfl, eq60, (by decide : 0 + 0 ≤ _), (by decide : 0 + 0 ≤ _)⟩)
      dsimp only [Pt.U, Pt.locs, Pt.cells, Pt.slots] at X62 lq62 yq62 zq62 st62 hQ62
      subst lq62 yq62 zq62
      obtain ⟨rfl, Nq62, eq62⟩ := hQ62
      have N62 := Fr.app N60 Nq62
      refine own_go (st' := T62.setTop (mkF m 44 #[.val (.int xa), .val (.int xb), .val (.ref a_EITHER), .val (.ref a_TRUE), .val (.int (3 : Int32)), .val (.int (2 : Int32)), .val (.int (0 : Int32))] [(.int (0 : Int32))])) (fun _ k => st62.trans k) ?_
      refine own_go (st' := T62.setTop (mkF m 46 #[.val (.int xa), .val (.int xb), .val (.ref a_EITHER), .val (.ref a_TRUE), .val (.int (3 : Int32)), .val (.int (2 : Int32)), .val (.int (0 : Int32))] [(.int (0 : Int32)), (.int (0 : Int32))])) (fun _ k => XS.iload X62.here hx rfl (hb hby at_44) rfl k) ?_
      have hc63 : (0 : Int32) = (0 : Int32) := by decide
      refine own_go (st' := T62.setTop (mkF m 49 #[.val (.int xa), .val (.int xb), .val (.ref a_EITHER), .val (.ref a_TRUE), .val (.int (3 : Int32)), .val (.int (2 : Int32)), .val (.int (0 : Int32))] [])) (fun _ k => XS.icmpNo X62.here hx rfl (hb hby at_46) rfl (teq hc63).2 k) ?_
      refine own_go (st' := T62.setTop (mkF m 50 #[.val (.int xa), .val (.int xb), .val (.ref a_EITHER), .val (.ref a_TRUE), .val (.int (3 : Int32)), .val (.int (2 : Int32)), .val (.int (0 : Int32))] [(.int (1 : Int32))])) (fun _ k => XS.iconst X62.here hx rfl (hb hby at_49) k) ?_
      refine own_go (st' := T62.setTop (mkF m 54 #[.val (.int xa), .val (.int xb), .val (.ref a_EITHER), .val (.ref a_TRUE), .val (.int (3 : Int32)), .val (.int (2 : Int32)), .val (.int (0 : Int32))] [(.int (1 : Int32))])) (fun _ k => XS.goto X62.here hx rfl (pc0 := 50) (pc' := 54) rfl (hb hby at_50) (by decide) (by decide) k) ?_
      obtain ⟨fs, hr, hrun, hended, hW, hsame⟩ := X62.leave (v := some (.int (1 : Int32))) (fun h => by rw [Bd.returns] at h; cases h)
      refine ⟨_, _, ?_, hP _ _ hrun hended ⟨_, _, rfl, ?_, ⟨_, rfl⟩, hW, hsame.mono (by decide) (by decide)⟩⟩
      · exact retN X62 hx (t := .boolean) Bd.returns (by simp) (hb hby at_54) hr
      · show Qrm0 Z xa xb a_FALSE a_EITHER a_TRUE h0 n0 _ T62.heap _
        rw [eq62]
        exact ⟨rfl, N62, trivial⟩
    · --
      refine own_go (st' := s₁.setTop (mkF m 1 #[.val (.int xa), .val (.int xb), .unset, .unset, .unset, .unset, .unset] [(.int xa)])) (fun _ k => XS.iloadN X0.here hx rfl (hb hby at_0) rfl k) ?_
      obtain ⟨_, _, ⟨T65, LC65, kC65, nC65⟩, -, X65, ⟨Lc65, hQ65, lq65, yq65, zq65⟩, st65⟩ := Jvm.LawKit.callS X0 hx (y := (⟨"com/example/festung/festung/engine/TruthWithinPinLaw", "pick", "(I)Lcom/example/festung/festung/engine/Truth;"⟩ : MethodName)) hown (mvT hZ (hw _ (List.mem_of_getElem? (i := 0) rfl))) (mvT hZ (hw _ (List.mem_of_getElem? (i := 1) rfl))) (mvT hZ (hw _ (List.mem_of_getElem? (i := 2) rfl))) (mvT hZ (hw _ (List.mem_of_getElem? (i := 3) rfl))) (by decide) (backOf (W := 0) (rm1_2 l Z a0 hw [] xa a_FALSE a_TRUE a_EITHER h0 n0 (by omega) pr1 pr5 pr3 hm_xa) hZ (hw _ (List.mem_of_getElem? (i := 3) rfl)) (hw _ (List.mem_of_getElem? (i := 2) rfl)) (by decide) (by decide)) (g := (mkF m 1 #[.val (.int xa), .val (.int xb), .unset, .unset, .unset, .unset, .unset] [(.int xa)])) rfl (by rw [hml]; rfl) (argsL := [(.int xa)]) (rest := []) (lenOf pd_1 rfl) rfl (by show 2 * 0 + _ ≤ _; exact Nat.le_of_eq rfl) (hb hby at_1) (fun _ _ => ⟨rfl, e0, (by decide : 0 + 0 ≤ _), (by decide : 0 + 0 ≤ _)⟩)
      dsimp only [Pt.U, Pt.locs, Pt.cells, Pt.slots] at X65 lq65 yq65 zq65 st65 hQ65
      subst lq65 yq65 zq65
      obtain ⟨rfl, Nq65, eq65⟩ := hQ65
      have N65 := Fr.app N0 Nq65
      refine own_go (st' := T65.setTop (mkF m 4 #[.val (.int xa), .val (.int xb), .unset, .unset, .unset, .unset, .unset] [(.ref a_EITHER)])) (fun t k => st65 t k) ?_
      refine own_go (st' := T65.setTop (mkF m 5 #[.val (.int xa), .val (.int xb), .val (.ref a_EITHER), .unset, .unset, .unset, .unset] [])) (fun _ k => XS.astoreN X65.here hx rfl (hb hby at_4) rfl rfl (l' := #[.val (.int xa), .val (.int xb), .val (.ref a_EITHER), .unset, .unset, .unset, .unset]) rfl k) ?_
      refine own_go (st' := T65.setTop (mkF m 6 #[.val (.int xa), .val (.int xb), .val (.ref a_EITHER), .unset, .unset, .unset, .unset] [(.int xb)])) (fun _ k => XS.iloadN X65.here hx rfl (hb hby at_5) rfl k) ?_
      obtain ⟨_, _, ⟨T66, LC66, kC66, nC66⟩, -, X66, ⟨Lc66, hQ66, lq66, yq66, zq66⟩, st66⟩ := Jvm.LawKit.callS X65 hx (y := (⟨"com/example/festung/festung/engine/TruthWithinPinLaw", "pick", "(I)Lcom/example/festung/festung/engine/Truth;"⟩ : MethodName)) hown (mvT hZ (hw _ (List.mem_of_getElem? (i := 0) rfl))) (mvT hZ (hw _ (List.mem_of_getElem? (i := 1) rfl))) (mvT hZ (hw _ (List.mem_of_getElem? (i := 2) rfl))) (mvT hZ (hw _ (List.mem_of_getElem? (i := 3) rfl))) (by decide) (backOf (W := 0) (rm1_2 l Z a0 hw [] xb a_FALSE a_TRUE a_EITHER h0 n0 (by omega) pr1 pr5 pr3 hm_xb) hZ (hw _ (List.mem_of_getElem? (i := 3) rfl)) (hw _ (List.mem_of_getElem? (i := 2) rfl)) (by decide) (by decide)) (g := (mkF m 6 #[.val (.int xa), .val (.int xb), .val (.ref a_EITHER), .unset, .unset, .unset, .unset] [(.int xb)])) rfl (by rw [hml]; rfl) (argsL := [(.int xb)]) (rest := []) (lenOf pd_1 rfl) rfl (by show 2 * 0 + _ ≤ _; exact Nat.le_of_eq rfl) (hb hby at_6) (fun _ _ => ⟨rfl, eq65, (by decide : 0 + 0 ≤ _), (by decide : 0 + 0 ≤ _)⟩)
      dsimp only [Pt.U, Pt.locs, Pt.cells, Pt.slots] at X66 lq66 yq66 zq66 st66 hQ66
      subst lq66 yq66 zq66
      obtain ⟨rfl, Nq66, eq66⟩ := hQ66
      have N66 := Fr.app N65 Nq66
      refine own_go (st' := T66.setTop (mkF m 9 #[.val (.int xa), .val (.int xb), .val (.ref a_EITHER), .unset, .unset, .unset, .unset] [(.ref a_EITHER)])) (fun t k => st66 t k) ?_
      refine own_go (st' := T66.setTop (mkF m 10 #[.val (.int xa), .val (.int xb), .val (.ref a_EITHER), .val (.ref a_EITHER), .unset, .unset, .unset] [])) (fun _ k => XS.astoreN X66.here hx rfl (hb hby at_9) rfl rfl (l' := #[.val (.int xa), .val (.int xb), .val (.ref a_EITHER), .val (.ref a_EITHER), .unset, .unset, .unset]) rfl k) ?_
      refine own_go (st' := T66.setTop (mkF m 11 #[.val (.int xa), .val (.int xb), .val (.ref a_EITHER), .val (.ref a_EITHER), .unset, .unset, .unset] [(.int xa)])) (fun _ k => XS.iloadN X66.here hx rfl (hb hby at_10) rfl k) ?_
      obtain ⟨_, _, ⟨T67, LC67, kC67, nC67⟩, -, X67, ⟨Lc67, hQ67, lq67, yq67, zq67⟩, st67⟩ := Jvm.LawKit.callS X66 hx (y := (⟨"com/example/festung/festung/engine/TruthWithinPinLaw", "allowed", "(I)I"⟩ : MethodName)) hown (mvT hZ (hw _ (List.mem_of_getElem? (i := 11) rfl))) (mvT hZ (hw _ (List.mem_of_getElem? (i := 12) rfl))) (mvT hZ (hw _ (List.mem_of_getElem? (i := 2) rfl))) (mvT hZ (hw _ (List.mem_of_getElem? (i := 13) rfl))) (by decide) (backOf (W := 0) (rm3_2 l Z a0 hw [] xa h0 n0 (by omega) hm_xa) hZ (hw _ (List.mem_of_getElem? (i := 13) rfl)) (hw _ (List.mem_of_getElem? (i := 2) rfl)) (by decide) (by decide)) (g := (mkF m 11 #[.val (.int xa), .val (.int xb), .val (.ref a_EITHER), .val (.ref a_EITHER), .unset, .unset, .unset] [(.int xa)])) rfl (by rw [hml]; rfl) (argsL := [(.int xa)]) (rest := []) (lenOf pd_0 rfl) rfl (by show 2 * 0 + _ ≤ _; exact Nat.le_of_eq rfl) (hb hby at_11) (fun _ _ => ⟨rfl, eq66, (by decide : 0 + 0 ≤ _), (by decide : 0 + 0 ≤ _)⟩)
      dsimp only [Pt.U, Pt.locs, Pt.cells, Pt.slots] at X67 lq67 yq67 zq67 st67 hQ67
      subst lq67 yq67 zq67
      obtain ⟨rfl, Nq67, eq67⟩ := hQ67
      have N67 := Fr.app N66 Nq67
      refine own_go (st' := T67.setTop (mkF m 14 #[.val (.int xa), .val (.int xb), .val (.ref a_EITHER), .val (.ref a_EITHER), .unset, .unset, .unset] [(.int (3 : Int32))])) (fun t k => st67 t k) ?_
      refine own_go (st' := T67.setTop (mkF m 16 #[.val (.int xa), .val (.int xb), .val (.ref a_EITHER), .val (.ref a_EITHER), .val (.int (3 : Int32)), .unset, .unset] [])) (fun _ k => XS.istore X67.here hx rfl (hb hby at_14) rfl (l' := #[.val (.int xa), .val (.int xb), .val (.ref a_EITHER), .val (.ref a_EITHER), .val (.int (3 : Int32)), .unset, .unset]) rfl k) ?_
      refine own_go (st' := T67.setTop (mkF m 17 #[.val (.int xa), .val (.int xb), .val (.ref a_EITHER), .val (.ref a_EITHER), .val (.int (3 : Int32)), .unset, .unset] [(.int xb)])) (fun _ k => XS.iloadN X67.here hx rfl (hb hby at_16) rfl k) ?_
      obtain ⟨_, _, ⟨T68, LC68, kC68, nC68⟩, -, X68, ⟨Lc68, hQ68, lq68, yq68, zq68⟩, st68⟩ := Jvm.LawKit.callS X67 hx (y := (⟨"com/example/festung/festung/engine/TruthWithinPinLaw", "allowed", "(I)I"⟩ : MethodName)) hown (mvT hZ (hw _ (List.mem_of_getElem? (i := 11) rfl))) (mvT hZ (hw _ (List.mem_of_getElem? (i := 12) rfl))) (mvT hZ (hw _ (List.mem_of_getElem? (i := 2) rfl))) (mvT hZ (hw _ (List.mem_of_getElem? (i := 13) rfl))) (by decide) (backOf (W := 0) (rm3_2 l Z a0 hw [] xb h0 n0 (by omega) hm_xb) hZ (hw _ (List.mem_of_getElem? (i := 13) rfl)) (hw _ (List.mem_of_getElem? (i := 2) rfl)) (by decide) (by decide)) (g := (mkF m 17 #[.val (.int xa), .val (.int xb), .val (.ref a_EITHER), .val (.ref a_EITHER), .val (.int (3 : Int32)), .unset, .unset] [(.int xb)])) rfl (by rw [hml]; rfl) (argsL := [(.int xb)]) (rest := []) (lenOf pd_0 rfl) rfl (by show 2 * 0 + _ ≤ _; exact Nat.le_of_eq rfl) (hb hby at_17) (fun _ _ => ⟨rfl, eq67, (by decide : 0 + 0 ≤ _), (by decide : 0 + 0 ≤ _)⟩)
      dsimp only [Pt.U, Pt.locs, Pt.cells, Pt.slots] at X68 lq68 yq68 zq68 st68 hQ68
      subst lq68 yq68 zq68
      obtain ⟨rfl, Nq68, eq68⟩ := hQ68
      have N68 := Fr.app N67 Nq68
      refine own_go (st' := T68.setTop (mkF m 20 #[.val (.int xa), .val (.int xb), .val (.ref a_EITHER), .val (.ref a_EITHER), .val (.int (3 : Int32)), .unset, .unset] [(.int (3 : Int32))])) (fun t k => st68 t k) ?_
      refine own_go (st' := T68.setTop (mkF m 22 #[.val (.int xa), .val (.int xb), .val (.ref a_EITHER), .val (.ref a_EITHER), .val (.int (3 : Int32)), .val (.int (3 : Int32)), .unset] [])) (fun _ k => XS.istore X68.here hx rfl (hb hby at_20) rfl (l' := #[.val (.int xa), .val (.int xb), .val (.ref a_EITHER), .val (.ref a_EITHER), .val (.int (3 : Int32)), .val (.int (3 : Int32)), .unset]) rfl k) ?_
      refine own_go (st' := T68.setTop (mkF m 24 #[.val (.int xa), .val (.int xb), .val (.ref a_EITHER), .val (.ref a_EITHER), .val (.int (3 : Int32)), .val (.int (3 : Int32)), .unset] [(.int (3 : Int32))])) (fun _ k => XS.iload X68.here hx rfl (hb hby at_22) rfl k) ?_
      refine own_go (st' := T68.setTop (mkF m 26 #[.val (.int xa), .val (.int xb), .val (.ref a_EITHER), .val (.ref a_EITHER), .val (.int (3 : Int32)), .val (.int (3 : Int32)), .unset] [(.int (3 : Int32)), (.int (3 : Int32))])) (fun _ k => XS.iload X68.here hx rfl (hb hby at_24) rfl k) ?_
      refine own_go (st' := T68.setTop (mkF m 27 #[.val (.int xa), .val (.int xb), .val (.ref a_EITHER), .val (.ref a_EITHER), .val (.int (3 : Int32)), .val (.int (3 : Int32)), .unset] [(.int (-1 : Int32)), (.int (3 : Int32)), (.int (3 : Int32))])) (fun _ k => XS.iconst X68.here hx rfl (hb hby at_26) k) ?_
      refine own_go (st' := T68.setTop (mkF m 28 #[.val (.int xa), .val (.int xb), .val (.ref a_EITHER), .val (.ref a_EITHER), .val (.int (3 : Int32)), .val (.int (3 : Int32)), .unset] [(.int (-4 : Int32)), (.int (3 : Int32))])) (fun _ k => XS.ixor X68.here hx rfl (hb hby at_27) rfl (by rw [show ((3 : Int32) ^^^ (-1 : Int32)) = (-4 : Int32) by decide]; exact k)) ?_
      refine own_go (st' := T68.setTop (mkF m 29 #[.val (.int xa), .val (.int xb), .val (.ref a_EITHER), .val (.ref a_EITHER), .val (.int (3 : Int32)), .val (.int (3 : Int32)), .unset] [(.int (0 : Int32))])) (fun _ k => XS.iand X68.here hx rfl (hb hby at_28) rfl (by rw [show ((3 : Int32) &&& (-4 : Int32)) = (0 : Int32) by decide]; exact k)) ?_
      have hc69 : (0 : Int32) = (0 : Int32) := by decide
      refine own_go (st' := T68.setTop (mkF m 32 #[.val (.int xa), .val (.int xb), .val (.ref a_EITHER), .val (.ref a_EITHER), .val (.int (3 : Int32)), .val (.int (3 : Int32)), .unset] [])) (fun _ k => XS.ifNo X68.here hx rfl (hb hby at_29) rfl ((if0 _ _).trans (teq hc69).2) k) ?_
      refine own_go (st' := T68.setTop (mkF m 33 #[.val (.int xa), .val (.int xb), .val (.ref a_EITHER), .val (.ref a_EITHER), .val (.int (3 : Int32)), .val (.int (3 : Int32)), .unset] [(.int (1 : Int32))])) (fun _ k => XS.iconst X68.here hx rfl (hb hby at_32) k) ?_
      refine own_go (st' := T68.setTop (mkF m 37 #[.val (.int xa), .val (.int xb), .val (.ref a_EITHER), .val (.ref a_EITHER), .val (.int (3 : Int32)), .val (.int (3 : Int32)), .unset] [(.int (1 : Int32))])) (fun _ k => XS.goto X68.here hx rfl (pc0 := 33) (pc' := 37) rfl (hb hby at_33) (by decide) (by decide) k) ?_
      refine own_go (st' := T68.setTop (mkF m 39 #[.val (.int xa), .val (.int xb), .val (.ref a_EITHER), .val (.ref a_EITHER), .val (.int (3 : Int32)), .val (.int (3 : Int32)), .val (.int (1 : Int32))] [])) (fun _ k => XS.istore X68.here hx rfl (hb hby at_37) rfl (l' := #[.val (.int xa), .val (.int xb), .val (.ref a_EITHER), .val (.ref a_EITHER), .val (.int (3 : Int32)), .val (.int (3 : Int32)), .val (.int (1 : Int32))]) rfl k) ?_
      refine own_go (st' := T68.setTop (mkF m 40 #[.val (.int xa), .val (.int xb), .val (.ref a_EITHER), .val (.ref a_EITHER), .val (.int (3 : Int32)), .val (.int (3 : Int32)), .val (.int (1 : Int32))] [(.ref a_EITHER)])) (fun _ k => XS.aloadN X68.here hx rfl (hb hby at_39) rfl rfl k) ?_
      refine own_go (st' := T68.setTop (mkF m 41 #[.val (.int xa), .val (.int xb), .val (.ref a_EITHER), .val (.ref a_EITHER), .val (.int (3 : Int32)), .val (.int (3 : Int32)), .val (.int (1 : Int32))] [(.ref a_EITHER), (.ref a_EITHER)])) (fun _ k => XS.aloadN X68.here hx rfl (hb hby at_40) rfl rfl k) ?_
      obtain ⟨cq70, kq70, q70a, q70b, q70c⟩ := isOf hZ eq68 pr4
      obtain ⟨_, _, ⟨T70, LC70, kC70, nC70⟩, -, X70, ⟨Lc70, hQ70, lq70, yq70, zq70⟩, st70⟩ := X68.virtualBack hx (y := (⟨"com/example/festung/festung/engine/Truth", "within", "(Lcom/example/festung/festung/engine/Truth;)Z"⟩ : MethodName)) (z := (⟨"com/example/festung/festung/engine/Truth", "within", "(Lcom/example/festung/festung/engine/Truth;)Z"⟩ : MethodName)) hown (mvT hZ (hw _ (List.mem_of_getElem? (i := 14) rfl))) (mvT hZ (hw _ (List.mem_of_getElem? (i := 15) rfl))) (notFace_of_selects (args := #[]) (mvT hZ (hw _ (List.mem_of_getElem? (i := 17) rfl)))) (mvT hZ (hw _ (List.mem_of_getElem? (i := 17) rfl))) (mvT hZ (hw _ (List.mem_of_getElem? (i := 16) rfl))) (by decide) (backOf (W := 0) (rm4a l Z a0 hw [] a_EITHER a_EITHER h0 n0 (by omega) pr3) hZ (hw _ (List.mem_of_getElem? (i := 18) rfl)) (hw _ (List.mem_of_getElem? (i := 9) rfl)) (by decide) (by decide)) q70a q70c (g := (mkF m 41 #[.val (.int xa), .val (.int xb), .val (.ref a_EITHER), .val (.ref a_EITHER), .val (.int (3 : Int32)), .val (.int (3 : Int32)), .val (.int (1 : Int32))] [(.ref a_EITHER), (.ref a_EITHER)])) rfl (by rw [hml]; rfl) (Steps.refl _) (argsL := [(.ref a_EITHER)]) (rest := []) (lenOf pd_2 rfl) rfl (by show 2 * 0 + _ ≤ _; exact Nat.le_of_eq rfl) (hb hby at_41) (fun _ _ => ⟨rfl, eq68, (by decide : 0 + 0 ≤ _), (by decide : 0 + 0 ≤ _)⟩)
      dsimp only [Pt.U, Pt.locs, Pt.cells, Pt.slots] at X70 lq70 yq70 zq70 st70 hQ70
      subst lq70 yq70 zq70
      obtain ⟨rfl, Nq70, eq70⟩ := hQ70
      have N70 := Fr.app N68 Nq70
      refine own_go (st' := T70.setTop (mkF m 44 #[.val (.int xa), .val (.int xb), .val (.ref a_EITHER), .val (.ref a_EITHER), .val (.int (3 : Int32)), .val (.int (3 : Int32)), .val (.int (1 : Int32))] [(.int (1 : Int32))])) (fun _ k => st70.trans k) ?_
      refine own_go (st' := T70.setTop (mkF m 46 #[.val (.int xa), .val (.int xb), .val (.ref a_EITHER), .val (.ref a_EITHER), .val (.int (3 : Int32)), .val (.int (3 : Int32)), .val (.int (1 : Int32))] [(.int (1 : Int32)), (.int (1 : Int32))])) (fun _ k => XS.iload X70.here hx rfl (hb hby at_44) rfl k) ?_
      have hc71 : (1 : Int32) = (1 : Int32) := by decide
      refine own_go (st' := T70.setTop (mkF m 49 #[.val (.int xa), .val (.int xb), .val (.ref a_EITHER), .val (.ref a_EITHER), .val (.int (3 : Int32)), .val (.int (3 : Int32)), .val (.int (1 : Int32))] [])) (fun _ k => XS.icmpNo X70.here hx rfl (hb hby at_46) rfl (teq hc71).2 k) ?_
      refine own_go (st' := T70.setTop (mkF m 50 #[.val (.int xa), .val (.int xb), .val (.ref a_EITHER), .val (.ref a_EITHER), .val (.int (3 : Int32)), .val (.int (3 : Int32)), .val (.int (1 : Int32))] [(.int (1 : Int32))])) (fun _ k => XS.iconst X70.here hx rfl (hb hby at_49) k) ?_
      refine own_go (st' := T70.setTop (mkF m 54 #[.val (.int xa), .val (.int xb), .val (.ref a_EITHER), .val (.ref a_EITHER), .val (.int (3 : Int32)), .val (.int (3 : Int32)), .val (.int (1 : Int32))] [(.int (1 : Int32))])) (fun _ k => XS.goto X70.here hx rfl (pc0 := 50) (pc' := 54) rfl (hb hby at_50) (by decide) (by decide) k) ?_
      obtain ⟨fs, hr, hrun, hended, hW, hsame⟩ := X70.leave (v := some (.int (1 : Int32))) (fun h => by rw [Bd.returns] at h; cases h)
      refine ⟨_, _, ?_, hP _ _ hrun hended ⟨_, _, rfl, ?_, ⟨_, rfl⟩, hW, hsame.mono (by decide) (by decide)⟩⟩
      · exact retN X70 hx (t := .boolean) Bd.returns (by simp) (hb hby at_54) hr
      · show Qrm0 Z xa xb a_FALSE a_EITHER a_TRUE h0 n0 _ T70.heap _
        rw [eq70]
        exact ⟨rfl, N70, trivial⟩
    · --
      exact absurd hm_xb (own_pos xb)
  · --
    exact absurd hm_xa (own_pos xa)
set_option maxRecDepth 65536 in
set_option maxHeartbeats 40000000 in
theorem comes_1 {Post : Tables → Env → Array Value → State → Outcome → State → Prop} (hpost : ∀ tb e args s v u, (limb_1_1.after args s (.returned v) u = true ∧ limb_1_2.after args s (.returned v) u = true ∧ True) → FrameEnd s (.returned v) u (Jvm.fieldLocs frame_1_writes args s ++ Jvm.arrayLocs frame_1_arrays args s ++ Jvm.staticLocs frame_1_statics s) 0 0 → Post tb e args s (.returned v) u) :
    ArmFor flags0 classFile x code maxLocals ret World_1 tables_1 room_1 Calls_1 rest_1 Pre_1 Post := by
  intro l hfl _ _ p e ha hc hk s m args below hf hA hF happ hP
  obtain ⟨hcalls, hrest, hpre⟩ := hP
  obtain ⟨-, -, -, hnamed, -, -, -, hat⟩ := (Spec.applies_iff hf).mp happ
  obtain ⟨hg, hn⟩ := and_e (Cond.before_iff.mp (show (Jvm.Cond.and given_1 narrow_1).before args s = true from hpre))
  obtain ⟨h1, h2⟩ := and_e hg
  obtain ⟨w0, w1, rfl⟩ : ∃ w0 w1 : Value, args = #[w0, w1] := by
    have hs : args.size = 2 := by simpa [Cond.value, given_1] using h1
    obtain ⟨L⟩ := args
    match L, hs with
    | [w0, w1], _ => exact ⟨w0, w1, rfl⟩
  have hw := fun d (hd : d ∈ tables_1) => atoms_spec (ws := Jvm.Cond.code x code maxLocals ret :: tables_1) hat d (List.mem_cons_of_mem _ hd)
  have hfit : Fit s := fun {y c} hc i hi => by
    obtain ⟨ha, rfl⟩ := Array.getElem?_eq_some_iff.mp hc
    have q := List.all_eq_true.mp ((Array.all_eq_true_iff_forall_mem.mp hF) _ (Array.getElem_mem ha)) i (List.mem_range.mpr hi)
    simpa [Array.getElem?_eq_getElem hi] using q
  obtain ⟨ha0, hr0⟩ := and_e h2
  obtain ⟨xa, ev0⟩ := is_v ha0
  obtain rfl : w0 = (.int xa) := Option.some.inj ev0
  obtain ⟨xb, ev1⟩ := is_v hr0
  obtain rfl : w1 = (.int xb) := Option.some.inj ev1
  obtain ⟨nw0, nr0⟩ := and_e hn
  obtain ⟨nw1, nr1⟩ := and_e nr0
  obtain ⟨nw2, nr2⟩ := and_e nr1
  obtain ⟨nw3, nr3⟩ := and_e nr2
  obtain ⟨nw4, nr4⟩ := and_e nr3
  have nw5 := nr4
  obtain ⟨a_FALSE, ea_FALSE⟩ := exa_v nw0
  have sa_FALSE : Sta s s.heap "com/example/festung/festung/engine/Truth" "FALSE" "Lcom/example/festung/festung/engine/Truth;" (.ref a_FALSE) := Sta.start ea_FALSE (Or.inr ⟨(hw _ (List.mem_of_getElem? (i := 9) rfl)), (hw _ (List.mem_of_getElem? (i := 10) rfl))⟩)
  have xa_FALSE : Exa s s.heap a_FALSE "com/example/festung/festung/engine/Truth" := Exa.start ea_FALSE nw0
  obtain ⟨a_EITHER, ea_EITHER⟩ := exa_v nw1
  have sa_EITHER : Sta s s.heap "com/example/festung/festung/engine/Truth" "EITHER" "Lcom/example/festung/festung/engine/Truth;" (.ref a_EITHER) := Sta.start ea_EITHER (Or.inr ⟨(hw _ (List.mem_of_getElem? (i := 9) rfl)), (hw _ (List.mem_of_getElem? (i := 20) rfl))⟩)
  have xa_EITHER : Exa s s.heap a_EITHER "com/example/festung/festung/engine/Truth" := Exa.start ea_EITHER nw1
  obtain ⟨a_TRUE, ea_TRUE⟩ := exa_v nw4
  have sa_TRUE : Sta s s.heap "com/example/festung/festung/engine/Truth" "TRUE" "Lcom/example/festung/festung/engine/Truth;" (.ref a_TRUE) := Sta.start ea_TRUE (Or.inr ⟨(hw _ (List.mem_of_getElem? (i := 9) rfl)), (hw _ (List.mem_of_getElem? (i := 23) rfl))⟩)
  have xa_TRUE : Exa s s.heap a_TRUE "com/example/festung/festung/engine/Truth" := Exa.start ea_TRUE nw4
  have fa_FALSE_ordinal : Fld s s.heap a_FALSE "java/lang/Enum" "ordinal" "I" (.int (0 : Int32)) := own_fld ea_FALSE nw2
  have fa_EITHER_ordinal : Fld s s.heap a_EITHER "java/lang/Enum" "ordinal" "I" (.int (2 : Int32)) := own_fld ea_EITHER nw3
  have fa_TRUE_ordinal : Fld s s.heap a_TRUE "java/lang/Enum" "ordinal" "I" (.int (1 : Int32)) := own_fld ea_TRUE nw5
  obtain ⟨n, o, h1, h2, h3, _, L, rfl, hQ, hq⟩ := rm0 l s _ hw tables_1 xa xb a_FALSE a_EITHER a_TRUE s.heap s.heap.size (Nat.le_refl _) sa_FALSE xa_FALSE sa_EITHER xa_EITHER sa_TRUE xa_TRUE fa_FALSE_ordinal fa_EITHER_ordinal fa_TRUE_ordinal (Fld.ne fa_FALSE_ordinal fa_TRUE_ordinal (by simp)) (Fld.ne fa_FALSE_ordinal fa_EITHER_ordinal (by simp)) (Fld.ne fa_TRUE_ordinal fa_EITHER_ordinal (by simp)) p e ha hc hk s m _ below hf ((Spec.applies_iff_loose hf).mp happ).1 ⟨rfl, State.Warmed39.refl s, rfl⟩ trivial
  obtain ⟨rfl, N, -⟩ := hQ
  refine ⟨n, _, h1, h2, h3, hpost _ _ _ _ _ _ ⟨Cond.after_iff.mpr rfl, Cond.after_iff.mpr (eq_i res_at (Term.int_eval (1)) rfl), trivial⟩ ⟨hq.1, hq.2.1, (hq.2.2.sift fun y hy => Or.inr (N y hy)).mono (by decide) (by decide)⟩⟩
theorem main_1_1 : Claimed_1_1 := comes_1 fun _ _ _ _ _ _ h hF => ⟨h.1, hF⟩
theorem main_1_2 : Claimed_1_2 := comes_1 fun _ _ _ _ _ _ h hF => ⟨h.2.1, hF⟩
end Jvm.Pilot.@@N@@
namespace Jvm.Pilot.@@N@@
open Jvm Jvm.ClassFile Sem Op Lib Jvm.Free Jvm.Stand Jvm.Pilot.@@N@@.Jvm.D
/-! MADE BY PROGRAM (witnessworld.py) out of the Statement's table words and the real class files: 12 classes; the members and pool entries that the words name. The judged class is class 1, her method 4. -/
namespace start1
open Jvm.ClassFile
def u (s : String) : CpInfo := .utf8 (stringToUtf16 s)
/-- a pool by its gaps: so many unusable entries, then the entry; so many at the end -/
def gap : Nat → List CpInfo → List CpInfo
  | 0, r => r
  | n + 1, r => .unusable :: gap n r
def poolList (es : List (Nat × CpInfo)) (last : Nat) : List CpInfo := es.foldr (fun e r => gap e.1 (e.2 :: r)) (gap last [])
def pool (es : List (Nat × CpInfo)) (last : Nat) : Array CpInfo := ⟨poolList es last⟩
def fileOf (pool : Array CpInfo) (this : Nat) (attrs : Array Attribute := #[]) (ms : Array MethodInfo := #[]) (fl : Nat := 33) (sup : Nat := 0) (ifs : Array Nat := #[]) (fds : Array FieldInfo := #[]) : ClassFile where
  minorVersion := 0
  majorVersion := 65
  constantPool := pool
  accessFlags := fl
  thisClass := this
  superClass := sup
  interfaces := ifs
  fields := fds
  methods := ms
  attributes := attrs
def plain (name : String) (sup : Option ClassId) : Class where
  name := name
  kind := .ordinary
  loader := none
  accessFlags := 33
  super := sup
  interfaces := #[]
  cf := none
  fields := #[]
  methods := #[]
  instanceTypes := #[]
  staticTypes := #[]
  resolved := #[]
  callSites := []
  init := .initialized
  statics := none
  mirror := none

def pool0 : Array CpInfo := pool [(5, u "<init>"), (0, u "()V"), (1, .class_ 10), (1, u "java/lang/Object")] 113

def k0m0 : Method := { name := "<init>", desc := "()V", sig := { parameters := [], returnType := none }, accessFlags := 1, code := none }
/-- java/lang/Object -/
def k0 : Class := { plain "java/lang/Object" none with
  accessFlags := 33
  interfaces := #[]
  cf := some (fileOf pool0 8 #[] #[{ accessFlags := 1, nameIndex := 5, descriptorIndex := 6, attributes := #[] }] 33 0 #[] #[])
  fields := #[]
  methods := #[k0m0]
  instanceTypes := #[]
  staticTypes := #[]
  resolved := Array.replicate 124 none
  statics := none }

def pool1 : Array CpInfo := pool [(2, .class_ 4), (1, u "java/lang/Object"), (0, u "<init>"), (0, u "()V"), (0, .integer 2147483647), (0, .methodref 9 10), (0, .class_ 11), (0, .nameAndType 12 13), (0, u "com/example/festung/festung/engine/TruthWithinPinLaw"), (0, u "index"), (0, u "(I)I"), (0, .fieldref 15 16), (0, .class_ 17), (0, .nameAndType 18 19), (0, u "com/example/festung/festung/engine/Truth"), (0, u "FALSE"), (0, u "Lcom/example/festung/festung/engine/Truth;"), (0, .fieldref 15 21), (0, .nameAndType 22 19), (0, u "TRUE"), (0, .fieldref 15 24), (0, .nameAndType 25 19), (0, u "EITHER"), (0, .methodref 9 27), (0, .nameAndType 28 29), (0, u "pick"), (0, u "(I)Lcom/example/festung/festung/engine/Truth;"), (0, .methodref 9 31), (0, .nameAndType 32 13), (0, u "allowed"), (0, .methodref 15 34), (0, .nameAndType 35 36), (0, u "within"), (0, u "(Lcom/example/festung/festung/engine/Truth;)Z"), (3, u "law"), (0, u "(II)Z")] 2

def k1m0 : Method := { name := "<init>", desc := "()V", sig := { parameters := [], returnType := none }, accessFlags := 1, code := none }
def k1c1 : Code := { maxStack := 2, maxLocals := 1, code := method_2_code, exceptionTable := #[], attributes := #[] }
def k1m1 : Method := { name := "index", desc := "(I)I", sig := { parameters := [.int], returnType := some .int }, accessFlags := 10, code := some k1c1 }
def k1c2 : Code := { maxStack := 2, maxLocals := 2, code := method_3_code, exceptionTable := #[], attributes := #[] }
def k1m2 : Method := { name := "pick", desc := "(I)Lcom/example/festung/festung/engine/Truth;", sig := { parameters := [.int], returnType := some (.object "com/example/festung/festung/engine/Truth") }, accessFlags := 10, code := some k1c2 }
def k1c3 : Code := { maxStack := 2, maxLocals := 2, code := method_4_code, exceptionTable := #[], attributes := #[] }
def k1m3 : Method := { name := "allowed", desc := "(I)I", sig := { parameters := [.int], returnType := some .int }, accessFlags := 10, code := some k1c3 }
def k1c4 : Code := { maxStack := 3, maxLocals := 7, code := code, exceptionTable := #[], attributes := #[] }
def k1m4 : Method := { name := "law", desc := "(II)Z", sig := { parameters := [.int, .int], returnType := some .boolean }, accessFlags := 9, code := some k1c4 }
/-- com/example/festung/festung/engine/TruthWithinPinLaw -/
def k1 : Class := { plain "com/example/festung/festung/engine/TruthWithinPinLaw" (some 0) with
  accessFlags := 49
  interfaces := #[]
  cf := some (fileOf pool1 9 #[] #[{ accessFlags := 1, nameIndex := 5, descriptorIndex := 6, attributes := #[] }, { accessFlags := 10, nameIndex := 12, descriptorIndex := 13, attributes := #[] }, { accessFlags := 10, nameIndex := 28, descriptorIndex := 29, attributes := #[] }, { accessFlags := 10, nameIndex := 32, descriptorIndex := 13, attributes := #[] }, { accessFlags := 9, nameIndex := 40, descriptorIndex := 41, attributes := #[] }] 49 2 #[] #[])
  fields := #[]
  methods := #[k1m0, k1m1, k1m2, k1m3, k1m4]
  instanceTypes := #[]
  staticTypes := #[]
  resolved := Array.replicate 44 none
  statics := none }

def pool2 : Array CpInfo := pool [(1, .class_ 2), (0, u "java/lang/constant/Constable"), (0, .class_ 4), (0, u "java/lang/Object")] 6

/-- java/lang/constant/Constable -/
def k2 : Class := { plain "java/lang/constant/Constable" (some 0) with
  accessFlags := 1537
  interfaces := #[]
  cf := some (fileOf pool2 1 #[] #[] 1537 3 #[] #[])
  fields := #[]
  methods := #[]
  instanceTypes := #[]
  staticTypes := #[]
  resolved := Array.replicate 11 none
  statics := none }

def pool3 : Array CpInfo := pool [(1, .class_ 2), (0, u "java/lang/Comparable"), (0, .class_ 4), (0, u "java/lang/Object")] 7

/-- java/lang/Comparable -/
def k3 : Class := { plain "java/lang/Comparable" (some 0) with
  accessFlags := 1537
  interfaces := #[]
  cf := some (fileOf pool3 1 #[] #[] 1537 3 #[] #[])
  fields := #[]
  methods := #[]
  instanceTypes := #[]
  staticTypes := #[]
  resolved := Array.replicate 12 none
  statics := none }

def pool4 : Array CpInfo := pool [(1, .class_ 2), (0, u "java/io/Serializable"), (0, .class_ 4), (0, u "java/lang/Object")] 2

/-- java/io/Serializable -/
def k4 : Class := { plain "java/io/Serializable" (some 0) with
  accessFlags := 1537
  interfaces := #[]
  cf := some (fileOf pool4 1 #[] #[] 1537 3 #[] #[])
  fields := #[]
  methods := #[]
  instanceTypes := #[]
  staticTypes := #[]
  resolved := Array.replicate 7 none
  statics := none }

def pool5 : Array CpInfo := pool [(2, .class_ 4), (1, u "java/lang/Enum"), (0, u "name"), (0, u "Ljava/lang/String;"), (2, u "ordinal"), (0, u "I"), (1, .class_ 14), (1, u "java/lang/Object"), (4, u "hash"), (86, .class_ 108), (1, u "java/lang/Enum$EnumDesc"), (2, .class_ 112), (0, u "java/lang/constant/Constable"), (0, .class_ 114), (0, u "java/lang/Comparable"), (0, .class_ 116), (0, u "java/io/Serializable")] 87

/-- java/lang/Enum -/
def k5 : Class := { plain "java/lang/Enum" (some 0) with
  accessFlags := 1057
  interfaces := #[2, 3, 4]
  cf := some (fileOf pool5 2 #[.nestMembers #[106]] #[] 1057 12 #[111, 113, 115] #[{ accessFlags := 18, nameIndex := 5, descriptorIndex := 6, attributes := #[] }, { accessFlags := 18, nameIndex := 9, descriptorIndex := 10, attributes := #[] }, { accessFlags := 2, nameIndex := 19, descriptorIndex := 10, attributes := #[] }])
  fields := #[{ name := "name", type := (.object "java/lang/String"), accessFlags := 18, slot := 0, constantValue := 0 }, { name := "ordinal", type := .int, accessFlags := 18, slot := 1, constantValue := 0 }, { name := "hash", type := .int, accessFlags := 2, slot := 2, constantValue := 0 }]
  methods := #[]
  instanceTypes := #[(.object "java/lang/String"), .int, .int]
  staticTypes := #[]
  resolved := Array.replicate 204 none
  statics := none }

def pool6 : Array CpInfo := pool [(1, .class_ 2), (0, u "com/example/festung/festung/engine/Truth"), (2, u "FALSE"), (0, u "Lcom/example/festung/festung/engine/Truth;"), (2, u "TRUE"), (0, .fieldref 1 11), (0, .nameAndType 12 6), (0, u "EITHER"), (2, u "$VALUES"), (0, u "[Lcom/example/festung/festung/engine/Truth;"), (6, .class_ 25), (1, u "java/lang/Enum"), (26, u "within"), (0, u "(Lcom/example/festung/festung/engine/Truth;)Z")] 4

def k6c0 : Code := { maxStack := 2, maxLocals := 2, code := prog_24_method_6_code, exceptionTable := #[], attributes := #[] }
def k6m0 : Method := { name := "within", desc := "(Lcom/example/festung/festung/engine/Truth;)Z", sig := { parameters := [(.object "com/example/festung/festung/engine/Truth")], returnType := some .boolean }, accessFlags := 0, code := some k6c0 }
/-- com/example/festung/festung/engine/Truth -/
def k6 : Class := { plain "com/example/festung/festung/engine/Truth" (some 5) with
  accessFlags := 16432
  interfaces := #[]
  cf := some (fileOf pool6 1 #[] #[{ accessFlags := 0, nameIndex := 52, descriptorIndex := 53, attributes := #[] }] 16432 23 #[] #[{ accessFlags := 16409, nameIndex := 5, descriptorIndex := 6, attributes := #[] }, { accessFlags := 16409, nameIndex := 9, descriptorIndex := 6, attributes := #[] }, { accessFlags := 16409, nameIndex := 12, descriptorIndex := 6, attributes := #[] }, { accessFlags := 4122, nameIndex := 15, descriptorIndex := 16, attributes := #[] }])
  fields := #[{ name := "FALSE", type := (.object "com/example/festung/festung/engine/Truth"), accessFlags := 16409, slot := 0, constantValue := 0 }, { name := "TRUE", type := (.object "com/example/festung/festung/engine/Truth"), accessFlags := 16409, slot := 1, constantValue := 0 }, { name := "EITHER", type := (.object "com/example/festung/festung/engine/Truth"), accessFlags := 16409, slot := 2, constantValue := 0 }, { name := "$VALUES", type := (.array (.object "com/example/festung/festung/engine/Truth")), accessFlags := 4122, slot := 3, constantValue := 0 }]
  methods := #[k6m0]
  instanceTypes := #[(.object "java/lang/String"), .int, .int]
  staticTypes := #[(.object "com/example/festung/festung/engine/Truth"), (.object "com/example/festung/festung/engine/Truth"), (.object "com/example/festung/festung/engine/Truth"), (.array (.object "com/example/festung/festung/engine/Truth"))]
  resolved := Array.replicate 58 none
  statics := some 0 }

def pool7 : Array CpInfo := pool [(1, u "java/lang/Cloneable"), (0, .class_ 1), (0, u "java/lang/Object"), (0, .class_ 3)] 3

/-- java/lang/Cloneable -/
def k7 : Class := { plain "java/lang/Cloneable" (some 0) with
  accessFlags := 1537
  interfaces := #[]
  cf := some (fileOf pool7 2 #[] #[] 1537 4 #[] #[])
  fields := #[]
  methods := #[]
  instanceTypes := #[]
  staticTypes := #[]
  resolved := Array.replicate 8 none
  statics := none }

/-- the primitive byte -/
def k8 : Class := { plain "byte" none with kind := .primitive 'B', accessFlags := 0x411 }
/-- [B -/
def k9 : Class := { plain "[B" (some 0) with kind := .array 8 .byte, interfaces := #[7, 4], accessFlags := 1041 }

/-- the primitive int -/
def k10 : Class := { plain "int" none with kind := .primitive 'I', accessFlags := 0x411 }
/-- [I -/
def k11 : Class := { plain "[I" (some 0) with kind := .array 10 .int, interfaces := #[7, 4], accessFlags := 1041 }

def heap : Heap := #[{ cls := 6, slots := #[.ref 1, .ref 2, .ref 3, .null], vm := .statics 6 },
  { cls := 6, slots := #[.null, .int 0, .int 0], vm := .none },
  { cls := 6, slots := #[.null, .int 1, .int 0], vm := .none },
  { cls := 6, slots := #[.null, .int 2, .int 0], vm := .none }]
def classes : Array Class := #[k0, k1, k2, k3, k4, k5, k6, k7, k8, k9, k10, k11]
def interned : List (Array UInt16 × Addr) := []
def slotsUsed : Nat := 13
def theMethod : MethodId := ⟨1, 4⟩
def args0 : Array Value := #[.int 5, .int 7]
def aboutOver (below : List Frame) : State where
  vm := { classes := classes, interned := interned.toArray }
  heap := heap
  slotsUsed := slotsUsed
  threads := #[{ frames := .invoking theMethod args0 :: below }]
def below0 : List Frame := [.native { method := ⟨0, 0⟩, args := #[] }]
def about1 : State := aboutOver below0
def p0 : Program := .bare "" "" ""
def e0 : Env := launch0.env 0 0 0
theorem w_frames : about1.frames = Frame.invoking theMethod args0 :: below0 := rfl
set_option maxRecDepth 65536 in
theorem w_args : argsFit about1.vm theMethod args0 = true := by decide +kernel
set_option maxRecDepth 65536 in
theorem w_heap : heapFits about1 = true := by decide +kernel
set_option maxRecDepth 65536 in
theorem w_runnable : about1.curStatus? = some .runnable := by decide +kernel
set_option maxRecDepth 65536 in
theorem w_alone : about1.alone = true := by decide +kernel
set_option maxRecDepth 65536 in
theorem w_named : about1.methodNamed? x = some theMethod := by decide +kernel
set_option maxRecDepth 65536 in
theorem w_hears : about1.hears theMethod below0 = true := by decide +kernel
set_option maxRecDepth 65536 in
theorem w_ripe : about1.ripe theMethod args0 below0 = true := by decide +kernel
theorem w_running : about1.status = .running := rfl
set_option maxRecDepth 65536 in
theorem w_room : about1.hasRoom e0.platform room_1 = true :=
  launch0.hasRoom_least _ room_1 (by decide +kernel) (by decide +kernel) (by decide +kernel) (by decide +kernel) (by decide +kernel) (by decide +kernel)
theorem allAtoms_all (ts : List Jvm.Cond) (a : Array Jvm.Value) (st : Jvm.State) : (allAtoms ts).before a st = ts.all (fun c => c.before a st) := by
  induction ts with
  | nil => rfl
  | cons c t ih =>
    show (Jvm.Cond.and c (allAtoms t)).before a st = _
    rw [Jvm.Cond.before_and, ih, List.all_cons]
def words1 : List Jvm.Cond := Jvm.Cond.code x code maxLocals ret :: tables_1
/-- a 'code' word, met by the world's own term for the bytes: nothing is compared byte by byte -/
theorem code_word {y : MethodName} {bytes : ByteArray} {mx : Nat} {rt : Option FieldType} {a : Array Value} {s : State} {m : MethodId} {meth : Method} {c : Code} (h1 : s.methodNamed? y = some m) (h2 : s.vm.method? m = some meth) (h3 : meth.code = some c) (h4 : c.code = bytes)
    (h5 : (c.maxLocals == mx && c.exceptionTable.isEmpty && decide (c.maxStack ≤ mostOperands) && decide (meth.sig.returnType = rt) && !meth.locks && decide (parseMethodDescriptor y.desc = some meth.sig)) = true) : (Jvm.Cond.code y bytes mx rt).before a s = true := by
  simp only [Bool.and_eq_true, beq_iff_eq, Bool.not_eq_true', decide_eq_true_eq] at h5
  obtain ⟨⟨⟨⟨⟨g1, g2⟩, g3⟩, g4⟩, g5⟩, g6⟩ := h5
  simp [Cond.before, Cond.holds, Cond.value, h1, h2, h3, h4, g1, g2, g3, g4, g5, g6]
def isCode : Jvm.Cond → Bool
  | .code _ _ _ _ => true
  | _ => false
theorem all_split {L : List Jvm.Cond} {P : Jvm.Cond → Bool} (h1 : L.all (fun c => isCode c || P c) = true) (h2 : ∀ c ∈ L.filter isCode, P c = true) : L.all P = true := by
  refine List.all_eq_true.mpr fun c hc => ?_
  have h := List.all_eq_true.mp h1 c hc
  rcases Bool.eq_false_or_eq_true (isCode c) with hi | hi
  · exact h2 c (List.mem_filter.mpr ⟨hc, hi⟩)
  · simpa [hi] using h
set_option maxRecDepth 65536 in
theorem w_c0 : (Jvm.Cond.code x code maxLocals ret).before args0 about1 = true := code_word (m := ⟨1, 4⟩) (meth := k1m4) (c := k1c4) (by decide +kernel) rfl rfl rfl (by decide +kernel)
set_option maxRecDepth 65536 in
theorem w_c1 : (Jvm.Cond.code ({ cls := "com/example/festung/festung/engine/TruthWithinPinLaw", name := "pick", desc := "(I)Lcom/example/festung/festung/engine/Truth;" } : Jvm.MethodName) method_3_code (2 : Nat) (Option.some (Jvm.ClassFile.FieldType.object "com/example/festung/festung/engine/Truth"))).before args0 about1 = true := code_word (m := ⟨1, 2⟩) (meth := k1m2) (c := k1c2) (by decide +kernel) rfl rfl rfl (by decide +kernel)
set_option maxRecDepth 65536 in
theorem w_c2 : (Jvm.Cond.code ({ cls := "com/example/festung/festung/engine/TruthWithinPinLaw", name := "index", desc := "(I)I" } : Jvm.MethodName) method_2_code (1 : Nat) (Option.some Jvm.ClassFile.FieldType.int)).before args0 about1 = true := code_word (m := ⟨1, 1⟩) (meth := k1m1) (c := k1c1) (by decide +kernel) rfl rfl rfl (by decide +kernel)
set_option maxRecDepth 65536 in
theorem w_c3 : (Jvm.Cond.code ({ cls := "com/example/festung/festung/engine/TruthWithinPinLaw", name := "allowed", desc := "(I)I" } : Jvm.MethodName) method_4_code (2 : Nat) (Option.some Jvm.ClassFile.FieldType.int)).before args0 about1 = true := code_word (m := ⟨1, 3⟩) (meth := k1m3) (c := k1c3) (by decide +kernel) rfl rfl rfl (by decide +kernel)
set_option maxRecDepth 65536 in
theorem w_c4 : (Jvm.Cond.code ({ cls := "com/example/festung/festung/engine/Truth", name := "within", desc := "(Lcom/example/festung/festung/engine/Truth;)Z" } : Jvm.MethodName) prog_24_method_6_code (2 : Nat) (Option.some Jvm.ClassFile.FieldType.boolean)).before args0 about1 = true := code_word (m := ⟨6, 0⟩) (meth := k6m0) (c := k6c0) (by decide +kernel) rfl rfl rfl (by decide +kernel)
def codes1 : List Jvm.Cond := [Jvm.Cond.code x code maxLocals ret, Jvm.Cond.code ({ cls := "com/example/festung/festung/engine/TruthWithinPinLaw", name := "pick", desc := "(I)Lcom/example/festung/festung/engine/Truth;" } : Jvm.MethodName) method_3_code (2 : Nat) (Option.some (Jvm.ClassFile.FieldType.object "com/example/festung/festung/engine/Truth")), Jvm.Cond.code ({ cls := "com/example/festung/festung/engine/TruthWithinPinLaw", name := "index", desc := "(I)I" } : Jvm.MethodName) method_2_code (1 : Nat) (Option.some Jvm.ClassFile.FieldType.int), Jvm.Cond.code ({ cls := "com/example/festung/festung/engine/TruthWithinPinLaw", name := "allowed", desc := "(I)I" } : Jvm.MethodName) method_4_code (2 : Nat) (Option.some Jvm.ClassFile.FieldType.int), Jvm.Cond.code ({ cls := "com/example/festung/festung/engine/Truth", name := "within", desc := "(Lcom/example/festung/festung/engine/Truth;)Z" } : Jvm.MethodName) prog_24_method_6_code (2 : Nat) (Option.some Jvm.ClassFile.FieldType.boolean)]
set_option maxRecDepth 65536 in
theorem codes_eq : words1.filter isCode = codes1 := rfl
theorem w_codes : ∀ c ∈ words1.filter isCode, c.before args0 about1 = true := by
  rw [codes_eq]
  intro c hc
  simp only [codes1, List.mem_cons, List.not_mem_nil, or_false] at hc
  rcases hc with rfl | rfl | rfl | rfl | rfl
  · exact w_c0
  · exact w_c1
  · exact w_c2
  · exact w_c3
  · exact w_c4
set_option maxRecDepth 65536 in
theorem w_t1 : (words1.take 24).all (fun c => isCode c || c.before args0 about1) = true := by decide +kernel
set_option maxRecDepth 65536 in
theorem w_t2 : (words1.drop 24).all (fun c => isCode c || c.before args0 about1) = true := by decide +kernel
theorem w_tables : (allAtoms (Jvm.Cond.code x code maxLocals ret :: tables_1)).before args0 about1 = true := by
  rw [allAtoms_all]
  show words1.all (fun c => c.before args0 about1) = true
  refine all_split ?_ w_codes
  rw [← List.take_append_drop 24 words1, List.all_append, w_t1, w_t2]
  rfl
set_option maxRecDepth 65536 in
theorem w_case : (Jvm.Cond.and given_1 narrow_1).before args0 about1 = true := by decide +kernel
theorem w_applies : (headSpec (Jvm.Cond.code x code maxLocals ret :: tables_1) room_1).applies x e0.platform about1 = true :=
  (Spec.applies_iff w_frames).mpr ⟨w_running, w_runnable, w_alone, w_named, w_hears, w_ripe, w_room, w_tables⟩
theorem atStart : AtStart classFile x code maxLocals ret World_1 tables_1 room_1 Calls_1 rest_1 Pre_1 launch0 p0 e0 about1 theMethod args0 below0 :=
  ⟨lists_1, trivial, launch0.admits_env _ _ _, launch0.least_env, fairChoices_fair.cas, fairChoices_fair.clock, w_frames, w_args, w_heap, w_applies, trivial, trivial, w_case⟩
end start1
theorem witness_1 : WitnessClaimed_1 := ⟨start1.p0, start1.e0, start1.about1, start1.theMethod, start1.args0, start1.below0, start1.atStart⟩
end Jvm.Pilot.@@N@@
