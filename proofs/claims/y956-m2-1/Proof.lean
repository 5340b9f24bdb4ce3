import JvmDerived
import JvmDerived.Pilot.@@N@@Statement
import JvmDerived.Pilot.@@N@@Code
set_option linter.unusedVariables false
set_option linter.unusedSimpArgs false
namespace Jvm.Pilot.@@N@@
open Jvm Jvm.ClassFile Sem Op Lib Jvm.Free Jvm.Stand Jvm.LawKit Jvm.RoadKit Bundle Jvm.Pilot.@@N@@.Jvm.D
abbrev own_Go (tb : Tables) (e : Env) (below : List Frame) (P : State → Outcome → Prop) (st : State) : Prop := ∃ U o, Steps tb e below st U ∧ P U o
theorem own_go {tb : Tables} {e : Env} {below : List Frame} {P : State → Outcome → Prop} {st st' : State} (h : ∀ t, Steps tb e below st' t → Steps tb e below st t) (k : own_Go tb e below P st') : own_Go tb e below P st := by
  obtain ⟨U, o, h1, h2⟩ := k; exact ⟨U, o, h _ h1, h2⟩
theorem own_cat {v : Value} (h : v.isRef = true) : v.category = 1 := by rcases ref_cases h with rfl | ⟨a, rfl⟩ <;> rfl
theorem own_nar_ref {t : FieldType} {v : Value} (h : v.isRef = true) : narrow t v = v := by rcases ref_cases h with rfl | ⟨a, rfl⟩ <;> cases t <;> rfl
theorem own_fit_ref {t : FieldType} {v : Value} (h : v.isRef = true) (ht : t.isReference = true := by rfl) : fits t v = true := by rcases ref_cases h with rfl | ⟨a, rfl⟩ <;> cases t <;> first | rfl | (cases ht)
theorem own_widen {p : Program} {l : Launch} {e : Env} {R : Room} {s : State} {m : MethodId} {args : Array Value} {below : List Frame} {meth : Method} {c : Code} {T : State} {locs : List Loc} {cells slots cells' slots' : Nat} (X : Stand p l e R s m args below meth c T locs cells slots) (h1 : cells ≤ cells') (h2 : slots ≤ slots') : Stand p l e R s m args below meth c T locs cells' slots' :=
  { X with same := X.same.mono h1 h2 }
theorem own_sel_priv {s : State} {args : Array Value} {y : MethodName} {n : Nat} (wi : (Jvm.Cond.instantiable y.cls n).before args s = true) (hp : s.PrivateAt y) (hinst : (Jvm.Cond.instanceMethod y).before args s = true) (hy : y.cls ≠ "java/lang/invoke/MethodHandle" ∧ y.cls ≠ "java/lang/invoke/VarHandle") : (Jvm.Cond.selects y.cls y y).before args s = true := by
  obtain ⟨c, k, h1, h2, -, h4, -⟩ := Cond.instantiable_spec wi
  exact selects_self_of_private h1 h2 (Bool.or_eq_false_iff.mp h4).1 hp hinst hy
theorem own_sta_keep {Z : State} {h h' : Heap} {ws : List Addr} {C n d : String} {v : Value} (F : Sta Z h C n d v) (K : Keep h h' ws) (q : ∀ x ∈ ws, ∀ c : Cell, h[x]? = some c → c.vm.isStatics = false) : Sta Z h' C n d v := by
  obtain ⟨cf, i, k, f, st, cell, h1, h2, h3, h4, h5, h6, h7⟩ := F
  exact ⟨cf, i, k, f, st, cell, h1, h2, h3, h4, K.2.1 st cell h5 (fun z => by rw [q st z cell h5] at h6; cases h6), h6, h7⟩
theorem own_pl_exa {Z : State} {h : Heap} {a : Addr} {C : String} (F : Exa Z h a C) : ∀ c : Cell, h[a]? = some c → c.vm.isStatics = false := fun c hc => by
  obtain ⟨c1, k, h1, -, -, h4, -⟩ := F; cases h1.symm.trans hc; exact h4
theorem own_pl_fld {Z : State} {h : Heap} {a : Addr} {C n d : String} {v : Value} (F : Fld Z h a C n d v) : ∀ c : Cell, h[a]? = some c → c.vm.isStatics = false := old_plain F
theorem own_pl_arv {Z : State} {h : Heap} {a : Addr} {k : ClassId} {ty : FieldType} {n : Int32} {vs : List Value} {d : Value} (F : Arv Z h a k ty n vs d) : ∀ c : Cell, h[a]? = some c → c.vm.isStatics = false := fun c hc => by
  obtain ⟨c1, A, -⟩ := F; cases A.1.symm.trans hc; exact A.plain
theorem own_fld {args : Array Value} {s : State} {t : Term} {C n d : String} {a : Addr} {k : Int32} (ev : t.eval args s none [] s = some (.ref a)) (h : (Jvm.Cond.eq (.field t C n d) (.int k)).value args s none s [] = some true) : Fld s s.heap a C n d (.int k) := by
  obtain ⟨x, y, e1, e2, -, k2⟩ := cmp_v (Or.inl h)
  obtain rfl : Value.int k = y := Option.some.inj e2
  obtain ⟨z, rfl⟩ := k2
  have q : z = k := by
    simp only [Cond.value] at h
    rw [e1, e2] at h
    simpa using h
  subst q
  rw [fld_at ev] at e1
  exact Fld.start e1
theorem own_len {args : Array Value} {s : State} {t : Term} {a : Addr} {cl : Cell} {n : Int32} (ev : t.eval args s none [] s = some (.ref a)) (hc : s.heap[a]? = some cl) (h : (Jvm.Cond.eq (.length t) (.int n)).value args s none s [] = some true) : cl.slots.size < 2 ^ 31 ∧ cl.slots.size.toInt32 = n := by
  obtain ⟨x, y, e1, e2, -, -⟩ := cmp_v (Or.inl h)
  obtain rfl : Value.int n = y := Option.some.inj e2
  obtain ⟨b, cell, g1, g2, rfl⟩ := Term.length_spec e1
  cases ev.symm.trans g1
  have g3 : cell.slots.size < 2 ^ 31 := by
    apply Decidable.byContradiction
    intro q
    simp [Term.eval, ev, g2, q] at e1
  have g4 : cell = cl := by
    simp only [State.arrayAt?, Option.bind_eq_bind, Option.bind_eq_some_iff] at g2
    obtain ⟨c2, q1, k2, q2, q3⟩ := g2
    split at q3
    · cases q3
    · split at q3
      · cases q3; exact Option.some.inj (q1.symm.trans hc)
      · cases q3
  rw [← g4]
  refine ⟨g3, ?_⟩
  simp only [Cond.value] at h
  rw [e1, e2] at h
  simpa using h
theorem own_elem {args : Array Value} {s : State} {t u : Term} {a b : Addr} {cl : Cell} {k : Int32} (ev : t.eval args s none [] s = some (.ref a)) (hc : s.heap[a]? = some cl) (eu : u.eval args s none [] s = some (.ref b)) (h : (Jvm.Cond.eq (.elem t (.int k)) u).value args s none s [] = some true) : cl.slots[k.toNatClampNeg]? = some (.ref b) := by
  obtain ⟨x, y, e1, e2, -, -⟩ := cmp_v (Or.inl h)
  cases eu.symm.trans e2
  have q := (elem_in e1 ev rfl hc).2
  have : x = .ref b := by
    simp only [Cond.value] at h
    rw [e1, e2] at h
    cases x <;> simp at h ⊢
    exact h
  rw [q, this]
def own_Cache (Z : State) (h : Heap) (a : Addr) : Prop := ∃ cl : Cell, Arr Z h a cl (.object "java/lang/Integer") ∧ cl.slots.size = 256 ∧ ∀ j : Nat, j < 256 → ∃ r : Addr, cl.slots[j]? = some (.ref r) ∧ Exa Z h r "java/lang/Integer"
theorem own_Cache_ext {Z : State} {h h' : Heap} {a : Addr} (F : own_Cache Z h a) (E : Ext h h') : own_Cache Z h' a := by
  obtain ⟨cl, A, S, H⟩ := F
  exact ⟨cl, A.ext E, S, fun j hj => by obtain ⟨r, q1, q2⟩ := H j hj; exact ⟨r, q1, q2.ext E⟩⟩
theorem own_Cache_keep {Z : State} {h h' : Heap} {a : Addr} {ws : List Addr} (F : own_Cache Z h a) (K : Keep h h' ws) (q : a ∉ ws) : own_Cache Z h' a := by
  obtain ⟨cl, A, S, H⟩ := F
  exact ⟨cl, ⟨K.2.1 a cl A.1 q, A.2⟩, S, fun j hj => by obtain ⟨r, q1, q2⟩ := H j hj; exact ⟨r, q1, q2.keep K⟩⟩
theorem own_Cache_wr {Z : State} {h h' : Heap} {a b : Addr} {sl : Nat} {v : Value} (F : own_Cache Z h a) (W : Wr h h' b sl v) (q : a ≠ b) : own_Cache Z h' a := by
  obtain ⟨cl, A, S, H⟩ := F
  exact ⟨cl, A.other W q, S, fun j hj => by obtain ⟨r, q1, q2⟩ := H j hj; exact ⟨r, q1, q2.wr W⟩⟩
theorem own_Cache_lt {Z : State} {h : Heap} {a : Addr} (F : own_Cache Z h a) : @LT.lt Nat _ a h.size := by obtain ⟨cl, A, -⟩ := F; exact A.lt
theorem own_stI {args : Array Value} {s : State} {t : Term} {k : Int32} (h : (Jvm.Cond.eq t (.int k)).value args s none s [] = some true) : t.eval args s none [] s = some (.int k) := by
  obtain ⟨x, y, e1, e2, -, k2⟩ := cmp_v (Or.inl h)
  obtain rfl : Value.int k = y := Option.some.inj e2
  obtain ⟨z, rfl⟩ := k2
  have q : z = k := by
    simp only [Cond.value] at h
    rw [e1, e2] at h
    simpa using h
  rw [e1, q]
theorem own_cache_of {args : Array Value} {s : State} {C n d : String} {a : Addr} {cl : Cell} {c2 : Jvm.Cond} (ev : (Term.static C n d).eval args s none [] s = some (.ref a)) (A : Arr s s.heap a cl (.object "java/lang/Integer")) (hl : cl.slots.size < 2 ^ 31 ∧ cl.slots.size.toInt32 = 256)
    (h : (Jvm.Cond.all (Term.static C n d) (Jvm.Cond.and (Jvm.Cond.exactly (Term.elem (Term.static C n d) (Term.index 0)) "java/lang/Integer") c2)).value args s none s [] = some true) : own_Cache s s.heap a := by
  have sz : cl.slots.size = 256 := by
    have q := len_toInt hl.1
    rw [hl.2] at q
    have : (256 : Int32).toInt = 256 := rfl
    omega
  refine ⟨cl, A, sz, fun j hj => ?_⟩
  have q := Cond.all_elim ev (A.fin (Vm.Alike.refl _)) h j (by omega)
  obtain ⟨q1, -⟩ := and_e q
  obtain ⟨a', c', cell, k, e1, e2, e3, e4, e5, e6, e7⟩ := Cond.exactly_spec (beq_iff_eq.mpr q1 : (Jvm.Cond.exactly (Term.elem (Term.static C n d) (Term.index 0)) "java/lang/Integer").holds args s none s [j] = true)
  have ei : (Term.index 0).eval args s none [j] s = some (.int (Nat.toInt32 j)) := by first | rfl | simp [Term.eval]
  have r := (elem_in e1 (show (Term.static C n d).eval args s none [j] s = some (.ref a) from ev) ei A.1).2
  have hj2 : (Nat.toInt32 j).toNatClampNeg = j := by simp only [Int32.toNatClampNeg, len_toInt (show j < 2 ^ 31 by omega)]; rfl
  rw [hj2] at r
  subst e6
  exact ⟨a', r, cell, k, e3, e2, e4, e5, e7⟩
theorem own_idx (p : Int32) (h1 : ¬ p < (-128 : Int32)) (h2 : ¬ (127 : Int32) < p) : ¬ (p + (128 : Int32)) < 0 ∧ (p + (128 : Int32)).toNatClampNeg < 256 := by
  have h := c_iadd p 128
  have hr := rng32 (p + 128)
  rw [Int32.lt_iff_toInt_lt] at h1 h2 ⊢
  have e1 : (-128 : Int32).toInt = -128 := rfl
  have e2 : (127 : Int32).toInt = 127 := rfl
  have e3 : (128 : Int32).toInt = 128 := rfl
  have e0 : (0 : Int32).toInt = 0 := rfl
  rw [e3] at h
  simp only [Int32.toNatClampNeg]
  omega
theorem d16_0 : decode jdk_18_method_1_code 0 = .ok (.aload_n 0, 1) := by decide +kernel
theorem d16_1 : decode jdk_18_method_1_code 1 = .ok (.invokespecial 1, 3) := by decide +kernel
theorem d16_4 : decode jdk_18_method_1_code 4 = .ok (.return_, 1) := by decide +kernel
theorem pn_16 : plainName "java/lang/Number" = true := by first | (simp [plainName, overriddenIn]; done) | decide +kernel
theorem ef_rm16 (m : MethodId) (x0 : Addr) : entryFrame m #[(.ref x0)] 1 = mkF m 0 #[.val (.ref x0)] [] := by first | (simp [entryFrame, mkF, argsToLocals, Value.category]; done) | rfl
def Qrm16 (Z : State) (a1 : Addr) (h0 : Heap) (n0 : Nat) (v : Option Value) (h : Heap) (L : List Loc) : Prop := (v = none) ∧ (Fr n0 L) ∧ (h = h0)
set_option maxRecDepth 65536 in
set_option maxHeartbeats 40000000 in
theorem rm16 (l : Launch) (Z : State) (a0 : Array Value) (hw : ∀ d ∈ tables_1, d.before a0 Z = true) (ws : List Jvm.Cond) (a1 : Addr) (h0 : Heap) (n0 : Nat) (Z0 : n0 ≤ h0.size)  :
    MetFree l (⟨"java/lang/Number", "<init>", "()V"⟩ : MethodName) (head1 (Jvm.Cond.code (⟨"java/lang/Number", "<init>", "()V"⟩ : MethodName) jdk_18_method_1_code 1 none :: ws) ({ frames := 1, cells := 0, slots := 0, locals := 12 } : Room)) (fun a U => a = #[(.ref a1)] ∧ Z.Warmed39 U.vm ∧ U.heap = h0) (fun _ _ _ _ _ => True) (fun _ U o U' => ∃ v L, o = .returned v ∧ Qrm16 Z a1 h0 n0 v U'.heap L ∧ FrameEnd U o U' L ({ frames := 1, cells := 0, slots := 0, locals := 12 } : Room).cells ({ frames := 1, cells := 0, slots := 0, locals := 12 } : Room).slots) := by
  refine MetFree.of_bodySF (plainFor_of_name pn_16) hisR ?_
  intro p e s m args below meth c s₁ Bd hml0 hP0 hK
  obtain ⟨rfl, hZ, hh⟩ := hP0
  have hx := Bd.exec
  have hby := Bd.bytes
  have hml : c.maxLocals = 1 := hml0
  have hown : s.vm.findClass "java/lang/Number" = some m.cls := findClass_of_methodNamed Bd.named
  have hnm := (name_of_methodNamed Bd.named Bd.method).1
  have X0 : Stand p l e ({ frames := 1, cells := 0, slots := 0, locals := 12 } : Room) s m #[(.ref a1)] below meth c s₁ [] 0 0 := Stand.of_body Bd
  have e0 : s₁.heap = h0 := by rw [← hh, Bd.state]; rfl
  have N0 := Fr.nil n0
  suffices own_H : ∀ (P : State → Outcome → Prop), (∀ U o, U.status = .running → Ended U below o → (∃ v L, o = .returned v ∧ Qrm16 Z a1 h0 n0 v U.heap L ∧ FrameEnd s o U L ({ frames := 1, cells := 0, slots := 0, locals := 12 } : Room).cells ({ frames := 1, cells := 0, slots := 0, locals := 12 } : Room).slots) → P U o) → own_Go p.tables e below P (s₁.setTop (mkF m 0 #[.val (.ref a1)] [])) from own_go (fun _ k => castTop (ef_rm16 m a1) k) (own_H _ (fun U o h1 h2 h3 => ⟨h1, h2, h3⟩))
  intro P hP
  refine own_go (st' := s₁.setTop (mkF m 1 #[.val (.ref a1)] [(.ref a1)])) (fun _ k => XS.aloadN X0.here hx rfl (hb hby d16_0) rfl rfl k) ?_
  obtain ⟨T1, X1, e1, st1⟩ := initO X0 hx hZ hown (hw _ (List.mem_of_getElem? (i := 108) rfl)) (hw _ (List.mem_of_getElem? (i := 14) rfl)) (hw _ (List.mem_of_getElem? (i := 15) rfl)) e0 (g := (mkF m 1 #[.val (.ref a1)] [(.ref a1)])) rfl (by rw [hml]; rfl) rfl (hb hby d16_1) (by decide) (W := 0) (by show 2 * 0 + _ ≤ _; exact Nat.le_of_eq rfl) (by decide)
  refine own_go (st' := T1.setTop (mkF m 4 #[.val (.ref a1)] [])) (st1) ?_
  obtain ⟨fs, hr, hrun, hended, hW, hsame⟩ := X1.leave (v := none) (fun _ => rfl)
  refine ⟨_, _, ?_, hP _ _ hrun hended ⟨_, _, rfl, ?_, ⟨_, rfl⟩, hW, hsame.mono (by decide) (by decide)⟩⟩
  · exact X1.returnOut hx Bd.returns (hb hby d16_4) hr
  · show Qrm16 Z a1 h0 n0 _ T1.heap _
    rw [e1]
    exact ⟨rfl, N0, rfl⟩
theorem pd_0 : parseMethodDescriptor "()V" = some ⟨[], none⟩ := by decide +kernel
theorem d15_0 : decode jdk_33_method_23_code 0 = .ok (.aload_n 0, 1) := by decide +kernel
theorem d15_1 : decode jdk_33_method_23_code 1 = .ok (.invokespecial 202, 3) := by decide +kernel
theorem d15_4 : decode jdk_33_method_23_code 4 = .ok (.aload_n 0, 1) := by decide +kernel
theorem d15_5 : decode jdk_33_method_23_code 5 = .ok (.iload_n 1, 1) := by decide +kernel
theorem d15_6 : decode jdk_33_method_23_code 6 = .ok (.putfield 205, 3) := by decide +kernel
theorem d15_9 : decode jdk_33_method_23_code 9 = .ok (.return_, 1) := by decide +kernel
theorem pn_15 : plainName "java/lang/Integer" = true := by first | (simp [plainName, overriddenIn]; done) | decide +kernel
theorem ef_rm15 (m : MethodId) (x0 : Addr) (x1 : Int32) : entryFrame m #[(.ref x0), (.int x1)] 2 = mkF m 0 #[.val (.ref x0), .val (.int x1)] [] := by first | (simp [entryFrame, mkF, argsToLocals, Value.category]; done) | rfl
def Qrm15 (Z : State) (a1 : Addr) (p2 : Int32) (u3 : Int32) (h0 : Heap) (n0 : Nat) (v : Option Value) (h : Heap) (L : List Loc) : Prop := (v = none) ∧ (Fr n0 L) ∧ (Keep h0 h [a1]) ∧ (Exa Z h a1 "java/lang/Integer") ∧ (Fld Z h a1 "java/lang/Integer" "value" "I" (.int p2))
set_option maxRecDepth 65536 in
set_option maxHeartbeats 40000000 in
theorem rm15 (l : Launch) (Z : State) (a0 : Array Value) (hw : ∀ d ∈ tables_1, d.before a0 Z = true) (ws : List Jvm.Cond) (a1 : Addr) (p2 : Int32) (u3 : Int32) (h0 : Heap) (n0 : Nat) (Z0 : n0 ≤ h0.size) (pr1 : Exa Z h0 a1 "java/lang/Integer") (pr2 : Fld Z h0 a1 "java/lang/Integer" "value" "I" (.int u3)) (pr3 : n0 ≤ a1) :
    MetFree l (⟨"java/lang/Integer", "<init>", "(I)V"⟩ : MethodName) (head1 (Jvm.Cond.code (⟨"java/lang/Integer", "<init>", "(I)V"⟩ : MethodName) jdk_33_method_23_code 2 none :: ws) ({ frames := 2, cells := 0, slots := 0, locals := 24 } : Room)) (fun a U => a = #[(.ref a1), (.int p2)] ∧ Z.Warmed39 U.vm ∧ U.heap = h0) (fun _ _ _ _ _ => True) (fun _ U o U' => ∃ v L, o = .returned v ∧ Qrm15 Z a1 p2 u3 h0 n0 v U'.heap L ∧ FrameEnd U o U' L ({ frames := 2, cells := 0, slots := 0, locals := 24 } : Room).cells ({ frames := 2, cells := 0, slots := 0, locals := 24 } : Room).slots) := by
  refine MetFree.of_bodySF (plainFor_of_name pn_15) hisR ?_
  intro p e s m args below meth c s₁ Bd hml0 hP0 hK
  obtain ⟨rfl, hZ, hh⟩ := hP0
  have hx := Bd.exec
  have hby := Bd.bytes
  have hml : c.maxLocals = 2 := hml0
  have hown : s.vm.findClass "java/lang/Integer" = some m.cls := findClass_of_methodNamed Bd.named
  have hnm := (name_of_methodNamed Bd.named Bd.method).1
  have X0 : Stand p l e ({ frames := 2, cells := 0, slots := 0, locals := 24 } : Room) s m #[(.ref a1), (.int p2)] below meth c s₁ [] 0 0 := Stand.of_body Bd
  have e0 : s₁.heap = h0 := by rw [← hh, Bd.state]; rfl
  have N0 := Fr.nil n0
  suffices own_H : ∀ (P : State → Outcome → Prop), (∀ U o, U.status = .running → Ended U below o → (∃ v L, o = .returned v ∧ Qrm15 Z a1 p2 u3 h0 n0 v U.heap L ∧ FrameEnd s o U L ({ frames := 2, cells := 0, slots := 0, locals := 24 } : Room).cells ({ frames := 2, cells := 0, slots := 0, locals := 24 } : Room).slots) → P U o) → own_Go p.tables e below P (s₁.setTop (mkF m 0 #[.val (.ref a1), .val (.int p2)] [])) from own_go (fun _ k => castTop (ef_rm15 m a1 p2) k) (own_H _ (fun U o h1 h2 h3 => ⟨h1, h2, h3⟩))
  intro P hP
  have lt_a1 : @LT.lt Nat _ a1 h0.size := pr1.lt
  refine own_go (st' := s₁.setTop (mkF m 1 #[.val (.ref a1), .val (.int p2)] [(.ref a1)])) (fun _ k => XS.aloadN X0.here hx rfl (hb hby d15_0) rfl rfl k) ?_
  obtain ⟨_, _, ⟨T1, LC1, kC1, nC1⟩, -, X1, ⟨Lc1, hQ1, lq1, yq1, zq1⟩, st1⟩ := X0.specialBack hx (y := (⟨"java/lang/Number", "<init>", "()V"⟩ : MethodName)) rfl hown (mvT hZ (hw _ (List.mem_of_getElem? (i := 102) rfl))) (mvT hZ (hw _ (List.mem_of_getElem? (i := 103) rfl))) (mvT hZ (hw _ (List.mem_of_getElem? (i := 107) rfl))) (by decide) (backOf (W := 0) (rm16 l Z a0 hw [] a1 h0 n0 (by omega) ) hZ (hw _ (List.mem_of_getElem? (i := 107) rfl)) (hw _ (List.mem_of_getElem? (i := 106) rfl)) (by decide) (by decide)) (g := (mkF m 1 #[.val (.ref a1), .val (.int p2)] [(.ref a1)])) rfl (by rw [hml]; rfl) (Steps.refl _) (a := a1) (argsL := []) (rest := []) (lenOf pd_0 rfl) rfl (by show 2 * 0 + _ ≤ _; exact Nat.le_of_eq rfl) (hb hby d15_1) (fun _ _ => ⟨rfl, e0, (by decide : 0 + 0 ≤ _), (by decide : 0 + 0 ≤ _)⟩)
  dsimp only [Pt.U, Pt.locs, Pt.cells, Pt.slots] at X1 lq1 yq1 zq1 st1 hQ1
  subst lq1 yq1 zq1
  obtain ⟨rfl, Nq1, eq1⟩ := hQ1
  have N1 := Fr.app N0 Nq1
  refine own_go (st' := T1.setTop (mkF m 4 #[.val (.ref a1), .val (.int p2)] [])) (fun _ k => st1.trans k) ?_
  refine own_go (st' := T1.setTop (mkF m 5 #[.val (.ref a1), .val (.int p2)] [(.ref a1)])) (fun _ k => XS.aloadN X1.here hx rfl (hb hby d15_4) rfl rfl k) ?_
  refine own_go (st' := T1.setTop (mkF m 6 #[.val (.ref a1), .val (.int p2)] [(.int p2), (.ref a1)])) (fun _ k => XS.iloadN X1.here hx rfl (hb hby d15_5) rfl k) ?_
  obtain ⟨T2, h2, X2, e2, W2, st2⟩ := putF X1 hx hZ hown (host := "") (Or.inl (hw _ (List.mem_of_getElem? (i := 109) rfl))) Via.refl eq1 pr2 pr1 (Or.inr ⟨(hw _ (List.mem_of_getElem? (i := 110) rfl)), rfl, hnm⟩) (hw _ (List.mem_of_getElem? (i := 97) rfl)) (ty := .int) (by decide) rfl rfl (g := (mkF m 6 #[.val (.ref a1), .val (.int p2)] [(.int p2), (.ref a1)])) rfl rfl (hb hby d15_6)
  have sz2 : h2.size = h0.size := W2.size
  have N2 := Fr.snoc X2 N1 (by omega)
  have f2 : Fld Z h2 a1 "java/lang/Integer" "value" "I" (.int p2) := pr2.same W2
  refine own_go (st' := T2.setTop (mkF m 9 #[.val (.ref a1), .val (.int p2)] [])) (st2) ?_
  obtain ⟨fs, hr, hrun, hended, hW, hsame⟩ := X2.leave (v := none) (fun _ => rfl)
  refine ⟨_, _, ?_, hP _ _ hrun hended ⟨_, _, rfl, ?_, ⟨_, rfl⟩, hW, hsame.mono (by decide) (by decide)⟩⟩
  · exact X2.returnOut hx Bd.returns (hb hby d15_9) hr
  · show Qrm15 Z a1 p2 u3 h0 n0 _ T2.heap _
    have c4 : Exa Z h2 a1 "java/lang/Integer" := (pr1.wr W2)
    rw [e2]
    exact ⟨rfl, N2, ((Keep.refl h0 [a1]).wr W2 (Or.inl (List.mem_of_getElem? (i := 0) rfl))), c4, f2⟩
theorem pd_1 : parseMethodDescriptor "(I)V" = some ⟨[.int], none⟩ := by decide +kernel
theorem d1_0 : decode jdk_33_method_22_code 0 = .ok (.iload_n 0, 1) := by decide +kernel
theorem d1_1 : decode jdk_33_method_22_code 1 = .ok (.bipush (-128), 2) := by decide +kernel
theorem d1_3 : decode jdk_33_method_22_code 3 = .ok (.if_icmp .lt 20, 3) := by decide +kernel
theorem d1_6 : decode jdk_33_method_22_code 6 = .ok (.iload_n 0, 1) := by decide +kernel
theorem d1_7 : decode jdk_33_method_22_code 7 = .ok (.getstatic 191, 3) := by decide +kernel
theorem d1_10 : decode jdk_33_method_22_code 10 = .ok (.if_icmp .gt 13, 3) := by decide +kernel
theorem d1_13 : decode jdk_33_method_22_code 13 = .ok (.getstatic 195, 3) := by decide +kernel
theorem d1_16 : decode jdk_33_method_22_code 16 = .ok (.iload_n 0, 1) := by decide +kernel
theorem d1_17 : decode jdk_33_method_22_code 17 = .ok (.sipush 128, 3) := by decide +kernel
theorem d1_20 : decode jdk_33_method_22_code 20 = .ok (.iadd, 1) := by decide +kernel
theorem d1_21 : decode jdk_33_method_22_code 21 = .ok (.aaload, 1) := by decide +kernel
theorem d1_22 : decode jdk_33_method_22_code 22 = .ok (.areturn, 1) := by decide +kernel
theorem d1_23 : decode jdk_33_method_22_code 23 = .ok (.new 1, 3) := by decide +kernel
theorem d1_26 : decode jdk_33_method_22_code 26 = .ok (.dup, 1) := by decide +kernel
theorem d1_27 : decode jdk_33_method_22_code 27 = .ok (.iload_n 0, 1) := by decide +kernel
theorem d1_28 : decode jdk_33_method_22_code 28 = .ok (.invokespecial 199, 3) := by decide +kernel
theorem d1_31 : decode jdk_33_method_22_code 31 = .ok (.areturn, 1) := by decide +kernel
theorem pn_1 : plainName "java/lang/Integer" = true := by first | (simp [plainName, overriddenIn]; done) | decide +kernel
theorem ef_rm1 (m : MethodId) (x0 : Int32) : entryFrame m #[(.int x0)] 1 = mkF m 0 #[.val (.int x0)] [] := by first | (simp [entryFrame, mkF, argsToLocals, Value.category]; done) | rfl
def Qrm1 (Z : State) (p1 : Int32) (ca : Addr) (h0 : Heap) (n0 : Nat) (v : Option Value) (h : Heap) (L : List Loc) : Prop := ∃ (r : Addr), (v = some (.ref r)) ∧ (Fr n0 L) ∧ (Keep h0 h []) ∧ (Exa Z h r "java/lang/Integer")
set_option maxRecDepth 65536 in
set_option maxHeartbeats 40000000 in
theorem rm1 (l : Launch) (Z : State) (a0 : Array Value) (hw : ∀ d ∈ tables_1, d.before a0 Z = true) (ws : List Jvm.Cond) (p1 : Int32) (ca : Addr) (h0 : Heap) (n0 : Nat) (Z0 : n0 ≤ h0.size) (pr1 : Sta Z h0 "java/lang/Integer$IntegerCache" "high" "I" (.int (127 : Int32))) (pr2 : Sta Z h0 "java/lang/Integer$IntegerCache" "cache" "[Ljava/lang/Integer;" (.ref ca)) (pr3 : own_Cache Z h0 ca) :
    MetFree l (⟨"java/lang/Integer", "valueOf", "(I)Ljava/lang/Integer;"⟩ : MethodName) (head1 (Jvm.Cond.code (⟨"java/lang/Integer", "valueOf", "(I)Ljava/lang/Integer;"⟩ : MethodName) jdk_33_method_22_code 1 (some (.object "java/lang/Integer")) :: ws) ({ frames := 3, cells := 1, slots := 1, locals := 38 } : Room)) (fun a U => a = #[(.int p1)] ∧ Z.Warmed39 U.vm ∧ U.heap = h0) (fun _ _ _ _ _ => True) (fun _ U o U' => ∃ v L, o = .returned v ∧ Qrm1 Z p1 ca h0 n0 v U'.heap L ∧ FrameEnd U o U' L ({ frames := 3, cells := 1, slots := 1, locals := 38 } : Room).cells ({ frames := 3, cells := 1, slots := 1, locals := 38 } : Room).slots) := by
  refine MetFree.of_bodySF (plainFor_of_name pn_1) hisR ?_
  intro p e s m args below meth c s₁ Bd hml0 hP0 hK
  obtain ⟨rfl, hZ, hh⟩ := hP0
  have hx := Bd.exec
  have hby := Bd.bytes
  have hml : c.maxLocals = 1 := hml0
  have hown : s.vm.findClass "java/lang/Integer" = some m.cls := findClass_of_methodNamed Bd.named
  have hnm := (name_of_methodNamed Bd.named Bd.method).1
  have X0 : Stand p l e ({ frames := 3, cells := 1, slots := 1, locals := 38 } : Room) s m #[(.int p1)] below meth c s₁ [] 0 0 := Stand.of_body Bd
  have e0 : s₁.heap = h0 := by rw [← hh, Bd.state]; rfl
  have N0 := Fr.nil n0
  suffices own_H : ∀ (P : State → Outcome → Prop), (∀ U o, U.status = .running → Ended U below o → (∃ v L, o = .returned v ∧ Qrm1 Z p1 ca h0 n0 v U.heap L ∧ FrameEnd s o U L ({ frames := 3, cells := 1, slots := 1, locals := 38 } : Room).cells ({ frames := 3, cells := 1, slots := 1, locals := 38 } : Room).slots) → P U o) → own_Go p.tables e below P (s₁.setTop (mkF m 0 #[.val (.int p1)] [])) from own_go (fun _ k => castTop (ef_rm1 m p1) k) (own_H _ (fun U o h1 h2 h3 => ⟨h1, h2, h3⟩))
  intro P hP
  refine own_go (st' := s₁.setTop (mkF m 1 #[.val (.int p1)] [(.int p1)])) (fun _ k => XS.iloadN X0.here hx rfl (hb hby d1_0) rfl k) ?_
  refine own_go (st' := s₁.setTop (mkF m 3 #[.val (.int p1)] [(.int (-128 : Int32)), (.int p1)])) (fun _ k => XS.bipush X0.here hx rfl (hb hby d1_1) k) ?_
  by_cases hc1 : p1 < (-128 : Int32)
  · --
    refine own_go (st' := s₁.setTop (mkF m 23 #[.val (.int p1)] [])) (fun _ k => XS.icmpYes X0.here hx rfl (pc0 := 3) (pc' := 23) rfl (hb hby d1_3) rfl (tlt hc1).1 (by decide) (by decide) k) ?_
    obtain ⟨T2, h2, X2, e2, E2, A2, D2, -, st2⟩ := newO X0 hx hZ hown (hw _ (List.mem_of_getElem? (i := 96) rfl)) (hw _ (List.mem_of_getElem? (i := 97) rfl)) (hw _ (List.mem_of_getElem? (i := 2) rfl)) e0 (g := (mkF m 23 #[.val (.int p1)] [])) rfl (hb hby d1_23) (by decide) (by decide)
    obtain ⟨b2, g2⟩ : ∃ z, z = h0.size := ⟨_, rfl⟩
    rw [← g2] at A2 D2 st2
    have sz2 : h0.size ≤ h2.size := E2.1
    have lt2 : @LT.lt Nat _ b2 h2.size := A2.lt
    have f3 : Fld Z h2 b2 "java/lang/Integer" "value" "I" (.int (0 : Int32)) := D2 (Or.inr (hw _ (List.mem_of_getElem? (i := 110) rfl))) (ty := .int) (by decide)
    refine own_go (st' := T2.setTop (mkF m 26 #[.val (.int p1)] [(.ref b2)])) (st2) ?_
    refine own_go (st' := T2.setTop (mkF m 27 #[.val (.int p1)] [(.ref b2), (.ref b2)])) (fun _ k => XS.dup X2.here hx rfl (hb hby d1_26) rfl rfl k) ?_
    refine own_go (st' := T2.setTop (mkF m 28 #[.val (.int p1)] [(.int p1), (.ref b2), (.ref b2)])) (fun _ k => XS.iloadN X2.here hx rfl (hb hby d1_27) rfl k) ?_
    obtain ⟨_, _, ⟨T4, LC4, kC4, nC4⟩, -, X4, ⟨Lc4, hQ4, lq4, yq4, zq4⟩, st4⟩ := X2.specialBack hx (y := (⟨"java/lang/Integer", "<init>", "(I)V"⟩ : MethodName)) rfl hown (mvT hZ (hw _ (List.mem_of_getElem? (i := 98) rfl))) (mvT hZ (hw _ (List.mem_of_getElem? (i := 99) rfl))) (mvT hZ (hw _ (List.mem_of_getElem? (i := 101) rfl))) (by decide) (backOf (W := 1) (rm15 l Z a0 hw [] b2 p1 (0 : Int32) h2 n0 (by omega) A2 f3 (by omega)) hZ (hw _ (List.mem_of_getElem? (i := 101) rfl)) (hw _ (List.mem_of_getElem? (i := 2) rfl)) (by decide) (by decide)) (g := (mkF m 28 #[.val (.int p1)] [(.int p1), (.ref b2), (.ref b2)])) rfl (by rw [hml]; rfl) (Steps.refl _) (a := b2) (argsL := [(.int p1)]) (rest := [(.ref b2)]) (lenOf pd_1 rfl) rfl (by show 2 * 0 + _ ≤ _; exact Nat.le_of_eq rfl) (hb hby d1_28) (fun _ _ => ⟨rfl, e2, (by decide : 1 + 0 ≤ _), (by decide : 1 + 0 ≤ _)⟩)
    dsimp only [Pt.U, Pt.locs, Pt.cells, Pt.slots] at X4 lq4 yq4 zq4 st4 hQ4
    subst lq4 yq4 zq4
    obtain ⟨h4, e4⟩ : ∃ z, T4.heap = z := ⟨_, rfl⟩
    rw [e4] at hQ4
    obtain ⟨rfl, Nq4, K4, g4_0, g4_1⟩ := hQ4
    have sz4 : h2.size ≤ h4.size := K4.1
    have N4 := Fr.app N0 Nq4
    have lt4_1 : @LT.lt Nat _ b2 h4.size := g4_0.lt
    refine own_go (st' := T4.setTop (mkF m 31 #[.val (.int p1)] [(.ref b2)])) (fun _ k => st4.trans k) ?_
    obtain ⟨fs, hr, hrun, hended, hW, hsame⟩ := X4.leave (v := some (.ref b2)) (fun h => by rw [Bd.returns] at h; cases h)
    refine ⟨_, _, ?_, hP _ _ hrun hended ⟨_, _, rfl, ?_, ⟨_, rfl⟩, hW, hsame.mono (by decide) (by decide)⟩⟩
    · exact retOut X4 hx Bd.returns rfl (Or.inr (Or.inr (Or.inr (Or.inr ⟨rfl, rfl, rfl⟩)))) (hb hby d1_31) hr
    · show Qrm1 Z p1 ca h0 n0 _ T4.heap _
      rw [e4]
      exact ⟨b2, rfl, N4, (((Keep.refl h0 []).ext E2).trans K4 (allS (P := fun x => x ∈ [] ∨ h0.size ≤ x) (Or.inr (by omega)) all0)), g4_0⟩
  · --
    refine own_go (st' := s₁.setTop (mkF m 6 #[.val (.int p1)] [])) (fun _ k => XS.icmpNo X0.here hx rfl (hb hby d1_3) rfl (flt hc1).1 k) ?_
    refine own_go (st' := s₁.setTop (mkF m 7 #[.val (.int p1)] [(.int p1)])) (fun _ k => XS.iloadN X0.here hx rfl (hb hby d1_6) rfl k) ?_
    obtain ⟨T6, X6, e6, st6⟩ := getS2 X0 hx hZ hown (host := "") (Or.inl (hw _ (List.mem_of_getElem? (i := 4) rfl))) Via.refl e0 pr1 (g := (mkF m 7 #[.val (.int p1)] [(.int p1)])) rfl (hb hby d1_7)
    refine own_go (st' := T6.setTop (mkF m 10 #[.val (.int p1)] [(.int (127 : Int32)), (.int p1)])) (st6) ?_
    by_cases hc7 : (127 : Int32) < p1
    · --
      refine own_go (st' := T6.setTop (mkF m 23 #[.val (.int p1)] [])) (fun _ k => XS.icmpYes X6.here hx rfl (pc0 := 10) (pc' := 23) rfl (hb hby d1_10) rfl (tlt hc7).2.2.1 (by decide) (by decide) k) ?_
      obtain ⟨T8, h8, X8, e8, E8, A8, D8, -, st8⟩ := newO X6 hx hZ hown (hw _ (List.mem_of_getElem? (i := 96) rfl)) (hw _ (List.mem_of_getElem? (i := 97) rfl)) (hw _ (List.mem_of_getElem? (i := 2) rfl)) e6 (g := (mkF m 23 #[.val (.int p1)] [])) rfl (hb hby d1_23) (by decide) (by decide)
      obtain ⟨b8, g8⟩ : ∃ z, z = h0.size := ⟨_, rfl⟩
      rw [← g8] at A8 D8 st8
      have sz8 : h0.size ≤ h8.size := E8.1
      have lt8 : @LT.lt Nat _ b8 h8.size := A8.lt
      have f9 : Fld Z h8 b8 "java/lang/Integer" "value" "I" (.int (0 : Int32)) := D8 (Or.inr (hw _ (List.mem_of_getElem? (i := 110) rfl))) (ty := .int) (by decide)
      refine own_go (st' := T8.setTop (mkF m 26 #[.val (.int p1)] [(.ref b8)])) (st8) ?_
      refine own_go (st' := T8.setTop (mkF m 27 #[.val (.int p1)] [(.ref b8), (.ref b8)])) (fun _ k => XS.dup X8.here hx rfl (hb hby d1_26) rfl rfl k) ?_
      refine own_go (st' := T8.setTop (mkF m 28 #[.val (.int p1)] [(.int p1), (.ref b8), (.ref b8)])) (fun _ k => XS.iloadN X8.here hx rfl (hb hby d1_27) rfl k) ?_
      obtain ⟨_, _, ⟨T10, LC10, kC10, nC10⟩, -, X10, ⟨Lc10, hQ10, lq10, yq10, zq10⟩, st10⟩ := X8.specialBack hx (y := (⟨"java/lang/Integer", "<init>", "(I)V"⟩ : MethodName)) rfl hown (mvT hZ (hw _ (List.mem_of_getElem? (i := 98) rfl))) (mvT hZ (hw _ (List.mem_of_getElem? (i := 99) rfl))) (mvT hZ (hw _ (List.mem_of_getElem? (i := 101) rfl))) (by decide) (backOf (W := 1) (rm15 l Z a0 hw [] b8 p1 (0 : Int32) h8 n0 (by omega) A8 f9 (by omega)) hZ (hw _ (List.mem_of_getElem? (i := 101) rfl)) (hw _ (List.mem_of_getElem? (i := 2) rfl)) (by decide) (by decide)) (g := (mkF m 28 #[.val (.int p1)] [(.int p1), (.ref b8), (.ref b8)])) rfl (by rw [hml]; rfl) (Steps.refl _) (a := b8) (argsL := [(.int p1)]) (rest := [(.ref b8)]) (lenOf pd_1 rfl) rfl (by show 2 * 0 + _ ≤ _; exact Nat.le_of_eq rfl) (hb hby d1_28) (fun _ _ => ⟨rfl, e8, (by decide : 1 + 0 ≤ _), (by decide : 1 + 0 ≤ _)⟩)
      dsimp only [Pt.U, Pt.locs, Pt.cells, Pt.slots] at X10 lq10 yq10 zq10 st10 hQ10
      subst lq10 yq10 zq10
      obtain ⟨h10, e10⟩ : ∃ z, T10.heap = z := ⟨_, rfl⟩
      rw [e10] at hQ10
      obtain ⟨rfl, Nq10, K10, g10_0, g10_1⟩ := hQ10
      have sz10 : h8.size ≤ h10.size := K10.1
      have N10 := Fr.app N0 Nq10
      have lt10_1 : @LT.lt Nat _ b8 h10.size := g10_0.lt
      refine own_go (st' := T10.setTop (mkF m 31 #[.val (.int p1)] [(.ref b8)])) (fun _ k => st10.trans k) ?_
      obtain ⟨fs, hr, hrun, hended, hW, hsame⟩ := X10.leave (v := some (.ref b8)) (fun h => by rw [Bd.returns] at h; cases h)
      refine ⟨_, _, ?_, hP _ _ hrun hended ⟨_, _, rfl, ?_, ⟨_, rfl⟩, hW, hsame.mono (by decide) (by decide)⟩⟩
      · exact retOut X10 hx Bd.returns rfl (Or.inr (Or.inr (Or.inr (Or.inr ⟨rfl, rfl, rfl⟩)))) (hb hby d1_31) hr
      · show Qrm1 Z p1 ca h0 n0 _ T10.heap _
        rw [e10]
        exact ⟨b8, rfl, N10, (((Keep.refl h0 []).ext E8).trans K10 (allS (P := fun x => x ∈ [] ∨ h0.size ≤ x) (Or.inr (by omega)) all0)), g10_0⟩
    · --
      refine own_go (st' := T6.setTop (mkF m 13 #[.val (.int p1)] [])) (fun _ k => XS.icmpNo X6.here hx rfl (hb hby d1_10) rfl (flt hc7).2.2.1 k) ?_
      obtain ⟨T12, X12, e12, st12⟩ := getS2 X6 hx hZ hown (host := "") (Or.inl (hw _ (List.mem_of_getElem? (i := 6) rfl))) Via.refl e6 pr2 (g := (mkF m 13 #[.val (.int p1)] [])) rfl (hb hby d1_13)
      refine own_go (st' := T12.setTop (mkF m 16 #[.val (.int p1)] [(.ref ca)])) (st12) ?_
      refine own_go (st' := T12.setTop (mkF m 17 #[.val (.int p1)] [(.int p1), (.ref ca)])) (fun _ k => XS.iloadN X12.here hx rfl (hb hby d1_16) rfl k) ?_
      refine own_go (st' := T12.setTop (mkF m 20 #[.val (.int p1)] [(.int (128 : Int32)), (.int p1), (.ref ca)])) (fun _ k => XS.sipush X12.here hx rfl (hb hby d1_17) k) ?_
      refine own_go (st' := T12.setTop (mkF m 21 #[.val (.int p1)] [(.int (p1 + (128 : Int32))), (.ref ca)])) (fun _ k => XS.iadd X12.here hx rfl (hb hby d1_20) rfl k) ?_
      obtain ⟨cl13, Ar13, S13, H13⟩ := id pr3
      have hi13 := own_idx p1 hc1 hc7
      have hin13 : ¬ ((p1 + (128 : Int32)) < 0 ∨ cl13.slots.size ≤ ((p1 + (128 : Int32))).toNatClampNeg) := by rw [S13]; intro q; rcases q with q | q; exact hi13.1 q; exact absurd hi13.2 (Nat.not_lt.mpr q)
      obtain ⟨r13, hat13, Er13⟩ := H13 _ hi13.2
      have ltr13 : @LT.lt Nat _ r13 h0.size := Er13.lt
      refine own_go (st' := T12.setTop (mkF m 22 #[.val (.int p1)] [(.ref r13)])) (X12.aaload hx (j := (p1 + (128 : Int32))) (v := .ref r13) (by rw [e12]; exact Ar13.1) (State.isArrayOf_alike hZ.alike Ar13.2.1) rfl Ar13.2.2 hin13 hat13 (g := (mkF m 21 #[.val (.int p1)] [(.int (p1 + (128 : Int32))), (.ref ca)])) rfl rfl (hb hby d1_21)) ?_
      obtain ⟨fs, hr, hrun, hended, hW, hsame⟩ := X12.leave (v := some (.ref r13)) (fun h => by rw [Bd.returns] at h; cases h)
      refine ⟨_, _, ?_, hP _ _ hrun hended ⟨_, _, rfl, ?_, ⟨_, rfl⟩, hW, hsame.mono (by decide) (by decide)⟩⟩
      · exact retOut X12 hx Bd.returns rfl (Or.inr (Or.inr (Or.inr (Or.inr ⟨rfl, rfl, rfl⟩)))) (hb hby d1_22) hr
      · show Qrm1 Z p1 ca h0 n0 _ T12.heap _
        rw [e12]
        exact ⟨r13, rfl, N0, (Keep.refl h0 []), Er13⟩
theorem d5_0 : decode jdk_71_method_1_code 0 = .ok (.aload_n 0, 1) := by decide +kernel
theorem d5_1 : decode jdk_71_method_1_code 1 = .ok (.invokespecial 1, 3) := by decide +kernel
theorem d5_4 : decode jdk_71_method_1_code 4 = .ok (.return_, 1) := by decide +kernel
theorem pn_5 : plainName "java/util/AbstractMap" = true := by first | (simp [plainName, overriddenIn]; done) | decide +kernel
theorem ef_rm5 (m : MethodId) (x0 : Addr) : entryFrame m #[(.ref x0)] 1 = mkF m 0 #[.val (.ref x0)] [] := by first | (simp [entryFrame, mkF, argsToLocals, Value.category]; done) | rfl
def Qrm5 (Z : State) (a1 : Addr) (h0 : Heap) (n0 : Nat) (v : Option Value) (h : Heap) (L : List Loc) : Prop := (v = none) ∧ (Fr n0 L) ∧ (h = h0)
set_option maxRecDepth 65536 in
set_option maxHeartbeats 40000000 in
theorem rm5 (l : Launch) (Z : State) (a0 : Array Value) (hw : ∀ d ∈ tables_1, d.before a0 Z = true) (ws : List Jvm.Cond) (a1 : Addr) (h0 : Heap) (n0 : Nat) (Z0 : n0 ≤ h0.size)  :
    MetFree l (⟨"java/util/AbstractMap", "<init>", "()V"⟩ : MethodName) (head1 (Jvm.Cond.code (⟨"java/util/AbstractMap", "<init>", "()V"⟩ : MethodName) jdk_71_method_1_code 1 none :: ws) ({ frames := 1, cells := 0, slots := 0, locals := 12 } : Room)) (fun a U => a = #[(.ref a1)] ∧ Z.Warmed39 U.vm ∧ U.heap = h0) (fun _ _ _ _ _ => True) (fun _ U o U' => ∃ v L, o = .returned v ∧ Qrm5 Z a1 h0 n0 v U'.heap L ∧ FrameEnd U o U' L ({ frames := 1, cells := 0, slots := 0, locals := 12 } : Room).cells ({ frames := 1, cells := 0, slots := 0, locals := 12 } : Room).slots) := by
  refine MetFree.of_bodySF (plainFor_of_name pn_5) hisR ?_
  intro p e s m args below meth c s₁ Bd hml0 hP0 hK
  obtain ⟨rfl, hZ, hh⟩ := hP0
  have hx := Bd.exec
  have hby := Bd.bytes
  have hml : c.maxLocals = 1 := hml0
  have hown : s.vm.findClass "java/util/AbstractMap" = some m.cls := findClass_of_methodNamed Bd.named
  have hnm := (name_of_methodNamed Bd.named Bd.method).1
  have X0 : Stand p l e ({ frames := 1, cells := 0, slots := 0, locals := 12 } : Room) s m #[(.ref a1)] below meth c s₁ [] 0 0 := Stand.of_body Bd
  have e0 : s₁.heap = h0 := by rw [← hh, Bd.state]; rfl
  have N0 := Fr.nil n0
  suffices own_H : ∀ (P : State → Outcome → Prop), (∀ U o, U.status = .running → Ended U below o → (∃ v L, o = .returned v ∧ Qrm5 Z a1 h0 n0 v U.heap L ∧ FrameEnd s o U L ({ frames := 1, cells := 0, slots := 0, locals := 12 } : Room).cells ({ frames := 1, cells := 0, slots := 0, locals := 12 } : Room).slots) → P U o) → own_Go p.tables e below P (s₁.setTop (mkF m 0 #[.val (.ref a1)] [])) from own_go (fun _ k => castTop (ef_rm5 m a1) k) (own_H _ (fun U o h1 h2 h3 => ⟨h1, h2, h3⟩))
  intro P hP
  refine own_go (st' := s₁.setTop (mkF m 1 #[.val (.ref a1)] [(.ref a1)])) (fun _ k => XS.aloadN X0.here hx rfl (hb hby d5_0) rfl rfl k) ?_
  obtain ⟨T1, X1, e1, st1⟩ := initO X0 hx hZ hown (hw _ (List.mem_of_getElem? (i := 28) rfl)) (hw _ (List.mem_of_getElem? (i := 14) rfl)) (hw _ (List.mem_of_getElem? (i := 15) rfl)) e0 (g := (mkF m 1 #[.val (.ref a1)] [(.ref a1)])) rfl (by rw [hml]; rfl) rfl (hb hby d5_1) (by decide) (W := 0) (by show 2 * 0 + _ ≤ _; exact Nat.le_of_eq rfl) (by decide)
  refine own_go (st' := T1.setTop (mkF m 4 #[.val (.ref a1)] [])) (st1) ?_
  obtain ⟨fs, hr, hrun, hended, hW, hsame⟩ := X1.leave (v := none) (fun _ => rfl)
  refine ⟨_, _, ?_, hP _ _ hrun hended ⟨_, _, rfl, ?_, ⟨_, rfl⟩, hW, hsame.mono (by decide) (by decide)⟩⟩
  · exact X1.returnOut hx Bd.returns (hb hby d5_4) hr
  · show Qrm5 Z a1 h0 n0 _ T1.heap _
    rw [e1]
    exact ⟨rfl, N0, rfl⟩
theorem d4_0 : decode jdk_69_method_7_code 0 = .ok (.aload_n 0, 1) := by decide +kernel
theorem d4_1 : decode jdk_69_method_7_code 1 = .ok (.invokespecial 43, 3) := by decide +kernel
theorem d4_4 : decode jdk_69_method_7_code 4 = .ok (.aload_n 0, 1) := by decide +kernel
theorem d4_5 : decode jdk_69_method_7_code 5 = .ok (.ldc 92, 2) := by decide +kernel
theorem d4_7 : decode jdk_69_method_7_code 7 = .ok (.putfield 81, 3) := by decide +kernel
theorem d4_10 : decode jdk_69_method_7_code 10 = .ok (.return_, 1) := by decide +kernel
theorem pn_4 : plainName "java/util/HashMap" = true := by first | (simp [plainName, overriddenIn]; done) | decide +kernel
theorem ef_rm4 (m : MethodId) (x0 : Addr) : entryFrame m #[(.ref x0)] 1 = mkF m 0 #[.val (.ref x0)] [] := by first | (simp [entryFrame, mkF, argsToLocals, Value.category]; done) | rfl
def Qrm4 (Z : State) (a1 : Addr) (u2 : UInt32) (h0 : Heap) (n0 : Nat) (v : Option Value) (h : Heap) (L : List Loc) : Prop := (v = none) ∧ (Fr n0 L) ∧ (Keep h0 h [a1]) ∧ (Exa Z h a1 "java/util/HashMap")
set_option maxRecDepth 65536 in
set_option maxHeartbeats 40000000 in
theorem rm4 (l : Launch) (Z : State) (a0 : Array Value) (hw : ∀ d ∈ tables_1, d.before a0 Z = true) (ws : List Jvm.Cond) (a1 : Addr) (u2 : UInt32) (h0 : Heap) (n0 : Nat) (Z0 : n0 ≤ h0.size) (pr1 : Exa Z h0 a1 "java/util/HashMap") (pr2 : Fld Z h0 a1 "java/util/HashMap" "loadFactor" "F" (.float u2)) (pr3 : n0 ≤ a1) :
    MetFree l (⟨"java/util/HashMap", "<init>", "()V"⟩ : MethodName) (head1 (Jvm.Cond.code (⟨"java/util/HashMap", "<init>", "()V"⟩ : MethodName) jdk_69_method_7_code 1 none :: ws) ({ frames := 2, cells := 0, slots := 0, locals := 24 } : Room)) (fun a U => a = #[(.ref a1)] ∧ Z.Warmed39 U.vm ∧ U.heap = h0) (fun _ _ _ _ _ => True) (fun _ U o U' => ∃ v L, o = .returned v ∧ Qrm4 Z a1 u2 h0 n0 v U'.heap L ∧ FrameEnd U o U' L ({ frames := 2, cells := 0, slots := 0, locals := 24 } : Room).cells ({ frames := 2, cells := 0, slots := 0, locals := 24 } : Room).slots) := by
  refine MetFree.of_bodySF (plainFor_of_name pn_4) hisR ?_
  intro p e s m args below meth c s₁ Bd hml0 hP0 hK
  obtain ⟨rfl, hZ, hh⟩ := hP0
  have hx := Bd.exec
  have hby := Bd.bytes
  have hml : c.maxLocals = 1 := hml0
  have hown : s.vm.findClass "java/util/HashMap" = some m.cls := findClass_of_methodNamed Bd.named
  have hnm := (name_of_methodNamed Bd.named Bd.method).1
  have X0 : Stand p l e ({ frames := 2, cells := 0, slots := 0, locals := 24 } : Room) s m #[(.ref a1)] below meth c s₁ [] 0 0 := Stand.of_body Bd
  have e0 : s₁.heap = h0 := by rw [← hh, Bd.state]; rfl
  have N0 := Fr.nil n0
  suffices own_H : ∀ (P : State → Outcome → Prop), (∀ U o, U.status = .running → Ended U below o → (∃ v L, o = .returned v ∧ Qrm4 Z a1 u2 h0 n0 v U.heap L ∧ FrameEnd s o U L ({ frames := 2, cells := 0, slots := 0, locals := 24 } : Room).cells ({ frames := 2, cells := 0, slots := 0, locals := 24 } : Room).slots) → P U o) → own_Go p.tables e below P (s₁.setTop (mkF m 0 #[.val (.ref a1)] [])) from own_go (fun _ k => castTop (ef_rm4 m a1) k) (own_H _ (fun U o h1 h2 h3 => ⟨h1, h2, h3⟩))
  intro P hP
  have lt_a1 : @LT.lt Nat _ a1 h0.size := pr1.lt
  refine own_go (st' := s₁.setTop (mkF m 1 #[.val (.ref a1)] [(.ref a1)])) (fun _ k => XS.aloadN X0.here hx rfl (hb hby d4_0) rfl rfl k) ?_
  obtain ⟨_, _, ⟨T1, LC1, kC1, nC1⟩, -, X1, ⟨Lc1, hQ1, lq1, yq1, zq1⟩, st1⟩ := X0.specialBack hx (y := (⟨"java/util/AbstractMap", "<init>", "()V"⟩ : MethodName)) rfl hown (mvT hZ (hw _ (List.mem_of_getElem? (i := 22) rfl))) (mvT hZ (hw _ (List.mem_of_getElem? (i := 23) rfl))) (mvT hZ (hw _ (List.mem_of_getElem? (i := 27) rfl))) (by decide) (backOf (W := 0) (rm5 l Z a0 hw [] a1 h0 n0 (by omega) ) hZ (hw _ (List.mem_of_getElem? (i := 27) rfl)) (hw _ (List.mem_of_getElem? (i := 26) rfl)) (by decide) (by decide)) (g := (mkF m 1 #[.val (.ref a1)] [(.ref a1)])) rfl (by rw [hml]; rfl) (Steps.refl _) (a := a1) (argsL := []) (rest := []) (lenOf pd_0 rfl) rfl (by show 2 * 0 + _ ≤ _; exact Nat.le_of_eq rfl) (hb hby d4_1) (fun _ _ => ⟨rfl, e0, (by decide : 0 + 0 ≤ _), (by decide : 0 + 0 ≤ _)⟩)
  dsimp only [Pt.U, Pt.locs, Pt.cells, Pt.slots] at X1 lq1 yq1 zq1 st1 hQ1
  subst lq1 yq1 zq1
  obtain ⟨rfl, Nq1, eq1⟩ := hQ1
  have N1 := Fr.app N0 Nq1
  refine own_go (st' := T1.setTop (mkF m 4 #[.val (.ref a1)] [])) (fun _ k => st1.trans k) ?_
  refine own_go (st' := T1.setTop (mkF m 5 #[.val (.ref a1)] [(.ref a1)])) (fun _ k => XS.aloadN X1.here hx rfl (hb hby d4_4) rfl rfl k) ?_
  refine own_go (st' := T1.setTop (mkF m 7 #[.val (.ref a1)] [(.float (1061158912 : UInt32)), (.ref a1)])) (X1.ldcFloatC hx hown (mvT hZ (hw _ (List.mem_of_getElem? (i := 29) rfl))) (g := (mkF m 5 #[.val (.ref a1)] [(.ref a1)])) rfl (hb hby d4_5)) ?_
  obtain ⟨T2, h2, X2, e2, W2, st2⟩ := putF X1 hx hZ hown (host := "") (Or.inl (hw _ (List.mem_of_getElem? (i := 30) rfl))) Via.refl eq1 pr2 pr1 (Or.inr ⟨(hw _ (List.mem_of_getElem? (i := 31) rfl)), rfl, hnm⟩) (hw _ (List.mem_of_getElem? (i := 17) rfl)) (ty := .float) (by decide) rfl rfl (g := (mkF m 7 #[.val (.ref a1)] [(.float (1061158912 : UInt32)), (.ref a1)])) rfl rfl (hb hby d4_7)
  have sz2 : h2.size = h0.size := W2.size
  have N2 := Fr.snoc X2 N1 (by omega)
  have f2 : Fld Z h2 a1 "java/util/HashMap" "loadFactor" "F" (.float (1061158912 : UInt32)) := pr2.same W2
  refine own_go (st' := T2.setTop (mkF m 10 #[.val (.ref a1)] [])) (st2) ?_
  obtain ⟨fs, hr, hrun, hended, hW, hsame⟩ := X2.leave (v := none) (fun _ => rfl)
  refine ⟨_, _, ?_, hP _ _ hrun hended ⟨_, _, rfl, ?_, ⟨_, rfl⟩, hW, hsame.mono (by decide) (by decide)⟩⟩
  · exact X2.returnOut hx Bd.returns (hb hby d4_10) hr
  · show Qrm4 Z a1 u2 h0 n0 _ T2.heap _
    have c4 : Exa Z h2 a1 "java/util/HashMap" := (pr1.wr W2)
    rw [e2]
    exact ⟨rfl, N2, ((Keep.refl h0 [a1]).wr W2 (Or.inl (List.mem_of_getElem? (i := 0) rfl))), c4⟩
theorem d2_0 : decode prog_1_method_1_code 0 = .ok (.aload_n 0, 1) := by decide +kernel
theorem d2_1 : decode prog_1_method_1_code 1 = .ok (.invokespecial 1, 3) := by decide +kernel
theorem d2_4 : decode prog_1_method_1_code 4 = .ok (.aload_n 0, 1) := by decide +kernel
theorem d2_5 : decode prog_1_method_1_code 5 = .ok (.new 7, 3) := by decide +kernel
theorem d2_8 : decode prog_1_method_1_code 8 = .ok (.dup, 1) := by decide +kernel
theorem d2_9 : decode prog_1_method_1_code 9 = .ok (.invokespecial 9, 3) := by decide +kernel
theorem d2_12 : decode prog_1_method_1_code 12 = .ok (.putfield 10, 3) := by decide +kernel
theorem d2_15 : decode prog_1_method_1_code 15 = .ok (.aload_n 0, 1) := by decide +kernel
theorem d2_16 : decode prog_1_method_1_code 16 = .ok (.bipush 16, 2) := by decide +kernel
theorem d2_18 : decode prog_1_method_1_code 18 = .ok (.anewarray 2, 3) := by decide +kernel
theorem d2_21 : decode prog_1_method_1_code 21 = .ok (.putfield 16, 3) := by decide +kernel
theorem d2_24 : decode prog_1_method_1_code 24 = .ok (.aload_n 0, 1) := by decide +kernel
theorem d2_25 : decode prog_1_method_1_code 25 = .ok (.bipush 16, 2) := by decide +kernel
theorem d2_27 : decode prog_1_method_1_code 27 = .ok (.newarray .int, 2) := by decide +kernel
theorem d2_29 : decode prog_1_method_1_code 29 = .ok (.putfield 20, 3) := by decide +kernel
theorem d2_32 : decode prog_1_method_1_code 32 = .ok (.return_, 1) := by decide +kernel
theorem pn_2 : plainName "com/example/greenwood/greenwood/Environment" = true := by first | (simp [plainName, overriddenIn]; done) | decide +kernel
theorem ef_rm2 (m : MethodId) (x0 : Addr) : entryFrame m #[(.ref x0)] 1 = mkF m 0 #[.val (.ref x0)] [] := by first | (simp [entryFrame, mkF, argsToLocals, Value.category]; done) | rfl
def Qrm2 (Z : State) (a1 : Addr) (h0 : Heap) (n0 : Nat) (v : Option Value) (h : Heap) (L : List Loc) : Prop := ∃ (rl : Addr) (rs : Addr) (kl : ClassId) (ks : ClassId), (v = none) ∧ (Fr n0 L) ∧ (Keep h0 h [a1]) ∧ (Exa Z h a1 "com/example/greenwood/greenwood/Environment") ∧ (Fld Z h a1 "com/example/greenwood/greenwood/Environment" "openScopes" "I" (.int (0 : Int32))) ∧ (Fld Z h a1 "com/example/greenwood/greenwood/Environment" "localCount" "I" (.int (0 : Int32))) ∧ (Fld Z h a1 "com/example/greenwood/greenwood/Environment" "locals" "[Ljava/lang/Object;" (.ref rl)) ∧ (Fld Z h a1 "com/example/greenwood/greenwood/Environment" "scopeStarts" "[I" (.ref rs)) ∧ (Arv Z h rl kl (.object "java/lang/Object") (16 : Int32) [.null, .null, .null, .null, .null, .null, .null, .null, .null, .null, .null, .null, .null, .null, .null, .null] .null) ∧ (Arv Z h rs ks .int (16 : Int32) [(.int (0 : Int32)), (.int (0 : Int32)), (.int (0 : Int32)), (.int (0 : Int32)), (.int (0 : Int32)), (.int (0 : Int32)), (.int (0 : Int32)), (.int (0 : Int32)), (.int (0 : Int32)), (.int (0 : Int32)), (.int (0 : Int32)), (.int (0 : Int32)), (.int (0 : Int32)), (.int (0 : Int32)), (.int (0 : Int32)), (.int (0 : Int32))] (.int (0 : Int32))) ∧ (Ovr Z kl "java/lang/Object") ∧ (h0.size ≤ rl) ∧ (h0.size ≤ rs) ∧ (rl ≠ rs)
set_option maxRecDepth 65536 in
set_option maxHeartbeats 40000000 in
theorem rm2 (l : Launch) (Z : State) (a0 : Array Value) (hw : ∀ d ∈ tables_1, d.before a0 Z = true) (ws : List Jvm.Cond) (a1 : Addr) (h0 : Heap) (n0 : Nat) (Z0 : n0 ≤ h0.size) (pr1 : Exa Z h0 a1 "com/example/greenwood/greenwood/Environment") (pr2 : Fld Z h0 a1 "com/example/greenwood/greenwood/Environment" "globals" "Ljava/util/Map;" .null) (pr3 : Fld Z h0 a1 "com/example/greenwood/greenwood/Environment" "locals" "[Ljava/lang/Object;" .null) (pr4 : Fld Z h0 a1 "com/example/greenwood/greenwood/Environment" "scopeStarts" "[I" .null) (pr5 : Fld Z h0 a1 "com/example/greenwood/greenwood/Environment" "openScopes" "I" (.int (0 : Int32))) (pr6 : Fld Z h0 a1 "com/example/greenwood/greenwood/Environment" "localCount" "I" (.int (0 : Int32))) (pr7 : n0 ≤ a1) :
    MetFree l (⟨"com/example/greenwood/greenwood/Environment", "<init>", "()V"⟩ : MethodName) (head1 (Jvm.Cond.code (⟨"com/example/greenwood/greenwood/Environment", "<init>", "()V"⟩ : MethodName) prog_1_method_1_code 1 none :: ws) ({ frames := 3, cells := 3, slots := 40, locals := 38 } : Room)) (fun a U => a = #[(.ref a1)] ∧ Z.Warmed39 U.vm ∧ U.heap = h0) (fun _ _ _ _ _ => True) (fun _ U o U' => ∃ v L, o = .returned v ∧ Qrm2 Z a1 h0 n0 v U'.heap L ∧ FrameEnd U o U' L ({ frames := 3, cells := 3, slots := 40, locals := 38 } : Room).cells ({ frames := 3, cells := 3, slots := 40, locals := 38 } : Room).slots) := by
  refine MetFree.of_bodySF (plainFor_of_name pn_2) hisR ?_
  intro p e s m args below meth c s₁ Bd hml0 hP0 hK
  obtain ⟨rfl, hZ, hh⟩ := hP0
  have hx := Bd.exec
  have hby := Bd.bytes
  have hml : c.maxLocals = 1 := hml0
  have hown : s.vm.findClass "com/example/greenwood/greenwood/Environment" = some m.cls := findClass_of_methodNamed Bd.named
  have hnm := (name_of_methodNamed Bd.named Bd.method).1
  have X0 : Stand p l e ({ frames := 3, cells := 3, slots := 40, locals := 38 } : Room) s m #[(.ref a1)] below meth c s₁ [] 0 0 := Stand.of_body Bd
  have e0 : s₁.heap = h0 := by rw [← hh, Bd.state]; rfl
  have N0 := Fr.nil n0
  suffices own_H : ∀ (P : State → Outcome → Prop), (∀ U o, U.status = .running → Ended U below o → (∃ v L, o = .returned v ∧ Qrm2 Z a1 h0 n0 v U.heap L ∧ FrameEnd s o U L ({ frames := 3, cells := 3, slots := 40, locals := 38 } : Room).cells ({ frames := 3, cells := 3, slots := 40, locals := 38 } : Room).slots) → P U o) → own_Go p.tables e below P (s₁.setTop (mkF m 0 #[.val (.ref a1)] [])) from own_go (fun _ k => castTop (ef_rm2 m a1) k) (own_H _ (fun U o h1 h2 h3 => ⟨h1, h2, h3⟩))
  intro P hP
  have lt_a1 : @LT.lt Nat _ a1 h0.size := pr1.lt
  refine own_go (st' := s₁.setTop (mkF m 1 #[.val (.ref a1)] [(.ref a1)])) (fun _ k => XS.aloadN X0.here hx rfl (hb hby d2_0) rfl rfl k) ?_
  obtain ⟨T1, X1, e1, st1⟩ := initO X0 hx hZ hown (hw _ (List.mem_of_getElem? (i := 13) rfl)) (hw _ (List.mem_of_getElem? (i := 14) rfl)) (hw _ (List.mem_of_getElem? (i := 15) rfl)) e0 (g := (mkF m 1 #[.val (.ref a1)] [(.ref a1)])) rfl (by rw [hml]; rfl) rfl (hb hby d2_1) (by decide) (W := 0) (by show 2 * 0 + _ ≤ _; exact Nat.le_of_eq rfl) (by decide)
  refine own_go (st' := T1.setTop (mkF m 4 #[.val (.ref a1)] [])) (st1) ?_
  refine own_go (st' := T1.setTop (mkF m 5 #[.val (.ref a1)] [(.ref a1)])) (fun _ k => XS.aloadN X1.here hx rfl (hb hby d2_4) rfl rfl k) ?_
  obtain ⟨T2, h2, X2, e2, E2, A2, D2, -, st2⟩ := newO X1 hx hZ hown (hw _ (List.mem_of_getElem? (i := 16) rfl)) (hw _ (List.mem_of_getElem? (i := 17) rfl)) (hw _ (List.mem_of_getElem? (i := 18) rfl)) e1 (g := (mkF m 5 #[.val (.ref a1)] [(.ref a1)])) rfl (hb hby d2_5) (by decide) (by decide)
  obtain ⟨b2, g2⟩ : ∃ z, z = h0.size := ⟨_, rfl⟩
  rw [← g2] at A2 D2 st2
  have sz2 : h0.size ≤ h2.size := E2.1
  have lt2 : @LT.lt Nat _ b2 h2.size := A2.lt
  have f3 : Fld Z h2 b2 "java/util/HashMap" "loadFactor" "F" (.float (0 : UInt32)) := D2 (Or.inr (hw _ (List.mem_of_getElem? (i := 31) rfl))) (ty := .float) (by decide)
  refine own_go (st' := T2.setTop (mkF m 8 #[.val (.ref a1)] [(.ref b2), (.ref a1)])) (st2) ?_
  refine own_go (st' := T2.setTop (mkF m 9 #[.val (.ref a1)] [(.ref b2), (.ref b2), (.ref a1)])) (fun _ k => XS.dup X2.here hx rfl (hb hby d2_8) rfl rfl k) ?_
  obtain ⟨_, _, ⟨T4, LC4, kC4, nC4⟩, -, X4, ⟨Lc4, hQ4, lq4, yq4, zq4⟩, st4⟩ := X2.specialBack hx (y := (⟨"java/util/HashMap", "<init>", "()V"⟩ : MethodName)) rfl hown (mvT hZ (hw _ (List.mem_of_getElem? (i := 19) rfl))) (mvT hZ (hw _ (List.mem_of_getElem? (i := 20) rfl))) (mvT hZ (hw _ (List.mem_of_getElem? (i := 21) rfl))) (by decide) (backOf (W := 2) (rm4 l Z a0 hw [] b2 (0 : UInt32) h2 n0 (by omega) A2 f3 (by omega)) hZ (hw _ (List.mem_of_getElem? (i := 21) rfl)) (hw _ (List.mem_of_getElem? (i := 18) rfl)) (by decide) (by decide)) (g := (mkF m 9 #[.val (.ref a1)] [(.ref b2), (.ref b2), (.ref a1)])) rfl (by rw [hml]; rfl) (Steps.refl _) (a := b2) (argsL := []) (rest := [(.ref b2), (.ref a1)]) (lenOf pd_0 rfl) rfl (by show 2 * 0 + _ ≤ _; exact Nat.le_of_eq rfl) (hb hby d2_9) (fun _ _ => ⟨rfl, e2, (by decide : 1 + 0 ≤ _), (by decide : 8 + 0 ≤ _)⟩)
  dsimp only [Pt.U, Pt.locs, Pt.cells, Pt.slots] at X4 lq4 yq4 zq4 st4 hQ4
  subst lq4 yq4 zq4
  obtain ⟨h4, e4⟩ : ∃ z, T4.heap = z := ⟨_, rfl⟩
  rw [e4] at hQ4
  obtain ⟨rfl, Nq4, K4, g4_0⟩ := hQ4
  have sz4 : h2.size ≤ h4.size := K4.1
  have N4 := Fr.app N0 Nq4
  have lt4_1 : @LT.lt Nat _ b2 h4.size := g4_0.lt
  refine own_go (st' := T4.setTop (mkF m 12 #[.val (.ref a1)] [(.ref b2), (.ref a1)])) (fun _ k => st4.trans k) ?_
  have c5 : Fld Z h4 a1 "com/example/greenwood/greenwood/Environment" "globals" "Ljava/util/Map;" .null := ((pr2.ext E2).keep K4 (ninS (by first | assumption | exact Ne.symm (by assumption) | (apply Nat.ne_of_lt; omega) | (apply Nat.ne_of_gt; omega)) nin0))
  have c6 : Exa Z h4 a1 "com/example/greenwood/greenwood/Environment" := ((pr1.ext E2).keep K4)
  obtain ⟨T7, h7, X7, e7, W7, st7⟩ := putF X4 hx hZ hown (host := "") (Or.inl (hw _ (List.mem_of_getElem? (i := 32) rfl))) Via.refl e4 c5 c6 (Or.inr ⟨(hw _ (List.mem_of_getElem? (i := 33) rfl)), rfl, hnm⟩) (hw _ (List.mem_of_getElem? (i := 8) rfl)) (ty := (.object "java/util/Map")) (by decide) rfl rfl (g := (mkF m 12 #[.val (.ref a1)] [(.ref b2), (.ref a1)])) rfl rfl (hb hby d2_12)
  have sz7 : h7.size = h4.size := W7.size
  have N7 := Fr.snoc X7 N4 (by omega)
  have f7 : Fld Z h7 a1 "com/example/greenwood/greenwood/Environment" "globals" "Ljava/util/Map;" (.ref b2) := c5.same W7
  refine own_go (st' := T7.setTop (mkF m 15 #[.val (.ref a1)] [])) (st7) ?_
  refine own_go (st' := T7.setTop (mkF m 16 #[.val (.ref a1)] [(.ref a1)])) (fun _ k => XS.aloadN X7.here hx rfl (hb hby d2_15) rfl rfl k) ?_
  refine own_go (st' := T7.setTop (mkF m 18 #[.val (.ref a1)] [(.int (16 : Int32)), (.ref a1)])) (fun _ k => XS.bipush X7.here hx rfl (hb hby d2_16) k) ?_
  obtain ⟨T8, h8, k8, X8, e8, E8, A8, O8, st8⟩ := newR X7 hx hZ hown (hw _ (List.mem_of_getElem? (i := 34) rfl)) (hw _ (List.mem_of_getElem? (i := 35) rfl)) e7 (g := (mkF m 18 #[.val (.ref a1)] [(.int (16 : Int32)), (.ref a1)])) rfl (hb hby d2_18) rfl (by decide) (cap := 16) (by decide) (by decide) (by decide) (by decide)
  obtain ⟨b8, g8⟩ : ∃ z, z = h7.size := ⟨_, rfl⟩
  rw [← g8] at A8 st8
  have sz8 : h7.size ≤ h8.size := E8.1
  have lt8 : @LT.lt Nat _ b8 h8.size := A8.lt
  have v8 : Arv Z h8 b8 k8 (.object "java/lang/Object") (16 : Int32) [.null, .null, .null, .null, .null, .null, .null, .null, .null, .null, .null, .null, .null, .null, .null, .null] .null := (Arv.new A8 (by decide)).pad (pad_rep [] .null 16)
  refine own_go (st' := T8.setTop (mkF m 21 #[.val (.ref a1)] [(.ref b8), (.ref a1)])) (st8) ?_
  have c9 : Fld Z h8 a1 "com/example/greenwood/greenwood/Environment" "locals" "[Ljava/lang/Object;" .null := ((((pr3.ext E2).keep K4 (ninS (by first | assumption | exact Ne.symm (by assumption) | (apply Nat.ne_of_lt; omega) | (apply Nat.ne_of_gt; omega)) nin0)).other W7 (Or.inr (slot_ne (Or.inl (hw _ (List.mem_of_getElem? (i := 37) rfl))) (Or.inr (hw _ (List.mem_of_getElem? (i := 33) rfl))) (by decide) (t := (.array (.object "java/lang/Object"))) (t' := (.object "java/util/Map")) (by decide) (by decide)))).ext E8)
  have c10 : Exa Z h8 a1 "com/example/greenwood/greenwood/Environment" := ((c6.wr W7).ext E8)
  obtain ⟨T11, h11, X11, e11, W11, st11⟩ := putF X8 hx hZ hown (host := "") (Or.inl (hw _ (List.mem_of_getElem? (i := 36) rfl))) Via.refl e8 c9 c10 (Or.inl (hw _ (List.mem_of_getElem? (i := 37) rfl))) (hw _ (List.mem_of_getElem? (i := 8) rfl)) (ty := (.array (.object "java/lang/Object"))) (by decide) rfl rfl (g := (mkF m 21 #[.val (.ref a1)] [(.ref b8), (.ref a1)])) rfl rfl (hb hby d2_21)
  have sz11 : h11.size = h8.size := W11.size
  have N11 := Fr.snoc X11 N7 (by omega)
  have f11 : Fld Z h11 a1 "com/example/greenwood/greenwood/Environment" "locals" "[Ljava/lang/Object;" (.ref b8) := c9.same W11
  refine own_go (st' := T11.setTop (mkF m 24 #[.val (.ref a1)] [])) (st11) ?_
  refine own_go (st' := T11.setTop (mkF m 25 #[.val (.ref a1)] [(.ref a1)])) (fun _ k => XS.aloadN X11.here hx rfl (hb hby d2_24) rfl rfl k) ?_
  refine own_go (st' := T11.setTop (mkF m 27 #[.val (.ref a1)] [(.int (16 : Int32)), (.ref a1)])) (fun _ k => XS.bipush X11.here hx rfl (hb hby d2_25) k) ?_
  obtain ⟨T12, h12, k12, X12, e12, E12, A12, st12⟩ := newP X11 hx hZ (hw _ (List.mem_of_getElem? (i := 38) rfl)) e11 (g := (mkF m 27 #[.val (.ref a1)] [(.int (16 : Int32)), (.ref a1)])) rfl (hb hby d2_27) rfl (by decide) (cap := 16) (by decide) (by decide) (by decide) (by decide)
  obtain ⟨b12, g12⟩ : ∃ z, z = h11.size := ⟨_, rfl⟩
  rw [← g12] at A12 st12
  have sz12 : h11.size ≤ h12.size := E12.1
  have lt12 : @LT.lt Nat _ b12 h12.size := A12.lt
  have v12 : Arv Z h12 b12 k12 .int (16 : Int32) [(.int (0 : Int32)), (.int (0 : Int32)), (.int (0 : Int32)), (.int (0 : Int32)), (.int (0 : Int32)), (.int (0 : Int32)), (.int (0 : Int32)), (.int (0 : Int32)), (.int (0 : Int32)), (.int (0 : Int32)), (.int (0 : Int32)), (.int (0 : Int32)), (.int (0 : Int32)), (.int (0 : Int32)), (.int (0 : Int32)), (.int (0 : Int32))] (.int (0 : Int32)) := (Arv.new A12 (by decide)).pad (pad_rep [] (.int (0 : Int32)) 16)
  refine own_go (st' := T12.setTop (mkF m 29 #[.val (.ref a1)] [(.ref b12), (.ref a1)])) (st12) ?_
  have c13 : Fld Z h12 a1 "com/example/greenwood/greenwood/Environment" "scopeStarts" "[I" .null := ((((((pr4.ext E2).keep K4 (ninS (by first | assumption | exact Ne.symm (by assumption) | (apply Nat.ne_of_lt; omega) | (apply Nat.ne_of_gt; omega)) nin0)).other W7 (Or.inr (slot_ne (Or.inl (hw _ (List.mem_of_getElem? (i := 40) rfl))) (Or.inr (hw _ (List.mem_of_getElem? (i := 33) rfl))) (by decide) (t := (.array .int)) (t' := (.object "java/util/Map")) (by decide) (by decide)))).ext E8).other W11 (Or.inr (slot_ne (Or.inl (hw _ (List.mem_of_getElem? (i := 40) rfl))) (Or.inl (hw _ (List.mem_of_getElem? (i := 37) rfl))) (by decide) (t := (.array .int)) (t' := (.array (.object "java/lang/Object"))) (by decide) (by decide)))).ext E12)
  have c14 : Exa Z h12 a1 "com/example/greenwood/greenwood/Environment" := ((c10.wr W11).ext E12)
  obtain ⟨T15, h15, X15, e15, W15, st15⟩ := putF X12 hx hZ hown (host := "") (Or.inl (hw _ (List.mem_of_getElem? (i := 39) rfl))) Via.refl e12 c13 c14 (Or.inl (hw _ (List.mem_of_getElem? (i := 40) rfl))) (hw _ (List.mem_of_getElem? (i := 8) rfl)) (ty := (.array .int)) (by decide) rfl rfl (g := (mkF m 29 #[.val (.ref a1)] [(.ref b12), (.ref a1)])) rfl rfl (hb hby d2_29)
  have sz15 : h15.size = h12.size := W15.size
  have N15 := Fr.snoc X15 N11 (by omega)
  have f15 : Fld Z h15 a1 "com/example/greenwood/greenwood/Environment" "scopeStarts" "[I" (.ref b12) := c13.same W15
  refine own_go (st' := T15.setTop (mkF m 32 #[.val (.ref a1)] [])) (st15) ?_
  obtain ⟨fs, hr, hrun, hended, hW, hsame⟩ := X15.leave (v := none) (fun _ => rfl)
  refine ⟨_, _, ?_, hP _ _ hrun hended ⟨_, _, rfl, ?_, ⟨_, rfl⟩, hW, hsame.mono (by decide) (by decide)⟩⟩
  · exact X15.returnOut hx Bd.returns (hb hby d2_32) hr
  · show Qrm2 Z a1 h0 n0 _ T15.heap _
    have c17 : Exa Z h15 a1 "com/example/greenwood/greenwood/Environment" := (c14.wr W15)
    have c18 : Fld Z h15 a1 "com/example/greenwood/greenwood/Environment" "openScopes" "I" (.int (0 : Int32)) := (((((((pr5.ext E2).keep K4 (ninS (by first | assumption | exact Ne.symm (by assumption) | (apply Nat.ne_of_lt; omega) | (apply Nat.ne_of_gt; omega)) nin0)).other W7 (Or.inr (slot_ne (Or.inl (hw _ (List.mem_of_getElem? (i := 47) rfl))) (Or.inr (hw _ (List.mem_of_getElem? (i := 33) rfl))) (by decide) (t := .int) (t' := (.object "java/util/Map")) (by decide) (by decide)))).ext E8).other W11 (Or.inr (slot_ne (Or.inl (hw _ (List.mem_of_getElem? (i := 47) rfl))) (Or.inl (hw _ (List.mem_of_getElem? (i := 37) rfl))) (by decide) (t := .int) (t' := (.array (.object "java/lang/Object"))) (by decide) (by decide)))).ext E12).other W15 (Or.inr (slot_ne (Or.inl (hw _ (List.mem_of_getElem? (i := 47) rfl))) (Or.inl (hw _ (List.mem_of_getElem? (i := 40) rfl))) (by decide) (t := .int) (t' := (.array .int)) (by decide) (by decide))))
    have c19 : Fld Z h15 a1 "com/example/greenwood/greenwood/Environment" "localCount" "I" (.int (0 : Int32)) := (((((((pr6.ext E2).keep K4 (ninS (by first | assumption | exact Ne.symm (by assumption) | (apply Nat.ne_of_lt; omega) | (apply Nat.ne_of_gt; omega)) nin0)).other W7 (Or.inr (slot_ne (Or.inl (hw _ (List.mem_of_getElem? (i := 49) rfl))) (Or.inr (hw _ (List.mem_of_getElem? (i := 33) rfl))) (by decide) (t := .int) (t' := (.object "java/util/Map")) (by decide) (by decide)))).ext E8).other W11 (Or.inr (slot_ne (Or.inl (hw _ (List.mem_of_getElem? (i := 49) rfl))) (Or.inl (hw _ (List.mem_of_getElem? (i := 37) rfl))) (by decide) (t := .int) (t' := (.array (.object "java/lang/Object"))) (by decide) (by decide)))).ext E12).other W15 (Or.inr (slot_ne (Or.inl (hw _ (List.mem_of_getElem? (i := 49) rfl))) (Or.inl (hw _ (List.mem_of_getElem? (i := 40) rfl))) (by decide) (t := .int) (t' := (.array .int)) (by decide) (by decide))))
    have c20 : Fld Z h15 a1 "com/example/greenwood/greenwood/Environment" "locals" "[Ljava/lang/Object;" (.ref b8) := ((f11.ext E12).other W15 (Or.inr (slot_ne (Or.inl (hw _ (List.mem_of_getElem? (i := 37) rfl))) (Or.inl (hw _ (List.mem_of_getElem? (i := 40) rfl))) (by decide) (t := (.array (.object "java/lang/Object"))) (t' := (.array .int)) (by decide) (by decide))))
    have c21 : Arv Z h15 b8 k8 (.object "java/lang/Object") (16 : Int32) [.null, .null, .null, .null, .null, .null, .null, .null, .null, .null, .null, .null, .null, .null, .null, .null] .null := (((v8.other W11 (by first | assumption | exact Ne.symm (by assumption) | (apply Nat.ne_of_lt; omega) | (apply Nat.ne_of_gt; omega))).ext E12).other W15 (by first | assumption | exact Ne.symm (by assumption) | (apply Nat.ne_of_lt; omega) | (apply Nat.ne_of_gt; omega)))
    have c22 : Arv Z h15 b12 k12 .int (16 : Int32) [(.int (0 : Int32)), (.int (0 : Int32)), (.int (0 : Int32)), (.int (0 : Int32)), (.int (0 : Int32)), (.int (0 : Int32)), (.int (0 : Int32)), (.int (0 : Int32)), (.int (0 : Int32)), (.int (0 : Int32)), (.int (0 : Int32)), (.int (0 : Int32)), (.int (0 : Int32)), (.int (0 : Int32)), (.int (0 : Int32)), (.int (0 : Int32))] (.int (0 : Int32)) := (v12.other W15 (by first | assumption | exact Ne.symm (by assumption) | (apply Nat.ne_of_lt; omega) | (apply Nat.ne_of_gt; omega)))
    rw [e15]
    exact ⟨b8, b12, k8, k12, rfl, N15, ((((((((Keep.refl h0 [a1]).ext E2).trans K4 (allS (P := fun x => x ∈ [a1] ∨ h0.size ≤ x) (Or.inr (by omega)) all0)).wr W7 (Or.inl (List.mem_of_getElem? (i := 0) rfl))).ext E8).wr W11 (Or.inl (List.mem_of_getElem? (i := 0) rfl))).ext E12).wr W15 (Or.inl (List.mem_of_getElem? (i := 0) rfl))), c17, c18, c19, c20, f15, c21, c22, O8, (by omega), (by omega), (by first | assumption | exact Ne.symm (by assumption) | (apply Nat.ne_of_lt; omega) | (apply Nat.ne_of_gt; omega))⟩
theorem d6_0 : decode prog_1_method_7_code 0 = .ok (.aload_n 0, 1) := by decide +kernel
theorem d6_1 : decode prog_1_method_7_code 1 = .ok (.getfield 57, 3) := by decide +kernel
theorem d6_4 : decode prog_1_method_7_code 4 = .ok (.aload_n 0, 1) := by decide +kernel
theorem d6_5 : decode prog_1_method_7_code 5 = .ok (.getfield 20, 3) := by decide +kernel
theorem d6_8 : decode prog_1_method_7_code 8 = .ok (.arraylength, 1) := by decide +kernel
theorem d6_9 : decode prog_1_method_7_code 9 = .ok (.if_icmp .ne 20, 3) := by decide +kernel
theorem d6_29 : decode prog_1_method_7_code 29 = .ok (.aload_n 0, 1) := by decide +kernel
theorem d6_30 : decode prog_1_method_7_code 30 = .ok (.getfield 20, 3) := by decide +kernel
theorem d6_33 : decode prog_1_method_7_code 33 = .ok (.aload_n 0, 1) := by decide +kernel
theorem d6_34 : decode prog_1_method_7_code 34 = .ok (.getfield 57, 3) := by decide +kernel
theorem d6_37 : decode prog_1_method_7_code 37 = .ok (.aload_n 0, 1) := by decide +kernel
theorem d6_38 : decode prog_1_method_7_code 38 = .ok (.getfield 67, 3) := by decide +kernel
theorem d6_41 : decode prog_1_method_7_code 41 = .ok (.iastore, 1) := by decide +kernel
theorem d6_42 : decode prog_1_method_7_code 42 = .ok (.aload_n 0, 1) := by decide +kernel
theorem d6_43 : decode prog_1_method_7_code 43 = .ok (.dup, 1) := by decide +kernel
theorem d6_44 : decode prog_1_method_7_code 44 = .ok (.getfield 57, 3) := by decide +kernel
theorem d6_47 : decode prog_1_method_7_code 47 = .ok (.iconst 1, 1) := by decide +kernel
theorem d6_48 : decode prog_1_method_7_code 48 = .ok (.iadd, 1) := by decide +kernel
theorem d6_49 : decode prog_1_method_7_code 49 = .ok (.putfield 57, 3) := by decide +kernel
theorem d6_52 : decode prog_1_method_7_code 52 = .ok (.return_, 1) := by decide +kernel
theorem pn_6 : plainName "com/example/greenwood/greenwood/Environment" = true := by first | (simp [plainName, overriddenIn]; done) | decide +kernel
theorem ef_rm6 (m : MethodId) (x0 : Addr) : entryFrame m #[(.ref x0)] 1 = mkF m 0 #[.val (.ref x0)] [] := by first | (simp [entryFrame, mkF, argsToLocals, Value.category]; done) | rfl
def Qrm6 (Z : State) (a1 : Addr) (rl : Addr) (rs : Addr) (ks : ClassId) (h0 : Heap) (n0 : Nat) (v : Option Value) (h : Heap) (L : List Loc) : Prop := (v = none) ∧ (Fr n0 L) ∧ (Keep h0 h [a1, rs]) ∧ (Exa Z h a1 "com/example/greenwood/greenwood/Environment") ∧ (Fld Z h a1 "com/example/greenwood/greenwood/Environment" "openScopes" "I" (.int (1 : Int32))) ∧ (Fld Z h a1 "com/example/greenwood/greenwood/Environment" "localCount" "I" (.int (0 : Int32))) ∧ (Fld Z h a1 "com/example/greenwood/greenwood/Environment" "locals" "[Ljava/lang/Object;" (.ref rl)) ∧ (Fld Z h a1 "com/example/greenwood/greenwood/Environment" "scopeStarts" "[I" (.ref rs)) ∧ (Arv Z h rs ks .int (16 : Int32) [(.int (0 : Int32)), (.int (0 : Int32)), (.int (0 : Int32)), (.int (0 : Int32)), (.int (0 : Int32)), (.int (0 : Int32)), (.int (0 : Int32)), (.int (0 : Int32)), (.int (0 : Int32)), (.int (0 : Int32)), (.int (0 : Int32)), (.int (0 : Int32)), (.int (0 : Int32)), (.int (0 : Int32)), (.int (0 : Int32)), (.int (0 : Int32))] (.int (0 : Int32)))
set_option maxRecDepth 65536 in
set_option maxHeartbeats 40000000 in
theorem rm6 (l : Launch) (Z : State) (a0 : Array Value) (hw : ∀ d ∈ tables_1, d.before a0 Z = true) (ws : List Jvm.Cond) (a1 : Addr) (rl : Addr) (rs : Addr) (ks : ClassId) (h0 : Heap) (n0 : Nat) (Z0 : n0 ≤ h0.size) (pr1 : Exa Z h0 a1 "com/example/greenwood/greenwood/Environment") (pr2 : Fld Z h0 a1 "com/example/greenwood/greenwood/Environment" "openScopes" "I" (.int (0 : Int32))) (pr3 : Fld Z h0 a1 "com/example/greenwood/greenwood/Environment" "localCount" "I" (.int (0 : Int32))) (pr4 : Fld Z h0 a1 "com/example/greenwood/greenwood/Environment" "locals" "[Ljava/lang/Object;" (.ref rl)) (pr5 : Fld Z h0 a1 "com/example/greenwood/greenwood/Environment" "scopeStarts" "[I" (.ref rs)) (pr6 : Arv Z h0 rs ks .int (16 : Int32) [(.int (0 : Int32)), (.int (0 : Int32)), (.int (0 : Int32)), (.int (0 : Int32)), (.int (0 : Int32)), (.int (0 : Int32)), (.int (0 : Int32)), (.int (0 : Int32)), (.int (0 : Int32)), (.int (0 : Int32)), (.int (0 : Int32)), (.int (0 : Int32)), (.int (0 : Int32)), (.int (0 : Int32)), (.int (0 : Int32)), (.int (0 : Int32))] (.int (0 : Int32))) (pr7 : n0 ≤ a1) (pr8 : n0 ≤ rl) (pr9 : n0 ≤ rs) (pr10 : a1 ≠ rl) (pr11 : a1 ≠ rs) (pr12 : rl ≠ rs) :
    MetFree l (⟨"com/example/greenwood/greenwood/Environment", "openScope", "()V"⟩ : MethodName) (head1 (Jvm.Cond.code (⟨"com/example/greenwood/greenwood/Environment", "openScope", "()V"⟩ : MethodName) prog_1_method_7_code 1 none :: ws) ({ frames := 0, cells := 0, slots := 0, locals := 0 } : Room)) (fun a U => a = #[(.ref a1)] ∧ Z.Warmed39 U.vm ∧ U.heap = h0) (fun _ _ _ _ _ => True) (fun _ U o U' => ∃ v L, o = .returned v ∧ Qrm6 Z a1 rl rs ks h0 n0 v U'.heap L ∧ FrameEnd U o U' L ({ frames := 0, cells := 0, slots := 0, locals := 0 } : Room).cells ({ frames := 0, cells := 0, slots := 0, locals := 0 } : Room).slots) := by
  refine MetFree.of_bodySF (plainFor_of_name pn_6) hisR ?_
  intro p e s m args below meth c s₁ Bd hml0 hP0 hK
  obtain ⟨rfl, hZ, hh⟩ := hP0
  have hx := Bd.exec
  have hby := Bd.bytes
  have hml : c.maxLocals = 1 := hml0
  have hown : s.vm.findClass "com/example/greenwood/greenwood/Environment" = some m.cls := findClass_of_methodNamed Bd.named
  have hnm := (name_of_methodNamed Bd.named Bd.method).1
  have X0 : Stand p l e ({ frames := 0, cells := 0, slots := 0, locals := 0 } : Room) s m #[(.ref a1)] below meth c s₁ [] 0 0 := Stand.of_body Bd
  have e0 : s₁.heap = h0 := by rw [← hh, Bd.state]; rfl
  have N0 := Fr.nil n0
  suffices own_H : ∀ (P : State → Outcome → Prop), (∀ U o, U.status = .running → Ended U below o → (∃ v L, o = .returned v ∧ Qrm6 Z a1 rl rs ks h0 n0 v U.heap L ∧ FrameEnd s o U L ({ frames := 0, cells := 0, slots := 0, locals := 0 } : Room).cells ({ frames := 0, cells := 0, slots := 0, locals := 0 } : Room).slots) → P U o) → own_Go p.tables e below P (s₁.setTop (mkF m 0 #[.val (.ref a1)] [])) from own_go (fun _ k => castTop (ef_rm6 m a1) k) (own_H _ (fun U o h1 h2 h3 => ⟨h1, h2, h3⟩))
  intro P hP
  have lt_a1 : @LT.lt Nat _ a1 h0.size := pr1.lt
  have lt_rs : @LT.lt Nat _ rs h0.size := pr6.lt
  refine own_go (st' := s₁.setTop (mkF m 1 #[.val (.ref a1)] [(.ref a1)])) (fun _ k => XS.aloadN X0.here hx rfl (hb hby d6_0) rfl rfl k) ?_
  obtain ⟨T1, X1, e1, st1⟩ := getF X0 hx hZ hown (host := "") (Or.inl (hw _ (List.mem_of_getElem? (i := 46) rfl))) Via.refl e0 pr2 (g := (mkF m 1 #[.val (.ref a1)] [(.ref a1)])) rfl rfl (hb hby d6_1)
  refine own_go (st' := T1.setTop (mkF m 4 #[.val (.ref a1)] [(.int (0 : Int32))])) (st1) ?_
  refine own_go (st' := T1.setTop (mkF m 5 #[.val (.ref a1)] [(.ref a1), (.int (0 : Int32))])) (fun _ k => XS.aloadN X1.here hx rfl (hb hby d6_4) rfl rfl k) ?_
  obtain ⟨T2, X2, e2, st2⟩ := getF X1 hx hZ hown (host := "") (Or.inl (hw _ (List.mem_of_getElem? (i := 39) rfl))) Via.refl e1 pr5 (g := (mkF m 5 #[.val (.ref a1)] [(.ref a1), (.int (0 : Int32))])) rfl rfl (hb hby d6_5)
  refine own_go (st' := T2.setTop (mkF m 8 #[.val (.ref a1)] [(.ref rs), (.int (0 : Int32))])) (st2) ?_
  obtain ⟨cl3, Ar3, -, S3, M3, -, -⟩ := id pr6
  refine own_go (st' := T2.setTop (mkF m 9 #[.val (.ref a1)] [(.int (16 : Int32)), (.int (0 : Int32))])) (fun t k => X2.arraylength hx (by rw [e2]; exact Ar3.1) (State.isArrayOf_alike hZ.alike Ar3.2.1) (g := (mkF m 8 #[.val (.ref a1)] [(.ref rs), (.int (0 : Int32))])) rfl rfl (hb hby d6_8) t (by rw [len_of S3 M3]; exact k)) ?_
  have hc4 : ¬ ((0 : Int32) = (16 : Int32)) := by decide
  refine own_go (st' := T2.setTop (mkF m 29 #[.val (.ref a1)] [])) (fun _ k => XS.icmpYes X2.here hx rfl (pc0 := 9) (pc' := 29) rfl (hb hby d6_9) rfl (feq hc4).2 (by decide) (by decide) k) ?_
  refine own_go (st' := T2.setTop (mkF m 30 #[.val (.ref a1)] [(.ref a1)])) (fun _ k => XS.aloadN X2.here hx rfl (hb hby d6_29) rfl rfl k) ?_
  obtain ⟨T5, X5, e5, st5⟩ := getF X2 hx hZ hown (host := "") (Or.inl (hw _ (List.mem_of_getElem? (i := 39) rfl))) Via.refl e2 pr5 (g := (mkF m 30 #[.val (.ref a1)] [(.ref a1)])) rfl rfl (hb hby d6_30)
  refine own_go (st' := T5.setTop (mkF m 33 #[.val (.ref a1)] [(.ref rs)])) (st5) ?_
  refine own_go (st' := T5.setTop (mkF m 34 #[.val (.ref a1)] [(.ref a1), (.ref rs)])) (fun _ k => XS.aloadN X5.here hx rfl (hb hby d6_33) rfl rfl k) ?_
  obtain ⟨T6, X6, e6, st6⟩ := getF X5 hx hZ hown (host := "") (Or.inl (hw _ (List.mem_of_getElem? (i := 46) rfl))) Via.refl e5 pr2 (g := (mkF m 34 #[.val (.ref a1)] [(.ref a1), (.ref rs)])) rfl rfl (hb hby d6_34)
  refine own_go (st' := T6.setTop (mkF m 37 #[.val (.ref a1)] [(.int (0 : Int32)), (.ref rs)])) (st6) ?_
  refine own_go (st' := T6.setTop (mkF m 38 #[.val (.ref a1)] [(.ref a1), (.int (0 : Int32)), (.ref rs)])) (fun _ k => XS.aloadN X6.here hx rfl (hb hby d6_37) rfl rfl k) ?_
  obtain ⟨T7, X7, e7, st7⟩ := getF X6 hx hZ hown (host := "") (Or.inl (hw _ (List.mem_of_getElem? (i := 48) rfl))) Via.refl e6 pr3 (g := (mkF m 38 #[.val (.ref a1)] [(.ref a1), (.int (0 : Int32)), (.ref rs)])) rfl rfl (hb hby d6_38)
  refine own_go (st' := T7.setTop (mkF m 41 #[.val (.ref a1)] [(.int (0 : Int32)), (.int (0 : Int32)), (.ref rs)])) (st7) ?_
  obtain ⟨cl8, Ar8, qc8, S8, M8, H8, G8⟩ := id pr6
  have hin8 : ¬ ((0 : Int32) < 0 ∨ cl8.slots.size ≤ ((0 : Int32)).toNatClampNeg) := (inb_of S8 ⟨by decide, by decide⟩)
  obtain ⟨T8, h8, X8, e8, W8, st8⟩ := stI X7 hx hZ e7 Ar8 (j := (0 : Int32)) hin8 (g := (mkF m 41 #[.val (.ref a1)] [(.int (0 : Int32)), (.int (0 : Int32)), (.ref rs)])) rfl rfl (hb hby d6_41)
  have sz8 : h8.size = h0.size := W8.size
  have N8 := Fr.snoc X8 N0 (by omega)
  have v8 : Arv Z h8 rs ks .int (16 : Int32) [(.int (0 : Int32)), (.int (0 : Int32)), (.int (0 : Int32)), (.int (0 : Int32)), (.int (0 : Int32)), (.int (0 : Int32)), (.int (0 : Int32)), (.int (0 : Int32)), (.int (0 : Int32)), (.int (0 : Int32)), (.int (0 : Int32)), (.int (0 : Int32)), (.int (0 : Int32)), (.int (0 : Int32)), (.int (0 : Int32)), (.int (0 : Int32))] (.int (0 : Int32)) := Arv.set Ar8 qc8 S8 M8 H8 G8 rfl W8 0 rfl (Nat.le_of_ble_eq_true rfl)
  refine own_go (st' := T8.setTop (mkF m 42 #[.val (.ref a1)] [])) (st8) ?_
  refine own_go (st' := T8.setTop (mkF m 43 #[.val (.ref a1)] [(.ref a1)])) (fun _ k => XS.aloadN X8.here hx rfl (hb hby d6_42) rfl rfl k) ?_
  refine own_go (st' := T8.setTop (mkF m 44 #[.val (.ref a1)] [(.ref a1), (.ref a1)])) (fun _ k => XS.dup X8.here hx rfl (hb hby d6_43) rfl rfl k) ?_
  have c9 : Fld Z h8 a1 "com/example/greenwood/greenwood/Environment" "openScopes" "I" (.int (0 : Int32)) := (pr2.other W8 (Or.inl (by first | assumption | exact Ne.symm (by assumption) | (apply Nat.ne_of_lt; omega) | (apply Nat.ne_of_gt; omega))))
  obtain ⟨T10, X10, e10, st10⟩ := getF X8 hx hZ hown (host := "") (Or.inl (hw _ (List.mem_of_getElem? (i := 46) rfl))) Via.refl e8 c9 (g := (mkF m 44 #[.val (.ref a1)] [(.ref a1), (.ref a1)])) rfl rfl (hb hby d6_44)
  refine own_go (st' := T10.setTop (mkF m 47 #[.val (.ref a1)] [(.int (0 : Int32)), (.ref a1)])) (st10) ?_
  refine own_go (st' := T10.setTop (mkF m 48 #[.val (.ref a1)] [(.int (1 : Int32)), (.int (0 : Int32)), (.ref a1)])) (fun _ k => XS.iconst X10.here hx rfl (hb hby d6_47) k) ?_
  refine own_go (st' := T10.setTop (mkF m 49 #[.val (.ref a1)] [(.int (1 : Int32)), (.ref a1)])) (fun _ k => XS.iadd X10.here hx rfl (hb hby d6_48) rfl (by rw [show ((0 : Int32) + (1 : Int32)) = (1 : Int32) by decide]; exact k)) ?_
  have c11 : Exa Z h8 a1 "com/example/greenwood/greenwood/Environment" := (pr1.wr W8)
  obtain ⟨T12, h12, X12, e12, W12, st12⟩ := putF X10 hx hZ hown (host := "") (Or.inl (hw _ (List.mem_of_getElem? (i := 46) rfl))) Via.refl e10 c9 c11 (Or.inl (hw _ (List.mem_of_getElem? (i := 47) rfl))) (hw _ (List.mem_of_getElem? (i := 8) rfl)) (ty := .int) (by decide) rfl rfl (g := (mkF m 49 #[.val (.ref a1)] [(.int (1 : Int32)), (.ref a1)])) rfl rfl (hb hby d6_49)
  have sz12 : h12.size = h8.size := W12.size
  have N12 := Fr.snoc X12 N8 (by omega)
  have f12 : Fld Z h12 a1 "com/example/greenwood/greenwood/Environment" "openScopes" "I" (.int (1 : Int32)) := c9.same W12
  refine own_go (st' := T12.setTop (mkF m 52 #[.val (.ref a1)] [])) (st12) ?_
  obtain ⟨fs, hr, hrun, hended, hW, hsame⟩ := X12.leave (v := none) (fun _ => rfl)
  refine ⟨_, _, ?_, hP _ _ hrun hended ⟨_, _, rfl, ?_, ⟨_, rfl⟩, hW, hsame.mono (by decide) (by decide)⟩⟩
  · exact X12.returnOut hx Bd.returns (hb hby d6_52) hr
  · show Qrm6 Z a1 rl rs ks h0 n0 _ T12.heap _
    have c14 : Exa Z h12 a1 "com/example/greenwood/greenwood/Environment" := (c11.wr W12)
    have c15 : Fld Z h12 a1 "com/example/greenwood/greenwood/Environment" "localCount" "I" (.int (0 : Int32)) := ((pr3.other W8 (Or.inl (by first | assumption | exact Ne.symm (by assumption) | (apply Nat.ne_of_lt; omega) | (apply Nat.ne_of_gt; omega)))).other W12 (Or.inr (slot_ne (Or.inl (hw _ (List.mem_of_getElem? (i := 49) rfl))) (Or.inl (hw _ (List.mem_of_getElem? (i := 47) rfl))) (by decide) (t := .int) (t' := .int) (by decide) (by decide))))
    have c16 : Fld Z h12 a1 "com/example/greenwood/greenwood/Environment" "locals" "[Ljava/lang/Object;" (.ref rl) := ((pr4.other W8 (Or.inl (by first | assumption | exact Ne.symm (by assumption) | (apply Nat.ne_of_lt; omega) | (apply Nat.ne_of_gt; omega)))).other W12 (Or.inr (slot_ne (Or.inl (hw _ (List.mem_of_getElem? (i := 37) rfl))) (Or.inl (hw _ (List.mem_of_getElem? (i := 47) rfl))) (by decide) (t := (.array (.object "java/lang/Object"))) (t' := .int) (by decide) (by decide))))
    have c17 : Fld Z h12 a1 "com/example/greenwood/greenwood/Environment" "scopeStarts" "[I" (.ref rs) := ((pr5.other W8 (Or.inl (by first | assumption | exact Ne.symm (by assumption) | (apply Nat.ne_of_lt; omega) | (apply Nat.ne_of_gt; omega)))).other W12 (Or.inr (slot_ne (Or.inl (hw _ (List.mem_of_getElem? (i := 40) rfl))) (Or.inl (hw _ (List.mem_of_getElem? (i := 47) rfl))) (by decide) (t := (.array .int)) (t' := .int) (by decide) (by decide))))
    have c18 : Arv Z h12 rs ks .int (16 : Int32) [(.int (0 : Int32)), (.int (0 : Int32)), (.int (0 : Int32)), (.int (0 : Int32)), (.int (0 : Int32)), (.int (0 : Int32)), (.int (0 : Int32)), (.int (0 : Int32)), (.int (0 : Int32)), (.int (0 : Int32)), (.int (0 : Int32)), (.int (0 : Int32)), (.int (0 : Int32)), (.int (0 : Int32)), (.int (0 : Int32)), (.int (0 : Int32))] (.int (0 : Int32)) := (v8.other W12 (by first | assumption | exact Ne.symm (by assumption) | (apply Nat.ne_of_lt; omega) | (apply Nat.ne_of_gt; omega)))
    rw [e12]
    exact ⟨rfl, N12, (((Keep.refl h0 [a1, rs]).wr W8 (Or.inl (List.mem_of_getElem? (i := 1) rfl))).wr W12 (Or.inl (List.mem_of_getElem? (i := 0) rfl))), c14, f12, c15, c16, c17, c18⟩
theorem d7_0 : decode prog_1_method_10_code 0 = .ok (.aload_n 0, 1) := by decide +kernel
theorem d7_1 : decode prog_1_method_10_code 1 = .ok (.getfield 67, 3) := by decide +kernel
theorem d7_4 : decode prog_1_method_10_code 4 = .ok (.aload_n 0, 1) := by decide +kernel
theorem d7_5 : decode prog_1_method_10_code 5 = .ok (.getfield 16, 3) := by decide +kernel
theorem d7_8 : decode prog_1_method_10_code 8 = .ok (.arraylength, 1) := by decide +kernel
theorem d7_9 : decode prog_1_method_10_code 9 = .ok (.if_icmp .ne 20, 3) := by decide +kernel
theorem d7_29 : decode prog_1_method_10_code 29 = .ok (.aload_n 0, 1) := by decide +kernel
theorem d7_30 : decode prog_1_method_10_code 30 = .ok (.dup, 1) := by decide +kernel
theorem d7_31 : decode prog_1_method_10_code 31 = .ok (.getfield 67, 3) := by decide +kernel
theorem d7_34 : decode prog_1_method_10_code 34 = .ok (.iconst 1, 1) := by decide +kernel
theorem d7_35 : decode prog_1_method_10_code 35 = .ok (.iadd, 1) := by decide +kernel
theorem d7_36 : decode prog_1_method_10_code 36 = .ok (.putfield 67, 3) := by decide +kernel
theorem d7_39 : decode prog_1_method_10_code 39 = .ok (.return_, 1) := by decide +kernel
theorem pn_7 : plainName "com/example/greenwood/greenwood/Environment" = true := by first | (simp [plainName, overriddenIn]; done) | decide +kernel
theorem ef_rm7_0 (m : MethodId) (x0 : Addr) : entryFrame m #[(.ref x0)] 1 = mkF m 0 #[.val (.ref x0)] [] := by first | (simp [entryFrame, mkF, argsToLocals, Value.category]; done) | rfl
def Qrm7_0 (Z : State) (a1 : Addr) (rl : Addr) (rs : Addr) (kl : ClassId) (vl : List Value) (h0 : Heap) (n0 : Nat) (v : Option Value) (h : Heap) (L : List Loc) : Prop := (v = none) ∧ (Fr n0 L) ∧ (Keep h0 h [a1]) ∧ (Exa Z h a1 "com/example/greenwood/greenwood/Environment") ∧ (Fld Z h a1 "com/example/greenwood/greenwood/Environment" "openScopes" "I" (.int (1 : Int32))) ∧ (Fld Z h a1 "com/example/greenwood/greenwood/Environment" "localCount" "I" (.int (1 : Int32))) ∧ (Fld Z h a1 "com/example/greenwood/greenwood/Environment" "locals" "[Ljava/lang/Object;" (.ref rl)) ∧ (Fld Z h a1 "com/example/greenwood/greenwood/Environment" "scopeStarts" "[I" (.ref rs))
set_option maxRecDepth 65536 in
set_option maxHeartbeats 40000000 in
theorem rm7_0 (l : Launch) (Z : State) (a0 : Array Value) (hw : ∀ d ∈ tables_1, d.before a0 Z = true) (ws : List Jvm.Cond) (a1 : Addr) (rl : Addr) (rs : Addr) (kl : ClassId) (vl : List Value) (h0 : Heap) (n0 : Nat) (Z0 : n0 ≤ h0.size) (pr1 : Exa Z h0 a1 "com/example/greenwood/greenwood/Environment") (pr2 : Fld Z h0 a1 "com/example/greenwood/greenwood/Environment" "openScopes" "I" (.int (1 : Int32))) (pr3 : Fld Z h0 a1 "com/example/greenwood/greenwood/Environment" "localCount" "I" (.int (0 : Int32))) (pr4 : Fld Z h0 a1 "com/example/greenwood/greenwood/Environment" "locals" "[Ljava/lang/Object;" (.ref rl)) (pr5 : Fld Z h0 a1 "com/example/greenwood/greenwood/Environment" "scopeStarts" "[I" (.ref rs)) (pr6 : Arv Z h0 rl kl (.object "java/lang/Object") (16 : Int32) vl .null) (pr7 : n0 ≤ a1) (pr8 : a1 ≠ rl) :
    MetFree l (⟨"com/example/greenwood/greenwood/Environment", "declare", "()V"⟩ : MethodName) (head1 (Jvm.Cond.code (⟨"com/example/greenwood/greenwood/Environment", "declare", "()V"⟩ : MethodName) prog_1_method_10_code 1 none :: ws) ({ frames := 0, cells := 0, slots := 0, locals := 0 } : Room)) (fun a U => a = #[(.ref a1)] ∧ Z.Warmed39 U.vm ∧ U.heap = h0) (fun _ _ _ _ _ => True) (fun _ U o U' => ∃ v L, o = .returned v ∧ Qrm7_0 Z a1 rl rs kl vl h0 n0 v U'.heap L ∧ FrameEnd U o U' L ({ frames := 0, cells := 0, slots := 0, locals := 0 } : Room).cells ({ frames := 0, cells := 0, slots := 0, locals := 0 } : Room).slots) := by
  refine MetFree.of_bodySF (plainFor_of_name pn_7) hisR ?_
  intro p e s m args below meth c s₁ Bd hml0 hP0 hK
  obtain ⟨rfl, hZ, hh⟩ := hP0
  have hx := Bd.exec
  have hby := Bd.bytes
  have hml : c.maxLocals = 1 := hml0
  have hown : s.vm.findClass "com/example/greenwood/greenwood/Environment" = some m.cls := findClass_of_methodNamed Bd.named
  have hnm := (name_of_methodNamed Bd.named Bd.method).1
  have X0 : Stand p l e ({ frames := 0, cells := 0, slots := 0, locals := 0 } : Room) s m #[(.ref a1)] below meth c s₁ [] 0 0 := Stand.of_body Bd
  have e0 : s₁.heap = h0 := by rw [← hh, Bd.state]; rfl
  have N0 := Fr.nil n0
  suffices own_H : ∀ (P : State → Outcome → Prop), (∀ U o, U.status = .running → Ended U below o → (∃ v L, o = .returned v ∧ Qrm7_0 Z a1 rl rs kl vl h0 n0 v U.heap L ∧ FrameEnd s o U L ({ frames := 0, cells := 0, slots := 0, locals := 0 } : Room).cells ({ frames := 0, cells := 0, slots := 0, locals := 0 } : Room).slots) → P U o) → own_Go p.tables e below P (s₁.setTop (mkF m 0 #[.val (.ref a1)] [])) from own_go (fun _ k => castTop (ef_rm7_0 m a1) k) (own_H _ (fun U o h1 h2 h3 => ⟨h1, h2, h3⟩))
  intro P hP
  have lt_a1 : @LT.lt Nat _ a1 h0.size := pr1.lt
  have lt_rl : @LT.lt Nat _ rl h0.size := pr6.lt
  refine own_go (st' := s₁.setTop (mkF m 1 #[.val (.ref a1)] [(.ref a1)])) (fun _ k => XS.aloadN X0.here hx rfl (hb hby d7_0) rfl rfl k) ?_
  obtain ⟨T1, X1, e1, st1⟩ := getF X0 hx hZ hown (host := "") (Or.inl (hw _ (List.mem_of_getElem? (i := 48) rfl))) Via.refl e0 pr3 (g := (mkF m 1 #[.val (.ref a1)] [(.ref a1)])) rfl rfl (hb hby d7_1)
  refine own_go (st' := T1.setTop (mkF m 4 #[.val (.ref a1)] [(.int (0 : Int32))])) (st1) ?_
  refine own_go (st' := T1.setTop (mkF m 5 #[.val (.ref a1)] [(.ref a1), (.int (0 : Int32))])) (fun _ k => XS.aloadN X1.here hx rfl (hb hby d7_4) rfl rfl k) ?_
  obtain ⟨T2, X2, e2, st2⟩ := getF X1 hx hZ hown (host := "") (Or.inl (hw _ (List.mem_of_getElem? (i := 36) rfl))) Via.refl e1 pr4 (g := (mkF m 5 #[.val (.ref a1)] [(.ref a1), (.int (0 : Int32))])) rfl rfl (hb hby d7_5)
  refine own_go (st' := T2.setTop (mkF m 8 #[.val (.ref a1)] [(.ref rl), (.int (0 : Int32))])) (st2) ?_
  obtain ⟨cl3, Ar3, -, S3, M3, -, -⟩ := id pr6
  refine own_go (st' := T2.setTop (mkF m 9 #[.val (.ref a1)] [(.int (16 : Int32)), (.int (0 : Int32))])) (fun t k => X2.arraylength hx (by rw [e2]; exact Ar3.1) (State.isArrayOf_alike hZ.alike Ar3.2.1) (g := (mkF m 8 #[.val (.ref a1)] [(.ref rl), (.int (0 : Int32))])) rfl rfl (hb hby d7_8) t (by rw [len_of S3 M3]; exact k)) ?_
  have hc4 : ¬ ((0 : Int32) = (16 : Int32)) := by decide
  refine own_go (st' := T2.setTop (mkF m 29 #[.val (.ref a1)] [])) (fun _ k => XS.icmpYes X2.here hx rfl (pc0 := 9) (pc' := 29) rfl (hb hby d7_9) rfl (feq hc4).2 (by decide) (by decide) k) ?_
  refine own_go (st' := T2.setTop (mkF m 30 #[.val (.ref a1)] [(.ref a1)])) (fun _ k => XS.aloadN X2.here hx rfl (hb hby d7_29) rfl rfl k) ?_
  refine own_go (st' := T2.setTop (mkF m 31 #[.val (.ref a1)] [(.ref a1), (.ref a1)])) (fun _ k => XS.dup X2.here hx rfl (hb hby d7_30) rfl rfl k) ?_
  obtain ⟨T5, X5, e5, st5⟩ := getF X2 hx hZ hown (host := "") (Or.inl (hw _ (List.mem_of_getElem? (i := 48) rfl))) Via.refl e2 pr3 (g := (mkF m 31 #[.val (.ref a1)] [(.ref a1), (.ref a1)])) rfl rfl (hb hby d7_31)
  refine own_go (st' := T5.setTop (mkF m 34 #[.val (.ref a1)] [(.int (0 : Int32)), (.ref a1)])) (st5) ?_
  refine own_go (st' := T5.setTop (mkF m 35 #[.val (.ref a1)] [(.int (1 : Int32)), (.int (0 : Int32)), (.ref a1)])) (fun _ k => XS.iconst X5.here hx rfl (hb hby d7_34) k) ?_
  refine own_go (st' := T5.setTop (mkF m 36 #[.val (.ref a1)] [(.int (1 : Int32)), (.ref a1)])) (fun _ k => XS.iadd X5.here hx rfl (hb hby d7_35) rfl (by rw [show ((0 : Int32) + (1 : Int32)) = (1 : Int32) by decide]; exact k)) ?_
  obtain ⟨T6, h6, X6, e6, W6, st6⟩ := putF X5 hx hZ hown (host := "") (Or.inl (hw _ (List.mem_of_getElem? (i := 48) rfl))) Via.refl e5 pr3 pr1 (Or.inl (hw _ (List.mem_of_getElem? (i := 49) rfl))) (hw _ (List.mem_of_getElem? (i := 8) rfl)) (ty := .int) (by decide) rfl rfl (g := (mkF m 36 #[.val (.ref a1)] [(.int (1 : Int32)), (.ref a1)])) rfl rfl (hb hby d7_36)
  have sz6 : h6.size = h0.size := W6.size
  have N6 := Fr.snoc X6 N0 (by omega)
  have f6 : Fld Z h6 a1 "com/example/greenwood/greenwood/Environment" "localCount" "I" (.int (1 : Int32)) := pr3.same W6
  refine own_go (st' := T6.setTop (mkF m 39 #[.val (.ref a1)] [])) (st6) ?_
  obtain ⟨fs, hr, hrun, hended, hW, hsame⟩ := X6.leave (v := none) (fun _ => rfl)
  refine ⟨_, _, ?_, hP _ _ hrun hended ⟨_, _, rfl, ?_, ⟨_, rfl⟩, hW, hsame.mono (by decide) (by decide)⟩⟩
  · exact X6.returnOut hx Bd.returns (hb hby d7_39) hr
  · show Qrm7_0 Z a1 rl rs kl vl h0 n0 _ T6.heap _
    have c8 : Exa Z h6 a1 "com/example/greenwood/greenwood/Environment" := (pr1.wr W6)
    have c9 : Fld Z h6 a1 "com/example/greenwood/greenwood/Environment" "openScopes" "I" (.int (1 : Int32)) := (pr2.other W6 (Or.inr (slot_ne (Or.inl (hw _ (List.mem_of_getElem? (i := 47) rfl))) (Or.inl (hw _ (List.mem_of_getElem? (i := 49) rfl))) (by decide) (t := .int) (t' := .int) (by decide) (by decide))))
    have c10 : Fld Z h6 a1 "com/example/greenwood/greenwood/Environment" "locals" "[Ljava/lang/Object;" (.ref rl) := (pr4.other W6 (Or.inr (slot_ne (Or.inl (hw _ (List.mem_of_getElem? (i := 37) rfl))) (Or.inl (hw _ (List.mem_of_getElem? (i := 49) rfl))) (by decide) (t := (.array (.object "java/lang/Object"))) (t' := .int) (by decide) (by decide))))
    have c11 : Fld Z h6 a1 "com/example/greenwood/greenwood/Environment" "scopeStarts" "[I" (.ref rs) := (pr5.other W6 (Or.inr (slot_ne (Or.inl (hw _ (List.mem_of_getElem? (i := 40) rfl))) (Or.inl (hw _ (List.mem_of_getElem? (i := 49) rfl))) (by decide) (t := (.array .int)) (t' := .int) (by decide) (by decide))))
    rw [e6]
    exact ⟨rfl, N6, ((Keep.refl h0 [a1]).wr W6 (Or.inl (List.mem_of_getElem? (i := 0) rfl))), c8, c9, f6, c10, c11⟩
theorem ef_rm7_1 (m : MethodId) (x0 : Addr) : entryFrame m #[(.ref x0)] 1 = mkF m 0 #[.val (.ref x0)] [] := by first | (simp [entryFrame, mkF, argsToLocals, Value.category]; done) | rfl
def Qrm7_1 (Z : State) (a1 : Addr) (rl : Addr) (rs : Addr) (kl : ClassId) (vl : List Value) (h0 : Heap) (n0 : Nat) (v : Option Value) (h : Heap) (L : List Loc) : Prop := (v = none) ∧ (Fr n0 L) ∧ (Keep h0 h [a1]) ∧ (Exa Z h a1 "com/example/greenwood/greenwood/Environment") ∧ (Fld Z h a1 "com/example/greenwood/greenwood/Environment" "openScopes" "I" (.int (1 : Int32))) ∧ (Fld Z h a1 "com/example/greenwood/greenwood/Environment" "localCount" "I" (.int (2 : Int32))) ∧ (Fld Z h a1 "com/example/greenwood/greenwood/Environment" "locals" "[Ljava/lang/Object;" (.ref rl)) ∧ (Fld Z h a1 "com/example/greenwood/greenwood/Environment" "scopeStarts" "[I" (.ref rs))
set_option maxRecDepth 65536 in
set_option maxHeartbeats 40000000 in
theorem rm7_1 (l : Launch) (Z : State) (a0 : Array Value) (hw : ∀ d ∈ tables_1, d.before a0 Z = true) (ws : List Jvm.Cond) (a1 : Addr) (rl : Addr) (rs : Addr) (kl : ClassId) (vl : List Value) (h0 : Heap) (n0 : Nat) (Z0 : n0 ≤ h0.size) (pr1 : Exa Z h0 a1 "com/example/greenwood/greenwood/Environment") (pr2 : Fld Z h0 a1 "com/example/greenwood/greenwood/Environment" "openScopes" "I" (.int (1 : Int32))) (pr3 : Fld Z h0 a1 "com/example/greenwood/greenwood/Environment" "localCount" "I" (.int (1 : Int32))) (pr4 : Fld Z h0 a1 "com/example/greenwood/greenwood/Environment" "locals" "[Ljava/lang/Object;" (.ref rl)) (pr5 : Fld Z h0 a1 "com/example/greenwood/greenwood/Environment" "scopeStarts" "[I" (.ref rs)) (pr6 : Arv Z h0 rl kl (.object "java/lang/Object") (16 : Int32) vl .null) (pr7 : n0 ≤ a1) (pr8 : a1 ≠ rl) :
    MetFree l (⟨"com/example/greenwood/greenwood/Environment", "declare", "()V"⟩ : MethodName) (head1 (Jvm.Cond.code (⟨"com/example/greenwood/greenwood/Environment", "declare", "()V"⟩ : MethodName) prog_1_method_10_code 1 none :: ws) ({ frames := 0, cells := 0, slots := 0, locals := 0 } : Room)) (fun a U => a = #[(.ref a1)] ∧ Z.Warmed39 U.vm ∧ U.heap = h0) (fun _ _ _ _ _ => True) (fun _ U o U' => ∃ v L, o = .returned v ∧ Qrm7_1 Z a1 rl rs kl vl h0 n0 v U'.heap L ∧ FrameEnd U o U' L ({ frames := 0, cells := 0, slots := 0, locals := 0 } : Room).cells ({ frames := 0, cells := 0, slots := 0, locals := 0 } : Room).slots) := by
  refine MetFree.of_bodySF (plainFor_of_name pn_7) hisR ?_
  intro p e s m args below meth c s₁ Bd hml0 hP0 hK
  obtain ⟨rfl, hZ, hh⟩ := hP0
  have hx := Bd.exec
  have hby := Bd.bytes
  have hml : c.maxLocals = 1 := hml0
  have hown : s.vm.findClass "com/example/greenwood/greenwood/Environment" = some m.cls := findClass_of_methodNamed Bd.named
  have hnm := (name_of_methodNamed Bd.named Bd.method).1
  have X0 : Stand p l e ({ frames := 0, cells := 0, slots := 0, locals := 0 } : Room) s m #[(.ref a1)] below meth c s₁ [] 0 0 := Stand.of_body Bd
  have e0 : s₁.heap = h0 := by rw [← hh, Bd.state]; rfl
  have N0 := Fr.nil n0
  suffices own_H : ∀ (P : State → Outcome → Prop), (∀ U o, U.status = .running → Ended U below o → (∃ v L, o = .returned v ∧ Qrm7_1 Z a1 rl rs kl vl h0 n0 v U.heap L ∧ FrameEnd s o U L ({ frames := 0, cells := 0, slots := 0, locals := 0 } : Room).cells ({ frames := 0, cells := 0, slots := 0, locals := 0 } : Room).slots) → P U o) → own_Go p.tables e below P (s₁.setTop (mkF m 0 #[.val (.ref a1)] [])) from own_go (fun _ k => castTop (ef_rm7_1 m a1) k) (own_H _ (fun U o h1 h2 h3 => ⟨h1, h2, h3⟩))
  intro P hP
  have lt_a1 : @LT.lt Nat _ a1 h0.size := pr1.lt
  have lt_rl : @LT.lt Nat _ rl h0.size := pr6.lt
  refine own_go (st' := s₁.setTop (mkF m 1 #[.val (.ref a1)] [(.ref a1)])) (fun _ k => XS.aloadN X0.here hx rfl (hb hby d7_0) rfl rfl k) ?_
  obtain ⟨T1, X1, e1, st1⟩ := getF X0 hx hZ hown (host := "") (Or.inl (hw _ (List.mem_of_getElem? (i := 48) rfl))) Via.refl e0 pr3 (g := (mkF m 1 #[.val (.ref a1)] [(.ref a1)])) rfl rfl (hb hby d7_1)
  refine own_go (st' := T1.setTop (mkF m 4 #[.val (.ref a1)] [(.int (1 : Int32))])) (st1) ?_
  refine own_go (st' := T1.setTop (mkF m 5 #[.val (.ref a1)] [(.ref a1), (.int (1 : Int32))])) (fun _ k => XS.aloadN X1.here hx rfl (hb hby d7_4) rfl rfl k) ?_
  obtain ⟨T2, X2, e2, st2⟩ := getF X1 hx hZ hown (host := "") (Or.inl (hw _ (List.mem_of_getElem? (i := 36) rfl))) Via.refl e1 pr4 (g := (mkF m 5 #[.val (.ref a1)] [(.ref a1), (.int (1 : Int32))])) rfl rfl (hb hby d7_5)
  refine own_go (st' := T2.setTop (mkF m 8 #[.val (.ref a1)] [(.ref rl), (.int (1 : Int32))])) (st2) ?_
  obtain ⟨cl3, Ar3, -, S3, M3, -, -⟩ := id pr6
  refine own_go (st' := T2.setTop (mkF m 9 #[.val (.ref a1)] [(.int (16 : Int32)), (.int (1 : Int32))])) (fun t k => X2.arraylength hx (by rw [e2]; exact Ar3.1) (State.isArrayOf_alike hZ.alike Ar3.2.1) (g := (mkF m 8 #[.val (.ref a1)] [(.ref rl), (.int (1 : Int32))])) rfl rfl (hb hby d7_8) t (by rw [len_of S3 M3]; exact k)) ?_
  have hc4 : ¬ ((1 : Int32) = (16 : Int32)) := by decide
  refine own_go (st' := T2.setTop (mkF m 29 #[.val (.ref a1)] [])) (fun _ k => XS.icmpYes X2.here hx rfl (pc0 := 9) (pc' := 29) rfl (hb hby d7_9) rfl (feq hc4).2 (by decide) (by decide) k) ?_
  refine own_go (st' := T2.setTop (mkF m 30 #[.val (.ref a1)] [(.ref a1)])) (fun _ k => XS.aloadN X2.here hx rfl (hb hby d7_29) rfl rfl k) ?_
  refine own_go (st' := T2.setTop (mkF m 31 #[.val (.ref a1)] [(.ref a1), (.ref a1)])) (fun _ k => XS.dup X2.here hx rfl (hb hby d7_30) rfl rfl k) ?_
  obtain ⟨T5, X5, e5, st5⟩ := getF X2 hx hZ hown (host := "") (Or.inl (hw _ (List.mem_of_getElem? (i := 48) rfl))) Via.refl e2 pr3 (g := (mkF m 31 #[.val (.ref a1)] [(.ref a1), (.ref a1)])) rfl rfl (hb hby d7_31)
  refine own_go (st' := T5.setTop (mkF m 34 #[.val (.ref a1)] [(.int (1 : Int32)), (.ref a1)])) (st5) ?_
  refine own_go (st' := T5.setTop (mkF m 35 #[.val (.ref a1)] [(.int (1 : Int32)), (.int (1 : Int32)), (.ref a1)])) (fun _ k => XS.iconst X5.here hx rfl (hb hby d7_34) k) ?_
  refine own_go (st' := T5.setTop (mkF m 36 #[.val (.ref a1)] [(.int (2 : Int32)), (.ref a1)])) (fun _ k => XS.iadd X5.here hx rfl (hb hby d7_35) rfl (by rw [show ((1 : Int32) + (1 : Int32)) = (2 : Int32) by decide]; exact k)) ?_
  obtain ⟨T6, h6, X6, e6, W6, st6⟩ := putF X5 hx hZ hown (host := "") (Or.inl (hw _ (List.mem_of_getElem? (i := 48) rfl))) Via.refl e5 pr3 pr1 (Or.inl (hw _ (List.mem_of_getElem? (i := 49) rfl))) (hw _ (List.mem_of_getElem? (i := 8) rfl)) (ty := .int) (by decide) rfl rfl (g := (mkF m 36 #[.val (.ref a1)] [(.int (2 : Int32)), (.ref a1)])) rfl rfl (hb hby d7_36)
  have sz6 : h6.size = h0.size := W6.size
  have N6 := Fr.snoc X6 N0 (by omega)
  have f6 : Fld Z h6 a1 "com/example/greenwood/greenwood/Environment" "localCount" "I" (.int (2 : Int32)) := pr3.same W6
  refine own_go (st' := T6.setTop (mkF m 39 #[.val (.ref a1)] [])) (st6) ?_
  obtain ⟨fs, hr, hrun, hended, hW, hsame⟩ := X6.leave (v := none) (fun _ => rfl)
  refine ⟨_, _, ?_, hP _ _ hrun hended ⟨_, _, rfl, ?_, ⟨_, rfl⟩, hW, hsame.mono (by decide) (by decide)⟩⟩
  · exact X6.returnOut hx Bd.returns (hb hby d7_39) hr
  · show Qrm7_1 Z a1 rl rs kl vl h0 n0 _ T6.heap _
    have c8 : Exa Z h6 a1 "com/example/greenwood/greenwood/Environment" := (pr1.wr W6)
    have c9 : Fld Z h6 a1 "com/example/greenwood/greenwood/Environment" "openScopes" "I" (.int (1 : Int32)) := (pr2.other W6 (Or.inr (slot_ne (Or.inl (hw _ (List.mem_of_getElem? (i := 47) rfl))) (Or.inl (hw _ (List.mem_of_getElem? (i := 49) rfl))) (by decide) (t := .int) (t' := .int) (by decide) (by decide))))
    have c10 : Fld Z h6 a1 "com/example/greenwood/greenwood/Environment" "locals" "[Ljava/lang/Object;" (.ref rl) := (pr4.other W6 (Or.inr (slot_ne (Or.inl (hw _ (List.mem_of_getElem? (i := 37) rfl))) (Or.inl (hw _ (List.mem_of_getElem? (i := 49) rfl))) (by decide) (t := (.array (.object "java/lang/Object"))) (t' := .int) (by decide) (by decide))))
    have c11 : Fld Z h6 a1 "com/example/greenwood/greenwood/Environment" "scopeStarts" "[I" (.ref rs) := (pr5.other W6 (Or.inr (slot_ne (Or.inl (hw _ (List.mem_of_getElem? (i := 40) rfl))) (Or.inl (hw _ (List.mem_of_getElem? (i := 49) rfl))) (by decide) (t := (.array .int)) (t' := .int) (by decide) (by decide))))
    rw [e6]
    exact ⟨rfl, N6, ((Keep.refl h0 [a1]).wr W6 (Or.inl (List.mem_of_getElem? (i := 0) rfl))), c8, c9, f6, c10, c11⟩
theorem d8_0 : decode prog_1_method_11_code 0 = .ok (.aload_n 0, 1) := by decide +kernel
theorem d8_1 : decode prog_1_method_11_code 1 = .ok (.getfield 16, 3) := by decide +kernel
theorem d8_4 : decode prog_1_method_11_code 4 = .ok (.aload_n 0, 1) := by decide +kernel
theorem d8_5 : decode prog_1_method_11_code 5 = .ok (.getfield 67, 3) := by decide +kernel
theorem d8_8 : decode prog_1_method_11_code 8 = .ok (.iconst 1, 1) := by decide +kernel
theorem d8_9 : decode prog_1_method_11_code 9 = .ok (.isub, 1) := by decide +kernel
theorem d8_10 : decode prog_1_method_11_code 10 = .ok (.aload_n 1, 1) := by decide +kernel
theorem d8_11 : decode prog_1_method_11_code 11 = .ok (.aastore, 1) := by decide +kernel
theorem d8_12 : decode prog_1_method_11_code 12 = .ok (.return_, 1) := by decide +kernel
theorem pn_8 : plainName "com/example/greenwood/greenwood/Environment" = true := by first | (simp [plainName, overriddenIn]; done) | decide +kernel
theorem ef_rm8_1R (m : MethodId) (x0 : Addr) (x1 : Addr) : entryFrame m #[(.ref x0), (.ref x1)] 2 = mkF m 0 #[.val (.ref x0), .val (.ref x1)] [] := by first | (simp [entryFrame, mkF, argsToLocals, Value.category]; done) | rfl
def Qrm8_1R (Z : State) (a1 : Addr) (rl : Addr) (rs : Addr) (kl : ClassId) (ro : Addr) (w0 : Value) (w1 : Value) (h0 : Heap) (n0 : Nat) (v : Option Value) (h : Heap) (L : List Loc) : Prop := (v = none) ∧ (Fr n0 L) ∧ (Keep h0 h [rl]) ∧ (Arv Z h rl kl (.object "java/lang/Object") (16 : Int32) [(.ref ro), w1, .null, .null, .null, .null, .null, .null, .null, .null, .null, .null, .null, .null, .null, .null] .null)
set_option maxRecDepth 65536 in
set_option maxHeartbeats 40000000 in
theorem rm8_1R (l : Launch) (Z : State) (a0 : Array Value) (hw : ∀ d ∈ tables_1, d.before a0 Z = true) (ws : List Jvm.Cond) (a1 : Addr) (rl : Addr) (rs : Addr) (kl : ClassId) (ro : Addr) (w0 : Value) (w1 : Value) (h0 : Heap) (n0 : Nat) (Z0 : n0 ≤ h0.size) (pr1 : Exa Z h0 a1 "com/example/greenwood/greenwood/Environment") (pr2 : Fld Z h0 a1 "com/example/greenwood/greenwood/Environment" "openScopes" "I" (.int (1 : Int32))) (pr3 : Fld Z h0 a1 "com/example/greenwood/greenwood/Environment" "localCount" "I" (.int (1 : Int32))) (pr4 : Fld Z h0 a1 "com/example/greenwood/greenwood/Environment" "locals" "[Ljava/lang/Object;" (.ref rl)) (pr5 : Fld Z h0 a1 "com/example/greenwood/greenwood/Environment" "scopeStarts" "[I" (.ref rs)) (pr6 : Arv Z h0 rl kl (.object "java/lang/Object") (16 : Int32) [w0, w1, .null, .null, .null, .null, .null, .null, .null, .null, .null, .null, .null, .null, .null, .null] .null) (pr7 : Ovr Z kl "java/lang/Object") (pr8 : n0 ≤ rl) (pr9 : a1 ≠ rl) (pr10 : Exa Z h0 ro "java/lang/Integer") :
    MetFree l (site_51 : MethodName) (head1 (Jvm.Cond.code (site_51 : MethodName) prog_1_method_11_code 2 none :: ws) ({ frames := 0, cells := 0, slots := 0, locals := 0 } : Room)) (fun a U => a = #[(.ref a1), (.ref ro)] ∧ Z.Warmed39 U.vm ∧ U.heap = h0) (fun _ _ _ _ _ => True) (fun _ U o U' => ∃ v L, o = .returned v ∧ Qrm8_1R Z a1 rl rs kl ro w0 w1 h0 n0 v U'.heap L ∧ FrameEnd U o U' L ({ frames := 0, cells := 0, slots := 0, locals := 0 } : Room).cells ({ frames := 0, cells := 0, slots := 0, locals := 0 } : Room).slots) := by
  refine MetFree.of_bodySF (plainFor_of_name pn_8) hisR ?_
  intro p e s m args below meth c s₁ Bd hml0 hP0 hK
  obtain ⟨rfl, hZ, hh⟩ := hP0
  have hx := Bd.exec
  have hby := Bd.bytes
  have hml : c.maxLocals = 2 := hml0
  have hown : s.vm.findClass "com/example/greenwood/greenwood/Environment" = some m.cls := findClass_of_methodNamed Bd.named
  have hnm := (name_of_methodNamed Bd.named Bd.method).1
  have X0 : Stand p l e ({ frames := 0, cells := 0, slots := 0, locals := 0 } : Room) s m #[(.ref a1), (.ref ro)] below meth c s₁ [] 0 0 := Stand.of_body Bd
  have e0 : s₁.heap = h0 := by rw [← hh, Bd.state]; rfl
  have N0 := Fr.nil n0
  suffices own_H : ∀ (P : State → Outcome → Prop), (∀ U o, U.status = .running → Ended U below o → (∃ v L, o = .returned v ∧ Qrm8_1R Z a1 rl rs kl ro w0 w1 h0 n0 v U.heap L ∧ FrameEnd s o U L ({ frames := 0, cells := 0, slots := 0, locals := 0 } : Room).cells ({ frames := 0, cells := 0, slots := 0, locals := 0 } : Room).slots) → P U o) → own_Go p.tables e below P (s₁.setTop (mkF m 0 #[.val (.ref a1), .val (.ref ro)] [])) from own_go (fun _ k => castTop (ef_rm8_1R m a1 ro) k) (own_H _ (fun U o h1 h2 h3 => ⟨h1, h2, h3⟩))
  intro P hP
  have lt_a1 : @LT.lt Nat _ a1 h0.size := pr1.lt
  have lt_rl : @LT.lt Nat _ rl h0.size := pr6.lt
  have lt_ro : @LT.lt Nat _ ro h0.size := pr10.lt
  refine own_go (st' := s₁.setTop (mkF m 1 #[.val (.ref a1), .val (.ref ro)] [(.ref a1)])) (fun _ k => XS.aloadN X0.here hx rfl (hb hby d8_0) rfl rfl k) ?_
  obtain ⟨T1, X1, e1, st1⟩ := getF X0 hx hZ hown (host := "") (Or.inl (hw _ (List.mem_of_getElem? (i := 36) rfl))) Via.refl e0 pr4 (g := (mkF m 1 #[.val (.ref a1), .val (.ref ro)] [(.ref a1)])) rfl rfl (hb hby d8_1)
  refine own_go (st' := T1.setTop (mkF m 4 #[.val (.ref a1), .val (.ref ro)] [(.ref rl)])) (st1) ?_
  refine own_go (st' := T1.setTop (mkF m 5 #[.val (.ref a1), .val (.ref ro)] [(.ref a1), (.ref rl)])) (fun _ k => XS.aloadN X1.here hx rfl (hb hby d8_4) rfl rfl k) ?_
  obtain ⟨T2, X2, e2, st2⟩ := getF X1 hx hZ hown (host := "") (Or.inl (hw _ (List.mem_of_getElem? (i := 48) rfl))) Via.refl e1 pr3 (g := (mkF m 5 #[.val (.ref a1), .val (.ref ro)] [(.ref a1), (.ref rl)])) rfl rfl (hb hby d8_5)
  refine own_go (st' := T2.setTop (mkF m 8 #[.val (.ref a1), .val (.ref ro)] [(.int (1 : Int32)), (.ref rl)])) (st2) ?_
  refine own_go (st' := T2.setTop (mkF m 9 #[.val (.ref a1), .val (.ref ro)] [(.int (1 : Int32)), (.int (1 : Int32)), (.ref rl)])) (fun _ k => XS.iconst X2.here hx rfl (hb hby d8_8) k) ?_
  refine own_go (st' := T2.setTop (mkF m 10 #[.val (.ref a1), .val (.ref ro)] [(.int (0 : Int32)), (.ref rl)])) (fun _ k => XS.isub X2.here hx rfl (hb hby d8_9) rfl (by rw [show ((1 : Int32) - (1 : Int32)) = (0 : Int32) by decide]; exact k)) ?_
  refine own_go (st' := T2.setTop (mkF m 11 #[.val (.ref a1), .val (.ref ro)] [(.ref ro), (.int (0 : Int32)), (.ref rl)])) (fun _ k => XS.aloadN X2.here hx rfl (hb hby d8_10) rfl rfl k) ?_
  obtain ⟨cl3, Ar3, qc3, S3, M3, H3, G3⟩ := id pr6
  have hin3 : ¬ ((0 : Int32) < 0 ∨ cl3.slots.size ≤ ((0 : Int32)).toNatClampNeg) := (inb_of S3 ⟨by decide, by decide⟩)
  obtain ⟨T3, h3, X3, e3, W3, st3⟩ := stR X2 hx hZ e2 Ar3 (j := (0 : Int32)) hin3 rfl (Sto.ofV Ar3 qc3 pr7 (Ins.of_exa pr10 (hw _ (List.mem_of_getElem? (i := 60) rfl)))) (g := (mkF m 11 #[.val (.ref a1), .val (.ref ro)] [(.ref ro), (.int (0 : Int32)), (.ref rl)])) rfl rfl (hb hby d8_11)
  have sz3 : h3.size = h0.size := W3.size
  have N3 := Fr.snoc X3 N0 (by omega)
  have v3 : Arv Z h3 rl kl (.object "java/lang/Object") (16 : Int32) [(.ref ro), w1, .null, .null, .null, .null, .null, .null, .null, .null, .null, .null, .null, .null, .null, .null] .null := Arv.set Ar3 qc3 S3 M3 H3 G3 rfl W3 0 rfl (Nat.le_of_ble_eq_true rfl)
  refine own_go (st' := T3.setTop (mkF m 12 #[.val (.ref a1), .val (.ref ro)] [])) (st3) ?_
  obtain ⟨fs, hr, hrun, hended, hW, hsame⟩ := X3.leave (v := none) (fun _ => rfl)
  refine ⟨_, _, ?_, hP _ _ hrun hended ⟨_, _, rfl, ?_, ⟨_, rfl⟩, hW, hsame.mono (by decide) (by decide)⟩⟩
  · exact X3.returnOut hx Bd.returns (hb hby d8_12) hr
  · show Qrm8_1R Z a1 rl rs kl ro w0 w1 h0 n0 _ T3.heap _
    rw [e3]
    exact ⟨rfl, N3, ((Keep.refl h0 [rl]).wr W3 (Or.inl (List.mem_of_getElem? (i := 0) rfl))), v3⟩
theorem ef_rm8_1N (m : MethodId) (x0 : Addr) : entryFrame m #[(.ref x0), .null] 2 = mkF m 0 #[.val (.ref x0), .val .null] [] := by first | (simp [entryFrame, mkF, argsToLocals, Value.category]; done) | rfl
def Qrm8_1N (Z : State) (a1 : Addr) (rl : Addr) (rs : Addr) (kl : ClassId) (w0 : Value) (w1 : Value) (h0 : Heap) (n0 : Nat) (v : Option Value) (h : Heap) (L : List Loc) : Prop := (v = none) ∧ (Fr n0 L) ∧ (Keep h0 h [rl]) ∧ (Arv Z h rl kl (.object "java/lang/Object") (16 : Int32) [.null, w1, .null, .null, .null, .null, .null, .null, .null, .null, .null, .null, .null, .null, .null, .null] .null)
set_option maxRecDepth 65536 in
set_option maxHeartbeats 40000000 in
theorem rm8_1N (l : Launch) (Z : State) (a0 : Array Value) (hw : ∀ d ∈ tables_1, d.before a0 Z = true) (ws : List Jvm.Cond) (a1 : Addr) (rl : Addr) (rs : Addr) (kl : ClassId) (w0 : Value) (w1 : Value) (h0 : Heap) (n0 : Nat) (Z0 : n0 ≤ h0.size) (pr1 : Exa Z h0 a1 "com/example/greenwood/greenwood/Environment") (pr2 : Fld Z h0 a1 "com/example/greenwood/greenwood/Environment" "openScopes" "I" (.int (1 : Int32))) (pr3 : Fld Z h0 a1 "com/example/greenwood/greenwood/Environment" "localCount" "I" (.int (1 : Int32))) (pr4 : Fld Z h0 a1 "com/example/greenwood/greenwood/Environment" "locals" "[Ljava/lang/Object;" (.ref rl)) (pr5 : Fld Z h0 a1 "com/example/greenwood/greenwood/Environment" "scopeStarts" "[I" (.ref rs)) (pr6 : Arv Z h0 rl kl (.object "java/lang/Object") (16 : Int32) [w0, w1, .null, .null, .null, .null, .null, .null, .null, .null, .null, .null, .null, .null, .null, .null] .null) (pr7 : Ovr Z kl "java/lang/Object") (pr8 : n0 ≤ rl) (pr9 : a1 ≠ rl) :
    MetFree l (site_51 : MethodName) (head1 (Jvm.Cond.code (site_51 : MethodName) prog_1_method_11_code 2 none :: ws) ({ frames := 0, cells := 0, slots := 0, locals := 0 } : Room)) (fun a U => a = #[(.ref a1), .null] ∧ Z.Warmed39 U.vm ∧ U.heap = h0) (fun _ _ _ _ _ => True) (fun _ U o U' => ∃ v L, o = .returned v ∧ Qrm8_1N Z a1 rl rs kl w0 w1 h0 n0 v U'.heap L ∧ FrameEnd U o U' L ({ frames := 0, cells := 0, slots := 0, locals := 0 } : Room).cells ({ frames := 0, cells := 0, slots := 0, locals := 0 } : Room).slots) := by
  refine MetFree.of_bodySF (plainFor_of_name pn_8) hisR ?_
  intro p e s m args below meth c s₁ Bd hml0 hP0 hK
  obtain ⟨rfl, hZ, hh⟩ := hP0
  have hx := Bd.exec
  have hby := Bd.bytes
  have hml : c.maxLocals = 2 := hml0
  have hown : s.vm.findClass "com/example/greenwood/greenwood/Environment" = some m.cls := findClass_of_methodNamed Bd.named
  have hnm := (name_of_methodNamed Bd.named Bd.method).1
  have X0 : Stand p l e ({ frames := 0, cells := 0, slots := 0, locals := 0 } : Room) s m #[(.ref a1), .null] below meth c s₁ [] 0 0 := Stand.of_body Bd
  have e0 : s₁.heap = h0 := by rw [← hh, Bd.state]; rfl
  have N0 := Fr.nil n0
  suffices own_H : ∀ (P : State → Outcome → Prop), (∀ U o, U.status = .running → Ended U below o → (∃ v L, o = .returned v ∧ Qrm8_1N Z a1 rl rs kl w0 w1 h0 n0 v U.heap L ∧ FrameEnd s o U L ({ frames := 0, cells := 0, slots := 0, locals := 0 } : Room).cells ({ frames := 0, cells := 0, slots := 0, locals := 0 } : Room).slots) → P U o) → own_Go p.tables e below P (s₁.setTop (mkF m 0 #[.val (.ref a1), .val .null] [])) from own_go (fun _ k => castTop (ef_rm8_1N m a1) k) (own_H _ (fun U o h1 h2 h3 => ⟨h1, h2, h3⟩))
  intro P hP
  have lt_a1 : @LT.lt Nat _ a1 h0.size := pr1.lt
  have lt_rl : @LT.lt Nat _ rl h0.size := pr6.lt
  refine own_go (st' := s₁.setTop (mkF m 1 #[.val (.ref a1), .val .null] [(.ref a1)])) (fun _ k => XS.aloadN X0.here hx rfl (hb hby d8_0) rfl rfl k) ?_
  obtain ⟨T1, X1, e1, st1⟩ := getF X0 hx hZ hown (host := "") (Or.inl (hw _ (List.mem_of_getElem? (i := 36) rfl))) Via.refl e0 pr4 (g := (mkF m 1 #[.val (.ref a1), .val .null] [(.ref a1)])) rfl rfl (hb hby d8_1)
  refine own_go (st' := T1.setTop (mkF m 4 #[.val (.ref a1), .val .null] [(.ref rl)])) (st1) ?_
  refine own_go (st' := T1.setTop (mkF m 5 #[.val (.ref a1), .val .null] [(.ref a1), (.ref rl)])) (fun _ k => XS.aloadN X1.here hx rfl (hb hby d8_4) rfl rfl k) ?_
  obtain ⟨T2, X2, e2, st2⟩ := getF X1 hx hZ hown (host := "") (Or.inl (hw _ (List.mem_of_getElem? (i := 48) rfl))) Via.refl e1 pr3 (g := (mkF m 5 #[.val (.ref a1), .val .null] [(.ref a1), (.ref rl)])) rfl rfl (hb hby d8_5)
  refine own_go (st' := T2.setTop (mkF m 8 #[.val (.ref a1), .val .null] [(.int (1 : Int32)), (.ref rl)])) (st2) ?_
  refine own_go (st' := T2.setTop (mkF m 9 #[.val (.ref a1), .val .null] [(.int (1 : Int32)), (.int (1 : Int32)), (.ref rl)])) (fun _ k => XS.iconst X2.here hx rfl (hb hby d8_8) k) ?_
  refine own_go (st' := T2.setTop (mkF m 10 #[.val (.ref a1), .val .null] [(.int (0 : Int32)), (.ref rl)])) (fun _ k => XS.isub X2.here hx rfl (hb hby d8_9) rfl (by rw [show ((1 : Int32) - (1 : Int32)) = (0 : Int32) by decide]; exact k)) ?_
  refine own_go (st' := T2.setTop (mkF m 11 #[.val (.ref a1), .val .null] [.null, (.int (0 : Int32)), (.ref rl)])) (fun _ k => XS.aloadN X2.here hx rfl (hb hby d8_10) rfl rfl k) ?_
  obtain ⟨cl3, Ar3, qc3, S3, M3, H3, G3⟩ := id pr6
  have hin3 : ¬ ((0 : Int32) < 0 ∨ cl3.slots.size ≤ ((0 : Int32)).toNatClampNeg) := (inb_of S3 ⟨by decide, by decide⟩)
  obtain ⟨T3, h3, X3, e3, W3, st3⟩ := stR X2 hx hZ e2 Ar3 (j := (0 : Int32)) hin3 rfl (Or.inl rfl) (g := (mkF m 11 #[.val (.ref a1), .val .null] [.null, (.int (0 : Int32)), (.ref rl)])) rfl rfl (hb hby d8_11)
  have sz3 : h3.size = h0.size := W3.size
  have N3 := Fr.snoc X3 N0 (by omega)
  have v3 : Arv Z h3 rl kl (.object "java/lang/Object") (16 : Int32) [.null, w1, .null, .null, .null, .null, .null, .null, .null, .null, .null, .null, .null, .null, .null, .null] .null := Arv.set Ar3 qc3 S3 M3 H3 G3 rfl W3 0 rfl (Nat.le_of_ble_eq_true rfl)
  refine own_go (st' := T3.setTop (mkF m 12 #[.val (.ref a1), .val .null] [])) (st3) ?_
  obtain ⟨fs, hr, hrun, hended, hW, hsame⟩ := X3.leave (v := none) (fun _ => rfl)
  refine ⟨_, _, ?_, hP _ _ hrun hended ⟨_, _, rfl, ?_, ⟨_, rfl⟩, hW, hsame.mono (by decide) (by decide)⟩⟩
  · exact X3.returnOut hx Bd.returns (hb hby d8_12) hr
  · show Qrm8_1N Z a1 rl rs kl w0 w1 h0 n0 _ T3.heap _
    rw [e3]
    exact ⟨rfl, N3, ((Keep.refl h0 [rl]).wr W3 (Or.inl (List.mem_of_getElem? (i := 0) rfl))), v3⟩
theorem ef_rm8_2R (m : MethodId) (x0 : Addr) (x1 : Addr) : entryFrame m #[(.ref x0), (.ref x1)] 2 = mkF m 0 #[.val (.ref x0), .val (.ref x1)] [] := by first | (simp [entryFrame, mkF, argsToLocals, Value.category]; done) | rfl
def Qrm8_2R (Z : State) (a1 : Addr) (rl : Addr) (rs : Addr) (kl : ClassId) (ro : Addr) (w0 : Value) (w1 : Value) (h0 : Heap) (n0 : Nat) (v : Option Value) (h : Heap) (L : List Loc) : Prop := (v = none) ∧ (Fr n0 L) ∧ (Keep h0 h [rl]) ∧ (Arv Z h rl kl (.object "java/lang/Object") (16 : Int32) [w0, (.ref ro), .null, .null, .null, .null, .null, .null, .null, .null, .null, .null, .null, .null, .null, .null] .null)
set_option maxRecDepth 65536 in
set_option maxHeartbeats 40000000 in
theorem rm8_2R (l : Launch) (Z : State) (a0 : Array Value) (hw : ∀ d ∈ tables_1, d.before a0 Z = true) (ws : List Jvm.Cond) (a1 : Addr) (rl : Addr) (rs : Addr) (kl : ClassId) (ro : Addr) (w0 : Value) (w1 : Value) (h0 : Heap) (n0 : Nat) (Z0 : n0 ≤ h0.size) (pr1 : Exa Z h0 a1 "com/example/greenwood/greenwood/Environment") (pr2 : Fld Z h0 a1 "com/example/greenwood/greenwood/Environment" "openScopes" "I" (.int (1 : Int32))) (pr3 : Fld Z h0 a1 "com/example/greenwood/greenwood/Environment" "localCount" "I" (.int (2 : Int32))) (pr4 : Fld Z h0 a1 "com/example/greenwood/greenwood/Environment" "locals" "[Ljava/lang/Object;" (.ref rl)) (pr5 : Fld Z h0 a1 "com/example/greenwood/greenwood/Environment" "scopeStarts" "[I" (.ref rs)) (pr6 : Arv Z h0 rl kl (.object "java/lang/Object") (16 : Int32) [w0, w1, .null, .null, .null, .null, .null, .null, .null, .null, .null, .null, .null, .null, .null, .null] .null) (pr7 : Ovr Z kl "java/lang/Object") (pr8 : n0 ≤ rl) (pr9 : a1 ≠ rl) (pr10 : Exa Z h0 ro "java/lang/Integer") :
    MetFree l (site_51 : MethodName) (head1 (Jvm.Cond.code (site_51 : MethodName) prog_1_method_11_code 2 none :: ws) ({ frames := 0, cells := 0, slots := 0, locals := 0 } : Room)) (fun a U => a = #[(.ref a1), (.ref ro)] ∧ Z.Warmed39 U.vm ∧ U.heap = h0) (fun _ _ _ _ _ => True) (fun _ U o U' => ∃ v L, o = .returned v ∧ Qrm8_2R Z a1 rl rs kl ro w0 w1 h0 n0 v U'.heap L ∧ FrameEnd U o U' L ({ frames := 0, cells := 0, slots := 0, locals := 0 } : Room).cells ({ frames := 0, cells := 0, slots := 0, locals := 0 } : Room).slots) := by
  refine MetFree.of_bodySF (plainFor_of_name pn_8) hisR ?_
  intro p e s m args below meth c s₁ Bd hml0 hP0 hK
  obtain ⟨rfl, hZ, hh⟩ := hP0
  have hx := Bd.exec
  have hby := Bd.bytes
  have hml : c.maxLocals = 2 := hml0
  have hown : s.vm.findClass "com/example/greenwood/greenwood/Environment" = some m.cls := findClass_of_methodNamed Bd.named
  have hnm := (name_of_methodNamed Bd.named Bd.method).1
  have X0 : Stand p l e ({ frames := 0, cells := 0, slots := 0, locals := 0 } : Room) s m #[(.ref a1), (.ref ro)] below meth c s₁ [] 0 0 := Stand.of_body Bd
  have e0 : s₁.heap = h0 := by rw [← hh, Bd.state]; rfl
  have N0 := Fr.nil n0
  suffices own_H : ∀ (P : State → Outcome → Prop), (∀ U o, U.status = .running → Ended U below o → (∃ v L, o = .returned v ∧ Qrm8_2R Z a1 rl rs kl ro w0 w1 h0 n0 v U.heap L ∧ FrameEnd s o U L ({ frames := 0, cells := 0, slots := 0, locals := 0 } : Room).cells ({ frames := 0, cells := 0, slots := 0, locals := 0 } : Room).slots) → P U o) → own_Go p.tables e below P (s₁.setTop (mkF m 0 #[.val (.ref a1), .val (.ref ro)] [])) from own_go (fun _ k => castTop (ef_rm8_2R m a1 ro) k) (own_H _ (fun U o h1 h2 h3 => ⟨h1, h2, h3⟩))
  intro P hP
  have lt_a1 : @LT.lt Nat _ a1 h0.size := pr1.lt
  have lt_rl : @LT.lt Nat _ rl h0.size := pr6.lt
  have lt_ro : @LT.lt Nat _ ro h0.size := pr10.lt
  refine own_go (st' := s₁.setTop (mkF m 1 #[.val (.ref a1), .val (.ref ro)] [(.ref a1)])) (fun _ k => XS.aloadN X0.here hx rfl (hb hby d8_0) rfl rfl k) ?_
  obtain ⟨T1, X1, e1, st1⟩ := getF X0 hx hZ hown (host := "") (Or.inl (hw _ (List.mem_of_getElem? (i := 36) rfl))) Via.refl e0 pr4 (g := (mkF m 1 #[.val (.ref a1), .val (.ref ro)] [(.ref a1)])) rfl rfl (hb hby d8_1)
  refine own_go (st' := T1.setTop (mkF m 4 #[.val (.ref a1), .val (.ref ro)] [(.ref rl)])) (st1) ?_
  refine own_go (st' := T1.setTop (mkF m 5 #[.val (.ref a1), .val (.ref ro)] [(.ref a1), (.ref rl)])) (fun _ k => XS.aloadN X1.here hx rfl (hb hby d8_4) rfl rfl k) ?_
  obtain ⟨T2, X2, e2, st2⟩ := getF X1 hx hZ hown (host := "") (Or.inl (hw _ (List.mem_of_getElem? (i := 48) rfl))) Via.refl e1 pr3 (g := (mkF m 5 #[.val (.ref a1), .val (.ref ro)] [(.ref a1), (.ref rl)])) rfl rfl (hb hby d8_5)
  refine own_go (st' := T2.setTop (mkF m 8 #[.val (.ref a1), .val (.ref ro)] [(.int (2 : Int32)), (.ref rl)])) (st2) ?_
  refine own_go (st' := T2.setTop (mkF m 9 #[.val (.ref a1), .val (.ref ro)] [(.int (1 : Int32)), (.int (2 : Int32)), (.ref rl)])) (fun _ k => XS.iconst X2.here hx rfl (hb hby d8_8) k) ?_
  refine own_go (st' := T2.setTop (mkF m 10 #[.val (.ref a1), .val (.ref ro)] [(.int (1 : Int32)), (.ref rl)])) (fun _ k => XS.isub X2.here hx rfl (hb hby d8_9) rfl (by rw [show ((2 : Int32) - (1 : Int32)) = (1 : Int32) by decide]; exact k)) ?_
  refine own_go (st' := T2.setTop (mkF m 11 #[.val (.ref a1), .val (.ref ro)] [(.ref ro), (.int (1 : Int32)), (.ref rl)])) (fun _ k => XS.aloadN X2.here hx rfl (hb hby d8_10) rfl rfl k) ?_
  obtain ⟨cl3, Ar3, qc3, S3, M3, H3, G3⟩ := id pr6
  have hin3 : ¬ ((1 : Int32) < 0 ∨ cl3.slots.size ≤ ((1 : Int32)).toNatClampNeg) := (inb_of S3 ⟨by decide, by decide⟩)
  obtain ⟨T3, h3, X3, e3, W3, st3⟩ := stR X2 hx hZ e2 Ar3 (j := (1 : Int32)) hin3 rfl (Sto.ofV Ar3 qc3 pr7 (Ins.of_exa pr10 (hw _ (List.mem_of_getElem? (i := 60) rfl)))) (g := (mkF m 11 #[.val (.ref a1), .val (.ref ro)] [(.ref ro), (.int (1 : Int32)), (.ref rl)])) rfl rfl (hb hby d8_11)
  have sz3 : h3.size = h0.size := W3.size
  have N3 := Fr.snoc X3 N0 (by omega)
  have v3 : Arv Z h3 rl kl (.object "java/lang/Object") (16 : Int32) [w0, (.ref ro), .null, .null, .null, .null, .null, .null, .null, .null, .null, .null, .null, .null, .null, .null] .null := Arv.set Ar3 qc3 S3 M3 H3 G3 rfl W3 1 rfl (Nat.le_of_ble_eq_true rfl)
  refine own_go (st' := T3.setTop (mkF m 12 #[.val (.ref a1), .val (.ref ro)] [])) (st3) ?_
  obtain ⟨fs, hr, hrun, hended, hW, hsame⟩ := X3.leave (v := none) (fun _ => rfl)
  refine ⟨_, _, ?_, hP _ _ hrun hended ⟨_, _, rfl, ?_, ⟨_, rfl⟩, hW, hsame.mono (by decide) (by decide)⟩⟩
  · exact X3.returnOut hx Bd.returns (hb hby d8_12) hr
  · show Qrm8_2R Z a1 rl rs kl ro w0 w1 h0 n0 _ T3.heap _
    rw [e3]
    exact ⟨rfl, N3, ((Keep.refl h0 [rl]).wr W3 (Or.inl (List.mem_of_getElem? (i := 0) rfl))), v3⟩
theorem ef_rm8_2N (m : MethodId) (x0 : Addr) : entryFrame m #[(.ref x0), .null] 2 = mkF m 0 #[.val (.ref x0), .val .null] [] := by first | (simp [entryFrame, mkF, argsToLocals, Value.category]; done) | rfl
def Qrm8_2N (Z : State) (a1 : Addr) (rl : Addr) (rs : Addr) (kl : ClassId) (w0 : Value) (w1 : Value) (h0 : Heap) (n0 : Nat) (v : Option Value) (h : Heap) (L : List Loc) : Prop := (v = none) ∧ (Fr n0 L) ∧ (Keep h0 h [rl]) ∧ (Arv Z h rl kl (.object "java/lang/Object") (16 : Int32) [w0, .null, .null, .null, .null, .null, .null, .null, .null, .null, .null, .null, .null, .null, .null, .null] .null)
set_option maxRecDepth 65536 in
set_option maxHeartbeats 40000000 in
theorem rm8_2N (l : Launch) (Z : State) (a0 : Array Value) (hw : ∀ d ∈ tables_1, d.before a0 Z = true) (ws : List Jvm.Cond) (a1 : Addr) (rl : Addr) (rs : Addr) (kl : ClassId) (w0 : Value) (w1 : Value) (h0 : Heap) (n0 : Nat) (Z0 : n0 ≤ h0.size) (pr1 : Exa Z h0 a1 "com/example/greenwood/greenwood/Environment") (pr2 : Fld Z h0 a1 "com/example/greenwood/greenwood/Environment" "openScopes" "I" (.int (1 : Int32))) (pr3 : Fld Z h0 a1 "com/example/greenwood/greenwood/Environment" "localCount" "I" (.int (2 : Int32))) (pr4 : Fld Z h0 a1 "com/example/greenwood/greenwood/Environment" "locals" "[Ljava/lang/Object;" (.ref rl)) (pr5 : Fld Z h0 a1 "com/example/greenwood/greenwood/Environment" "scopeStarts" "[I" (.ref rs)) (pr6 : Arv Z h0 rl kl (.object "java/lang/Object") (16 : Int32) [w0, w1, .null, .null, .null, .null, .null, .null, .null, .null, .null, .null, .null, .null, .null, .null] .null) (pr7 : Ovr Z kl "java/lang/Object") (pr8 : n0 ≤ rl) (pr9 : a1 ≠ rl) :
    MetFree l (site_51 : MethodName) (head1 (Jvm.Cond.code (site_51 : MethodName) prog_1_method_11_code 2 none :: ws) ({ frames := 0, cells := 0, slots := 0, locals := 0 } : Room)) (fun a U => a = #[(.ref a1), .null] ∧ Z.Warmed39 U.vm ∧ U.heap = h0) (fun _ _ _ _ _ => True) (fun _ U o U' => ∃ v L, o = .returned v ∧ Qrm8_2N Z a1 rl rs kl w0 w1 h0 n0 v U'.heap L ∧ FrameEnd U o U' L ({ frames := 0, cells := 0, slots := 0, locals := 0 } : Room).cells ({ frames := 0, cells := 0, slots := 0, locals := 0 } : Room).slots) := by
  refine MetFree.of_bodySF (plainFor_of_name pn_8) hisR ?_
  intro p e s m args below meth c s₁ Bd hml0 hP0 hK
  obtain ⟨rfl, hZ, hh⟩ := hP0
  have hx := Bd.exec
  have hby := Bd.bytes
  have hml : c.maxLocals = 2 := hml0
  have hown : s.vm.findClass "com/example/greenwood/greenwood/Environment" = some m.cls := findClass_of_methodNamed Bd.named
  have hnm := (name_of_methodNamed Bd.named Bd.method).1
  have X0 : Stand p l e ({ frames := 0, cells := 0, slots := 0, locals := 0 } : Room) s m #[(.ref a1), .null] below meth c s₁ [] 0 0 := Stand.of_body Bd
  have e0 : s₁.heap = h0 := by rw [← hh, Bd.state]; rfl
  have N0 := Fr.nil n0
  suffices own_H : ∀ (P : State → Outcome → Prop), (∀ U o, U.status = .running → Ended U below o → (∃ v L, o = .returned v ∧ Qrm8_2N Z a1 rl rs kl w0 w1 h0 n0 v U.heap L ∧ FrameEnd s o U L ({ frames := 0, cells := 0, slots := 0, locals := 0 } : Room).cells ({ frames := 0, cells := 0, slots := 0, locals := 0 } : Room).slots) → P U o) → own_Go p.tables e below P (s₁.setTop (mkF m 0 #[.val (.ref a1), .val .null] [])) from own_go (fun _ k => castTop (ef_rm8_2N m a1) k) (own_H _ (fun U o h1 h2 h3 => ⟨h1, h2, h3⟩))
  intro P hP
  have lt_a1 : @LT.lt Nat _ a1 h0.size := pr1.lt
  have lt_rl : @LT.lt Nat _ rl h0.size := pr6.lt
  refine own_go (st' := s₁.setTop (mkF m 1 #[.val (.ref a1), .val .null] [(.ref a1)])) (fun _ k => XS.aloadN X0.here hx rfl (hb hby d8_0) rfl rfl k) ?_
  obtain ⟨T1, X1, e1, st1⟩ := getF X0 hx hZ hown (host := "") (Or.inl (hw _ (List.mem_of_getElem? (i := 36) rfl))) Via.refl e0 pr4 (g := (mkF m 1 #[.val (.ref a1), .val .null] [(.ref a1)])) rfl rfl (hb hby d8_1)
  refine own_go (st' := T1.setTop (mkF m 4 #[.val (.ref a1), .val .null] [(.ref rl)])) (st1) ?_
  refine own_go (st' := T1.setTop (mkF m 5 #[.val (.ref a1), .val .null] [(.ref a1), (.ref rl)])) (fun _ k => XS.aloadN X1.here hx rfl (hb hby d8_4) rfl rfl k) ?_
  obtain ⟨T2, X2, e2, st2⟩ := getF X1 hx hZ hown (host := "") (Or.inl (hw _ (List.mem_of_getElem? (i := 48) rfl))) Via.refl e1 pr3 (g := (mkF m 5 #[.val (.ref a1), .val .null] [(.ref a1), (.ref rl)])) rfl rfl (hb hby d8_5)
  refine own_go (st' := T2.setTop (mkF m 8 #[.val (.ref a1), .val .null] [(.int (2 : Int32)), (.ref rl)])) (st2) ?_
  refine own_go (st' := T2.setTop (mkF m 9 #[.val (.ref a1), .val .null] [(.int (1 : Int32)), (.int (2 : Int32)), (.ref rl)])) (fun _ k => XS.iconst X2.here hx rfl (hb hby d8_8) k) ?_
  refine own_go (st' := T2.setTop (mkF m 10 #[.val (.ref a1), .val .null] [(.int (1 : Int32)), (.ref rl)])) (fun _ k => XS.isub X2.here hx rfl (hb hby d8_9) rfl (by rw [show ((2 : Int32) - (1 : Int32)) = (1 : Int32) by decide]; exact k)) ?_
  refine own_go (st' := T2.setTop (mkF m 11 #[.val (.ref a1), .val .null] [.null, (.int (1 : Int32)), (.ref rl)])) (fun _ k => XS.aloadN X2.here hx rfl (hb hby d8_10) rfl rfl k) ?_
  obtain ⟨cl3, Ar3, qc3, S3, M3, H3, G3⟩ := id pr6
  have hin3 : ¬ ((1 : Int32) < 0 ∨ cl3.slots.size ≤ ((1 : Int32)).toNatClampNeg) := (inb_of S3 ⟨by decide, by decide⟩)
  obtain ⟨T3, h3, X3, e3, W3, st3⟩ := stR X2 hx hZ e2 Ar3 (j := (1 : Int32)) hin3 rfl (Or.inl rfl) (g := (mkF m 11 #[.val (.ref a1), .val .null] [.null, (.int (1 : Int32)), (.ref rl)])) rfl rfl (hb hby d8_11)
  have sz3 : h3.size = h0.size := W3.size
  have N3 := Fr.snoc X3 N0 (by omega)
  have v3 : Arv Z h3 rl kl (.object "java/lang/Object") (16 : Int32) [w0, .null, .null, .null, .null, .null, .null, .null, .null, .null, .null, .null, .null, .null, .null, .null] .null := Arv.set Ar3 qc3 S3 M3 H3 G3 rfl W3 1 rfl (Nat.le_of_ble_eq_true rfl)
  refine own_go (st' := T3.setTop (mkF m 12 #[.val (.ref a1), .val .null] [])) (st3) ?_
  obtain ⟨fs, hr, hrun, hended, hW, hsame⟩ := X3.leave (v := none) (fun _ => rfl)
  refine ⟨_, _, ?_, hP _ _ hrun hended ⟨_, _, rfl, ?_, ⟨_, rfl⟩, hW, hsame.mono (by decide) (by decide)⟩⟩
  · exact X3.returnOut hx Bd.returns (hb hby d8_12) hr
  · show Qrm8_2N Z a1 rl rs kl w0 w1 h0 n0 _ T3.heap _
    rw [e3]
    exact ⟨rfl, N3, ((Keep.refl h0 [rl]).wr W3 (Or.inl (List.mem_of_getElem? (i := 0) rfl))), v3⟩
theorem d10_0 : decode jdk_30_method_1_code 0 = .ok (.aload_n 0, 1) := by decide +kernel
theorem d10_1 : decode jdk_30_method_1_code 1 = .ok (.invokespecial 1, 3) := by decide +kernel
theorem d10_4 : decode jdk_30_method_1_code 4 = .ok (.return_, 1) := by decide +kernel
theorem pn_10 : plainName "java/lang/Record" = true := by first | (simp [plainName, overriddenIn]; done) | decide +kernel
theorem ef_rm10 (m : MethodId) (x0 : Addr) : entryFrame m #[(.ref x0)] 1 = mkF m 0 #[.val (.ref x0)] [] := by first | (simp [entryFrame, mkF, argsToLocals, Value.category]; done) | rfl
def Qrm10 (Z : State) (a1 : Addr) (h0 : Heap) (n0 : Nat) (v : Option Value) (h : Heap) (L : List Loc) : Prop := (v = none) ∧ (Fr n0 L) ∧ (h = h0)
set_option maxRecDepth 65536 in
set_option maxHeartbeats 40000000 in
theorem rm10 (l : Launch) (Z : State) (a0 : Array Value) (hw : ∀ d ∈ tables_1, d.before a0 Z = true) (ws : List Jvm.Cond) (a1 : Addr) (h0 : Heap) (n0 : Nat) (Z0 : n0 ≤ h0.size)  :
    MetFree l (⟨"java/lang/Record", "<init>", "()V"⟩ : MethodName) (head1 (Jvm.Cond.code (⟨"java/lang/Record", "<init>", "()V"⟩ : MethodName) jdk_30_method_1_code 1 none :: ws) ({ frames := 1, cells := 0, slots := 0, locals := 12 } : Room)) (fun a U => a = #[(.ref a1)] ∧ Z.Warmed39 U.vm ∧ U.heap = h0) (fun _ _ _ _ _ => True) (fun _ U o U' => ∃ v L, o = .returned v ∧ Qrm10 Z a1 h0 n0 v U'.heap L ∧ FrameEnd U o U' L ({ frames := 1, cells := 0, slots := 0, locals := 12 } : Room).cells ({ frames := 1, cells := 0, slots := 0, locals := 12 } : Room).slots) := by
  refine MetFree.of_bodySF (plainFor_of_name pn_10) hisR ?_
  intro p e s m args below meth c s₁ Bd hml0 hP0 hK
  obtain ⟨rfl, hZ, hh⟩ := hP0
  have hx := Bd.exec
  have hby := Bd.bytes
  have hml : c.maxLocals = 1 := hml0
  have hown : s.vm.findClass "java/lang/Record" = some m.cls := findClass_of_methodNamed Bd.named
  have hnm := (name_of_methodNamed Bd.named Bd.method).1
  have X0 : Stand p l e ({ frames := 1, cells := 0, slots := 0, locals := 12 } : Room) s m #[(.ref a1)] below meth c s₁ [] 0 0 := Stand.of_body Bd
  have e0 : s₁.heap = h0 := by rw [← hh, Bd.state]; rfl
  have N0 := Fr.nil n0
  suffices own_H : ∀ (P : State → Outcome → Prop), (∀ U o, U.status = .running → Ended U below o → (∃ v L, o = .returned v ∧ Qrm10 Z a1 h0 n0 v U.heap L ∧ FrameEnd s o U L ({ frames := 1, cells := 0, slots := 0, locals := 12 } : Room).cells ({ frames := 1, cells := 0, slots := 0, locals := 12 } : Room).slots) → P U o) → own_Go p.tables e below P (s₁.setTop (mkF m 0 #[.val (.ref a1)] [])) from own_go (fun _ k => castTop (ef_rm10 m a1) k) (own_H _ (fun U o h1 h2 h3 => ⟨h1, h2, h3⟩))
  intro P hP
  refine own_go (st' := s₁.setTop (mkF m 1 #[.val (.ref a1)] [(.ref a1)])) (fun _ k => XS.aloadN X0.here hx rfl (hb hby d10_0) rfl rfl k) ?_
  obtain ⟨T1, X1, e1, st1⟩ := initO X0 hx hZ hown (hw _ (List.mem_of_getElem? (i := 72) rfl)) (hw _ (List.mem_of_getElem? (i := 14) rfl)) (hw _ (List.mem_of_getElem? (i := 15) rfl)) e0 (g := (mkF m 1 #[.val (.ref a1)] [(.ref a1)])) rfl (by rw [hml]; rfl) rfl (hb hby d10_1) (by decide) (W := 0) (by show 2 * 0 + _ ≤ _; exact Nat.le_of_eq rfl) (by decide)
  refine own_go (st' := T1.setTop (mkF m 4 #[.val (.ref a1)] [])) (st1) ?_
  obtain ⟨fs, hr, hrun, hended, hW, hsame⟩ := X1.leave (v := none) (fun _ => rfl)
  refine ⟨_, _, ?_, hP _ _ hrun hended ⟨_, _, rfl, ?_, ⟨_, rfl⟩, hW, hsame.mono (by decide) (by decide)⟩⟩
  · exact X1.returnOut hx Bd.returns (hb hby d10_4) hr
  · show Qrm10 Z a1 h0 n0 _ T1.heap _
    rw [e1]
    exact ⟨rfl, N0, rfl⟩
theorem d9_0 : decode prog_21_method_1_code 0 = .ok (.aload_n 0, 1) := by decide +kernel
theorem d9_1 : decode prog_21_method_1_code 1 = .ok (.invokespecial 1, 3) := by decide +kernel
theorem d9_4 : decode prog_21_method_1_code 4 = .ok (.aload_n 0, 1) := by decide +kernel
theorem d9_5 : decode prog_21_method_1_code 5 = .ok (.iload_n 1, 1) := by decide +kernel
theorem d9_6 : decode prog_21_method_1_code 6 = .ok (.putfield 7, 3) := by decide +kernel
theorem d9_9 : decode prog_21_method_1_code 9 = .ok (.aload_n 0, 1) := by decide +kernel
theorem d9_10 : decode prog_21_method_1_code 10 = .ok (.iload_n 2, 1) := by decide +kernel
theorem d9_11 : decode prog_21_method_1_code 11 = .ok (.putfield 13, 3) := by decide +kernel
theorem d9_14 : decode prog_21_method_1_code 14 = .ok (.return_, 1) := by decide +kernel
theorem pn_9 : plainName "com/example/greenwood/greenwood/Local" = true := by first | (simp [plainName, overriddenIn]; done) | decide +kernel
theorem ef_rm9 (m : MethodId) (x0 : Addr) (x1 : Int32) (x2 : Int32) : entryFrame m #[(.ref x0), (.int x1), (.int x2)] 3 = mkF m 0 #[.val (.ref x0), .val (.int x1), .val (.int x2)] [] := by first | (simp [entryFrame, mkF, argsToLocals, Value.category]; done) | rfl
def Qrm9 (Z : State) (al : Addr) (p2 : Int32) (p3 : Int32) (u4 : Int32) (u5 : Int32) (h0 : Heap) (n0 : Nat) (v : Option Value) (h : Heap) (L : List Loc) : Prop := (v = none) ∧ (Fr n0 L) ∧ (Keep h0 h [al]) ∧ (Exa Z h al "com/example/greenwood/greenwood/Local") ∧ (Fld Z h al "com/example/greenwood/greenwood/Local" "depth" "I" (.int p2)) ∧ (Fld Z h al "com/example/greenwood/greenwood/Local" "slot" "I" (.int p3))
set_option maxRecDepth 65536 in
set_option maxHeartbeats 40000000 in
theorem rm9 (l : Launch) (Z : State) (a0 : Array Value) (hw : ∀ d ∈ tables_1, d.before a0 Z = true) (ws : List Jvm.Cond) (al : Addr) (p2 : Int32) (p3 : Int32) (u4 : Int32) (u5 : Int32) (h0 : Heap) (n0 : Nat) (Z0 : n0 ≤ h0.size) (pr1 : Exa Z h0 al "com/example/greenwood/greenwood/Local") (pr2 : Fld Z h0 al "com/example/greenwood/greenwood/Local" "depth" "I" (.int u4)) (pr3 : Fld Z h0 al "com/example/greenwood/greenwood/Local" "slot" "I" (.int u5)) (pr4 : n0 ≤ al) :
    MetFree l (⟨"com/example/greenwood/greenwood/Local", "<init>", "(II)V"⟩ : MethodName) (head1 (Jvm.Cond.code (⟨"com/example/greenwood/greenwood/Local", "<init>", "(II)V"⟩ : MethodName) prog_21_method_1_code 3 none :: ws) ({ frames := 2, cells := 0, slots := 0, locals := 24 } : Room)) (fun a U => a = #[(.ref al), (.int p2), (.int p3)] ∧ Z.Warmed39 U.vm ∧ U.heap = h0) (fun _ _ _ _ _ => True) (fun _ U o U' => ∃ v L, o = .returned v ∧ Qrm9 Z al p2 p3 u4 u5 h0 n0 v U'.heap L ∧ FrameEnd U o U' L ({ frames := 2, cells := 0, slots := 0, locals := 24 } : Room).cells ({ frames := 2, cells := 0, slots := 0, locals := 24 } : Room).slots) := by
  refine MetFree.of_bodySF (plainFor_of_name pn_9) hisR ?_
  intro p e s m args below meth c s₁ Bd hml0 hP0 hK
  obtain ⟨rfl, hZ, hh⟩ := hP0
  have hx := Bd.exec
  have hby := Bd.bytes
  have hml : c.maxLocals = 3 := hml0
  have hown : s.vm.findClass "com/example/greenwood/greenwood/Local" = some m.cls := findClass_of_methodNamed Bd.named
  have hnm := (name_of_methodNamed Bd.named Bd.method).1
  have X0 : Stand p l e ({ frames := 2, cells := 0, slots := 0, locals := 24 } : Room) s m #[(.ref al), (.int p2), (.int p3)] below meth c s₁ [] 0 0 := Stand.of_body Bd
  have e0 : s₁.heap = h0 := by rw [← hh, Bd.state]; rfl
  have N0 := Fr.nil n0
  suffices own_H : ∀ (P : State → Outcome → Prop), (∀ U o, U.status = .running → Ended U below o → (∃ v L, o = .returned v ∧ Qrm9 Z al p2 p3 u4 u5 h0 n0 v U.heap L ∧ FrameEnd s o U L ({ frames := 2, cells := 0, slots := 0, locals := 24 } : Room).cells ({ frames := 2, cells := 0, slots := 0, locals := 24 } : Room).slots) → P U o) → own_Go p.tables e below P (s₁.setTop (mkF m 0 #[.val (.ref al), .val (.int p2), .val (.int p3)] [])) from own_go (fun _ k => castTop (ef_rm9 m al p2 p3) k) (own_H _ (fun U o h1 h2 h3 => ⟨h1, h2, h3⟩))
  intro P hP
  have lt_al : @LT.lt Nat _ al h0.size := pr1.lt
  refine own_go (st' := s₁.setTop (mkF m 1 #[.val (.ref al), .val (.int p2), .val (.int p3)] [(.ref al)])) (fun _ k => XS.aloadN X0.here hx rfl (hb hby d9_0) rfl rfl k) ?_
  obtain ⟨_, _, ⟨T1, LC1, kC1, nC1⟩, -, X1, ⟨Lc1, hQ1, lq1, yq1, zq1⟩, st1⟩ := X0.specialBack hx (y := (⟨"java/lang/Record", "<init>", "()V"⟩ : MethodName)) rfl hown (mvT hZ (hw _ (List.mem_of_getElem? (i := 67) rfl))) (mvT hZ (hw _ (List.mem_of_getElem? (i := 68) rfl))) (mvT hZ (hw _ (List.mem_of_getElem? (i := 71) rfl))) (by decide) (backOf (W := 0) (rm10 l Z a0 hw [] al h0 n0 (by omega) ) hZ (hw _ (List.mem_of_getElem? (i := 71) rfl)) (hw _ (List.mem_of_getElem? (i := 70) rfl)) (by decide) (by decide)) (g := (mkF m 1 #[.val (.ref al), .val (.int p2), .val (.int p3)] [(.ref al)])) rfl (by rw [hml]; rfl) (Steps.refl _) (a := al) (argsL := []) (rest := []) (lenOf pd_0 rfl) rfl (by show 2 * 0 + _ ≤ _; exact Nat.le_of_eq rfl) (hb hby d9_1) (fun _ _ => ⟨rfl, e0, (by decide : 0 + 0 ≤ _), (by decide : 0 + 0 ≤ _)⟩)
  dsimp only [Pt.U, Pt.locs, Pt.cells, Pt.slots] at X1 lq1 yq1 zq1 st1 hQ1
  subst lq1 yq1 zq1
  obtain ⟨rfl, Nq1, eq1⟩ := hQ1
  have N1 := Fr.app N0 Nq1
  refine own_go (st' := T1.setTop (mkF m 4 #[.val (.ref al), .val (.int p2), .val (.int p3)] [])) (fun _ k => st1.trans k) ?_
  refine own_go (st' := T1.setTop (mkF m 5 #[.val (.ref al), .val (.int p2), .val (.int p3)] [(.ref al)])) (fun _ k => XS.aloadN X1.here hx rfl (hb hby d9_4) rfl rfl k) ?_
  refine own_go (st' := T1.setTop (mkF m 6 #[.val (.ref al), .val (.int p2), .val (.int p3)] [(.int p2), (.ref al)])) (fun _ k => XS.iloadN X1.here hx rfl (hb hby d9_5) rfl k) ?_
  obtain ⟨T2, h2, X2, e2, W2, st2⟩ := putF X1 hx hZ hown (host := "") (Or.inl (hw _ (List.mem_of_getElem? (i := 73) rfl))) Via.refl eq1 pr2 pr1 (Or.inr ⟨(hw _ (List.mem_of_getElem? (i := 74) rfl)), rfl, hnm⟩) (hw _ (List.mem_of_getElem? (i := 62) rfl)) (ty := .int) (by decide) rfl rfl (g := (mkF m 6 #[.val (.ref al), .val (.int p2), .val (.int p3)] [(.int p2), (.ref al)])) rfl rfl (hb hby d9_6)
  have sz2 : h2.size = h0.size := W2.size
  have N2 := Fr.snoc X2 N1 (by omega)
  have f2 : Fld Z h2 al "com/example/greenwood/greenwood/Local" "depth" "I" (.int p2) := pr2.same W2
  refine own_go (st' := T2.setTop (mkF m 9 #[.val (.ref al), .val (.int p2), .val (.int p3)] [])) (st2) ?_
  refine own_go (st' := T2.setTop (mkF m 10 #[.val (.ref al), .val (.int p2), .val (.int p3)] [(.ref al)])) (fun _ k => XS.aloadN X2.here hx rfl (hb hby d9_9) rfl rfl k) ?_
  refine own_go (st' := T2.setTop (mkF m 11 #[.val (.ref al), .val (.int p2), .val (.int p3)] [(.int p3), (.ref al)])) (fun _ k => XS.iloadN X2.here hx rfl (hb hby d9_10) rfl k) ?_
  have c3 : Fld Z h2 al "com/example/greenwood/greenwood/Local" "slot" "I" (.int u5) := (pr3.other W2 (Or.inr (slot_ne (Or.inr (hw _ (List.mem_of_getElem? (i := 76) rfl))) (Or.inr (hw _ (List.mem_of_getElem? (i := 74) rfl))) (by decide) (t := .int) (t' := .int) (by decide) (by decide))))
  have c4 : Exa Z h2 al "com/example/greenwood/greenwood/Local" := (pr1.wr W2)
  obtain ⟨T5, h5, X5, e5, W5, st5⟩ := putF X2 hx hZ hown (host := "") (Or.inl (hw _ (List.mem_of_getElem? (i := 75) rfl))) Via.refl e2 c3 c4 (Or.inr ⟨(hw _ (List.mem_of_getElem? (i := 76) rfl)), rfl, hnm⟩) (hw _ (List.mem_of_getElem? (i := 62) rfl)) (ty := .int) (by decide) rfl rfl (g := (mkF m 11 #[.val (.ref al), .val (.int p2), .val (.int p3)] [(.int p3), (.ref al)])) rfl rfl (hb hby d9_11)
  have sz5 : h5.size = h2.size := W5.size
  have N5 := Fr.snoc X5 N2 (by omega)
  have f5 : Fld Z h5 al "com/example/greenwood/greenwood/Local" "slot" "I" (.int p3) := c3.same W5
  refine own_go (st' := T5.setTop (mkF m 14 #[.val (.ref al), .val (.int p2), .val (.int p3)] [])) (st5) ?_
  obtain ⟨fs, hr, hrun, hended, hW, hsame⟩ := X5.leave (v := none) (fun _ => rfl)
  refine ⟨_, _, ?_, hP _ _ hrun hended ⟨_, _, rfl, ?_, ⟨_, rfl⟩, hW, hsame.mono (by decide) (by decide)⟩⟩
  · exact X5.returnOut hx Bd.returns (hb hby d9_14) hr
  · show Qrm9 Z al p2 p3 u4 u5 h0 n0 _ T5.heap _
    have c7 : Exa Z h5 al "com/example/greenwood/greenwood/Local" := (c4.wr W5)
    have c8 : Fld Z h5 al "com/example/greenwood/greenwood/Local" "depth" "I" (.int p2) := (f2.other W5 (Or.inr (slot_ne (Or.inr (hw _ (List.mem_of_getElem? (i := 74) rfl))) (Or.inr (hw _ (List.mem_of_getElem? (i := 76) rfl))) (by decide) (t := .int) (t' := .int) (by decide) (by decide))))
    rw [e5]
    exact ⟨rfl, N5, (((Keep.refl h0 [al]).wr W2 (Or.inl (List.mem_of_getElem? (i := 0) rfl))).wr W5 (Or.inl (List.mem_of_getElem? (i := 0) rfl))), c7, c8, f5⟩
theorem d13_0 : decode prog_21_method_5_code 0 = .ok (.aload_n 0, 1) := by decide +kernel
theorem d13_1 : decode prog_21_method_5_code 1 = .ok (.getfield 7, 3) := by decide +kernel
theorem d13_4 : decode prog_21_method_5_code 4 = .ok (.ireturn, 1) := by decide +kernel
theorem pn_13 : plainName "com/example/greenwood/greenwood/Local" = true := by first | (simp [plainName, overriddenIn]; done) | decide +kernel
theorem ef_rm13 (m : MethodId) (x0 : Addr) : entryFrame m #[(.ref x0)] 1 = mkF m 0 #[.val (.ref x0)] [] := by first | (simp [entryFrame, mkF, argsToLocals, Value.category]; done) | rfl
def Qrm13 (Z : State) (al : Addr) (p2 : Int32) (h0 : Heap) (n0 : Nat) (v : Option Value) (h : Heap) (L : List Loc) : Prop := (v = some (.int p2)) ∧ (Fr n0 L) ∧ (h = h0)
set_option maxRecDepth 65536 in
set_option maxHeartbeats 40000000 in
theorem rm13 (l : Launch) (Z : State) (a0 : Array Value) (hw : ∀ d ∈ tables_1, d.before a0 Z = true) (ws : List Jvm.Cond) (al : Addr) (p2 : Int32) (h0 : Heap) (n0 : Nat) (Z0 : n0 ≤ h0.size) (pr1 : Fld Z h0 al "com/example/greenwood/greenwood/Local" "depth" "I" (.int p2)) :
    MetFree l (⟨"com/example/greenwood/greenwood/Local", "depth", "()I"⟩ : MethodName) (head1 (Jvm.Cond.code (⟨"com/example/greenwood/greenwood/Local", "depth", "()I"⟩ : MethodName) prog_21_method_5_code 1 (some .int) :: ws) ({ frames := 0, cells := 0, slots := 0, locals := 0 } : Room)) (fun a U => a = #[(.ref al)] ∧ Z.Warmed39 U.vm ∧ U.heap = h0) (fun _ _ _ _ _ => True) (fun _ U o U' => ∃ v L, o = .returned v ∧ Qrm13 Z al p2 h0 n0 v U'.heap L ∧ FrameEnd U o U' L ({ frames := 0, cells := 0, slots := 0, locals := 0 } : Room).cells ({ frames := 0, cells := 0, slots := 0, locals := 0 } : Room).slots) := by
  refine MetFree.of_bodySF (plainFor_of_name pn_13) hisR ?_
  intro p e s m args below meth c s₁ Bd hml0 hP0 hK
  obtain ⟨rfl, hZ, hh⟩ := hP0
  have hx := Bd.exec
  have hby := Bd.bytes
  have hml : c.maxLocals = 1 := hml0
  have hown : s.vm.findClass "com/example/greenwood/greenwood/Local" = some m.cls := findClass_of_methodNamed Bd.named
  have hnm := (name_of_methodNamed Bd.named Bd.method).1
  have X0 : Stand p l e ({ frames := 0, cells := 0, slots := 0, locals := 0 } : Room) s m #[(.ref al)] below meth c s₁ [] 0 0 := Stand.of_body Bd
  have e0 : s₁.heap = h0 := by rw [← hh, Bd.state]; rfl
  have N0 := Fr.nil n0
  suffices own_H : ∀ (P : State → Outcome → Prop), (∀ U o, U.status = .running → Ended U below o → (∃ v L, o = .returned v ∧ Qrm13 Z al p2 h0 n0 v U.heap L ∧ FrameEnd s o U L ({ frames := 0, cells := 0, slots := 0, locals := 0 } : Room).cells ({ frames := 0, cells := 0, slots := 0, locals := 0 } : Room).slots) → P U o) → own_Go p.tables e below P (s₁.setTop (mkF m 0 #[.val (.ref al)] [])) from own_go (fun _ k => castTop (ef_rm13 m al) k) (own_H _ (fun U o h1 h2 h3 => ⟨h1, h2, h3⟩))
  intro P hP
  have lt_al : @LT.lt Nat _ al h0.size := pr1.lt
  refine own_go (st' := s₁.setTop (mkF m 1 #[.val (.ref al)] [(.ref al)])) (fun _ k => XS.aloadN X0.here hx rfl (hb hby d13_0) rfl rfl k) ?_
  obtain ⟨T1, X1, e1, st1⟩ := getF X0 hx hZ hown (host := "") (Or.inl (hw _ (List.mem_of_getElem? (i := 73) rfl))) Via.refl e0 pr1 (g := (mkF m 1 #[.val (.ref al)] [(.ref al)])) rfl rfl (hb hby d13_1)
  refine own_go (st' := T1.setTop (mkF m 4 #[.val (.ref al)] [(.int p2)])) (st1) ?_
  obtain ⟨fs, hr, hrun, hended, hW, hsame⟩ := X1.leave (v := some (.int p2)) (fun h => by rw [Bd.returns] at h; cases h)
  refine ⟨_, _, ?_, hP _ _ hrun hended ⟨_, _, rfl, ?_, ⟨_, rfl⟩, hW, hsame.mono (by decide) (by decide)⟩⟩
  · exact retOut X1 hx Bd.returns rfl (Or.inl ⟨rfl, Or.inl rfl, _, rfl⟩) (hb hby d13_4) hr
  · show Qrm13 Z al p2 h0 n0 _ T1.heap _
    rw [e1]
    exact ⟨rfl, N0, rfl⟩
theorem d14_0 : decode prog_21_method_6_code 0 = .ok (.aload_n 0, 1) := by decide +kernel
theorem d14_1 : decode prog_21_method_6_code 1 = .ok (.getfield 13, 3) := by decide +kernel
theorem d14_4 : decode prog_21_method_6_code 4 = .ok (.ireturn, 1) := by decide +kernel
theorem pn_14 : plainName "com/example/greenwood/greenwood/Local" = true := by first | (simp [plainName, overriddenIn]; done) | decide +kernel
theorem ef_rm14 (m : MethodId) (x0 : Addr) : entryFrame m #[(.ref x0)] 1 = mkF m 0 #[.val (.ref x0)] [] := by first | (simp [entryFrame, mkF, argsToLocals, Value.category]; done) | rfl
def Qrm14 (Z : State) (al : Addr) (p2 : Int32) (h0 : Heap) (n0 : Nat) (v : Option Value) (h : Heap) (L : List Loc) : Prop := (v = some (.int p2)) ∧ (Fr n0 L) ∧ (h = h0)
set_option maxRecDepth 65536 in
set_option maxHeartbeats 40000000 in
theorem rm14 (l : Launch) (Z : State) (a0 : Array Value) (hw : ∀ d ∈ tables_1, d.before a0 Z = true) (ws : List Jvm.Cond) (al : Addr) (p2 : Int32) (h0 : Heap) (n0 : Nat) (Z0 : n0 ≤ h0.size) (pr1 : Fld Z h0 al "com/example/greenwood/greenwood/Local" "slot" "I" (.int p2)) :
    MetFree l (⟨"com/example/greenwood/greenwood/Local", "slot", "()I"⟩ : MethodName) (head1 (Jvm.Cond.code (⟨"com/example/greenwood/greenwood/Local", "slot", "()I"⟩ : MethodName) prog_21_method_6_code 1 (some .int) :: ws) ({ frames := 0, cells := 0, slots := 0, locals := 0 } : Room)) (fun a U => a = #[(.ref al)] ∧ Z.Warmed39 U.vm ∧ U.heap = h0) (fun _ _ _ _ _ => True) (fun _ U o U' => ∃ v L, o = .returned v ∧ Qrm14 Z al p2 h0 n0 v U'.heap L ∧ FrameEnd U o U' L ({ frames := 0, cells := 0, slots := 0, locals := 0 } : Room).cells ({ frames := 0, cells := 0, slots := 0, locals := 0 } : Room).slots) := by
  refine MetFree.of_bodySF (plainFor_of_name pn_14) hisR ?_
  intro p e s m args below meth c s₁ Bd hml0 hP0 hK
  obtain ⟨rfl, hZ, hh⟩ := hP0
  have hx := Bd.exec
  have hby := Bd.bytes
  have hml : c.maxLocals = 1 := hml0
  have hown : s.vm.findClass "com/example/greenwood/greenwood/Local" = some m.cls := findClass_of_methodNamed Bd.named
  have hnm := (name_of_methodNamed Bd.named Bd.method).1
  have X0 : Stand p l e ({ frames := 0, cells := 0, slots := 0, locals := 0 } : Room) s m #[(.ref al)] below meth c s₁ [] 0 0 := Stand.of_body Bd
  have e0 : s₁.heap = h0 := by rw [← hh, Bd.state]; rfl
  have N0 := Fr.nil n0
  suffices own_H : ∀ (P : State → Outcome → Prop), (∀ U o, U.status = .running → Ended U below o → (∃ v L, o = .returned v ∧ Qrm14 Z al p2 h0 n0 v U.heap L ∧ FrameEnd s o U L ({ frames := 0, cells := 0, slots := 0, locals := 0 } : Room).cells ({ frames := 0, cells := 0, slots := 0, locals := 0 } : Room).slots) → P U o) → own_Go p.tables e below P (s₁.setTop (mkF m 0 #[.val (.ref al)] [])) from own_go (fun _ k => castTop (ef_rm14 m al) k) (own_H _ (fun U o h1 h2 h3 => ⟨h1, h2, h3⟩))
  intro P hP
  have lt_al : @LT.lt Nat _ al h0.size := pr1.lt
  refine own_go (st' := s₁.setTop (mkF m 1 #[.val (.ref al)] [(.ref al)])) (fun _ k => XS.aloadN X0.here hx rfl (hb hby d14_0) rfl rfl k) ?_
  obtain ⟨T1, X1, e1, st1⟩ := getF X0 hx hZ hown (host := "") (Or.inl (hw _ (List.mem_of_getElem? (i := 75) rfl))) Via.refl e0 pr1 (g := (mkF m 1 #[.val (.ref al)] [(.ref al)])) rfl rfl (hb hby d14_1)
  refine own_go (st' := T1.setTop (mkF m 4 #[.val (.ref al)] [(.int p2)])) (st1) ?_
  obtain ⟨fs, hr, hrun, hended, hW, hsame⟩ := X1.leave (v := some (.int p2)) (fun h => by rw [Bd.returns] at h; cases h)
  refine ⟨_, _, ?_, hP _ _ hrun hended ⟨_, _, rfl, ?_, ⟨_, rfl⟩, hW, hsame.mono (by decide) (by decide)⟩⟩
  · exact retOut X1 hx Bd.returns rfl (Or.inl ⟨rfl, Or.inl rfl, _, rfl⟩) (hb hby d14_4) hr
  · show Qrm14 Z al p2 h0 n0 _ T1.heap _
    rw [e1]
    exact ⟨rfl, N0, rfl⟩
theorem pd_2 : parseMethodDescriptor "()I" = some ⟨[], some .int⟩ := by decide +kernel
theorem d12_0 : decode prog_1_method_14_code 0 = .ok (.aload_n 0, 1) := by decide +kernel
theorem d12_1 : decode prog_1_method_14_code 1 = .ok (.getfield 20, 3) := by decide +kernel
theorem d12_4 : decode prog_1_method_14_code 4 = .ok (.aload_n 0, 1) := by decide +kernel
theorem d12_5 : decode prog_1_method_14_code 5 = .ok (.getfield 57, 3) := by decide +kernel
theorem d12_8 : decode prog_1_method_14_code 8 = .ok (.iconst 1, 1) := by decide +kernel
theorem d12_9 : decode prog_1_method_14_code 9 = .ok (.isub, 1) := by decide +kernel
theorem d12_10 : decode prog_1_method_14_code 10 = .ok (.aload_n 1, 1) := by decide +kernel
theorem d12_11 : decode prog_1_method_14_code 11 = .ok (.invokevirtual 81, 3) := by decide +kernel
theorem d12_14 : decode prog_1_method_14_code 14 = .ok (.isub, 1) := by decide +kernel
theorem d12_15 : decode prog_1_method_14_code 15 = .ok (.iaload, 1) := by decide +kernel
theorem d12_16 : decode prog_1_method_14_code 16 = .ok (.aload_n 1, 1) := by decide +kernel
theorem d12_17 : decode prog_1_method_14_code 17 = .ok (.invokevirtual 87, 3) := by decide +kernel
theorem d12_20 : decode prog_1_method_14_code 20 = .ok (.iadd, 1) := by decide +kernel
theorem d12_21 : decode prog_1_method_14_code 21 = .ok (.ireturn, 1) := by decide +kernel
theorem pn_12 : plainName "com/example/greenwood/greenwood/Environment" = true := by first | (simp [plainName, overriddenIn]; done) | decide +kernel
theorem ef_rm12_0 (m : MethodId) (x0 : Addr) (x1 : Addr) : entryFrame m #[(.ref x0), (.ref x1)] 2 = mkF m 0 #[.val (.ref x0), .val (.ref x1)] [] := by first | (simp [entryFrame, mkF, argsToLocals, Value.category]; done) | rfl
def Qrm12_0 (Z : State) (a1 : Addr) (rs : Addr) (ks : ClassId) (al : Addr) (h0 : Heap) (n0 : Nat) (v : Option Value) (h : Heap) (L : List Loc) : Prop := (v = some (.int (0 : Int32))) ∧ (Fr n0 L) ∧ (h = h0)
set_option maxRecDepth 65536 in
set_option maxHeartbeats 40000000 in
theorem rm12_0 (l : Launch) (Z : State) (a0 : Array Value) (hw : ∀ d ∈ tables_1, d.before a0 Z = true) (ws : List Jvm.Cond) (a1 : Addr) (rs : Addr) (ks : ClassId) (al : Addr) (h0 : Heap) (n0 : Nat) (Z0 : n0 ≤ h0.size) (pr1 : Exa Z h0 a1 "com/example/greenwood/greenwood/Environment") (pr2 : Fld Z h0 a1 "com/example/greenwood/greenwood/Environment" "openScopes" "I" (.int (1 : Int32))) (pr3 : Fld Z h0 a1 "com/example/greenwood/greenwood/Environment" "scopeStarts" "[I" (.ref rs)) (pr4 : Arv Z h0 rs ks .int (16 : Int32) [(.int (0 : Int32)), (.int (0 : Int32)), (.int (0 : Int32)), (.int (0 : Int32)), (.int (0 : Int32)), (.int (0 : Int32)), (.int (0 : Int32)), (.int (0 : Int32)), (.int (0 : Int32)), (.int (0 : Int32)), (.int (0 : Int32)), (.int (0 : Int32)), (.int (0 : Int32)), (.int (0 : Int32)), (.int (0 : Int32)), (.int (0 : Int32))] (.int (0 : Int32))) (pr5 : Exa Z h0 al "com/example/greenwood/greenwood/Local") (pr6 : Fld Z h0 al "com/example/greenwood/greenwood/Local" "depth" "I" (.int (0 : Int32))) (pr7 : Fld Z h0 al "com/example/greenwood/greenwood/Local" "slot" "I" (.int (0 : Int32))) :
    MetFree l (⟨"com/example/greenwood/greenwood/Environment", "index", "(Lcom/example/greenwood/greenwood/Local;)I"⟩ : MethodName) (head1 (Jvm.Cond.code (⟨"com/example/greenwood/greenwood/Environment", "index", "(Lcom/example/greenwood/greenwood/Local;)I"⟩ : MethodName) prog_1_method_14_code 2 (some .int) :: ws) ({ frames := 1, cells := 0, slots := 0, locals := 14 } : Room)) (fun a U => a = #[(.ref a1), (.ref al)] ∧ Z.Warmed39 U.vm ∧ U.heap = h0) (fun _ _ _ _ _ => True) (fun _ U o U' => ∃ v L, o = .returned v ∧ Qrm12_0 Z a1 rs ks al h0 n0 v U'.heap L ∧ FrameEnd U o U' L ({ frames := 1, cells := 0, slots := 0, locals := 14 } : Room).cells ({ frames := 1, cells := 0, slots := 0, locals := 14 } : Room).slots) := by
  refine MetFree.of_bodySF (plainFor_of_name pn_12) hisR ?_
  intro p e s m args below meth c s₁ Bd hml0 hP0 hK
  obtain ⟨rfl, hZ, hh⟩ := hP0
  have hx := Bd.exec
  have hby := Bd.bytes
  have hml : c.maxLocals = 2 := hml0
  have hown : s.vm.findClass "com/example/greenwood/greenwood/Environment" = some m.cls := findClass_of_methodNamed Bd.named
  have hnm := (name_of_methodNamed Bd.named Bd.method).1
  have X0 : Stand p l e ({ frames := 1, cells := 0, slots := 0, locals := 14 } : Room) s m #[(.ref a1), (.ref al)] below meth c s₁ [] 0 0 := Stand.of_body Bd
  have e0 : s₁.heap = h0 := by rw [← hh, Bd.state]; rfl
  have N0 := Fr.nil n0
  suffices own_H : ∀ (P : State → Outcome → Prop), (∀ U o, U.status = .running → Ended U below o → (∃ v L, o = .returned v ∧ Qrm12_0 Z a1 rs ks al h0 n0 v U.heap L ∧ FrameEnd s o U L ({ frames := 1, cells := 0, slots := 0, locals := 14 } : Room).cells ({ frames := 1, cells := 0, slots := 0, locals := 14 } : Room).slots) → P U o) → own_Go p.tables e below P (s₁.setTop (mkF m 0 #[.val (.ref a1), .val (.ref al)] [])) from own_go (fun _ k => castTop (ef_rm12_0 m a1 al) k) (own_H _ (fun U o h1 h2 h3 => ⟨h1, h2, h3⟩))
  intro P hP
  have lt_a1 : @LT.lt Nat _ a1 h0.size := pr1.lt
  have lt_rs : @LT.lt Nat _ rs h0.size := pr4.lt
  have lt_al : @LT.lt Nat _ al h0.size := pr5.lt
  refine own_go (st' := s₁.setTop (mkF m 1 #[.val (.ref a1), .val (.ref al)] [(.ref a1)])) (fun _ k => XS.aloadN X0.here hx rfl (hb hby d12_0) rfl rfl k) ?_
  obtain ⟨T1, X1, e1, st1⟩ := getF X0 hx hZ hown (host := "") (Or.inl (hw _ (List.mem_of_getElem? (i := 39) rfl))) Via.refl e0 pr3 (g := (mkF m 1 #[.val (.ref a1), .val (.ref al)] [(.ref a1)])) rfl rfl (hb hby d12_1)
  refine own_go (st' := T1.setTop (mkF m 4 #[.val (.ref a1), .val (.ref al)] [(.ref rs)])) (st1) ?_
  refine own_go (st' := T1.setTop (mkF m 5 #[.val (.ref a1), .val (.ref al)] [(.ref a1), (.ref rs)])) (fun _ k => XS.aloadN X1.here hx rfl (hb hby d12_4) rfl rfl k) ?_
  obtain ⟨T2, X2, e2, st2⟩ := getF X1 hx hZ hown (host := "") (Or.inl (hw _ (List.mem_of_getElem? (i := 46) rfl))) Via.refl e1 pr2 (g := (mkF m 5 #[.val (.ref a1), .val (.ref al)] [(.ref a1), (.ref rs)])) rfl rfl (hb hby d12_5)
  refine own_go (st' := T2.setTop (mkF m 8 #[.val (.ref a1), .val (.ref al)] [(.int (1 : Int32)), (.ref rs)])) (st2) ?_
  refine own_go (st' := T2.setTop (mkF m 9 #[.val (.ref a1), .val (.ref al)] [(.int (1 : Int32)), (.int (1 : Int32)), (.ref rs)])) (fun _ k => XS.iconst X2.here hx rfl (hb hby d12_8) k) ?_
  refine own_go (st' := T2.setTop (mkF m 10 #[.val (.ref a1), .val (.ref al)] [(.int (0 : Int32)), (.ref rs)])) (fun _ k => XS.isub X2.here hx rfl (hb hby d12_9) rfl (by rw [show ((1 : Int32) - (1 : Int32)) = (0 : Int32) by decide]; exact k)) ?_
  refine own_go (st' := T2.setTop (mkF m 11 #[.val (.ref a1), .val (.ref al)] [(.ref al), (.int (0 : Int32)), (.ref rs)])) (fun _ k => XS.aloadN X2.here hx rfl (hb hby d12_10) rfl rfl k) ?_
  obtain ⟨cq3, kq3, q3a, q3b, q3c⟩ := isOf hZ e2 pr5
  obtain ⟨_, _, ⟨T3, LC3, kC3, nC3⟩, -, X3, ⟨Lc3, hQ3, lq3, yq3, zq3⟩, st3⟩ := X2.virtualBack hx (y := (⟨"com/example/greenwood/greenwood/Local", "depth", "()I"⟩ : MethodName)) (z := (⟨"com/example/greenwood/greenwood/Local", "depth", "()I"⟩ : MethodName)) hown (mvT hZ (hw _ (List.mem_of_getElem? (i := 86) rfl))) (mvT hZ (hw _ (List.mem_of_getElem? (i := 87) rfl))) (notFace_of_selects (args := #[]) (mvT hZ (hw _ (List.mem_of_getElem? (i := 89) rfl)))) (mvT hZ (hw _ (List.mem_of_getElem? (i := 89) rfl))) (mvT hZ (hw _ (List.mem_of_getElem? (i := 88) rfl))) (by decide) (backOf (W := 2) (rm13 l Z a0 hw [] al (0 : Int32) h0 n0 (by omega) pr6) hZ (hw _ (List.mem_of_getElem? (i := 90) rfl)) (hw _ (List.mem_of_getElem? (i := 63) rfl)) (by decide) (by decide)) q3a q3c (g := (mkF m 11 #[.val (.ref a1), .val (.ref al)] [(.ref al), (.int (0 : Int32)), (.ref rs)])) rfl (by rw [hml]; rfl) (Steps.refl _) (argsL := []) (rest := [(.int (0 : Int32)), (.ref rs)]) (lenOf pd_2 rfl) rfl (by show 2 * 0 + _ ≤ _; exact Nat.le_of_eq rfl) (hb hby d12_11) (fun _ _ => ⟨rfl, e2, (by decide : 0 + 0 ≤ _), (by decide : 0 + 0 ≤ _)⟩)
  dsimp only [Pt.U, Pt.locs, Pt.cells, Pt.slots] at X3 lq3 yq3 zq3 st3 hQ3
  subst lq3 yq3 zq3
  obtain ⟨rfl, Nq3, eq3⟩ := hQ3
  have N3 := Fr.app N0 Nq3
  refine own_go (st' := T3.setTop (mkF m 14 #[.val (.ref a1), .val (.ref al)] [(.int (0 : Int32)), (.int (0 : Int32)), (.ref rs)])) (fun _ k => st3.trans k) ?_
  refine own_go (st' := T3.setTop (mkF m 15 #[.val (.ref a1), .val (.ref al)] [(.int (0 : Int32)), (.ref rs)])) (fun _ k => XS.isub X3.here hx rfl (hb hby d12_14) rfl (by rw [show ((0 : Int32) - (0 : Int32)) = (0 : Int32) by decide]; exact k)) ?_
  obtain ⟨cl4, Ar4, -, S4, M4, H4, -⟩ := id pr4
  have hin4 : ¬ ((0 : Int32) < 0 ∨ cl4.slots.size ≤ ((0 : Int32)).toNatClampNeg) := (inb_of S4 ⟨by decide, by decide⟩)
  have hat4 : cl4.slots[((0 : Int32)).toNatClampNeg]? = some (.int (0 : Int32)) := (H4.at hin4 rfl)
  refine own_go (st' := T3.setTop (mkF m 16 #[.val (.ref a1), .val (.ref al)] [(.int (0 : Int32))])) (X3.iaload hx (j := (0 : Int32)) (v := (.int (0 : Int32))) (by rw [eq3]; exact Ar4.1) (State.isArrayOf_alike hZ.alike Ar4.2.1) Ar4.2.2 hin4 hat4 (g := (mkF m 15 #[.val (.ref a1), .val (.ref al)] [(.int (0 : Int32)), (.ref rs)])) rfl rfl (hb hby d12_15)) ?_
  refine own_go (st' := T3.setTop (mkF m 17 #[.val (.ref a1), .val (.ref al)] [(.ref al), (.int (0 : Int32))])) (fun _ k => XS.aloadN X3.here hx rfl (hb hby d12_16) rfl rfl k) ?_
  obtain ⟨cq5, kq5, q5a, q5b, q5c⟩ := isOf hZ eq3 pr5
  obtain ⟨_, _, ⟨T5, LC5, kC5, nC5⟩, -, X5, ⟨Lc5, hQ5, lq5, yq5, zq5⟩, st5⟩ := X3.virtualBack hx (y := (⟨"com/example/greenwood/greenwood/Local", "slot", "()I"⟩ : MethodName)) (z := (⟨"com/example/greenwood/greenwood/Local", "slot", "()I"⟩ : MethodName)) hown (mvT hZ (hw _ (List.mem_of_getElem? (i := 91) rfl))) (mvT hZ (hw _ (List.mem_of_getElem? (i := 92) rfl))) (notFace_of_selects (args := #[]) (mvT hZ (hw _ (List.mem_of_getElem? (i := 94) rfl)))) (mvT hZ (hw _ (List.mem_of_getElem? (i := 94) rfl))) (mvT hZ (hw _ (List.mem_of_getElem? (i := 93) rfl))) (by decide) (backOf (W := 1) (rm14 l Z a0 hw [] al (0 : Int32) h0 n0 (by omega) pr7) hZ (hw _ (List.mem_of_getElem? (i := 95) rfl)) (hw _ (List.mem_of_getElem? (i := 63) rfl)) (by decide) (by decide)) q5a q5c (g := (mkF m 17 #[.val (.ref a1), .val (.ref al)] [(.ref al), (.int (0 : Int32))])) rfl (by rw [hml]; rfl) (Steps.refl _) (argsL := []) (rest := [(.int (0 : Int32))]) (lenOf pd_2 rfl) rfl (by show 2 * 0 + _ ≤ _; exact Nat.le_of_eq rfl) (hb hby d12_17) (fun _ _ => ⟨rfl, eq3, (by decide : 0 + 0 ≤ _), (by decide : 0 + 0 ≤ _)⟩)
  dsimp only [Pt.U, Pt.locs, Pt.cells, Pt.slots] at X5 lq5 yq5 zq5 st5 hQ5
  subst lq5 yq5 zq5
  obtain ⟨rfl, Nq5, eq5⟩ := hQ5
  have N5 := Fr.app N3 Nq5
  refine own_go (st' := T5.setTop (mkF m 20 #[.val (.ref a1), .val (.ref al)] [(.int (0 : Int32)), (.int (0 : Int32))])) (fun _ k => st5.trans k) ?_
  refine own_go (st' := T5.setTop (mkF m 21 #[.val (.ref a1), .val (.ref al)] [(.int (0 : Int32))])) (fun _ k => XS.iadd X5.here hx rfl (hb hby d12_20) rfl (by rw [show ((0 : Int32) + (0 : Int32)) = (0 : Int32) by decide]; exact k)) ?_
  obtain ⟨fs, hr, hrun, hended, hW, hsame⟩ := X5.leave (v := some (.int (0 : Int32))) (fun h => by rw [Bd.returns] at h; cases h)
  refine ⟨_, _, ?_, hP _ _ hrun hended ⟨_, _, rfl, ?_, ⟨_, rfl⟩, hW, hsame.mono (by decide) (by decide)⟩⟩
  · exact retOut X5 hx Bd.returns rfl (Or.inl ⟨rfl, Or.inl rfl, _, rfl⟩) (hb hby d12_21) hr
  · show Qrm12_0 Z a1 rs ks al h0 n0 _ T5.heap _
    rw [eq5]
    exact ⟨rfl, N5, rfl⟩
theorem pd_3 : parseMethodDescriptor "(Lcom/example/greenwood/greenwood/Local;)I" = some ⟨[(.object "com/example/greenwood/greenwood/Local")], some .int⟩ := by decide +kernel
theorem d11_0 : decode prog_1_method_12_code 0 = .ok (.aload_n 0, 1) := by decide +kernel
theorem d11_1 : decode prog_1_method_12_code 1 = .ok (.getfield 16, 3) := by decide +kernel
theorem d11_4 : decode prog_1_method_12_code 4 = .ok (.aload_n 0, 1) := by decide +kernel
theorem d11_5 : decode prog_1_method_12_code 5 = .ok (.aload_n 1, 1) := by decide +kernel
theorem d11_6 : decode prog_1_method_12_code 6 = .ok (.invokevirtual 77, 3) := by decide +kernel
theorem d11_9 : decode prog_1_method_12_code 9 = .ok (.aaload, 1) := by decide +kernel
theorem d11_10 : decode prog_1_method_12_code 10 = .ok (.areturn, 1) := by decide +kernel
theorem pn_11 : plainName "com/example/greenwood/greenwood/Environment" = true := by first | (simp [plainName, overriddenIn]; done) | decide +kernel
theorem ef_rm11_0 (m : MethodId) (x0 : Addr) (x1 : Addr) : entryFrame m #[(.ref x0), (.ref x1)] 2 = mkF m 0 #[.val (.ref x0), .val (.ref x1)] [] := by first | (simp [entryFrame, mkF, argsToLocals, Value.category]; done) | rfl
def Qrm11_0 (Z : State) (a1 : Addr) (rl : Addr) (rs : Addr) (kl : ClassId) (ks : ClassId) (al : Addr) (w0 : Value) (w1 : Value) (h0 : Heap) (n0 : Nat) (v : Option Value) (h : Heap) (L : List Loc) : Prop := (v = some w0) ∧ (Fr n0 L) ∧ (h = h0)
set_option maxRecDepth 65536 in
set_option maxHeartbeats 40000000 in
theorem rm11_0 (l : Launch) (Z : State) (a0 : Array Value) (hw : ∀ d ∈ tables_1, d.before a0 Z = true) (ws : List Jvm.Cond) (a1 : Addr) (rl : Addr) (rs : Addr) (kl : ClassId) (ks : ClassId) (al : Addr) (w0 : Value) (w1 : Value) (h0 : Heap) (n0 : Nat) (Z0 : n0 ≤ h0.size) (pr1 : Exa Z h0 a1 "com/example/greenwood/greenwood/Environment") (pr2 : Fld Z h0 a1 "com/example/greenwood/greenwood/Environment" "openScopes" "I" (.int (1 : Int32))) (pr3 : Fld Z h0 a1 "com/example/greenwood/greenwood/Environment" "localCount" "I" (.int (2 : Int32))) (pr4 : Fld Z h0 a1 "com/example/greenwood/greenwood/Environment" "locals" "[Ljava/lang/Object;" (.ref rl)) (pr5 : Fld Z h0 a1 "com/example/greenwood/greenwood/Environment" "scopeStarts" "[I" (.ref rs)) (pr6 : Arv Z h0 rl kl (.object "java/lang/Object") (16 : Int32) [w0, w1, .null, .null, .null, .null, .null, .null, .null, .null, .null, .null, .null, .null, .null, .null] .null) (pr7 : Arv Z h0 rs ks .int (16 : Int32) [(.int (0 : Int32)), (.int (0 : Int32)), (.int (0 : Int32)), (.int (0 : Int32)), (.int (0 : Int32)), (.int (0 : Int32)), (.int (0 : Int32)), (.int (0 : Int32)), (.int (0 : Int32)), (.int (0 : Int32)), (.int (0 : Int32)), (.int (0 : Int32)), (.int (0 : Int32)), (.int (0 : Int32)), (.int (0 : Int32)), (.int (0 : Int32))] (.int (0 : Int32))) (pr8 : Exa Z h0 al "com/example/greenwood/greenwood/Local") (pr9 : Fld Z h0 al "com/example/greenwood/greenwood/Local" "depth" "I" (.int (0 : Int32))) (pr10 : Fld Z h0 al "com/example/greenwood/greenwood/Local" "slot" "I" (.int (0 : Int32))) (hw0 : w0.isRef = true) :
    MetFree l (⟨"com/example/greenwood/greenwood/Environment", "get", "(Lcom/example/greenwood/greenwood/Local;)Ljava/lang/Object;"⟩ : MethodName) (head1 (Jvm.Cond.code (⟨"com/example/greenwood/greenwood/Environment", "get", "(Lcom/example/greenwood/greenwood/Local;)Ljava/lang/Object;"⟩ : MethodName) prog_1_method_12_code 2 (some (.object "java/lang/Object")) :: ws) ({ frames := 2, cells := 0, slots := 0, locals := 28 } : Room)) (fun a U => a = #[(.ref a1), (.ref al)] ∧ Z.Warmed39 U.vm ∧ U.heap = h0) (fun _ _ _ _ _ => True) (fun _ U o U' => ∃ v L, o = .returned v ∧ Qrm11_0 Z a1 rl rs kl ks al w0 w1 h0 n0 v U'.heap L ∧ FrameEnd U o U' L ({ frames := 2, cells := 0, slots := 0, locals := 28 } : Room).cells ({ frames := 2, cells := 0, slots := 0, locals := 28 } : Room).slots) := by
  refine MetFree.of_bodySF (plainFor_of_name pn_11) hisR ?_
  intro p e s m args below meth c s₁ Bd hml0 hP0 hK
  obtain ⟨rfl, hZ, hh⟩ := hP0
  have hx := Bd.exec
  have hby := Bd.bytes
  have hml : c.maxLocals = 2 := hml0
  have hown : s.vm.findClass "com/example/greenwood/greenwood/Environment" = some m.cls := findClass_of_methodNamed Bd.named
  have hnm := (name_of_methodNamed Bd.named Bd.method).1
  have X0 : Stand p l e ({ frames := 2, cells := 0, slots := 0, locals := 28 } : Room) s m #[(.ref a1), (.ref al)] below meth c s₁ [] 0 0 := Stand.of_body Bd
  have e0 : s₁.heap = h0 := by rw [← hh, Bd.state]; rfl
  have N0 := Fr.nil n0
  suffices own_H : ∀ (P : State → Outcome → Prop), (∀ U o, U.status = .running → Ended U below o → (∃ v L, o = .returned v ∧ Qrm11_0 Z a1 rl rs kl ks al w0 w1 h0 n0 v U.heap L ∧ FrameEnd s o U L ({ frames := 2, cells := 0, slots := 0, locals := 28 } : Room).cells ({ frames := 2, cells := 0, slots := 0, locals := 28 } : Room).slots) → P U o) → own_Go p.tables e below P (s₁.setTop (mkF m 0 #[.val (.ref a1), .val (.ref al)] [])) from own_go (fun _ k => castTop (ef_rm11_0 m a1 al) k) (own_H _ (fun U o h1 h2 h3 => ⟨h1, h2, h3⟩))
  intro P hP
  have lt_a1 : @LT.lt Nat _ a1 h0.size := pr1.lt
  have lt_rl : @LT.lt Nat _ rl h0.size := pr6.lt
  have lt_rs : @LT.lt Nat _ rs h0.size := pr7.lt
  have lt_al : @LT.lt Nat _ al h0.size := pr8.lt
  refine own_go (st' := s₁.setTop (mkF m 1 #[.val (.ref a1), .val (.ref al)] [(.ref a1)])) (fun _ k => XS.aloadN X0.here hx rfl (hb hby d11_0) rfl rfl k) ?_
  obtain ⟨T1, X1, e1, st1⟩ := getF X0 hx hZ hown (host := "") (Or.inl (hw _ (List.mem_of_getElem? (i := 36) rfl))) Via.refl e0 pr4 (g := (mkF m 1 #[.val (.ref a1), .val (.ref al)] [(.ref a1)])) rfl rfl (hb hby d11_1)
  refine own_go (st' := T1.setTop (mkF m 4 #[.val (.ref a1), .val (.ref al)] [(.ref rl)])) (st1) ?_
  refine own_go (st' := T1.setTop (mkF m 5 #[.val (.ref a1), .val (.ref al)] [(.ref a1), (.ref rl)])) (fun _ k => XS.aloadN X1.here hx rfl (hb hby d11_4) rfl rfl k) ?_
  refine own_go (st' := T1.setTop (mkF m 6 #[.val (.ref a1), .val (.ref al)] [(.ref al), (.ref a1), (.ref rl)])) (fun _ k => XS.aloadN X1.here hx rfl (hb hby d11_5) rfl rfl k) ?_
  obtain ⟨cq2, qc2, qc2'⟩ := (pr1).cell
  obtain ⟨_, _, ⟨T2, LC2, kC2, nC2⟩, -, X2, ⟨Lc2, hQ2, lq2, yq2, zq2⟩, st2⟩ := X1.privateBack hx (y := (⟨"com/example/greenwood/greenwood/Environment", "index", "(Lcom/example/greenwood/greenwood/Local;)I"⟩ : MethodName)) hown (mvT hZ (hw _ (List.mem_of_getElem? (i := 82) rfl))) (mvT hZ (hw _ (List.mem_of_getElem? (i := 83) rfl))) (own_sel_priv (mvT hZ (hw _ (List.mem_of_getElem? (i := 8) rfl))) (Cond.privateMethod_at (mvP hZ (hw _ (List.mem_of_getElem? (i := 84) rfl)) (args := #[]))) (mvT hZ (hw _ (List.mem_of_getElem? (i := 83) rfl))) (by decide)) (Cond.privateMethod_at (mvP hZ (hw _ (List.mem_of_getElem? (i := 84) rfl)) (args := #[]))) (mvT hZ (hw _ (List.mem_of_getElem? (i := 85) rfl))) (by decide) (backOf (W := 1) (rm12_0 l Z a0 hw [] a1 rs ks al h0 n0 (by omega) pr1 pr2 pr5 pr7 pr8 pr9 pr10) hZ (hw _ (List.mem_of_getElem? (i := 85) rfl)) (hw _ (List.mem_of_getElem? (i := 9) rfl)) (by decide) (by decide)) (g := (mkF m 6 #[.val (.ref a1), .val (.ref al)] [(.ref al), (.ref a1), (.ref rl)])) rfl (by rw [hml]; rfl) (Steps.refl _) (a := a1) (by rw [e1]; exact qc2) qc2' (argsL := [(.ref al)]) (rest := [(.ref rl)]) (lenOf pd_3 rfl) rfl (by show 2 * 0 + _ ≤ _; exact Nat.le_of_eq rfl) (hb hby d11_6) (fun _ _ => ⟨rfl, e1, (by decide : 0 + 0 ≤ _), (by decide : 0 + 0 ≤ _)⟩)
  dsimp only [Pt.U, Pt.locs, Pt.cells, Pt.slots] at X2 lq2 yq2 zq2 st2 hQ2
  subst lq2 yq2 zq2
  obtain ⟨rfl, Nq2, eq2⟩ := hQ2
  have N2 := Fr.app N0 Nq2
  refine own_go (st' := T2.setTop (mkF m 9 #[.val (.ref a1), .val (.ref al)] [(.int (0 : Int32)), (.ref rl)])) (fun _ k => st2.trans k) ?_
  obtain ⟨cl3, Ar3, -, S3, M3, H3, -⟩ := id pr6
  have hin3 : ¬ ((0 : Int32) < 0 ∨ cl3.slots.size ≤ ((0 : Int32)).toNatClampNeg) := (inb_of S3 ⟨by decide, by decide⟩)
  have hat3 : cl3.slots[((0 : Int32)).toNatClampNeg]? = some w0 := (H3.at hin3 rfl)
  refine own_go (st' := T2.setTop (mkF m 10 #[.val (.ref a1), .val (.ref al)] [w0])) (X2.aaload hx (j := (0 : Int32)) (v := w0) (by rw [eq2]; exact Ar3.1) (State.isArrayOf_alike hZ.alike Ar3.2.1) rfl Ar3.2.2 hin3 hat3 (g := (mkF m 9 #[.val (.ref a1), .val (.ref al)] [(.int (0 : Int32)), (.ref rl)])) rfl rfl (hb hby d11_9)) ?_
  obtain ⟨fs, hr, hrun, hended, hW, hsame⟩ := X2.leave (v := some w0) (fun h => by rw [Bd.returns] at h; cases h)
  refine ⟨_, _, ?_, hP _ _ hrun hended ⟨_, _, rfl, ?_, ⟨_, rfl⟩, hW, hsame.mono (by decide) (by decide)⟩⟩
  · exact retOut X2 hx Bd.returns (own_nar_ref hw0) (Or.inr (Or.inr (Or.inr (Or.inr ⟨rfl, rfl, hw0⟩)))) (hb hby d11_10) hr
  · show Qrm11_0 Z a1 rl rs kl ks al w0 w1 h0 n0 _ T2.heap _
    rw [eq2]
    exact ⟨rfl, N2, rfl⟩
theorem ef_rm12_1 (m : MethodId) (x0 : Addr) (x1 : Addr) : entryFrame m #[(.ref x0), (.ref x1)] 2 = mkF m 0 #[.val (.ref x0), .val (.ref x1)] [] := by first | (simp [entryFrame, mkF, argsToLocals, Value.category]; done) | rfl
def Qrm12_1 (Z : State) (a1 : Addr) (rs : Addr) (ks : ClassId) (al : Addr) (h0 : Heap) (n0 : Nat) (v : Option Value) (h : Heap) (L : List Loc) : Prop := (v = some (.int (1 : Int32))) ∧ (Fr n0 L) ∧ (h = h0)
set_option maxRecDepth 65536 in
set_option maxHeartbeats 40000000 in
theorem rm12_1 (l : Launch) (Z : State) (a0 : Array Value) (hw : ∀ d ∈ tables_1, d.before a0 Z = true) (ws : List Jvm.Cond) (a1 : Addr) (rs : Addr) (ks : ClassId) (al : Addr) (h0 : Heap) (n0 : Nat) (Z0 : n0 ≤ h0.size) (pr1 : Exa Z h0 a1 "com/example/greenwood/greenwood/Environment") (pr2 : Fld Z h0 a1 "com/example/greenwood/greenwood/Environment" "openScopes" "I" (.int (1 : Int32))) (pr3 : Fld Z h0 a1 "com/example/greenwood/greenwood/Environment" "scopeStarts" "[I" (.ref rs)) (pr4 : Arv Z h0 rs ks .int (16 : Int32) [(.int (0 : Int32)), (.int (0 : Int32)), (.int (0 : Int32)), (.int (0 : Int32)), (.int (0 : Int32)), (.int (0 : Int32)), (.int (0 : Int32)), (.int (0 : Int32)), (.int (0 : Int32)), (.int (0 : Int32)), (.int (0 : Int32)), (.int (0 : Int32)), (.int (0 : Int32)), (.int (0 : Int32)), (.int (0 : Int32)), (.int (0 : Int32))] (.int (0 : Int32))) (pr5 : Exa Z h0 al "com/example/greenwood/greenwood/Local") (pr6 : Fld Z h0 al "com/example/greenwood/greenwood/Local" "depth" "I" (.int (0 : Int32))) (pr7 : Fld Z h0 al "com/example/greenwood/greenwood/Local" "slot" "I" (.int (1 : Int32))) :
    MetFree l (⟨"com/example/greenwood/greenwood/Environment", "index", "(Lcom/example/greenwood/greenwood/Local;)I"⟩ : MethodName) (head1 (Jvm.Cond.code (⟨"com/example/greenwood/greenwood/Environment", "index", "(Lcom/example/greenwood/greenwood/Local;)I"⟩ : MethodName) prog_1_method_14_code 2 (some .int) :: ws) ({ frames := 1, cells := 0, slots := 0, locals := 14 } : Room)) (fun a U => a = #[(.ref a1), (.ref al)] ∧ Z.Warmed39 U.vm ∧ U.heap = h0) (fun _ _ _ _ _ => True) (fun _ U o U' => ∃ v L, o = .returned v ∧ Qrm12_1 Z a1 rs ks al h0 n0 v U'.heap L ∧ FrameEnd U o U' L ({ frames := 1, cells := 0, slots := 0, locals := 14 } : Room).cells ({ frames := 1, cells := 0, slots := 0, locals := 14 } : Room).slots) := by
  refine MetFree.of_bodySF (plainFor_of_name pn_12) hisR ?_
  intro p e s m args below meth c s₁ Bd hml0 hP0 hK
  obtain ⟨rfl, hZ, hh⟩ := hP0
  have hx := Bd.exec
  have hby := Bd.bytes
  have hml : c.maxLocals = 2 := hml0
  have hown : s.vm.findClass "com/example/greenwood/greenwood/Environment" = some m.cls := findClass_of_methodNamed Bd.named
  have hnm := (name_of_methodNamed Bd.named Bd.method).1
  have X0 : Stand p l e ({ frames := 1, cells := 0, slots := 0, locals := 14 } : Room) s m #[(.ref a1), (.ref al)] below meth c s₁ [] 0 0 := Stand.of_body Bd
  have e0 : s₁.heap = h0 := by rw [← hh, Bd.state]; rfl
  have N0 := Fr.nil n0
  suffices own_H : ∀ (P : State → Outcome → Prop), (∀ U o, U.status = .running → Ended U below o → (∃ v L, o = .returned v ∧ Qrm12_1 Z a1 rs ks al h0 n0 v U.heap L ∧ FrameEnd s o U L ({ frames := 1, cells := 0, slots := 0, locals := 14 } : Room).cells ({ frames := 1, cells := 0, slots := 0, locals := 14 } : Room).slots) → P U o) → own_Go p.tables e below P (s₁.setTop (mkF m 0 #[.val (.ref a1), .val (.ref al)] [])) from own_go (fun _ k => castTop (ef_rm12_1 m a1 al) k) (own_H _ (fun U o h1 h2 h3 => ⟨h1, h2, h3⟩))
  intro P hP
  have lt_a1 : @LT.lt Nat _ a1 h0.size := pr1.lt
  have lt_rs : @LT.lt Nat _ rs h0.size := pr4.lt
  have lt_al : @LT.lt Nat _ al h0.size := pr5.lt
  refine own_go (st' := s₁.setTop (mkF m 1 #[.val (.ref a1), .val (.ref al)] [(.ref a1)])) (fun _ k => XS.aloadN X0.here hx rfl (hb hby d12_0) rfl rfl k) ?_
  obtain ⟨T1, X1, e1, st1⟩ := getF X0 hx hZ hown (host := "") (Or.inl (hw _ (List.mem_of_getElem? (i := 39) rfl))) Via.refl e0 pr3 (g := (mkF m 1 #[.val (.ref a1), .val (.ref al)] [(.ref a1)])) rfl rfl (hb hby d12_1)
  refine own_go (st' := T1.setTop (mkF m 4 #[.val (.ref a1), .val (.ref al)] [(.ref rs)])) (st1) ?_
  refine own_go (st' := T1.setTop (mkF m 5 #[.val (.ref a1), .val (.ref al)] [(.ref a1), (.ref rs)])) (fun _ k => XS.aloadN X1.here hx rfl (hb hby d12_4) rfl rfl k) ?_
  obtain ⟨T2, X2, e2, st2⟩ := getF X1 hx hZ hown (host := "") (Or.inl (hw _ (List.mem_of_getElem? (i := 46) rfl))) Via.refl e1 pr2 (g := (mkF m 5 #[.val (.ref a1), .val (.ref al)] [(.ref a1), (.ref rs)])) rfl rfl (hb hby d12_5)
  refine own_go (st' := T2.setTop (mkF m 8 #[.val (.ref a1), .val (.ref al)] [(.int (1 : Int32)), (.ref rs)])) (st2) ?_
  refine own_go (st' := T2.setTop (mkF m 9 #[.val (.ref a1), .val (.ref al)] [(.int (1 : Int32)), (.int (1 : Int32)), (.ref rs)])) (fun _ k => XS.iconst X2.here hx rfl (hb hby d12_8) k) ?_
  refine own_go (st' := T2.setTop (mkF m 10 #[.val (.ref a1), .val (.ref al)] [(.int (0 : Int32)), (.ref rs)])) (fun _ k => XS.isub X2.here hx rfl (hb hby d12_9) rfl (by rw [show ((1 : Int32) - (1 : Int32)) = (0 : Int32) by decide]; exact k)) ?_
  refine own_go (st' := T2.setTop (mkF m 11 #[.val (.ref a1), .val (.ref al)] [(.ref al), (.int (0 : Int32)), (.ref rs)])) (fun _ k => XS.aloadN X2.here hx rfl (hb hby d12_10) rfl rfl k) ?_
  obtain ⟨cq3, kq3, q3a, q3b, q3c⟩ := isOf hZ e2 pr5
  obtain ⟨_, _, ⟨T3, LC3, kC3, nC3⟩, -, X3, ⟨Lc3, hQ3, lq3, yq3, zq3⟩, st3⟩ := X2.virtualBack hx (y := (⟨"com/example/greenwood/greenwood/Local", "depth", "()I"⟩ : MethodName)) (z := (⟨"com/example/greenwood/greenwood/Local", "depth", "()I"⟩ : MethodName)) hown (mvT hZ (hw _ (List.mem_of_getElem? (i := 86) rfl))) (mvT hZ (hw _ (List.mem_of_getElem? (i := 87) rfl))) (notFace_of_selects (args := #[]) (mvT hZ (hw _ (List.mem_of_getElem? (i := 89) rfl)))) (mvT hZ (hw _ (List.mem_of_getElem? (i := 89) rfl))) (mvT hZ (hw _ (List.mem_of_getElem? (i := 88) rfl))) (by decide) (backOf (W := 2) (rm13 l Z a0 hw [] al (0 : Int32) h0 n0 (by omega) pr6) hZ (hw _ (List.mem_of_getElem? (i := 90) rfl)) (hw _ (List.mem_of_getElem? (i := 63) rfl)) (by decide) (by decide)) q3a q3c (g := (mkF m 11 #[.val (.ref a1), .val (.ref al)] [(.ref al), (.int (0 : Int32)), (.ref rs)])) rfl (by rw [hml]; rfl) (Steps.refl _) (argsL := []) (rest := [(.int (0 : Int32)), (.ref rs)]) (lenOf pd_2 rfl) rfl (by show 2 * 0 + _ ≤ _; exact Nat.le_of_eq rfl) (hb hby d12_11) (fun _ _ => ⟨rfl, e2, (by decide : 0 + 0 ≤ _), (by decide : 0 + 0 ≤ _)⟩)
  dsimp only [Pt.U, Pt.locs, Pt.cells, Pt.slots] at X3 lq3 yq3 zq3 st3 hQ3
  subst lq3 yq3 zq3
  obtain ⟨rfl, Nq3, eq3⟩ := hQ3
  have N3 := Fr.app N0 Nq3
  refine own_go (st' := T3.setTop (mkF m 14 #[.val (.ref a1), .val (.ref al)] [(.int (0 : Int32)), (.int (0 : Int32)), (.ref rs)])) (fun _ k => st3.trans k) ?_
  refine own_go (st' := T3.setTop (mkF m 15 #[.val (.ref a1), .val (.ref al)] [(.int (0 : Int32)), (.ref rs)])) (fun _ k => XS.isub X3.here hx rfl (hb hby d12_14) rfl (by rw [show ((0 : Int32) - (0 : Int32)) = (0 : Int32) by decide]; exact k)) ?_
  obtain ⟨cl4, Ar4, -, S4, M4, H4, -⟩ := id pr4
  have hin4 : ¬ ((0 : Int32) < 0 ∨ cl4.slots.size ≤ ((0 : Int32)).toNatClampNeg) := (inb_of S4 ⟨by decide, by decide⟩)
  have hat4 : cl4.slots[((0 : Int32)).toNatClampNeg]? = some (.int (0 : Int32)) := (H4.at hin4 rfl)
  refine own_go (st' := T3.setTop (mkF m 16 #[.val (.ref a1), .val (.ref al)] [(.int (0 : Int32))])) (X3.iaload hx (j := (0 : Int32)) (v := (.int (0 : Int32))) (by rw [eq3]; exact Ar4.1) (State.isArrayOf_alike hZ.alike Ar4.2.1) Ar4.2.2 hin4 hat4 (g := (mkF m 15 #[.val (.ref a1), .val (.ref al)] [(.int (0 : Int32)), (.ref rs)])) rfl rfl (hb hby d12_15)) ?_
  refine own_go (st' := T3.setTop (mkF m 17 #[.val (.ref a1), .val (.ref al)] [(.ref al), (.int (0 : Int32))])) (fun _ k => XS.aloadN X3.here hx rfl (hb hby d12_16) rfl rfl k) ?_
  obtain ⟨cq5, kq5, q5a, q5b, q5c⟩ := isOf hZ eq3 pr5
  obtain ⟨_, _, ⟨T5, LC5, kC5, nC5⟩, -, X5, ⟨Lc5, hQ5, lq5, yq5, zq5⟩, st5⟩ := X3.virtualBack hx (y := (⟨"com/example/greenwood/greenwood/Local", "slot", "()I"⟩ : MethodName)) (z := (⟨"com/example/greenwood/greenwood/Local", "slot", "()I"⟩ : MethodName)) hown (mvT hZ (hw _ (List.mem_of_getElem? (i := 91) rfl))) (mvT hZ (hw _ (List.mem_of_getElem? (i := 92) rfl))) (notFace_of_selects (args := #[]) (mvT hZ (hw _ (List.mem_of_getElem? (i := 94) rfl)))) (mvT hZ (hw _ (List.mem_of_getElem? (i := 94) rfl))) (mvT hZ (hw _ (List.mem_of_getElem? (i := 93) rfl))) (by decide) (backOf (W := 1) (rm14 l Z a0 hw [] al (1 : Int32) h0 n0 (by omega) pr7) hZ (hw _ (List.mem_of_getElem? (i := 95) rfl)) (hw _ (List.mem_of_getElem? (i := 63) rfl)) (by decide) (by decide)) q5a q5c (g := (mkF m 17 #[.val (.ref a1), .val (.ref al)] [(.ref al), (.int (0 : Int32))])) rfl (by rw [hml]; rfl) (Steps.refl _) (argsL := []) (rest := [(.int (0 : Int32))]) (lenOf pd_2 rfl) rfl (by show 2 * 0 + _ ≤ _; exact Nat.le_of_eq rfl) (hb hby d12_17) (fun _ _ => ⟨rfl, eq3, (by decide : 0 + 0 ≤ _), (by decide : 0 + 0 ≤ _)⟩)
  dsimp only [Pt.U, Pt.locs, Pt.cells, Pt.slots] at X5 lq5 yq5 zq5 st5 hQ5
  subst lq5 yq5 zq5
  obtain ⟨rfl, Nq5, eq5⟩ := hQ5
  have N5 := Fr.app N3 Nq5
  refine own_go (st' := T5.setTop (mkF m 20 #[.val (.ref a1), .val (.ref al)] [(.int (1 : Int32)), (.int (0 : Int32))])) (fun _ k => st5.trans k) ?_
  refine own_go (st' := T5.setTop (mkF m 21 #[.val (.ref a1), .val (.ref al)] [(.int (1 : Int32))])) (fun _ k => XS.iadd X5.here hx rfl (hb hby d12_20) rfl (by rw [show ((0 : Int32) + (1 : Int32)) = (1 : Int32) by decide]; exact k)) ?_
  obtain ⟨fs, hr, hrun, hended, hW, hsame⟩ := X5.leave (v := some (.int (1 : Int32))) (fun h => by rw [Bd.returns] at h; cases h)
  refine ⟨_, _, ?_, hP _ _ hrun hended ⟨_, _, rfl, ?_, ⟨_, rfl⟩, hW, hsame.mono (by decide) (by decide)⟩⟩
  · exact retOut X5 hx Bd.returns rfl (Or.inl ⟨rfl, Or.inl rfl, _, rfl⟩) (hb hby d12_21) hr
  · show Qrm12_1 Z a1 rs ks al h0 n0 _ T5.heap _
    rw [eq5]
    exact ⟨rfl, N5, rfl⟩
theorem ef_rm11_1 (m : MethodId) (x0 : Addr) (x1 : Addr) : entryFrame m #[(.ref x0), (.ref x1)] 2 = mkF m 0 #[.val (.ref x0), .val (.ref x1)] [] := by first | (simp [entryFrame, mkF, argsToLocals, Value.category]; done) | rfl
def Qrm11_1 (Z : State) (a1 : Addr) (rl : Addr) (rs : Addr) (kl : ClassId) (ks : ClassId) (al : Addr) (w0 : Value) (w1 : Value) (h0 : Heap) (n0 : Nat) (v : Option Value) (h : Heap) (L : List Loc) : Prop := (v = some w1) ∧ (Fr n0 L) ∧ (h = h0)
set_option maxRecDepth 65536 in
set_option maxHeartbeats 40000000 in
theorem rm11_1 (l : Launch) (Z : State) (a0 : Array Value) (hw : ∀ d ∈ tables_1, d.before a0 Z = true) (ws : List Jvm.Cond) (a1 : Addr) (rl : Addr) (rs : Addr) (kl : ClassId) (ks : ClassId) (al : Addr) (w0 : Value) (w1 : Value) (h0 : Heap) (n0 : Nat) (Z0 : n0 ≤ h0.size) (pr1 : Exa Z h0 a1 "com/example/greenwood/greenwood/Environment") (pr2 : Fld Z h0 a1 "com/example/greenwood/greenwood/Environment" "openScopes" "I" (.int (1 : Int32))) (pr3 : Fld Z h0 a1 "com/example/greenwood/greenwood/Environment" "localCount" "I" (.int (2 : Int32))) (pr4 : Fld Z h0 a1 "com/example/greenwood/greenwood/Environment" "locals" "[Ljava/lang/Object;" (.ref rl)) (pr5 : Fld Z h0 a1 "com/example/greenwood/greenwood/Environment" "scopeStarts" "[I" (.ref rs)) (pr6 : Arv Z h0 rl kl (.object "java/lang/Object") (16 : Int32) [w0, w1, .null, .null, .null, .null, .null, .null, .null, .null, .null, .null, .null, .null, .null, .null] .null) (pr7 : Arv Z h0 rs ks .int (16 : Int32) [(.int (0 : Int32)), (.int (0 : Int32)), (.int (0 : Int32)), (.int (0 : Int32)), (.int (0 : Int32)), (.int (0 : Int32)), (.int (0 : Int32)), (.int (0 : Int32)), (.int (0 : Int32)), (.int (0 : Int32)), (.int (0 : Int32)), (.int (0 : Int32)), (.int (0 : Int32)), (.int (0 : Int32)), (.int (0 : Int32)), (.int (0 : Int32))] (.int (0 : Int32))) (pr8 : Exa Z h0 al "com/example/greenwood/greenwood/Local") (pr9 : Fld Z h0 al "com/example/greenwood/greenwood/Local" "depth" "I" (.int (0 : Int32))) (pr10 : Fld Z h0 al "com/example/greenwood/greenwood/Local" "slot" "I" (.int (1 : Int32))) (hw1 : w1.isRef = true) :
    MetFree l (⟨"com/example/greenwood/greenwood/Environment", "get", "(Lcom/example/greenwood/greenwood/Local;)Ljava/lang/Object;"⟩ : MethodName) (head1 (Jvm.Cond.code (⟨"com/example/greenwood/greenwood/Environment", "get", "(Lcom/example/greenwood/greenwood/Local;)Ljava/lang/Object;"⟩ : MethodName) prog_1_method_12_code 2 (some (.object "java/lang/Object")) :: ws) ({ frames := 2, cells := 0, slots := 0, locals := 28 } : Room)) (fun a U => a = #[(.ref a1), (.ref al)] ∧ Z.Warmed39 U.vm ∧ U.heap = h0) (fun _ _ _ _ _ => True) (fun _ U o U' => ∃ v L, o = .returned v ∧ Qrm11_1 Z a1 rl rs kl ks al w0 w1 h0 n0 v U'.heap L ∧ FrameEnd U o U' L ({ frames := 2, cells := 0, slots := 0, locals := 28 } : Room).cells ({ frames := 2, cells := 0, slots := 0, locals := 28 } : Room).slots) := by
  refine MetFree.of_bodySF (plainFor_of_name pn_11) hisR ?_
  intro p e s m args below meth c s₁ Bd hml0 hP0 hK
  obtain ⟨rfl, hZ, hh⟩ := hP0
  have hx := Bd.exec
  have hby := Bd.bytes
  have hml : c.maxLocals = 2 := hml0
  have hown : s.vm.findClass "com/example/greenwood/greenwood/Environment" = some m.cls := findClass_of_methodNamed Bd.named
  have hnm := (name_of_methodNamed Bd.named Bd.method).1
  have X0 : Stand p l e ({ frames := 2, cells := 0, slots := 0, locals := 28 } : Room) s m #[(.ref a1), (.ref al)] below meth c s₁ [] 0 0 := Stand.of_body Bd
  have e0 : s₁.heap = h0 := by rw [← hh, Bd.state]; rfl
  have N0 := Fr.nil n0
  suffices own_H : ∀ (P : State → Outcome → Prop), (∀ U o, U.status = .running → Ended U below o → (∃ v L, o = .returned v ∧ Qrm11_1 Z a1 rl rs kl ks al w0 w1 h0 n0 v U.heap L ∧ FrameEnd s o U L ({ frames := 2, cells := 0, slots := 0, locals := 28 } : Room).cells ({ frames := 2, cells := 0, slots := 0, locals := 28 } : Room).slots) → P U o) → own_Go p.tables e below P (s₁.setTop (mkF m 0 #[.val (.ref a1), .val (.ref al)] [])) from own_go (fun _ k => castTop (ef_rm11_1 m a1 al) k) (own_H _ (fun U o h1 h2 h3 => ⟨h1, h2, h3⟩))
  intro P hP
  have lt_a1 : @LT.lt Nat _ a1 h0.size := pr1.lt
  have lt_rl : @LT.lt Nat _ rl h0.size := pr6.lt
  have lt_rs : @LT.lt Nat _ rs h0.size := pr7.lt
  have lt_al : @LT.lt Nat _ al h0.size := pr8.lt
  refine own_go (st' := s₁.setTop (mkF m 1 #[.val (.ref a1), .val (.ref al)] [(.ref a1)])) (fun _ k => XS.aloadN X0.here hx rfl (hb hby d11_0) rfl rfl k) ?_
  obtain ⟨T1, X1, e1, st1⟩ := getF X0 hx hZ hown (host := "") (Or.inl (hw _ (List.mem_of_getElem? (i := 36) rfl))) Via.refl e0 pr4 (g := (mkF m 1 #[.val (.ref a1), .val (.ref al)] [(.ref a1)])) rfl rfl (hb hby d11_1)
  refine own_go (st' := T1.setTop (mkF m 4 #[.val (.ref a1), .val (.ref al)] [(.ref rl)])) (st1) ?_
  refine own_go (st' := T1.setTop (mkF m 5 #[.val (.ref a1), .val (.ref al)] [(.ref a1), (.ref rl)])) (fun _ k => XS.aloadN X1.here hx rfl (hb hby d11_4) rfl rfl k) ?_
  refine own_go (st' := T1.setTop (mkF m 6 #[.val (.ref a1), .val (.ref al)] [(.ref al), (.ref a1), (.ref rl)])) (fun _ k => XS.aloadN X1.here hx rfl (hb hby d11_5) rfl rfl k) ?_
  obtain ⟨cq2, qc2, qc2'⟩ := (pr1).cell
  obtain ⟨_, _, ⟨T2, LC2, kC2, nC2⟩, -, X2, ⟨Lc2, hQ2, lq2, yq2, zq2⟩, st2⟩ := X1.privateBack hx (y := (⟨"com/example/greenwood/greenwood/Environment", "index", "(Lcom/example/greenwood/greenwood/Local;)I"⟩ : MethodName)) hown (mvT hZ (hw _ (List.mem_of_getElem? (i := 82) rfl))) (mvT hZ (hw _ (List.mem_of_getElem? (i := 83) rfl))) (own_sel_priv (mvT hZ (hw _ (List.mem_of_getElem? (i := 8) rfl))) (Cond.privateMethod_at (mvP hZ (hw _ (List.mem_of_getElem? (i := 84) rfl)) (args := #[]))) (mvT hZ (hw _ (List.mem_of_getElem? (i := 83) rfl))) (by decide)) (Cond.privateMethod_at (mvP hZ (hw _ (List.mem_of_getElem? (i := 84) rfl)) (args := #[]))) (mvT hZ (hw _ (List.mem_of_getElem? (i := 85) rfl))) (by decide) (backOf (W := 1) (rm12_1 l Z a0 hw [] a1 rs ks al h0 n0 (by omega) pr1 pr2 pr5 pr7 pr8 pr9 pr10) hZ (hw _ (List.mem_of_getElem? (i := 85) rfl)) (hw _ (List.mem_of_getElem? (i := 9) rfl)) (by decide) (by decide)) (g := (mkF m 6 #[.val (.ref a1), .val (.ref al)] [(.ref al), (.ref a1), (.ref rl)])) rfl (by rw [hml]; rfl) (Steps.refl _) (a := a1) (by rw [e1]; exact qc2) qc2' (argsL := [(.ref al)]) (rest := [(.ref rl)]) (lenOf pd_3 rfl) rfl (by show 2 * 0 + _ ≤ _; exact Nat.le_of_eq rfl) (hb hby d11_6) (fun _ _ => ⟨rfl, e1, (by decide : 0 + 0 ≤ _), (by decide : 0 + 0 ≤ _)⟩)
  dsimp only [Pt.U, Pt.locs, Pt.cells, Pt.slots] at X2 lq2 yq2 zq2 st2 hQ2
  subst lq2 yq2 zq2
  obtain ⟨rfl, Nq2, eq2⟩ := hQ2
  have N2 := Fr.app N0 Nq2
  refine own_go (st' := T2.setTop (mkF m 9 #[.val (.ref a1), .val (.ref al)] [(.int (1 : Int32)), (.ref rl)])) (fun _ k => st2.trans k) ?_
  obtain ⟨cl3, Ar3, -, S3, M3, H3, -⟩ := id pr6
  have hin3 : ¬ ((1 : Int32) < 0 ∨ cl3.slots.size ≤ ((1 : Int32)).toNatClampNeg) := (inb_of S3 ⟨by decide, by decide⟩)
  have hat3 : cl3.slots[((1 : Int32)).toNatClampNeg]? = some w1 := (H3.at hin3 rfl)
  refine own_go (st' := T2.setTop (mkF m 10 #[.val (.ref a1), .val (.ref al)] [w1])) (X2.aaload hx (j := (1 : Int32)) (v := w1) (by rw [eq2]; exact Ar3.1) (State.isArrayOf_alike hZ.alike Ar3.2.1) rfl Ar3.2.2 hin3 hat3 (g := (mkF m 9 #[.val (.ref a1), .val (.ref al)] [(.int (1 : Int32)), (.ref rl)])) rfl rfl (hb hby d11_9)) ?_
  obtain ⟨fs, hr, hrun, hended, hW, hsame⟩ := X2.leave (v := some w1) (fun h => by rw [Bd.returns] at h; cases h)
  refine ⟨_, _, ?_, hP _ _ hrun hended ⟨_, _, rfl, ?_, ⟨_, rfl⟩, hW, hsame.mono (by decide) (by decide)⟩⟩
  · exact retOut X2 hx Bd.returns (own_nar_ref hw1) (Or.inr (Or.inr (Or.inr (Or.inr ⟨rfl, rfl, hw1⟩)))) (hb hby d11_10) hr
  · show Qrm11_1 Z a1 rl rs kl ks al w0 w1 h0 n0 _ T2.heap _
    rw [eq2]
    exact ⟨rfl, N2, rfl⟩
theorem pd_4 : parseMethodDescriptor "(I)Ljava/lang/Integer;" = some ⟨[.int], some (.object "java/lang/Integer")⟩ := by decide +kernel
theorem pd_5 : parseMethodDescriptor "(Ljava/lang/Object;)V" = some ⟨[(.object "java/lang/Object")], none⟩ := by decide +kernel
theorem pd_6 : parseMethodDescriptor "(II)V" = some ⟨[.int, .int], none⟩ := by decide +kernel
theorem pd_7 : parseMethodDescriptor "(Lcom/example/greenwood/greenwood/Local;)Ljava/lang/Object;" = some ⟨[(.object "com/example/greenwood/greenwood/Local")], some (.object "java/lang/Object")⟩ := by decide +kernel
theorem pn_0 : plainName "com/example/greenwood/greenwood/EnvironmentInitializePinLaw" = true := by first | (simp [plainName, overriddenIn]; done) | decide +kernel
theorem ef_rm0 (m : MethodId) (x0 : Int32) (x1 : Int32) (x2 : Int32) (x3 : Int32) : entryFrame m #[(.int x0), (.int x1), (.int x2), (.int x3)] maxLocals = mkF m 0 #[.val (.int x0), .val (.int x1), .val (.int x2), .val (.int x3), .unset, .unset, .unset, .unset, .unset, .unset] [] := by first | (simp [entryFrame, mkF, argsToLocals, Value.category, maxLocals]; done) | rfl
def Qrm0 (Z : State) (xa : Int32) (xb : Int32) (xc : Int32) (fl : Int32) (ca : Addr) (h0 : Heap) (n0 : Nat) (v : Option Value) (h : Heap) (L : List Loc) : Prop := v = some (.int 1) ∧ Fr n0 L ∧ True
set_option maxRecDepth 65536 in
set_option maxHeartbeats 40000000 in
theorem rm0 (l : Launch) (Z : State) (a0 : Array Value) (hw : ∀ d ∈ tables_1, d.before a0 Z = true) (ws : List Jvm.Cond) (xa : Int32) (xb : Int32) (xc : Int32) (fl : Int32) (ca : Addr) (h0 : Heap) (n0 : Nat) (Z0 : n0 ≤ h0.size) (pr1 : Sta Z h0 "java/lang/Integer$IntegerCache" "high" "I" (.int (127 : Int32))) (pr2 : Sta Z h0 "java/lang/Integer$IntegerCache" "cache" "[Ljava/lang/Integer;" (.ref ca)) (pr3 : own_Cache Z h0 ca) :
    MetFree l x (head1 (Jvm.Cond.code x code maxLocals ret :: ws) room_1) (fun a U => a = #[(.int xa), (.int xb), (.int xc), (.int fl)] ∧ Z.Warmed39 U.vm ∧ U.heap = h0) (fun _ _ _ _ _ => True) (fun _ U o U' => ∃ v L, o = .returned v ∧ Qrm0 Z xa xb xc fl ca h0 n0 v U'.heap L ∧ FrameEnd U o U' L 32 192) := by
  refine MetFree.of_bodySF (plainFor_of_name pn_0) hisR ?_
  intro p e s m args below meth c s₁ Bd hml0 hP0 hK
  obtain ⟨rfl, hZ, hh⟩ := hP0
  have hx := Bd.exec
  have hby := Bd.bytes
  have hml : c.maxLocals = 10 := hml0
  have hown : s.vm.findClass "com/example/greenwood/greenwood/EnvironmentInitializePinLaw" = some m.cls := findClass_of_methodNamed Bd.named
  have hnm := (name_of_methodNamed Bd.named Bd.method).1
  have X0 : Stand p l e room_1 s m #[(.int xa), (.int xb), (.int xc), (.int fl)] below meth c s₁ [] 0 0 := Stand.of_body Bd
  have e0 : s₁.heap = h0 := by rw [← hh, Bd.state]; rfl
  have N0 := Fr.nil n0
  suffices own_H : ∀ (P : State → Outcome → Prop), (∀ U o, U.status = .running → Ended U below o → (∃ v L, o = .returned v ∧ Qrm0 Z xa xb xc fl ca h0 n0 v U.heap L ∧ FrameEnd s o U L 32 192) → P U o) → own_Go p.tables e below P (s₁.setTop (mkF m 0 #[.val (.int xa), .val (.int xb), .val (.int xc), .val (.int fl), .unset, .unset, .unset, .unset, .unset, .unset] [])) from own_go (fun _ k => castTop (ef_rm0 m xa xb xc fl) k) (own_H _ (fun U o h1 h2 h3 => ⟨h1, h2, h3⟩))
  intro P hP
  refine own_go (st' := s₁.setTop (mkF m 1 #[.val (.int xa), .val (.int xb), .val (.int xc), .val (.int fl), .unset, .unset, .unset, .unset, .unset, .unset] [(.int xa)])) (fun _ k => XS.iloadN X0.here hx rfl (hb hby at_0) rfl k) ?_
  obtain ⟨_, _, ⟨T1, LC1, kC1, nC1⟩, -, X1, ⟨Lc1, hQ1, lq1, yq1, zq1⟩, st1⟩ := Jvm.LawKit.callS X0 hx (y := (⟨"java/lang/Integer", "valueOf", "(I)Ljava/lang/Integer;"⟩ : MethodName)) hown (mvT hZ (hw _ (List.mem_of_getElem? (i := 0) rfl))) (mvT hZ (hw _ (List.mem_of_getElem? (i := 1) rfl))) (mvT hZ (hw _ (List.mem_of_getElem? (i := 2) rfl))) (mvT hZ (hw _ (List.mem_of_getElem? (i := 3) rfl))) (by decide) (backOf (W := 0) (rm1 l Z a0 hw [] xa ca h0 n0 (by omega) pr1 pr2 pr3) hZ (hw _ (List.mem_of_getElem? (i := 3) rfl)) (hw _ (List.mem_of_getElem? (i := 2) rfl)) (by decide) (by decide)) (g := (mkF m 1 #[.val (.int xa), .val (.int xb), .val (.int xc), .val (.int fl), .unset, .unset, .unset, .unset, .unset, .unset] [(.int xa)])) rfl (by rw [hml]; rfl) (argsL := [(.int xa)]) (rest := []) (lenOf pd_4 rfl) rfl (by show 2 * 0 + _ ≤ _; exact Nat.le_of_eq rfl) (hb hby at_1) (fun _ _ => ⟨rfl, e0, (by decide : 0 + 1 ≤ _), (by decide : 0 + 1 ≤ _)⟩)
  dsimp only [Pt.U, Pt.locs, Pt.cells, Pt.slots] at X1 lq1 yq1 zq1 st1 hQ1
  subst lq1 yq1 zq1
  obtain ⟨h1, e1⟩ : ∃ z, T1.heap = z := ⟨_, rfl⟩
  rw [e1] at hQ1
  obtain ⟨r_1, rfl, Nq1, K1, g1_0⟩ := hQ1
  have sz1 : h0.size ≤ h1.size := K1.1
  have N1 := Fr.app N0 Nq1
  have lt1_1 : @LT.lt Nat _ r_1 h1.size := g1_0.lt
  refine own_go (st' := T1.setTop (mkF m 4 #[.val (.int xa), .val (.int xb), .val (.int xc), .val (.int fl), .unset, .unset, .unset, .unset, .unset, .unset] [(.ref r_1)])) (fun t k => st1 t k) ?_
  refine own_go (st' := T1.setTop (mkF m 6 #[.val (.int xa), .val (.int xb), .val (.int xc), .val (.int fl), .val (.ref r_1), .unset, .unset, .unset, .unset, .unset] [])) (fun _ k => XS.astore X1.here hx rfl (hb hby at_4) rfl rfl (l' := #[.val (.int xa), .val (.int xb), .val (.int xc), .val (.int fl), .val (.ref r_1), .unset, .unset, .unset, .unset, .unset]) rfl k) ?_
  refine own_go (st' := T1.setTop (mkF m 7 #[.val (.int xa), .val (.int xb), .val (.int xc), .val (.int fl), .val (.ref r_1), .unset, .unset, .unset, .unset, .unset] [(.int xc)])) (fun _ k => XS.iloadN X1.here hx rfl (hb hby at_6) rfl k) ?_
  have c3 : Sta Z h1 "java/lang/Integer$IntegerCache" "high" "I" (.int (127 : Int32)) := (own_sta_keep pr1 K1 all0)
  have c4 : Sta Z h1 "java/lang/Integer$IntegerCache" "cache" "[Ljava/lang/Integer;" (.ref ca) := (own_sta_keep pr2 K1 all0)
  have c5 : own_Cache Z h1 ca := (own_Cache_keep pr3 K1 nin0)
  obtain ⟨_, _, ⟨T2, LC2, kC2, nC2⟩, -, X2, ⟨Lc2, hQ2, lq2, yq2, zq2⟩, st2⟩ := Jvm.LawKit.callS X1 hx (y := (⟨"java/lang/Integer", "valueOf", "(I)Ljava/lang/Integer;"⟩ : MethodName)) hown (mvT hZ (hw _ (List.mem_of_getElem? (i := 0) rfl))) (mvT hZ (hw _ (List.mem_of_getElem? (i := 1) rfl))) (mvT hZ (hw _ (List.mem_of_getElem? (i := 2) rfl))) (mvT hZ (hw _ (List.mem_of_getElem? (i := 3) rfl))) (by decide) (backOf (W := 0) (rm1 l Z a0 hw [] xc ca h1 n0 (by omega) c3 c4 c5) hZ (hw _ (List.mem_of_getElem? (i := 3) rfl)) (hw _ (List.mem_of_getElem? (i := 2) rfl)) (by decide) (by decide)) (g := (mkF m 7 #[.val (.int xa), .val (.int xb), .val (.int xc), .val (.int fl), .val (.ref r_1), .unset, .unset, .unset, .unset, .unset] [(.int xc)])) rfl (by rw [hml]; rfl) (argsL := [(.int xc)]) (rest := []) (lenOf pd_4 rfl) rfl (by show 2 * 0 + _ ≤ _; exact Nat.le_of_eq rfl) (hb hby at_7) (fun _ _ => ⟨rfl, e1, (by decide : 1 + 1 ≤ _), (by decide : 1 + 1 ≤ _)⟩)
  dsimp only [Pt.U, Pt.locs, Pt.cells, Pt.slots] at X2 lq2 yq2 zq2 st2 hQ2
  subst lq2 yq2 zq2
  obtain ⟨h2, e2⟩ : ∃ z, T2.heap = z := ⟨_, rfl⟩
  rw [e2] at hQ2
  obtain ⟨r_2, rfl, Nq2, K2, g2_0⟩ := hQ2
  have sz2 : h1.size ≤ h2.size := K2.1
  have N2 := Fr.app N1 Nq2
  have lt2_1 : @LT.lt Nat _ r_2 h2.size := g2_0.lt
  refine own_go (st' := T2.setTop (mkF m 10 #[.val (.int xa), .val (.int xb), .val (.int xc), .val (.int fl), .val (.ref r_1), .unset, .unset, .unset, .unset, .unset] [(.ref r_2)])) (fun t k => st2 t k) ?_
  refine own_go (st' := T2.setTop (mkF m 12 #[.val (.int xa), .val (.int xb), .val (.int xc), .val (.int fl), .val (.ref r_1), .val (.ref r_2), .unset, .unset, .unset, .unset] [])) (fun _ k => XS.astore X2.here hx rfl (hb hby at_10) rfl rfl (l' := #[.val (.int xa), .val (.int xb), .val (.int xc), .val (.int fl), .val (.ref r_1), .val (.ref r_2), .unset, .unset, .unset, .unset]) rfl k) ?_
  refine own_go (st' := T2.setTop (mkF m 13 #[.val (.int xa), .val (.int xb), .val (.int xc), .val (.int fl), .val (.ref r_1), .val (.ref r_2), .unset, .unset, .unset, .unset] [(.int fl)])) (fun _ k => XS.iloadN X2.here hx rfl (hb hby at_12) rfl k) ?_
  refine own_go (st' := T2.setTop (mkF m 14 #[.val (.int xa), .val (.int xb), .val (.int xc), .val (.int fl), .val (.ref r_1), .val (.ref r_2), .unset, .unset, .unset, .unset] [(.int (1 : Int32)), (.int fl)])) (fun _ k => XS.iconst X2.here hx rfl (hb hby at_13) k) ?_
  refine own_go (st' := T2.setTop (mkF m 15 #[.val (.int xa), .val (.int xb), .val (.int xc), .val (.int fl), .val (.ref r_1), .val (.ref r_2), .unset, .unset, .unset, .unset] [(.int (fl &&& (1 : Int32)))])) (fun _ k => XS.iand X2.here hx rfl (hb hby at_14) rfl k) ?_
  by_cases hc6 : (fl &&& (1 : Int32)) = (0 : Int32)
  · --
    refine own_go (st' := T2.setTop (mkF m 22 #[.val (.int xa), .val (.int xb), .val (.int xc), .val (.int fl), .val (.ref r_1), .val (.ref r_2), .unset, .unset, .unset, .unset] [])) (fun _ k => XS.ifYes X2.here hx rfl (pc0 := 15) (pc' := 22) rfl (hb hby at_15) rfl ((if0 _ _).trans (teq hc6).1) (by decide) (by decide) k) ?_
    refine own_go (st' := T2.setTop (mkF m 23 #[.val (.int xa), .val (.int xb), .val (.int xc), .val (.int fl), .val (.ref r_1), .val (.ref r_2), .unset, .unset, .unset, .unset] [(.int xb)])) (fun _ k => XS.iloadN X2.here hx rfl (hb hby at_22) rfl k) ?_
    have c8 : Sta Z h2 "java/lang/Integer$IntegerCache" "high" "I" (.int (127 : Int32)) := (own_sta_keep c3 K2 all0)
    have c9 : Sta Z h2 "java/lang/Integer$IntegerCache" "cache" "[Ljava/lang/Integer;" (.ref ca) := (own_sta_keep c4 K2 all0)
    have c10 : own_Cache Z h2 ca := (own_Cache_keep c5 K2 nin0)
    obtain ⟨_, _, ⟨T7, LC7, kC7, nC7⟩, -, X7, ⟨Lc7, hQ7, lq7, yq7, zq7⟩, st7⟩ := Jvm.LawKit.callS X2 hx (y := (⟨"java/lang/Integer", "valueOf", "(I)Ljava/lang/Integer;"⟩ : MethodName)) hown (mvT hZ (hw _ (List.mem_of_getElem? (i := 0) rfl))) (mvT hZ (hw _ (List.mem_of_getElem? (i := 1) rfl))) (mvT hZ (hw _ (List.mem_of_getElem? (i := 2) rfl))) (mvT hZ (hw _ (List.mem_of_getElem? (i := 3) rfl))) (by decide) (backOf (W := 0) (rm1 l Z a0 hw [] xb ca h2 n0 (by omega) c8 c9 c10) hZ (hw _ (List.mem_of_getElem? (i := 3) rfl)) (hw _ (List.mem_of_getElem? (i := 2) rfl)) (by decide) (by decide)) (g := (mkF m 23 #[.val (.int xa), .val (.int xb), .val (.int xc), .val (.int fl), .val (.ref r_1), .val (.ref r_2), .unset, .unset, .unset, .unset] [(.int xb)])) rfl (by rw [hml]; rfl) (argsL := [(.int xb)]) (rest := []) (lenOf pd_4 rfl) rfl (by show 2 * 0 + _ ≤ _; exact Nat.le_of_eq rfl) (hb hby at_23) (fun _ _ => ⟨rfl, e2, (by decide : 2 + 1 ≤ _), (by decide : 2 + 1 ≤ _)⟩)
    dsimp only [Pt.U, Pt.locs, Pt.cells, Pt.slots] at X7 lq7 yq7 zq7 st7 hQ7
    subst lq7 yq7 zq7
    obtain ⟨h7, e7⟩ : ∃ z, T7.heap = z := ⟨_, rfl⟩
    rw [e7] at hQ7
    obtain ⟨r_7, rfl, Nq7, K7, g7_0⟩ := hQ7
    have sz7 : h2.size ≤ h7.size := K7.1
    have N7 := Fr.app N2 Nq7
    have lt7_1 : @LT.lt Nat _ r_7 h7.size := g7_0.lt
    refine own_go (st' := T7.setTop (mkF m 26 #[.val (.int xa), .val (.int xb), .val (.int xc), .val (.int fl), .val (.ref r_1), .val (.ref r_2), .unset, .unset, .unset, .unset] [(.ref r_7)])) (fun t k => st7 t k) ?_
    refine own_go (st' := T7.setTop (mkF m 28 #[.val (.int xa), .val (.int xb), .val (.int xc), .val (.int fl), .val (.ref r_1), .val (.ref r_2), .val (.ref r_7), .unset, .unset, .unset] [])) (fun _ k => XS.astore X7.here hx rfl (hb hby at_26) rfl rfl (l' := #[.val (.int xa), .val (.int xb), .val (.int xc), .val (.int fl), .val (.ref r_1), .val (.ref r_2), .val (.ref r_7), .unset, .unset, .unset]) rfl k) ?_
    obtain ⟨T11, h11, X11, e11, E11, A11, D11, -, st11⟩ := newO X7 hx hZ hown (hw _ (List.mem_of_getElem? (i := 7) rfl)) (hw _ (List.mem_of_getElem? (i := 8) rfl)) (hw _ (List.mem_of_getElem? (i := 9) rfl)) e7 (g := (mkF m 28 #[.val (.int xa), .val (.int xb), .val (.int xc), .val (.int fl), .val (.ref r_1), .val (.ref r_2), .val (.ref r_7), .unset, .unset, .unset] [])) rfl (hb hby at_28) (by decide) (by decide)
    obtain ⟨b11, g11⟩ : ∃ z, z = h7.size := ⟨_, rfl⟩
    rw [← g11] at A11 D11 st11
    have sz11 : h7.size ≤ h11.size := E11.1
    have lt11 : @LT.lt Nat _ b11 h11.size := A11.lt
    have f12 : Fld Z h11 b11 "com/example/greenwood/greenwood/Environment" "globals" "Ljava/util/Map;" .null := D11 (Or.inr (hw _ (List.mem_of_getElem? (i := 33) rfl))) (ty := (.object "java/util/Map")) (by decide)
    have f13 : Fld Z h11 b11 "com/example/greenwood/greenwood/Environment" "locals" "[Ljava/lang/Object;" .null := D11 (Or.inl (hw _ (List.mem_of_getElem? (i := 37) rfl))) (ty := (.array (.object "java/lang/Object"))) (by decide)
    have f14 : Fld Z h11 b11 "com/example/greenwood/greenwood/Environment" "scopeStarts" "[I" .null := D11 (Or.inl (hw _ (List.mem_of_getElem? (i := 40) rfl))) (ty := (.array .int)) (by decide)
    have f15 : Fld Z h11 b11 "com/example/greenwood/greenwood/Environment" "openScopes" "I" (.int (0 : Int32)) := D11 (Or.inl (hw _ (List.mem_of_getElem? (i := 47) rfl))) (ty := .int) (by decide)
    have f16 : Fld Z h11 b11 "com/example/greenwood/greenwood/Environment" "localCount" "I" (.int (0 : Int32)) := D11 (Or.inl (hw _ (List.mem_of_getElem? (i := 49) rfl))) (ty := .int) (by decide)
    refine own_go (st' := T11.setTop (mkF m 31 #[.val (.int xa), .val (.int xb), .val (.int xc), .val (.int fl), .val (.ref r_1), .val (.ref r_2), .val (.ref r_7), .unset, .unset, .unset] [(.ref b11)])) (st11) ?_
    refine own_go (st' := T11.setTop (mkF m 32 #[.val (.int xa), .val (.int xb), .val (.int xc), .val (.int fl), .val (.ref r_1), .val (.ref r_2), .val (.ref r_7), .unset, .unset, .unset] [(.ref b11), (.ref b11)])) (fun _ k => XS.dup X11.here hx rfl (hb hby at_31) rfl rfl k) ?_
    obtain ⟨_, _, ⟨T17, LC17, kC17, nC17⟩, -, X17, ⟨Lc17, hQ17, lq17, yq17, zq17⟩, st17⟩ := X11.specialBack hx (y := (⟨"com/example/greenwood/greenwood/Environment", "<init>", "()V"⟩ : MethodName)) rfl hown (mvT hZ (hw _ (List.mem_of_getElem? (i := 10) rfl))) (mvT hZ (hw _ (List.mem_of_getElem? (i := 11) rfl))) (mvT hZ (hw _ (List.mem_of_getElem? (i := 12) rfl))) (by decide) (backOf (W := 1) (rm2 l Z a0 hw [] b11 h11 n0 (by omega) A11 f12 f13 f14 f15 f16 (by omega)) hZ (hw _ (List.mem_of_getElem? (i := 12) rfl)) (hw _ (List.mem_of_getElem? (i := 9) rfl)) (by decide) (by decide)) (g := (mkF m 32 #[.val (.int xa), .val (.int xb), .val (.int xc), .val (.int fl), .val (.ref r_1), .val (.ref r_2), .val (.ref r_7), .unset, .unset, .unset] [(.ref b11), (.ref b11)])) rfl (by rw [hml]; rfl) (Steps.refl _) (a := b11) (argsL := []) (rest := [(.ref b11)]) (lenOf pd_0 rfl) rfl (by show 2 * 0 + _ ≤ _; exact Nat.le_of_eq rfl) (hb hby at_32) (fun _ _ => ⟨rfl, e11, (by decide : 4 + 3 ≤ _), (by decide : 8 + 40 ≤ _)⟩)
    dsimp only [Pt.U, Pt.locs, Pt.cells, Pt.slots] at X17 lq17 yq17 zq17 st17 hQ17
    subst lq17 yq17 zq17
    obtain ⟨h17, e17⟩ : ∃ z, T17.heap = z := ⟨_, rfl⟩
    rw [e17] at hQ17
    obtain ⟨rl_17, rs_17, kl_17, ks_17, rfl, Nq17, K17, g17_0, g17_1, g17_2, g17_3, g17_4, g17_5, g17_6, g17_7, g17_8, g17_9, g17_10⟩ := hQ17
    have sz17 : h11.size ≤ h17.size := K17.1
    have N17 := Fr.app N7 Nq17
    have lt17_1 : @LT.lt Nat _ b11 h17.size := g17_0.lt
    have lt17_2 : @LT.lt Nat _ rl_17 h17.size := g17_5.lt
    have lt17_3 : @LT.lt Nat _ rs_17 h17.size := g17_6.lt
    refine own_go (st' := T17.setTop (mkF m 35 #[.val (.int xa), .val (.int xb), .val (.int xc), .val (.int fl), .val (.ref r_1), .val (.ref r_2), .val (.ref r_7), .unset, .unset, .unset] [(.ref b11)])) (fun _ k => st17.trans k) ?_
    refine own_go (st' := T17.setTop (mkF m 37 #[.val (.int xa), .val (.int xb), .val (.int xc), .val (.int fl), .val (.ref r_1), .val (.ref r_2), .val (.ref r_7), .val (.ref b11), .unset, .unset] [])) (fun _ k => XS.astore X17.here hx rfl (hb hby at_35) rfl rfl (l' := #[.val (.int xa), .val (.int xb), .val (.int xc), .val (.int fl), .val (.ref r_1), .val (.ref r_2), .val (.ref r_7), .val (.ref b11), .unset, .unset]) rfl k) ?_
    refine own_go (st' := T17.setTop (mkF m 39 #[.val (.int xa), .val (.int xb), .val (.int xc), .val (.int fl), .val (.ref r_1), .val (.ref r_2), .val (.ref r_7), .val (.ref b11), .unset, .unset] [(.ref b11)])) (fun _ k => XS.aload X17.here hx rfl (hb hby at_37) rfl rfl k) ?_
    obtain ⟨cq18, kq18, q18a, q18b, q18c⟩ := isOf hZ e17 g17_0
    obtain ⟨_, _, ⟨T18, LC18, kC18, nC18⟩, -, X18, ⟨Lc18, hQ18, lq18, yq18, zq18⟩, st18⟩ := X17.virtualBack hx (y := (⟨"com/example/greenwood/greenwood/Environment", "openScope", "()V"⟩ : MethodName)) (z := (⟨"com/example/greenwood/greenwood/Environment", "openScope", "()V"⟩ : MethodName)) hown (mvT hZ (hw _ (List.mem_of_getElem? (i := 41) rfl))) (mvT hZ (hw _ (List.mem_of_getElem? (i := 42) rfl))) (notFace_of_selects (args := #[]) (mvT hZ (hw _ (List.mem_of_getElem? (i := 44) rfl)))) (mvT hZ (hw _ (List.mem_of_getElem? (i := 44) rfl))) (mvT hZ (hw _ (List.mem_of_getElem? (i := 43) rfl))) (by decide) (backOf (W := 0) (rm6 l Z a0 hw [] b11 rl_17 rs_17 ks_17 h17 n0 (by omega) g17_0 g17_1 g17_2 g17_3 g17_4 g17_6 (by omega) (by omega) (by omega) (by first | assumption | exact Ne.symm (by assumption) | (apply Nat.ne_of_lt; omega) | (apply Nat.ne_of_gt; omega)) (by first | assumption | exact Ne.symm (by assumption) | (apply Nat.ne_of_lt; omega) | (apply Nat.ne_of_gt; omega)) (by first | assumption | exact Ne.symm (by assumption) | (apply Nat.ne_of_lt; omega) | (apply Nat.ne_of_gt; omega))) hZ (hw _ (List.mem_of_getElem? (i := 45) rfl)) (hw _ (List.mem_of_getElem? (i := 9) rfl)) (by decide) (by decide)) q18a q18c (g := (mkF m 39 #[.val (.int xa), .val (.int xb), .val (.int xc), .val (.int fl), .val (.ref r_1), .val (.ref r_2), .val (.ref r_7), .val (.ref b11), .unset, .unset] [(.ref b11)])) rfl (by rw [hml]; rfl) (Steps.refl _) (argsL := []) (rest := []) (lenOf pd_0 rfl) rfl (by show 2 * 0 + _ ≤ _; exact Nat.le_of_eq rfl) (hb hby at_39) (fun _ _ => ⟨rfl, e17, (by decide : 7 + 0 ≤ _), (by decide : 48 + 0 ≤ _)⟩)
    dsimp only [Pt.U, Pt.locs, Pt.cells, Pt.slots] at X18 lq18 yq18 zq18 st18 hQ18
    subst lq18 yq18 zq18
    obtain ⟨h18, e18⟩ : ∃ z, T18.heap = z := ⟨_, rfl⟩
    rw [e18] at hQ18
    obtain ⟨rfl, Nq18, K18, g18_0, g18_1, g18_2, g18_3, g18_4, g18_5⟩ := hQ18
    have sz18 : h17.size ≤ h18.size := K18.1
    have N18 := Fr.app N17 Nq18
    have lt18_1 : @LT.lt Nat _ b11 h18.size := g18_0.lt
    have lt18_2 : @LT.lt Nat _ rs_17 h18.size := g18_5.lt
    refine own_go (st' := T18.setTop (mkF m 42 #[.val (.int xa), .val (.int xb), .val (.int xc), .val (.int fl), .val (.ref r_1), .val (.ref r_2), .val (.ref r_7), .val (.ref b11), .unset, .unset] [])) (fun _ k => st18.trans k) ?_
    refine own_go (st' := T18.setTop (mkF m 44 #[.val (.int xa), .val (.int xb), .val (.int xc), .val (.int fl), .val (.ref r_1), .val (.ref r_2), .val (.ref r_7), .val (.ref b11), .unset, .unset] [(.ref b11)])) (fun _ k => XS.aload X18.here hx rfl (hb hby at_42) rfl rfl k) ?_
    have c20 : Arv Z h18 rl_17 kl_17 (.object "java/lang/Object") (16 : Int32) [.null, .null, .null, .null, .null, .null, .null, .null, .null, .null, .null, .null, .null, .null, .null, .null] .null := (g17_5.keep K18 (ninS (by first | assumption | exact Ne.symm (by assumption) | (apply Nat.ne_of_lt; omega) | (apply Nat.ne_of_gt; omega)) (ninS (by first | assumption | exact Ne.symm (by assumption) | (apply Nat.ne_of_lt; omega) | (apply Nat.ne_of_gt; omega)) nin0)))
    obtain ⟨cq19, kq19, q19a, q19b, q19c⟩ := isOf hZ e18 g18_0
    obtain ⟨_, _, ⟨T19, LC19, kC19, nC19⟩, -, X19, ⟨Lc19, hQ19, lq19, yq19, zq19⟩, st19⟩ := X18.virtualBack hx (y := (⟨"com/example/greenwood/greenwood/Environment", "declare", "()V"⟩ : MethodName)) (z := (⟨"com/example/greenwood/greenwood/Environment", "declare", "()V"⟩ : MethodName)) hown (mvT hZ (hw _ (List.mem_of_getElem? (i := 50) rfl))) (mvT hZ (hw _ (List.mem_of_getElem? (i := 51) rfl))) (notFace_of_selects (args := #[]) (mvT hZ (hw _ (List.mem_of_getElem? (i := 53) rfl)))) (mvT hZ (hw _ (List.mem_of_getElem? (i := 53) rfl))) (mvT hZ (hw _ (List.mem_of_getElem? (i := 52) rfl))) (by decide) (backOf (W := 0) (rm7_0 l Z a0 hw [] b11 rl_17 rs_17 kl_17 [.null, .null, .null, .null, .null, .null, .null, .null, .null, .null, .null, .null, .null, .null, .null, .null] h18 n0 (by omega) g18_0 g18_1 g18_2 g18_3 g18_4 c20 (by omega) (by first | assumption | exact Ne.symm (by assumption) | (apply Nat.ne_of_lt; omega) | (apply Nat.ne_of_gt; omega))) hZ (hw _ (List.mem_of_getElem? (i := 54) rfl)) (hw _ (List.mem_of_getElem? (i := 9) rfl)) (by decide) (by decide)) q19a q19c (g := (mkF m 44 #[.val (.int xa), .val (.int xb), .val (.int xc), .val (.int fl), .val (.ref r_1), .val (.ref r_2), .val (.ref r_7), .val (.ref b11), .unset, .unset] [(.ref b11)])) rfl (by rw [hml]; rfl) (Steps.refl _) (argsL := []) (rest := []) (lenOf pd_0 rfl) rfl (by show 2 * 0 + _ ≤ _; exact Nat.le_of_eq rfl) (hb hby at_44) (fun _ _ => ⟨rfl, e18, (by decide : 7 + 0 ≤ _), (by decide : 48 + 0 ≤ _)⟩)
    dsimp only [Pt.U, Pt.locs, Pt.cells, Pt.slots] at X19 lq19 yq19 zq19 st19 hQ19
    subst lq19 yq19 zq19
    obtain ⟨h19, e19⟩ : ∃ z, T19.heap = z := ⟨_, rfl⟩
    rw [e19] at hQ19
    obtain ⟨rfl, Nq19, K19, g19_0, g19_1, g19_2, g19_3, g19_4⟩ := hQ19
    have sz19 : h18.size ≤ h19.size := K19.1
    have N19 := Fr.app N18 Nq19
    have lt19_1 : @LT.lt Nat _ b11 h19.size := g19_0.lt
    refine own_go (st' := T19.setTop (mkF m 47 #[.val (.int xa), .val (.int xb), .val (.int xc), .val (.int fl), .val (.ref r_1), .val (.ref r_2), .val (.ref r_7), .val (.ref b11), .unset, .unset] [])) (fun _ k => st19.trans k) ?_
    refine own_go (st' := T19.setTop (mkF m 49 #[.val (.int xa), .val (.int xb), .val (.int xc), .val (.int fl), .val (.ref r_1), .val (.ref r_2), .val (.ref r_7), .val (.ref b11), .unset, .unset] [(.ref b11)])) (fun _ k => XS.aload X19.here hx rfl (hb hby at_47) rfl rfl k) ?_
    refine own_go (st' := T19.setTop (mkF m 51 #[.val (.int xa), .val (.int xb), .val (.int xc), .val (.int fl), .val (.ref r_1), .val (.ref r_2), .val (.ref r_7), .val (.ref b11), .unset, .unset] [(.ref r_1), (.ref b11)])) (fun _ k => XS.aload X19.here hx rfl (hb hby at_49) rfl rfl k) ?_
    have c22 : Arv Z h19 rl_17 kl_17 (.object "java/lang/Object") (16 : Int32) [.null, .null, .null, .null, .null, .null, .null, .null, .null, .null, .null, .null, .null, .null, .null, .null] .null := (c20.keep K19 (ninS (by first | assumption | exact Ne.symm (by assumption) | (apply Nat.ne_of_lt; omega) | (apply Nat.ne_of_gt; omega)) nin0))
    have c23 : Exa Z h19 r_1 "java/lang/Integer" := ((((((g1_0.keep K2).keep K7).ext E11).keep K17).keep K18).keep K19)
    obtain ⟨cq21, kq21, q21a, q21b, q21c⟩ := isOf hZ e19 g19_0
    obtain ⟨_, _, ⟨T21, LC21, kC21, nC21⟩, -, X21, ⟨Lc21, hQ21, lq21, yq21, zq21⟩, st21⟩ := X19.virtualBack hx (y := (site_51 : MethodName)) (z := (site_51 : MethodName)) hown (mvT hZ (hw _ (List.mem_of_getElem? (i := 55) rfl))) (mvT hZ (hw _ (List.mem_of_getElem? (i := 56) rfl))) (notFace_of_selects (args := #[]) (mvT hZ (hw _ (List.mem_of_getElem? (i := 58) rfl)))) (mvT hZ (hw _ (List.mem_of_getElem? (i := 58) rfl))) (mvT hZ (hw _ (List.mem_of_getElem? (i := 57) rfl))) (by decide) (backOf (W := 0) (rm8_1R l Z a0 hw [] b11 rl_17 rs_17 kl_17 r_1 .null .null h19 n0 (by omega) g19_0 g19_1 g19_2 g19_3 g19_4 c22 g17_7 (by omega) (by first | assumption | exact Ne.symm (by assumption) | (apply Nat.ne_of_lt; omega) | (apply Nat.ne_of_gt; omega)) c23) hZ (hw _ (List.mem_of_getElem? (i := 59) rfl)) (hw _ (List.mem_of_getElem? (i := 9) rfl)) (by decide) (by decide)) q21a q21c (g := (mkF m 51 #[.val (.int xa), .val (.int xb), .val (.int xc), .val (.int fl), .val (.ref r_1), .val (.ref r_2), .val (.ref r_7), .val (.ref b11), .unset, .unset] [(.ref r_1), (.ref b11)])) rfl (by rw [hml]; rfl) (Steps.refl _) (argsL := [(.ref r_1)]) (rest := []) (lenOf pd_5 rfl) rfl (by show 2 * 0 + _ ≤ _; exact Nat.le_of_eq rfl) (hb hby at_51) (fun _ _ => ⟨rfl, e19, (by decide : 7 + 0 ≤ _), (by decide : 48 + 0 ≤ _)⟩)
    dsimp only [Pt.U, Pt.locs, Pt.cells, Pt.slots] at X21 lq21 yq21 zq21 st21 hQ21
    subst lq21 yq21 zq21
    obtain ⟨h21, e21⟩ : ∃ z, T21.heap = z := ⟨_, rfl⟩
    rw [e21] at hQ21
    obtain ⟨rfl, Nq21, K21, g21_0⟩ := hQ21
    have sz21 : h19.size ≤ h21.size := K21.1
    have N21 := Fr.app N19 Nq21
    have lt21_1 : @LT.lt Nat _ rl_17 h21.size := g21_0.lt
    refine own_go (st' := T21.setTop (mkF m 54 #[.val (.int xa), .val (.int xb), .val (.int xc), .val (.int fl), .val (.ref r_1), .val (.ref r_2), .val (.ref r_7), .val (.ref b11), .unset, .unset] [])) (fun _ k => st21.trans k) ?_
    refine own_go (st' := T21.setTop (mkF m 56 #[.val (.int xa), .val (.int xb), .val (.int xc), .val (.int fl), .val (.ref r_1), .val (.ref r_2), .val (.ref r_7), .val (.ref b11), .unset, .unset] [(.ref b11)])) (fun _ k => XS.aload X21.here hx rfl (hb hby at_54) rfl rfl k) ?_
    have c25 : Exa Z h21 b11 "com/example/greenwood/greenwood/Environment" := (g19_0.keep K21)
    have c26 : Fld Z h21 b11 "com/example/greenwood/greenwood/Environment" "openScopes" "I" (.int (1 : Int32)) := (g19_1.keep K21 (ninS (by first | assumption | exact Ne.symm (by assumption) | (apply Nat.ne_of_lt; omega) | (apply Nat.ne_of_gt; omega)) nin0))
    have c27 : Fld Z h21 b11 "com/example/greenwood/greenwood/Environment" "localCount" "I" (.int (1 : Int32)) := (g19_2.keep K21 (ninS (by first | assumption | exact Ne.symm (by assumption) | (apply Nat.ne_of_lt; omega) | (apply Nat.ne_of_gt; omega)) nin0))
    have c28 : Fld Z h21 b11 "com/example/greenwood/greenwood/Environment" "locals" "[Ljava/lang/Object;" (.ref rl_17) := (g19_3.keep K21 (ninS (by first | assumption | exact Ne.symm (by assumption) | (apply Nat.ne_of_lt; omega) | (apply Nat.ne_of_gt; omega)) nin0))
    have c29 : Fld Z h21 b11 "com/example/greenwood/greenwood/Environment" "scopeStarts" "[I" (.ref rs_17) := (g19_4.keep K21 (ninS (by first | assumption | exact Ne.symm (by assumption) | (apply Nat.ne_of_lt; omega) | (apply Nat.ne_of_gt; omega)) nin0))
    obtain ⟨cq24, kq24, q24a, q24b, q24c⟩ := isOf hZ e21 c25
    obtain ⟨_, _, ⟨T24, LC24, kC24, nC24⟩, -, X24, ⟨Lc24, hQ24, lq24, yq24, zq24⟩, st24⟩ := X21.virtualBack hx (y := (⟨"com/example/greenwood/greenwood/Environment", "declare", "()V"⟩ : MethodName)) (z := (⟨"com/example/greenwood/greenwood/Environment", "declare", "()V"⟩ : MethodName)) hown (mvT hZ (hw _ (List.mem_of_getElem? (i := 50) rfl))) (mvT hZ (hw _ (List.mem_of_getElem? (i := 51) rfl))) (notFace_of_selects (args := #[]) (mvT hZ (hw _ (List.mem_of_getElem? (i := 53) rfl)))) (mvT hZ (hw _ (List.mem_of_getElem? (i := 53) rfl))) (mvT hZ (hw _ (List.mem_of_getElem? (i := 52) rfl))) (by decide) (backOf (W := 0) (rm7_1 l Z a0 hw [] b11 rl_17 rs_17 kl_17 [(.ref r_1), .null, .null, .null, .null, .null, .null, .null, .null, .null, .null, .null, .null, .null, .null, .null] h21 n0 (by omega) c25 c26 c27 c28 c29 g21_0 (by omega) (by first | assumption | exact Ne.symm (by assumption) | (apply Nat.ne_of_lt; omega) | (apply Nat.ne_of_gt; omega))) hZ (hw _ (List.mem_of_getElem? (i := 54) rfl)) (hw _ (List.mem_of_getElem? (i := 9) rfl)) (by decide) (by decide)) q24a q24c (g := (mkF m 56 #[.val (.int xa), .val (.int xb), .val (.int xc), .val (.int fl), .val (.ref r_1), .val (.ref r_2), .val (.ref r_7), .val (.ref b11), .unset, .unset] [(.ref b11)])) rfl (by rw [hml]; rfl) (Steps.refl _) (argsL := []) (rest := []) (lenOf pd_0 rfl) rfl (by show 2 * 0 + _ ≤ _; exact Nat.le_of_eq rfl) (hb hby at_56) (fun _ _ => ⟨rfl, e21, (by decide : 7 + 0 ≤ _), (by decide : 48 + 0 ≤ _)⟩)
    dsimp only [Pt.U, Pt.locs, Pt.cells, Pt.slots] at X24 lq24 yq24 zq24 st24 hQ24
    subst lq24 yq24 zq24
    obtain ⟨h24, e24⟩ : ∃ z, T24.heap = z := ⟨_, rfl⟩
    rw [e24] at hQ24
    obtain ⟨rfl, Nq24, K24, g24_0, g24_1, g24_2, g24_3, g24_4⟩ := hQ24
    have sz24 : h21.size ≤ h24.size := K24.1
    have N24 := Fr.app N21 Nq24
    have lt24_1 : @LT.lt Nat _ b11 h24.size := g24_0.lt
    refine own_go (st' := T24.setTop (mkF m 59 #[.val (.int xa), .val (.int xb), .val (.int xc), .val (.int fl), .val (.ref r_1), .val (.ref r_2), .val (.ref r_7), .val (.ref b11), .unset, .unset] [])) (fun _ k => st24.trans k) ?_
    refine own_go (st' := T24.setTop (mkF m 61 #[.val (.int xa), .val (.int xb), .val (.int xc), .val (.int fl), .val (.ref r_1), .val (.ref r_2), .val (.ref r_7), .val (.ref b11), .unset, .unset] [(.ref b11)])) (fun _ k => XS.aload X24.here hx rfl (hb hby at_59) rfl rfl k) ?_
    refine own_go (st' := T24.setTop (mkF m 63 #[.val (.int xa), .val (.int xb), .val (.int xc), .val (.int fl), .val (.ref r_1), .val (.ref r_2), .val (.ref r_7), .val (.ref b11), .unset, .unset] [(.ref r_2), (.ref b11)])) (fun _ k => XS.aload X24.here hx rfl (hb hby at_61) rfl rfl k) ?_
    have c31 : Arv Z h24 rl_17 kl_17 (.object "java/lang/Object") (16 : Int32) [(.ref r_1), .null, .null, .null, .null, .null, .null, .null, .null, .null, .null, .null, .null, .null, .null, .null] .null := (g21_0.keep K24 (ninS (by first | assumption | exact Ne.symm (by assumption) | (apply Nat.ne_of_lt; omega) | (apply Nat.ne_of_gt; omega)) nin0))
    have c32 : Exa Z h24 r_2 "java/lang/Integer" := (((((((g2_0.keep K7).ext E11).keep K17).keep K18).keep K19).keep K21).keep K24)
    obtain ⟨cq30, kq30, q30a, q30b, q30c⟩ := isOf hZ e24 g24_0
    obtain ⟨_, _, ⟨T30, LC30, kC30, nC30⟩, -, X30, ⟨Lc30, hQ30, lq30, yq30, zq30⟩, st30⟩ := X24.virtualBack hx (y := (site_51 : MethodName)) (z := (site_51 : MethodName)) hown (mvT hZ (hw _ (List.mem_of_getElem? (i := 55) rfl))) (mvT hZ (hw _ (List.mem_of_getElem? (i := 56) rfl))) (notFace_of_selects (args := #[]) (mvT hZ (hw _ (List.mem_of_getElem? (i := 58) rfl)))) (mvT hZ (hw _ (List.mem_of_getElem? (i := 58) rfl))) (mvT hZ (hw _ (List.mem_of_getElem? (i := 57) rfl))) (by decide) (backOf (W := 0) (rm8_2R l Z a0 hw [] b11 rl_17 rs_17 kl_17 r_2 (.ref r_1) .null h24 n0 (by omega) g24_0 g24_1 g24_2 g24_3 g24_4 c31 g17_7 (by omega) (by first | assumption | exact Ne.symm (by assumption) | (apply Nat.ne_of_lt; omega) | (apply Nat.ne_of_gt; omega)) c32) hZ (hw _ (List.mem_of_getElem? (i := 59) rfl)) (hw _ (List.mem_of_getElem? (i := 9) rfl)) (by decide) (by decide)) q30a q30c (g := (mkF m 63 #[.val (.int xa), .val (.int xb), .val (.int xc), .val (.int fl), .val (.ref r_1), .val (.ref r_2), .val (.ref r_7), .val (.ref b11), .unset, .unset] [(.ref r_2), (.ref b11)])) rfl (by rw [hml]; rfl) (Steps.refl _) (argsL := [(.ref r_2)]) (rest := []) (lenOf pd_5 rfl) rfl (by show 2 * 0 + _ ≤ _; exact Nat.le_of_eq rfl) (hb hby at_63) (fun _ _ => ⟨rfl, e24, (by decide : 7 + 0 ≤ _), (by decide : 48 + 0 ≤ _)⟩)
    dsimp only [Pt.U, Pt.locs, Pt.cells, Pt.slots] at X30 lq30 yq30 zq30 st30 hQ30
    subst lq30 yq30 zq30
    obtain ⟨h30, e30⟩ : ∃ z, T30.heap = z := ⟨_, rfl⟩
    rw [e30] at hQ30
    obtain ⟨rfl, Nq30, K30, g30_0⟩ := hQ30
    have sz30 : h24.size ≤ h30.size := K30.1
    have N30 := Fr.app N24 Nq30
    have lt30_1 : @LT.lt Nat _ rl_17 h30.size := g30_0.lt
    refine own_go (st' := T30.setTop (mkF m 66 #[.val (.int xa), .val (.int xb), .val (.int xc), .val (.int fl), .val (.ref r_1), .val (.ref r_2), .val (.ref r_7), .val (.ref b11), .unset, .unset] [])) (fun _ k => st30.trans k) ?_
    refine own_go (st' := T30.setTop (mkF m 68 #[.val (.int xa), .val (.int xb), .val (.int xc), .val (.int fl), .val (.ref r_1), .val (.ref r_2), .val (.ref r_7), .val (.ref b11), .unset, .unset] [(.ref b11)])) (fun _ k => XS.aload X30.here hx rfl (hb hby at_66) rfl rfl k) ?_
    refine own_go (st' := T30.setTop (mkF m 70 #[.val (.int xa), .val (.int xb), .val (.int xc), .val (.int fl), .val (.ref r_1), .val (.ref r_2), .val (.ref r_7), .val (.ref b11), .unset, .unset] [(.ref r_7), (.ref b11)])) (fun _ k => XS.aload X30.here hx rfl (hb hby at_68) rfl rfl k) ?_
    have c34 : Exa Z h30 b11 "com/example/greenwood/greenwood/Environment" := (g24_0.keep K30)
    have c35 : Fld Z h30 b11 "com/example/greenwood/greenwood/Environment" "openScopes" "I" (.int (1 : Int32)) := (g24_1.keep K30 (ninS (by first | assumption | exact Ne.symm (by assumption) | (apply Nat.ne_of_lt; omega) | (apply Nat.ne_of_gt; omega)) nin0))
    have c36 : Fld Z h30 b11 "com/example/greenwood/greenwood/Environment" "localCount" "I" (.int (2 : Int32)) := (g24_2.keep K30 (ninS (by first | assumption | exact Ne.symm (by assumption) | (apply Nat.ne_of_lt; omega) | (apply Nat.ne_of_gt; omega)) nin0))
    have c37 : Fld Z h30 b11 "com/example/greenwood/greenwood/Environment" "locals" "[Ljava/lang/Object;" (.ref rl_17) := (g24_3.keep K30 (ninS (by first | assumption | exact Ne.symm (by assumption) | (apply Nat.ne_of_lt; omega) | (apply Nat.ne_of_gt; omega)) nin0))
    have c38 : Fld Z h30 b11 "com/example/greenwood/greenwood/Environment" "scopeStarts" "[I" (.ref rs_17) := (g24_4.keep K30 (ninS (by first | assumption | exact Ne.symm (by assumption) | (apply Nat.ne_of_lt; omega) | (apply Nat.ne_of_gt; omega)) nin0))
    have c39 : Exa Z h30 r_7 "java/lang/Integer" := (((((((g7_0.ext E11).keep K17).keep K18).keep K19).keep K21).keep K24).keep K30)
    obtain ⟨cq33, kq33, q33a, q33b, q33c⟩ := isOf hZ e30 c34
    obtain ⟨_, _, ⟨T33, LC33, kC33, nC33⟩, -, X33, ⟨Lc33, hQ33, lq33, yq33, zq33⟩, st33⟩ := X30.virtualBack hx (y := (site_51 : MethodName)) (z := (site_51 : MethodName)) hown (mvT hZ (hw _ (List.mem_of_getElem? (i := 55) rfl))) (mvT hZ (hw _ (List.mem_of_getElem? (i := 56) rfl))) (notFace_of_selects (args := #[]) (mvT hZ (hw _ (List.mem_of_getElem? (i := 58) rfl)))) (mvT hZ (hw _ (List.mem_of_getElem? (i := 58) rfl))) (mvT hZ (hw _ (List.mem_of_getElem? (i := 57) rfl))) (by decide) (backOf (W := 0) (rm8_2R l Z a0 hw [] b11 rl_17 rs_17 kl_17 r_7 (.ref r_1) (.ref r_2) h30 n0 (by omega) c34 c35 c36 c37 c38 g30_0 g17_7 (by omega) (by first | assumption | exact Ne.symm (by assumption) | (apply Nat.ne_of_lt; omega) | (apply Nat.ne_of_gt; omega)) c39) hZ (hw _ (List.mem_of_getElem? (i := 59) rfl)) (hw _ (List.mem_of_getElem? (i := 9) rfl)) (by decide) (by decide)) q33a q33c (g := (mkF m 70 #[.val (.int xa), .val (.int xb), .val (.int xc), .val (.int fl), .val (.ref r_1), .val (.ref r_2), .val (.ref r_7), .val (.ref b11), .unset, .unset] [(.ref r_7), (.ref b11)])) rfl (by rw [hml]; rfl) (Steps.refl _) (argsL := [(.ref r_7)]) (rest := []) (lenOf pd_5 rfl) rfl (by show 2 * 0 + _ ≤ _; exact Nat.le_of_eq rfl) (hb hby at_70) (fun _ _ => ⟨rfl, e30, (by decide : 7 + 0 ≤ _), (by decide : 48 + 0 ≤ _)⟩)
    dsimp only [Pt.U, Pt.locs, Pt.cells, Pt.slots] at X33 lq33 yq33 zq33 st33 hQ33
    subst lq33 yq33 zq33
    obtain ⟨h33, e33⟩ : ∃ z, T33.heap = z := ⟨_, rfl⟩
    rw [e33] at hQ33
    obtain ⟨rfl, Nq33, K33, g33_0⟩ := hQ33
    have sz33 : h30.size ≤ h33.size := K33.1
    have N33 := Fr.app N30 Nq33
    have lt33_1 : @LT.lt Nat _ rl_17 h33.size := g33_0.lt
    refine own_go (st' := T33.setTop (mkF m 73 #[.val (.int xa), .val (.int xb), .val (.int xc), .val (.int fl), .val (.ref r_1), .val (.ref r_2), .val (.ref r_7), .val (.ref b11), .unset, .unset] [])) (fun _ k => st33.trans k) ?_
    refine own_go (st' := T33.setTop (mkF m 75 #[.val (.int xa), .val (.int xb), .val (.int xc), .val (.int fl), .val (.ref r_1), .val (.ref r_2), .val (.ref r_7), .val (.ref b11), .unset, .unset] [(.ref b11)])) (fun _ k => XS.aload X33.here hx rfl (hb hby at_73) rfl rfl k) ?_
    obtain ⟨T40, h40, X40, e40, E40, A40, D40, -, st40⟩ := newO X33 hx hZ hown (hw _ (List.mem_of_getElem? (i := 61) rfl)) (hw _ (List.mem_of_getElem? (i := 62) rfl)) (hw _ (List.mem_of_getElem? (i := 63) rfl)) e33 (g := (mkF m 75 #[.val (.int xa), .val (.int xb), .val (.int xc), .val (.int fl), .val (.ref r_1), .val (.ref r_2), .val (.ref r_7), .val (.ref b11), .unset, .unset] [(.ref b11)])) rfl (hb hby at_75) (by decide) (by decide)
    obtain ⟨b40, g40⟩ : ∃ z, z = h33.size := ⟨_, rfl⟩
    rw [← g40] at A40 D40 st40
    have sz40 : h33.size ≤ h40.size := E40.1
    have lt40 : @LT.lt Nat _ b40 h40.size := A40.lt
    have f41 : Fld Z h40 b40 "com/example/greenwood/greenwood/Local" "depth" "I" (.int (0 : Int32)) := D40 (Or.inr (hw _ (List.mem_of_getElem? (i := 74) rfl))) (ty := .int) (by decide)
    have f42 : Fld Z h40 b40 "com/example/greenwood/greenwood/Local" "slot" "I" (.int (0 : Int32)) := D40 (Or.inr (hw _ (List.mem_of_getElem? (i := 76) rfl))) (ty := .int) (by decide)
    refine own_go (st' := T40.setTop (mkF m 78 #[.val (.int xa), .val (.int xb), .val (.int xc), .val (.int fl), .val (.ref r_1), .val (.ref r_2), .val (.ref r_7), .val (.ref b11), .unset, .unset] [(.ref b40), (.ref b11)])) (st40) ?_
    refine own_go (st' := T40.setTop (mkF m 79 #[.val (.int xa), .val (.int xb), .val (.int xc), .val (.int fl), .val (.ref r_1), .val (.ref r_2), .val (.ref r_7), .val (.ref b11), .unset, .unset] [(.ref b40), (.ref b40), (.ref b11)])) (fun _ k => XS.dup X40.here hx rfl (hb hby at_78) rfl rfl k) ?_
    refine own_go (st' := T40.setTop (mkF m 80 #[.val (.int xa), .val (.int xb), .val (.int xc), .val (.int fl), .val (.ref r_1), .val (.ref r_2), .val (.ref r_7), .val (.ref b11), .unset, .unset] [(.int (0 : Int32)), (.ref b40), (.ref b40), (.ref b11)])) (fun _ k => XS.iconst X40.here hx rfl (hb hby at_79) k) ?_
    refine own_go (st' := T40.setTop (mkF m 81 #[.val (.int xa), .val (.int xb), .val (.int xc), .val (.int fl), .val (.ref r_1), .val (.ref r_2), .val (.ref r_7), .val (.ref b11), .unset, .unset] [(.int (0 : Int32)), (.int (0 : Int32)), (.ref b40), (.ref b40), (.ref b11)])) (fun _ k => XS.iconst X40.here hx rfl (hb hby at_80) k) ?_
    obtain ⟨_, _, ⟨T43, LC43, kC43, nC43⟩, -, X43, ⟨Lc43, hQ43, lq43, yq43, zq43⟩, st43⟩ := X40.specialBack hx (y := (⟨"com/example/greenwood/greenwood/Local", "<init>", "(II)V"⟩ : MethodName)) rfl hown (mvT hZ (hw _ (List.mem_of_getElem? (i := 64) rfl))) (mvT hZ (hw _ (List.mem_of_getElem? (i := 65) rfl))) (mvT hZ (hw _ (List.mem_of_getElem? (i := 66) rfl))) (by decide) (backOf (W := 2) (rm9 l Z a0 hw [] b40 (0 : Int32) (0 : Int32) (0 : Int32) (0 : Int32) h40 n0 (by omega) A40 f41 f42 (by omega)) hZ (hw _ (List.mem_of_getElem? (i := 66) rfl)) (hw _ (List.mem_of_getElem? (i := 63) rfl)) (by decide) (by decide)) (g := (mkF m 81 #[.val (.int xa), .val (.int xb), .val (.int xc), .val (.int fl), .val (.ref r_1), .val (.ref r_2), .val (.ref r_7), .val (.ref b11), .unset, .unset] [(.int (0 : Int32)), (.int (0 : Int32)), (.ref b40), (.ref b40), (.ref b11)])) rfl (by rw [hml]; rfl) (Steps.refl _) (a := b40) (argsL := [(.int (0 : Int32)), (.int (0 : Int32))]) (rest := [(.ref b40), (.ref b11)]) (lenOf pd_6 rfl) rfl (by show 2 * 0 + _ ≤ _; exact Nat.le_of_eq rfl) (hb hby at_81) (fun _ _ => ⟨rfl, e40, (by decide : 8 + 0 ≤ _), (by decide : 50 + 0 ≤ _)⟩)
    dsimp only [Pt.U, Pt.locs, Pt.cells, Pt.slots] at X43 lq43 yq43 zq43 st43 hQ43
    subst lq43 yq43 zq43
    obtain ⟨h43, e43⟩ : ∃ z, T43.heap = z := ⟨_, rfl⟩
    rw [e43] at hQ43
    obtain ⟨rfl, Nq43, K43, g43_0, g43_1, g43_2⟩ := hQ43
    have sz43 : h40.size ≤ h43.size := K43.1
    have N43 := Fr.app N33 Nq43
    have lt43_1 : @LT.lt Nat _ b40 h43.size := g43_0.lt
    refine own_go (st' := T43.setTop (mkF m 84 #[.val (.int xa), .val (.int xb), .val (.int xc), .val (.int fl), .val (.ref r_1), .val (.ref r_2), .val (.ref r_7), .val (.ref b11), .unset, .unset] [(.ref b40), (.ref b11)])) (fun _ k => st43.trans k) ?_
    have c45 : Exa Z h43 b11 "com/example/greenwood/greenwood/Environment" := (((c34.keep K33).ext E40).keep K43)
    have c46 : Fld Z h43 b11 "com/example/greenwood/greenwood/Environment" "openScopes" "I" (.int (1 : Int32)) := (((c35.keep K33 (ninS (by first | assumption | exact Ne.symm (by assumption) | (apply Nat.ne_of_lt; omega) | (apply Nat.ne_of_gt; omega)) nin0)).ext E40).keep K43 (ninS (by first | assumption | exact Ne.symm (by assumption) | (apply Nat.ne_of_lt; omega) | (apply Nat.ne_of_gt; omega)) nin0))
    have c47 : Fld Z h43 b11 "com/example/greenwood/greenwood/Environment" "localCount" "I" (.int (2 : Int32)) := (((c36.keep K33 (ninS (by first | assumption | exact Ne.symm (by assumption) | (apply Nat.ne_of_lt; omega) | (apply Nat.ne_of_gt; omega)) nin0)).ext E40).keep K43 (ninS (by first | assumption | exact Ne.symm (by assumption) | (apply Nat.ne_of_lt; omega) | (apply Nat.ne_of_gt; omega)) nin0))
    have c48 : Fld Z h43 b11 "com/example/greenwood/greenwood/Environment" "locals" "[Ljava/lang/Object;" (.ref rl_17) := (((c37.keep K33 (ninS (by first | assumption | exact Ne.symm (by assumption) | (apply Nat.ne_of_lt; omega) | (apply Nat.ne_of_gt; omega)) nin0)).ext E40).keep K43 (ninS (by first | assumption | exact Ne.symm (by assumption) | (apply Nat.ne_of_lt; omega) | (apply Nat.ne_of_gt; omega)) nin0))
    have c49 : Fld Z h43 b11 "com/example/greenwood/greenwood/Environment" "scopeStarts" "[I" (.ref rs_17) := (((c38.keep K33 (ninS (by first | assumption | exact Ne.symm (by assumption) | (apply Nat.ne_of_lt; omega) | (apply Nat.ne_of_gt; omega)) nin0)).ext E40).keep K43 (ninS (by first | assumption | exact Ne.symm (by assumption) | (apply Nat.ne_of_lt; omega) | (apply Nat.ne_of_gt; omega)) nin0))
    have c50 : Arv Z h43 rl_17 kl_17 (.object "java/lang/Object") (16 : Int32) [(.ref r_1), (.ref r_7), .null, .null, .null, .null, .null, .null, .null, .null, .null, .null, .null, .null, .null, .null] .null := ((g33_0.ext E40).keep K43 (ninS (by first | assumption | exact Ne.symm (by assumption) | (apply Nat.ne_of_lt; omega) | (apply Nat.ne_of_gt; omega)) nin0))
    have c51 : Arv Z h43 rs_17 ks_17 .int (16 : Int32) [(.int (0 : Int32)), (.int (0 : Int32)), (.int (0 : Int32)), (.int (0 : Int32)), (.int (0 : Int32)), (.int (0 : Int32)), (.int (0 : Int32)), (.int (0 : Int32)), (.int (0 : Int32)), (.int (0 : Int32)), (.int (0 : Int32)), (.int (0 : Int32)), (.int (0 : Int32)), (.int (0 : Int32)), (.int (0 : Int32)), (.int (0 : Int32))] (.int (0 : Int32)) := (((((((g18_5.keep K19 (ninS (by first | assumption | exact Ne.symm (by assumption) | (apply Nat.ne_of_lt; omega) | (apply Nat.ne_of_gt; omega)) nin0)).keep K21 (ninS (by first | assumption | exact Ne.symm (by assumption) | (apply Nat.ne_of_lt; omega) | (apply Nat.ne_of_gt; omega)) nin0)).keep K24 (ninS (by first | assumption | exact Ne.symm (by assumption) | (apply Nat.ne_of_lt; omega) | (apply Nat.ne_of_gt; omega)) nin0)).keep K30 (ninS (by first | assumption | exact Ne.symm (by assumption) | (apply Nat.ne_of_lt; omega) | (apply Nat.ne_of_gt; omega)) nin0)).keep K33 (ninS (by first | assumption | exact Ne.symm (by assumption) | (apply Nat.ne_of_lt; omega) | (apply Nat.ne_of_gt; omega)) nin0)).ext E40).keep K43 (ninS (by first | assumption | exact Ne.symm (by assumption) | (apply Nat.ne_of_lt; omega) | (apply Nat.ne_of_gt; omega)) nin0))
    obtain ⟨cq44, kq44, q44a, q44b, q44c⟩ := isOf hZ e43 c45
    obtain ⟨_, _, ⟨T44, LC44, kC44, nC44⟩, -, X44, ⟨Lc44, hQ44, lq44, yq44, zq44⟩, st44⟩ := X43.virtualBack hx (y := (⟨"com/example/greenwood/greenwood/Environment", "get", "(Lcom/example/greenwood/greenwood/Local;)Ljava/lang/Object;"⟩ : MethodName)) (z := (⟨"com/example/greenwood/greenwood/Environment", "get", "(Lcom/example/greenwood/greenwood/Local;)Ljava/lang/Object;"⟩ : MethodName)) hown (mvT hZ (hw _ (List.mem_of_getElem? (i := 77) rfl))) (mvT hZ (hw _ (List.mem_of_getElem? (i := 78) rfl))) (notFace_of_selects (args := #[]) (mvT hZ (hw _ (List.mem_of_getElem? (i := 80) rfl)))) (mvT hZ (hw _ (List.mem_of_getElem? (i := 80) rfl))) (mvT hZ (hw _ (List.mem_of_getElem? (i := 79) rfl))) (by decide) (backOf (W := 0) (rm11_0 l Z a0 hw [] b11 rl_17 rs_17 kl_17 ks_17 b40 (.ref r_1) (.ref r_7) h43 n0 (by omega) c45 c46 c47 c48 c49 c50 c51 g43_0 g43_1 g43_2 rfl) hZ (hw _ (List.mem_of_getElem? (i := 81) rfl)) (hw _ (List.mem_of_getElem? (i := 9) rfl)) (by decide) (by decide)) q44a q44c (g := (mkF m 84 #[.val (.int xa), .val (.int xb), .val (.int xc), .val (.int fl), .val (.ref r_1), .val (.ref r_2), .val (.ref r_7), .val (.ref b11), .unset, .unset] [(.ref b40), (.ref b11)])) rfl (by rw [hml]; rfl) (Steps.refl _) (argsL := [(.ref b40)]) (rest := []) (lenOf pd_7 rfl) rfl (by show 2 * 0 + _ ≤ _; exact Nat.le_of_eq rfl) (hb hby at_84) (fun _ _ => ⟨rfl, e43, (by decide : 8 + 0 ≤ _), (by decide : 50 + 0 ≤ _)⟩)
    dsimp only [Pt.U, Pt.locs, Pt.cells, Pt.slots] at X44 lq44 yq44 zq44 st44 hQ44
    subst lq44 yq44 zq44
    obtain ⟨rfl, Nq44, eq44⟩ := hQ44
    have N44 := Fr.app N43 Nq44
    refine own_go (st' := T44.setTop (mkF m 87 #[.val (.int xa), .val (.int xb), .val (.int xc), .val (.int fl), .val (.ref r_1), .val (.ref r_2), .val (.ref r_7), .val (.ref b11), .unset, .unset] [(.ref r_1)])) (fun _ k => st44.trans k) ?_
    refine own_go (st' := T44.setTop (mkF m 89 #[.val (.int xa), .val (.int xb), .val (.int xc), .val (.int fl), .val (.ref r_1), .val (.ref r_2), .val (.ref r_7), .val (.ref b11), .val (.ref r_1), .unset] [])) (fun _ k => XS.astore X44.here hx rfl (hb hby at_87) rfl rfl (l' := #[.val (.int xa), .val (.int xb), .val (.int xc), .val (.int fl), .val (.ref r_1), .val (.ref r_2), .val (.ref r_7), .val (.ref b11), .val (.ref r_1), .unset]) rfl k) ?_
    refine own_go (st' := T44.setTop (mkF m 91 #[.val (.int xa), .val (.int xb), .val (.int xc), .val (.int fl), .val (.ref r_1), .val (.ref r_2), .val (.ref r_7), .val (.ref b11), .val (.ref r_1), .unset] [(.ref b11)])) (fun _ k => XS.aload X44.here hx rfl (hb hby at_89) rfl rfl k) ?_
    obtain ⟨T52, h52, X52, e52, E52, A52, D52, -, st52⟩ := newO X44 hx hZ hown (hw _ (List.mem_of_getElem? (i := 61) rfl)) (hw _ (List.mem_of_getElem? (i := 62) rfl)) (hw _ (List.mem_of_getElem? (i := 63) rfl)) eq44 (g := (mkF m 91 #[.val (.int xa), .val (.int xb), .val (.int xc), .val (.int fl), .val (.ref r_1), .val (.ref r_2), .val (.ref r_7), .val (.ref b11), .val (.ref r_1), .unset] [(.ref b11)])) rfl (hb hby at_91) (by decide) (by decide)
    obtain ⟨b52, g52⟩ : ∃ z, z = h43.size := ⟨_, rfl⟩
    rw [← g52] at A52 D52 st52
    have sz52 : h43.size ≤ h52.size := E52.1
    have lt52 : @LT.lt Nat _ b52 h52.size := A52.lt
    have f53 : Fld Z h52 b52 "com/example/greenwood/greenwood/Local" "depth" "I" (.int (0 : Int32)) := D52 (Or.inr (hw _ (List.mem_of_getElem? (i := 74) rfl))) (ty := .int) (by decide)
    have f54 : Fld Z h52 b52 "com/example/greenwood/greenwood/Local" "slot" "I" (.int (0 : Int32)) := D52 (Or.inr (hw _ (List.mem_of_getElem? (i := 76) rfl))) (ty := .int) (by decide)
    refine own_go (st' := T52.setTop (mkF m 94 #[.val (.int xa), .val (.int xb), .val (.int xc), .val (.int fl), .val (.ref r_1), .val (.ref r_2), .val (.ref r_7), .val (.ref b11), .val (.ref r_1), .unset] [(.ref b52), (.ref b11)])) (st52) ?_
    refine own_go (st' := T52.setTop (mkF m 95 #[.val (.int xa), .val (.int xb), .val (.int xc), .val (.int fl), .val (.ref r_1), .val (.ref r_2), .val (.ref r_7), .val (.ref b11), .val (.ref r_1), .unset] [(.ref b52), (.ref b52), (.ref b11)])) (fun _ k => XS.dup X52.here hx rfl (hb hby at_94) rfl rfl k) ?_
    refine own_go (st' := T52.setTop (mkF m 96 #[.val (.int xa), .val (.int xb), .val (.int xc), .val (.int fl), .val (.ref r_1), .val (.ref r_2), .val (.ref r_7), .val (.ref b11), .val (.ref r_1), .unset] [(.int (0 : Int32)), (.ref b52), (.ref b52), (.ref b11)])) (fun _ k => XS.iconst X52.here hx rfl (hb hby at_95) k) ?_
    refine own_go (st' := T52.setTop (mkF m 97 #[.val (.int xa), .val (.int xb), .val (.int xc), .val (.int fl), .val (.ref r_1), .val (.ref r_2), .val (.ref r_7), .val (.ref b11), .val (.ref r_1), .unset] [(.int (1 : Int32)), (.int (0 : Int32)), (.ref b52), (.ref b52), (.ref b11)])) (fun _ k => XS.iconst X52.here hx rfl (hb hby at_96) k) ?_
    obtain ⟨_, _, ⟨T55, LC55, kC55, nC55⟩, -, X55, ⟨Lc55, hQ55, lq55, yq55, zq55⟩, st55⟩ := X52.specialBack hx (y := (⟨"com/example/greenwood/greenwood/Local", "<init>", "(II)V"⟩ : MethodName)) rfl hown (mvT hZ (hw _ (List.mem_of_getElem? (i := 64) rfl))) (mvT hZ (hw _ (List.mem_of_getElem? (i := 65) rfl))) (mvT hZ (hw _ (List.mem_of_getElem? (i := 66) rfl))) (by decide) (backOf (W := 2) (rm9 l Z a0 hw [] b52 (0 : Int32) (1 : Int32) (0 : Int32) (0 : Int32) h52 n0 (by omega) A52 f53 f54 (by omega)) hZ (hw _ (List.mem_of_getElem? (i := 66) rfl)) (hw _ (List.mem_of_getElem? (i := 63) rfl)) (by decide) (by decide)) (g := (mkF m 97 #[.val (.int xa), .val (.int xb), .val (.int xc), .val (.int fl), .val (.ref r_1), .val (.ref r_2), .val (.ref r_7), .val (.ref b11), .val (.ref r_1), .unset] [(.int (1 : Int32)), (.int (0 : Int32)), (.ref b52), (.ref b52), (.ref b11)])) rfl (by rw [hml]; rfl) (Steps.refl _) (a := b52) (argsL := [(.int (0 : Int32)), (.int (1 : Int32))]) (rest := [(.ref b52), (.ref b11)]) (lenOf pd_6 rfl) rfl (by show 2 * 0 + _ ≤ _; exact Nat.le_of_eq rfl) (hb hby at_97) (fun _ _ => ⟨rfl, e52, (by decide : 9 + 0 ≤ _), (by decide : 52 + 0 ≤ _)⟩)
    dsimp only [Pt.U, Pt.locs, Pt.cells, Pt.slots] at X55 lq55 yq55 zq55 st55 hQ55
    subst lq55 yq55 zq55
    obtain ⟨h55, e55⟩ : ∃ z, T55.heap = z := ⟨_, rfl⟩
    rw [e55] at hQ55
    obtain ⟨rfl, Nq55, K55, g55_0, g55_1, g55_2⟩ := hQ55
    have sz55 : h52.size ≤ h55.size := K55.1
    have N55 := Fr.app N44 Nq55
    have lt55_1 : @LT.lt Nat _ b52 h55.size := g55_0.lt
    refine own_go (st' := T55.setTop (mkF m 100 #[.val (.int xa), .val (.int xb), .val (.int xc), .val (.int fl), .val (.ref r_1), .val (.ref r_2), .val (.ref r_7), .val (.ref b11), .val (.ref r_1), .unset] [(.ref b52), (.ref b11)])) (fun _ k => st55.trans k) ?_
    have c57 : Exa Z h55 b11 "com/example/greenwood/greenwood/Environment" := ((c45.ext E52).keep K55)
    have c58 : Fld Z h55 b11 "com/example/greenwood/greenwood/Environment" "openScopes" "I" (.int (1 : Int32)) := ((c46.ext E52).keep K55 (ninS (by first | assumption | exact Ne.symm (by assumption) | (apply Nat.ne_of_lt; omega) | (apply Nat.ne_of_gt; omega)) nin0))
    have c59 : Fld Z h55 b11 "com/example/greenwood/greenwood/Environment" "localCount" "I" (.int (2 : Int32)) := ((c47.ext E52).keep K55 (ninS (by first | assumption | exact Ne.symm (by assumption) | (apply Nat.ne_of_lt; omega) | (apply Nat.ne_of_gt; omega)) nin0))
    have c60 : Fld Z h55 b11 "com/example/greenwood/greenwood/Environment" "locals" "[Ljava/lang/Object;" (.ref rl_17) := ((c48.ext E52).keep K55 (ninS (by first | assumption | exact Ne.symm (by assumption) | (apply Nat.ne_of_lt; omega) | (apply Nat.ne_of_gt; omega)) nin0))
    have c61 : Fld Z h55 b11 "com/example/greenwood/greenwood/Environment" "scopeStarts" "[I" (.ref rs_17) := ((c49.ext E52).keep K55 (ninS (by first | assumption | exact Ne.symm (by assumption) | (apply Nat.ne_of_lt; omega) | (apply Nat.ne_of_gt; omega)) nin0))
    have c62 : Arv Z h55 rl_17 kl_17 (.object "java/lang/Object") (16 : Int32) [(.ref r_1), (.ref r_7), .null, .null, .null, .null, .null, .null, .null, .null, .null, .null, .null, .null, .null, .null] .null := ((c50.ext E52).keep K55 (ninS (by first | assumption | exact Ne.symm (by assumption) | (apply Nat.ne_of_lt; omega) | (apply Nat.ne_of_gt; omega)) nin0))
    have c63 : Arv Z h55 rs_17 ks_17 .int (16 : Int32) [(.int (0 : Int32)), (.int (0 : Int32)), (.int (0 : Int32)), (.int (0 : Int32)), (.int (0 : Int32)), (.int (0 : Int32)), (.int (0 : Int32)), (.int (0 : Int32)), (.int (0 : Int32)), (.int (0 : Int32)), (.int (0 : Int32)), (.int (0 : Int32)), (.int (0 : Int32)), (.int (0 : Int32)), (.int (0 : Int32)), (.int (0 : Int32))] (.int (0 : Int32)) := ((c51.ext E52).keep K55 (ninS (by first | assumption | exact Ne.symm (by assumption) | (apply Nat.ne_of_lt; omega) | (apply Nat.ne_of_gt; omega)) nin0))
    obtain ⟨cq56, kq56, q56a, q56b, q56c⟩ := isOf hZ e55 c57
    obtain ⟨_, _, ⟨T56, LC56, kC56, nC56⟩, -, X56, ⟨Lc56, hQ56, lq56, yq56, zq56⟩, st56⟩ := X55.virtualBack hx (y := (⟨"com/example/greenwood/greenwood/Environment", "get", "(Lcom/example/greenwood/greenwood/Local;)Ljava/lang/Object;"⟩ : MethodName)) (z := (⟨"com/example/greenwood/greenwood/Environment", "get", "(Lcom/example/greenwood/greenwood/Local;)Ljava/lang/Object;"⟩ : MethodName)) hown (mvT hZ (hw _ (List.mem_of_getElem? (i := 77) rfl))) (mvT hZ (hw _ (List.mem_of_getElem? (i := 78) rfl))) (notFace_of_selects (args := #[]) (mvT hZ (hw _ (List.mem_of_getElem? (i := 80) rfl)))) (mvT hZ (hw _ (List.mem_of_getElem? (i := 80) rfl))) (mvT hZ (hw _ (List.mem_of_getElem? (i := 79) rfl))) (by decide) (backOf (W := 0) (rm11_1 l Z a0 hw [] b11 rl_17 rs_17 kl_17 ks_17 b52 (.ref r_1) (.ref r_7) h55 n0 (by omega) c57 c58 c59 c60 c61 c62 c63 g55_0 g55_1 g55_2 rfl) hZ (hw _ (List.mem_of_getElem? (i := 81) rfl)) (hw _ (List.mem_of_getElem? (i := 9) rfl)) (by decide) (by decide)) q56a q56c (g := (mkF m 100 #[.val (.int xa), .val (.int xb), .val (.int xc), .val (.int fl), .val (.ref r_1), .val (.ref r_2), .val (.ref r_7), .val (.ref b11), .val (.ref r_1), .unset] [(.ref b52), (.ref b11)])) rfl (by rw [hml]; rfl) (Steps.refl _) (argsL := [(.ref b52)]) (rest := []) (lenOf pd_7 rfl) rfl (by show 2 * 0 + _ ≤ _; exact Nat.le_of_eq rfl) (hb hby at_100) (fun _ _ => ⟨rfl, e55, (by decide : 9 + 0 ≤ _), (by decide : 52 + 0 ≤ _)⟩)
    dsimp only [Pt.U, Pt.locs, Pt.cells, Pt.slots] at X56 lq56 yq56 zq56 st56 hQ56
    subst lq56 yq56 zq56
    obtain ⟨rfl, Nq56, eq56⟩ := hQ56
    have N56 := Fr.app N55 Nq56
    refine own_go (st' := T56.setTop (mkF m 103 #[.val (.int xa), .val (.int xb), .val (.int xc), .val (.int fl), .val (.ref r_1), .val (.ref r_2), .val (.ref r_7), .val (.ref b11), .val (.ref r_1), .unset] [(.ref r_7)])) (fun _ k => st56.trans k) ?_
    refine own_go (st' := T56.setTop (mkF m 105 #[.val (.int xa), .val (.int xb), .val (.int xc), .val (.int fl), .val (.ref r_1), .val (.ref r_2), .val (.ref r_7), .val (.ref b11), .val (.ref r_1), .val (.ref r_7)] [])) (fun _ k => XS.astore X56.here hx rfl (hb hby at_103) rfl rfl (l' := #[.val (.int xa), .val (.int xb), .val (.int xc), .val (.int fl), .val (.ref r_1), .val (.ref r_2), .val (.ref r_7), .val (.ref b11), .val (.ref r_1), .val (.ref r_7)]) rfl k) ?_
    refine own_go (st' := T56.setTop (mkF m 107 #[.val (.int xa), .val (.int xb), .val (.int xc), .val (.int fl), .val (.ref r_1), .val (.ref r_2), .val (.ref r_7), .val (.ref b11), .val (.ref r_1), .val (.ref r_7)] [(.ref r_1)])) (fun _ k => XS.aload X56.here hx rfl (hb hby at_105) rfl rfl k) ?_
    refine own_go (st' := T56.setTop (mkF m 109 #[.val (.int xa), .val (.int xb), .val (.int xc), .val (.int fl), .val (.ref r_1), .val (.ref r_2), .val (.ref r_7), .val (.ref b11), .val (.ref r_1), .val (.ref r_7)] [(.ref r_1), (.ref r_1)])) (fun _ k => XS.aload X56.here hx rfl (hb hby at_107) rfl rfl k) ?_
    refine own_go (st' := T56.setTop (mkF m 112 #[.val (.int xa), .val (.int xb), .val (.int xc), .val (.int fl), .val (.ref r_1), .val (.ref r_2), .val (.ref r_7), .val (.ref b11), .val (.ref r_1), .val (.ref r_7)] [])) (fun _ k => Jvm.RoadKit.acmp (g := (mkF m 109 #[.val (.int xa), .val (.int xb), .val (.int xc), .val (.int fl), .val (.ref r_1), .val (.ref r_2), .val (.ref r_7), .val (.ref b11), .val (.ref r_1), .val (.ref r_7)] [(.ref r_1), (.ref r_1)])) X56 hx rfl rfl rfl (pc0 := 109) (pc' := 112) (same := true) rfl (hb hby at_109) rfl (decide_eq_true rfl) (by decide) (by decide) k) ?_
    refine own_go (st' := T56.setTop (mkF m 114 #[.val (.int xa), .val (.int xb), .val (.int xc), .val (.int fl), .val (.ref r_1), .val (.ref r_2), .val (.ref r_7), .val (.ref b11), .val (.ref r_1), .val (.ref r_7)] [(.ref r_7)])) (fun _ k => XS.aload X56.here hx rfl (hb hby at_112) rfl rfl k) ?_
    refine own_go (st' := T56.setTop (mkF m 116 #[.val (.int xa), .val (.int xb), .val (.int xc), .val (.int fl), .val (.ref r_1), .val (.ref r_2), .val (.ref r_7), .val (.ref b11), .val (.ref r_1), .val (.ref r_7)] [(.ref r_7), (.ref r_7)])) (fun _ k => XS.aload X56.here hx rfl (hb hby at_114) rfl rfl k) ?_
    refine own_go (st' := T56.setTop (mkF m 119 #[.val (.int xa), .val (.int xb), .val (.int xc), .val (.int fl), .val (.ref r_1), .val (.ref r_2), .val (.ref r_7), .val (.ref b11), .val (.ref r_1), .val (.ref r_7)] [])) (fun _ k => Jvm.RoadKit.acmp (g := (mkF m 116 #[.val (.int xa), .val (.int xb), .val (.int xc), .val (.int fl), .val (.ref r_1), .val (.ref r_2), .val (.ref r_7), .val (.ref b11), .val (.ref r_1), .val (.ref r_7)] [(.ref r_7), (.ref r_7)])) X56 hx rfl rfl rfl (pc0 := 116) (pc' := 119) (same := true) rfl (hb hby at_116) rfl (decide_eq_true rfl) (by decide) (by decide) k) ?_
    refine own_go (st' := T56.setTop (mkF m 120 #[.val (.int xa), .val (.int xb), .val (.int xc), .val (.int fl), .val (.ref r_1), .val (.ref r_2), .val (.ref r_7), .val (.ref b11), .val (.ref r_1), .val (.ref r_7)] [(.int (1 : Int32))])) (fun _ k => XS.iconst X56.here hx rfl (hb hby at_119) k) ?_
    refine own_go (st' := T56.setTop (mkF m 124 #[.val (.int xa), .val (.int xb), .val (.int xc), .val (.int fl), .val (.ref r_1), .val (.ref r_2), .val (.ref r_7), .val (.ref b11), .val (.ref r_1), .val (.ref r_7)] [(.int (1 : Int32))])) (fun _ k => XS.goto X56.here hx rfl (pc0 := 120) (pc' := 124) rfl (hb hby at_120) (by decide) (by decide) k) ?_
    obtain ⟨fs, hr, hrun, hended, hW, hsame⟩ := X56.leave (v := some (.int (1 : Int32))) (fun h => by rw [Bd.returns] at h; cases h)
    refine ⟨_, _, ?_, hP _ _ hrun hended ⟨_, _, rfl, ?_, ⟨_, rfl⟩, hW, hsame.mono (by decide) (by decide)⟩⟩
    · exact retN X56 hx (t := .boolean) Bd.returns (by simp) (hb hby at_124) hr
    · show Qrm0 Z xa xb xc fl ca h0 n0 _ T56.heap _
      rw [eq56]
      exact ⟨rfl, N56, trivial⟩
  · --
    refine own_go (st' := T2.setTop (mkF m 18 #[.val (.int xa), .val (.int xb), .val (.int xc), .val (.int fl), .val (.ref r_1), .val (.ref r_2), .unset, .unset, .unset, .unset] [])) (fun _ k => XS.ifNo X2.here hx rfl (hb hby at_15) rfl ((if0 _ _).trans (feq hc6).1) k) ?_
    refine own_go (st' := T2.setTop (mkF m 19 #[.val (.int xa), .val (.int xb), .val (.int xc), .val (.int fl), .val (.ref r_1), .val (.ref r_2), .unset, .unset, .unset, .unset] [.null])) (fun _ k => XS.aconstNull X2.here hx rfl (hb hby at_18) k) ?_
    refine own_go (st' := T2.setTop (mkF m 26 #[.val (.int xa), .val (.int xb), .val (.int xc), .val (.int fl), .val (.ref r_1), .val (.ref r_2), .unset, .unset, .unset, .unset] [.null])) (fun _ k => XS.goto X2.here hx rfl (pc0 := 19) (pc' := 26) rfl (hb hby at_19) (by decide) (by decide) k) ?_
    refine own_go (st' := T2.setTop (mkF m 28 #[.val (.int xa), .val (.int xb), .val (.int xc), .val (.int fl), .val (.ref r_1), .val (.ref r_2), .val .null, .unset, .unset, .unset] [])) (fun _ k => XS.astore X2.here hx rfl (hb hby at_26) rfl rfl (l' := #[.val (.int xa), .val (.int xb), .val (.int xc), .val (.int fl), .val (.ref r_1), .val (.ref r_2), .val .null, .unset, .unset, .unset]) rfl k) ?_
    obtain ⟨T65, h65, X65, e65, E65, A65, D65, -, st65⟩ := newO X2 hx hZ hown (hw _ (List.mem_of_getElem? (i := 7) rfl)) (hw _ (List.mem_of_getElem? (i := 8) rfl)) (hw _ (List.mem_of_getElem? (i := 9) rfl)) e2 (g := (mkF m 28 #[.val (.int xa), .val (.int xb), .val (.int xc), .val (.int fl), .val (.ref r_1), .val (.ref r_2), .val .null, .unset, .unset, .unset] [])) rfl (hb hby at_28) (by decide) (by decide)
    obtain ⟨b65, g65⟩ : ∃ z, z = h2.size := ⟨_, rfl⟩
    rw [← g65] at A65 D65 st65
    have sz65 : h2.size ≤ h65.size := E65.1
    have lt65 : @LT.lt Nat _ b65 h65.size := A65.lt
    have f66 : Fld Z h65 b65 "com/example/greenwood/greenwood/Environment" "globals" "Ljava/util/Map;" .null := D65 (Or.inr (hw _ (List.mem_of_getElem? (i := 33) rfl))) (ty := (.object "java/util/Map")) (by decide)
    have f67 : Fld Z h65 b65 "com/example/greenwood/greenwood/Environment" "locals" "[Ljava/lang/Object;" .null := D65 (Or.inl (hw _ (List.mem_of_getElem? (i := 37) rfl))) (ty := (.array (.object "java/lang/Object"))) (by decide)
    have f68 : Fld Z h65 b65 "com/example/greenwood/greenwood/Environment" "scopeStarts" "[I" .null := D65 (Or.inl (hw _ (List.mem_of_getElem? (i := 40) rfl))) (ty := (.array .int)) (by decide)
    have f69 : Fld Z h65 b65 "com/example/greenwood/greenwood/Environment" "openScopes" "I" (.int (0 : Int32)) := D65 (Or.inl (hw _ (List.mem_of_getElem? (i := 47) rfl))) (ty := .int) (by decide)
    have f70 : Fld Z h65 b65 "com/example/greenwood/greenwood/Environment" "localCount" "I" (.int (0 : Int32)) := D65 (Or.inl (hw _ (List.mem_of_getElem? (i := 49) rfl))) (ty := .int) (by decide)
    refine own_go (st' := T65.setTop (mkF m 31 #[.val (.int xa), .val (.int xb), .val (.int xc), .val (.int fl), .val (.ref r_1), .val (.ref r_2), .val .null, .unset, .unset, .unset] [(.ref b65)])) (st65) ?_
    refine own_go (st' := T65.setTop (mkF m 32 #[.val (.int xa), .val (.int xb), .val (.int xc), .val (.int fl), .val (.ref r_1), .val (.ref r_2), .val .null, .unset, .unset, .unset] [(.ref b65), (.ref b65)])) (fun _ k => XS.dup X65.here hx rfl (hb hby at_31) rfl rfl k) ?_
    obtain ⟨_, _, ⟨T71, LC71, kC71, nC71⟩, -, X71, ⟨Lc71, hQ71, lq71, yq71, zq71⟩, st71⟩ := X65.specialBack hx (y := (⟨"com/example/greenwood/greenwood/Environment", "<init>", "()V"⟩ : MethodName)) rfl hown (mvT hZ (hw _ (List.mem_of_getElem? (i := 10) rfl))) (mvT hZ (hw _ (List.mem_of_getElem? (i := 11) rfl))) (mvT hZ (hw _ (List.mem_of_getElem? (i := 12) rfl))) (by decide) (backOf (W := 1) (rm2 l Z a0 hw [] b65 h65 n0 (by omega) A65 f66 f67 f68 f69 f70 (by omega)) hZ (hw _ (List.mem_of_getElem? (i := 12) rfl)) (hw _ (List.mem_of_getElem? (i := 9) rfl)) (by decide) (by decide)) (g := (mkF m 32 #[.val (.int xa), .val (.int xb), .val (.int xc), .val (.int fl), .val (.ref r_1), .val (.ref r_2), .val .null, .unset, .unset, .unset] [(.ref b65), (.ref b65)])) rfl (by rw [hml]; rfl) (Steps.refl _) (a := b65) (argsL := []) (rest := [(.ref b65)]) (lenOf pd_0 rfl) rfl (by show 2 * 0 + _ ≤ _; exact Nat.le_of_eq rfl) (hb hby at_32) (fun _ _ => ⟨rfl, e65, (by decide : 3 + 3 ≤ _), (by decide : 7 + 40 ≤ _)⟩)
    dsimp only [Pt.U, Pt.locs, Pt.cells, Pt.slots] at X71 lq71 yq71 zq71 st71 hQ71
    subst lq71 yq71 zq71
    obtain ⟨h71, e71⟩ : ∃ z, T71.heap = z := ⟨_, rfl⟩
    rw [e71] at hQ71
    obtain ⟨rl_71, rs_71, kl_71, ks_71, rfl, Nq71, K71, g71_0, g71_1, g71_2, g71_3, g71_4, g71_5, g71_6, g71_7, g71_8, g71_9, g71_10⟩ := hQ71
    have sz71 : h65.size ≤ h71.size := K71.1
    have N71 := Fr.app N2 Nq71
    have lt71_1 : @LT.lt Nat _ b65 h71.size := g71_0.lt
    have lt71_2 : @LT.lt Nat _ rl_71 h71.size := g71_5.lt
    have lt71_3 : @LT.lt Nat _ rs_71 h71.size := g71_6.lt
    refine own_go (st' := T71.setTop (mkF m 35 #[.val (.int xa), .val (.int xb), .val (.int xc), .val (.int fl), .val (.ref r_1), .val (.ref r_2), .val .null, .unset, .unset, .unset] [(.ref b65)])) (fun _ k => st71.trans k) ?_
    refine own_go (st' := T71.setTop (mkF m 37 #[.val (.int xa), .val (.int xb), .val (.int xc), .val (.int fl), .val (.ref r_1), .val (.ref r_2), .val .null, .val (.ref b65), .unset, .unset] [])) (fun _ k => XS.astore X71.here hx rfl (hb hby at_35) rfl rfl (l' := #[.val (.int xa), .val (.int xb), .val (.int xc), .val (.int fl), .val (.ref r_1), .val (.ref r_2), .val .null, .val (.ref b65), .unset, .unset]) rfl k) ?_
    refine own_go (st' := T71.setTop (mkF m 39 #[.val (.int xa), .val (.int xb), .val (.int xc), .val (.int fl), .val (.ref r_1), .val (.ref r_2), .val .null, .val (.ref b65), .unset, .unset] [(.ref b65)])) (fun _ k => XS.aload X71.here hx rfl (hb hby at_37) rfl rfl k) ?_
    obtain ⟨cq72, kq72, q72a, q72b, q72c⟩ := isOf hZ e71 g71_0
    obtain ⟨_, _, ⟨T72, LC72, kC72, nC72⟩, -, X72, ⟨Lc72, hQ72, lq72, yq72, zq72⟩, st72⟩ := X71.virtualBack hx (y := (⟨"com/example/greenwood/greenwood/Environment", "openScope", "()V"⟩ : MethodName)) (z := (⟨"com/example/greenwood/greenwood/Environment", "openScope", "()V"⟩ : MethodName)) hown (mvT hZ (hw _ (List.mem_of_getElem? (i := 41) rfl))) (mvT hZ (hw _ (List.mem_of_getElem? (i := 42) rfl))) (notFace_of_selects (args := #[]) (mvT hZ (hw _ (List.mem_of_getElem? (i := 44) rfl)))) (mvT hZ (hw _ (List.mem_of_getElem? (i := 44) rfl))) (mvT hZ (hw _ (List.mem_of_getElem? (i := 43) rfl))) (by decide) (backOf (W := 0) (rm6 l Z a0 hw [] b65 rl_71 rs_71 ks_71 h71 n0 (by omega) g71_0 g71_1 g71_2 g71_3 g71_4 g71_6 (by omega) (by omega) (by omega) (by first | assumption | exact Ne.symm (by assumption) | (apply Nat.ne_of_lt; omega) | (apply Nat.ne_of_gt; omega)) (by first | assumption | exact Ne.symm (by assumption) | (apply Nat.ne_of_lt; omega) | (apply Nat.ne_of_gt; omega)) (by first | assumption | exact Ne.symm (by assumption) | (apply Nat.ne_of_lt; omega) | (apply Nat.ne_of_gt; omega))) hZ (hw _ (List.mem_of_getElem? (i := 45) rfl)) (hw _ (List.mem_of_getElem? (i := 9) rfl)) (by decide) (by decide)) q72a q72c (g := (mkF m 39 #[.val (.int xa), .val (.int xb), .val (.int xc), .val (.int fl), .val (.ref r_1), .val (.ref r_2), .val .null, .val (.ref b65), .unset, .unset] [(.ref b65)])) rfl (by rw [hml]; rfl) (Steps.refl _) (argsL := []) (rest := []) (lenOf pd_0 rfl) rfl (by show 2 * 0 + _ ≤ _; exact Nat.le_of_eq rfl) (hb hby at_39) (fun _ _ => ⟨rfl, e71, (by decide : 6 + 0 ≤ _), (by decide : 47 + 0 ≤ _)⟩)
    dsimp only [Pt.U, Pt.locs, Pt.cells, Pt.slots] at X72 lq72 yq72 zq72 st72 hQ72
    subst lq72 yq72 zq72
    obtain ⟨h72, e72⟩ : ∃ z, T72.heap = z := ⟨_, rfl⟩
    rw [e72] at hQ72
    obtain ⟨rfl, Nq72, K72, g72_0, g72_1, g72_2, g72_3, g72_4, g72_5⟩ := hQ72
    have sz72 : h71.size ≤ h72.size := K72.1
    have N72 := Fr.app N71 Nq72
    have lt72_1 : @LT.lt Nat _ b65 h72.size := g72_0.lt
    have lt72_2 : @LT.lt Nat _ rs_71 h72.size := g72_5.lt
    refine own_go (st' := T72.setTop (mkF m 42 #[.val (.int xa), .val (.int xb), .val (.int xc), .val (.int fl), .val (.ref r_1), .val (.ref r_2), .val .null, .val (.ref b65), .unset, .unset] [])) (fun _ k => st72.trans k) ?_
    refine own_go (st' := T72.setTop (mkF m 44 #[.val (.int xa), .val (.int xb), .val (.int xc), .val (.int fl), .val (.ref r_1), .val (.ref r_2), .val .null, .val (.ref b65), .unset, .unset] [(.ref b65)])) (fun _ k => XS.aload X72.here hx rfl (hb hby at_42) rfl rfl k) ?_
    have c74 : Arv Z h72 rl_71 kl_71 (.object "java/lang/Object") (16 : Int32) [.null, .null, .null, .null, .null, .null, .null, .null, .null, .null, .null, .null, .null, .null, .null, .null] .null := (g71_5.keep K72 (ninS (by first | assumption | exact Ne.symm (by assumption) | (apply Nat.ne_of_lt; omega) | (apply Nat.ne_of_gt; omega)) (ninS (by first | assumption | exact Ne.symm (by assumption) | (apply Nat.ne_of_lt; omega) | (apply Nat.ne_of_gt; omega)) nin0)))
    obtain ⟨cq73, kq73, q73a, q73b, q73c⟩ := isOf hZ e72 g72_0
    obtain ⟨_, _, ⟨T73, LC73, kC73, nC73⟩, -, X73, ⟨Lc73, hQ73, lq73, yq73, zq73⟩, st73⟩ := X72.virtualBack hx (y := (⟨"com/example/greenwood/greenwood/Environment", "declare", "()V"⟩ : MethodName)) (z := (⟨"com/example/greenwood/greenwood/Environment", "declare", "()V"⟩ : MethodName)) hown (mvT hZ (hw _ (List.mem_of_getElem? (i := 50) rfl))) (mvT hZ (hw _ (List.mem_of_getElem? (i := 51) rfl))) (notFace_of_selects (args := #[]) (mvT hZ (hw _ (List.mem_of_getElem? (i := 53) rfl)))) (mvT hZ (hw _ (List.mem_of_getElem? (i := 53) rfl))) (mvT hZ (hw _ (List.mem_of_getElem? (i := 52) rfl))) (by decide) (backOf (W := 0) (rm7_0 l Z a0 hw [] b65 rl_71 rs_71 kl_71 [.null, .null, .null, .null, .null, .null, .null, .null, .null, .null, .null, .null, .null, .null, .null, .null] h72 n0 (by omega) g72_0 g72_1 g72_2 g72_3 g72_4 c74 (by omega) (by first | assumption | exact Ne.symm (by assumption) | (apply Nat.ne_of_lt; omega) | (apply Nat.ne_of_gt; omega))) hZ (hw _ (List.mem_of_getElem? (i := 54) rfl)) (hw _ (List.mem_of_getElem? (i := 9) rfl)) (by decide) (by decide)) q73a q73c (g := (mkF m 44 #[.val (.int xa), .val (.int xb), .val (.int xc), .val (.int fl), .val (.ref r_1), .val (.ref r_2), .val .null, .val (.ref b65), .unset, .unset] [(.ref b65)])) rfl (by rw [hml]; rfl) (Steps.refl _) (argsL := []) (rest := []) (lenOf pd_0 rfl) rfl (by show 2 * 0 + _ ≤ _; exact Nat.le_of_eq rfl) (hb hby at_44) (fun _ _ => ⟨rfl, e72, (by decide : 6 + 0 ≤ _), (by decide : 47 + 0 ≤ _)⟩)
    dsimp only [Pt.U, Pt.locs, Pt.cells, Pt.slots] at X73 lq73 yq73 zq73 st73 hQ73
    subst lq73 yq73 zq73
    obtain ⟨h73, e73⟩ : ∃ z, T73.heap = z := ⟨_, rfl⟩
    rw [e73] at hQ73
    obtain ⟨rfl, Nq73, K73, g73_0, g73_1, g73_2, g73_3, g73_4⟩ := hQ73
    have sz73 : h72.size ≤ h73.size := K73.1
    have N73 := Fr.app N72 Nq73
    have lt73_1 : @LT.lt Nat _ b65 h73.size := g73_0.lt
    refine own_go (st' := T73.setTop (mkF m 47 #[.val (.int xa), .val (.int xb), .val (.int xc), .val (.int fl), .val (.ref r_1), .val (.ref r_2), .val .null, .val (.ref b65), .unset, .unset] [])) (fun _ k => st73.trans k) ?_
    refine own_go (st' := T73.setTop (mkF m 49 #[.val (.int xa), .val (.int xb), .val (.int xc), .val (.int fl), .val (.ref r_1), .val (.ref r_2), .val .null, .val (.ref b65), .unset, .unset] [(.ref b65)])) (fun _ k => XS.aload X73.here hx rfl (hb hby at_47) rfl rfl k) ?_
    refine own_go (st' := T73.setTop (mkF m 51 #[.val (.int xa), .val (.int xb), .val (.int xc), .val (.int fl), .val (.ref r_1), .val (.ref r_2), .val .null, .val (.ref b65), .unset, .unset] [(.ref r_1), (.ref b65)])) (fun _ k => XS.aload X73.here hx rfl (hb hby at_49) rfl rfl k) ?_
    have c76 : Arv Z h73 rl_71 kl_71 (.object "java/lang/Object") (16 : Int32) [.null, .null, .null, .null, .null, .null, .null, .null, .null, .null, .null, .null, .null, .null, .null, .null] .null := (c74.keep K73 (ninS (by first | assumption | exact Ne.symm (by assumption) | (apply Nat.ne_of_lt; omega) | (apply Nat.ne_of_gt; omega)) nin0))
    have c77 : Exa Z h73 r_1 "java/lang/Integer" := (((((g1_0.keep K2).ext E65).keep K71).keep K72).keep K73)
    obtain ⟨cq75, kq75, q75a, q75b, q75c⟩ := isOf hZ e73 g73_0
    obtain ⟨_, _, ⟨T75, LC75, kC75, nC75⟩, -, X75, ⟨Lc75, hQ75, lq75, yq75, zq75⟩, st75⟩ := X73.virtualBack hx (y := (site_51 : MethodName)) (z := (site_51 : MethodName)) hown (mvT hZ (hw _ (List.mem_of_getElem? (i := 55) rfl))) (mvT hZ (hw _ (List.mem_of_getElem? (i := 56) rfl))) (notFace_of_selects (args := #[]) (mvT hZ (hw _ (List.mem_of_getElem? (i := 58) rfl)))) (mvT hZ (hw _ (List.mem_of_getElem? (i := 58) rfl))) (mvT hZ (hw _ (List.mem_of_getElem? (i := 57) rfl))) (by decide) (backOf (W := 0) (rm8_1R l Z a0 hw [] b65 rl_71 rs_71 kl_71 r_1 .null .null h73 n0 (by omega) g73_0 g73_1 g73_2 g73_3 g73_4 c76 g71_7 (by omega) (by first | assumption | exact Ne.symm (by assumption) | (apply Nat.ne_of_lt; omega) | (apply Nat.ne_of_gt; omega)) c77) hZ (hw _ (List.mem_of_getElem? (i := 59) rfl)) (hw _ (List.mem_of_getElem? (i := 9) rfl)) (by decide) (by decide)) q75a q75c (g := (mkF m 51 #[.val (.int xa), .val (.int xb), .val (.int xc), .val (.int fl), .val (.ref r_1), .val (.ref r_2), .val .null, .val (.ref b65), .unset, .unset] [(.ref r_1), (.ref b65)])) rfl (by rw [hml]; rfl) (Steps.refl _) (argsL := [(.ref r_1)]) (rest := []) (lenOf pd_5 rfl) rfl (by show 2 * 0 + _ ≤ _; exact Nat.le_of_eq rfl) (hb hby at_51) (fun _ _ => ⟨rfl, e73, (by decide : 6 + 0 ≤ _), (by decide : 47 + 0 ≤ _)⟩)
    dsimp only [Pt.U, Pt.locs, Pt.cells, Pt.slots] at X75 lq75 yq75 zq75 st75 hQ75
    subst lq75 yq75 zq75
    obtain ⟨h75, e75⟩ : ∃ z, T75.heap = z := ⟨_, rfl⟩
    rw [e75] at hQ75
    obtain ⟨rfl, Nq75, K75, g75_0⟩ := hQ75
    have sz75 : h73.size ≤ h75.size := K75.1
    have N75 := Fr.app N73 Nq75
    have lt75_1 : @LT.lt Nat _ rl_71 h75.size := g75_0.lt
    refine own_go (st' := T75.setTop (mkF m 54 #[.val (.int xa), .val (.int xb), .val (.int xc), .val (.int fl), .val (.ref r_1), .val (.ref r_2), .val .null, .val (.ref b65), .unset, .unset] [])) (fun _ k => st75.trans k) ?_
    refine own_go (st' := T75.setTop (mkF m 56 #[.val (.int xa), .val (.int xb), .val (.int xc), .val (.int fl), .val (.ref r_1), .val (.ref r_2), .val .null, .val (.ref b65), .unset, .unset] [(.ref b65)])) (fun _ k => XS.aload X75.here hx rfl (hb hby at_54) rfl rfl k) ?_
    have c79 : Exa Z h75 b65 "com/example/greenwood/greenwood/Environment" := (g73_0.keep K75)
    have c80 : Fld Z h75 b65 "com/example/greenwood/greenwood/Environment" "openScopes" "I" (.int (1 : Int32)) := (g73_1.keep K75 (ninS (by first | assumption | exact Ne.symm (by assumption) | (apply Nat.ne_of_lt; omega) | (apply Nat.ne_of_gt; omega)) nin0))
    have c81 : Fld Z h75 b65 "com/example/greenwood/greenwood/Environment" "localCount" "I" (.int (1 : Int32)) := (g73_2.keep K75 (ninS (by first | assumption | exact Ne.symm (by assumption) | (apply Nat.ne_of_lt; omega) | (apply Nat.ne_of_gt; omega)) nin0))
    have c82 : Fld Z h75 b65 "com/example/greenwood/greenwood/Environment" "locals" "[Ljava/lang/Object;" (.ref rl_71) := (g73_3.keep K75 (ninS (by first | assumption | exact Ne.symm (by assumption) | (apply Nat.ne_of_lt; omega) | (apply Nat.ne_of_gt; omega)) nin0))
    have c83 : Fld Z h75 b65 "com/example/greenwood/greenwood/Environment" "scopeStarts" "[I" (.ref rs_71) := (g73_4.keep K75 (ninS (by first | assumption | exact Ne.symm (by assumption) | (apply Nat.ne_of_lt; omega) | (apply Nat.ne_of_gt; omega)) nin0))
    obtain ⟨cq78, kq78, q78a, q78b, q78c⟩ := isOf hZ e75 c79
    obtain ⟨_, _, ⟨T78, LC78, kC78, nC78⟩, -, X78, ⟨Lc78, hQ78, lq78, yq78, zq78⟩, st78⟩ := X75.virtualBack hx (y := (⟨"com/example/greenwood/greenwood/Environment", "declare", "()V"⟩ : MethodName)) (z := (⟨"com/example/greenwood/greenwood/Environment", "declare", "()V"⟩ : MethodName)) hown (mvT hZ (hw _ (List.mem_of_getElem? (i := 50) rfl))) (mvT hZ (hw _ (List.mem_of_getElem? (i := 51) rfl))) (notFace_of_selects (args := #[]) (mvT hZ (hw _ (List.mem_of_getElem? (i := 53) rfl)))) (mvT hZ (hw _ (List.mem_of_getElem? (i := 53) rfl))) (mvT hZ (hw _ (List.mem_of_getElem? (i := 52) rfl))) (by decide) (backOf (W := 0) (rm7_1 l Z a0 hw [] b65 rl_71 rs_71 kl_71 [(.ref r_1), .null, .null, .null, .null, .null, .null, .null, .null, .null, .null, .null, .null, .null, .null, .null] h75 n0 (by omega) c79 c80 c81 c82 c83 g75_0 (by omega) (by first | assumption | exact Ne.symm (by assumption) | (apply Nat.ne_of_lt; omega) | (apply Nat.ne_of_gt; omega))) hZ (hw _ (List.mem_of_getElem? (i := 54) rfl)) (hw _ (List.mem_of_getElem? (i := 9) rfl)) (by decide) (by decide)) q78a q78c (g := (mkF m 56 #[.val (.int xa), .val (.int xb), .val (.int xc), .val (.int fl), .val (.ref r_1), .val (.ref r_2), .val .null, .val (.ref b65), .unset, .unset] [(.ref b65)])) rfl (by rw [hml]; rfl) (Steps.refl _) (argsL := []) (rest := []) (lenOf pd_0 rfl) rfl (by show 2 * 0 + _ ≤ _; exact Nat.le_of_eq rfl) (hb hby at_56) (fun _ _ => ⟨rfl, e75, (by decide : 6 + 0 ≤ _), (by decide : 47 + 0 ≤ _)⟩)
    dsimp only [Pt.U, Pt.locs, Pt.cells, Pt.slots] at X78 lq78 yq78 zq78 st78 hQ78
    subst lq78 yq78 zq78
    obtain ⟨h78, e78⟩ : ∃ z, T78.heap = z := ⟨_, rfl⟩
    rw [e78] at hQ78
    obtain ⟨rfl, Nq78, K78, g78_0, g78_1, g78_2, g78_3, g78_4⟩ := hQ78
    have sz78 : h75.size ≤ h78.size := K78.1
    have N78 := Fr.app N75 Nq78
    have lt78_1 : @LT.lt Nat _ b65 h78.size := g78_0.lt
    refine own_go (st' := T78.setTop (mkF m 59 #[.val (.int xa), .val (.int xb), .val (.int xc), .val (.int fl), .val (.ref r_1), .val (.ref r_2), .val .null, .val (.ref b65), .unset, .unset] [])) (fun _ k => st78.trans k) ?_
    refine own_go (st' := T78.setTop (mkF m 61 #[.val (.int xa), .val (.int xb), .val (.int xc), .val (.int fl), .val (.ref r_1), .val (.ref r_2), .val .null, .val (.ref b65), .unset, .unset] [(.ref b65)])) (fun _ k => XS.aload X78.here hx rfl (hb hby at_59) rfl rfl k) ?_
    refine own_go (st' := T78.setTop (mkF m 63 #[.val (.int xa), .val (.int xb), .val (.int xc), .val (.int fl), .val (.ref r_1), .val (.ref r_2), .val .null, .val (.ref b65), .unset, .unset] [(.ref r_2), (.ref b65)])) (fun _ k => XS.aload X78.here hx rfl (hb hby at_61) rfl rfl k) ?_
    have c85 : Arv Z h78 rl_71 kl_71 (.object "java/lang/Object") (16 : Int32) [(.ref r_1), .null, .null, .null, .null, .null, .null, .null, .null, .null, .null, .null, .null, .null, .null, .null] .null := (g75_0.keep K78 (ninS (by first | assumption | exact Ne.symm (by assumption) | (apply Nat.ne_of_lt; omega) | (apply Nat.ne_of_gt; omega)) nin0))
    have c86 : Exa Z h78 r_2 "java/lang/Integer" := ((((((g2_0.ext E65).keep K71).keep K72).keep K73).keep K75).keep K78)
    obtain ⟨cq84, kq84, q84a, q84b, q84c⟩ := isOf hZ e78 g78_0
    obtain ⟨_, _, ⟨T84, LC84, kC84, nC84⟩, -, X84, ⟨Lc84, hQ84, lq84, yq84, zq84⟩, st84⟩ := X78.virtualBack hx (y := (site_51 : MethodName)) (z := (site_51 : MethodName)) hown (mvT hZ (hw _ (List.mem_of_getElem? (i := 55) rfl))) (mvT hZ (hw _ (List.mem_of_getElem? (i := 56) rfl))) (notFace_of_selects (args := #[]) (mvT hZ (hw _ (List.mem_of_getElem? (i := 58) rfl)))) (mvT hZ (hw _ (List.mem_of_getElem? (i := 58) rfl))) (mvT hZ (hw _ (List.mem_of_getElem? (i := 57) rfl))) (by decide) (backOf (W := 0) (rm8_2R l Z a0 hw [] b65 rl_71 rs_71 kl_71 r_2 (.ref r_1) .null h78 n0 (by omega) g78_0 g78_1 g78_2 g78_3 g78_4 c85 g71_7 (by omega) (by first | assumption | exact Ne.symm (by assumption) | (apply Nat.ne_of_lt; omega) | (apply Nat.ne_of_gt; omega)) c86) hZ (hw _ (List.mem_of_getElem? (i := 59) rfl)) (hw _ (List.mem_of_getElem? (i := 9) rfl)) (by decide) (by decide)) q84a q84c (g := (mkF m 63 #[.val (.int xa), .val (.int xb), .val (.int xc), .val (.int fl), .val (.ref r_1), .val (.ref r_2), .val .null, .val (.ref b65), .unset, .unset] [(.ref r_2), (.ref b65)])) rfl (by rw [hml]; rfl) (Steps.refl _) (argsL := [(.ref r_2)]) (rest := []) (lenOf pd_5 rfl) rfl (by show 2 * 0 + _ ≤ _; exact Nat.le_of_eq rfl) (hb hby at_63) (fun _ _ => ⟨rfl, e78, (by decide : 6 + 0 ≤ _), (by decide : 47 + 0 ≤ _)⟩)
    dsimp only [Pt.U, Pt.locs, Pt.cells, Pt.slots] at X84 lq84 yq84 zq84 st84 hQ84
    subst lq84 yq84 zq84
    obtain ⟨h84, e84⟩ : ∃ z, T84.heap = z := ⟨_, rfl⟩
    rw [e84] at hQ84
    obtain ⟨rfl, Nq84, K84, g84_0⟩ := hQ84
    have sz84 : h78.size ≤ h84.size := K84.1
    have N84 := Fr.app N78 Nq84
    have lt84_1 : @LT.lt Nat _ rl_71 h84.size := g84_0.lt
    refine own_go (st' := T84.setTop (mkF m 66 #[.val (.int xa), .val (.int xb), .val (.int xc), .val (.int fl), .val (.ref r_1), .val (.ref r_2), .val .null, .val (.ref b65), .unset, .unset] [])) (fun _ k => st84.trans k) ?_
    refine own_go (st' := T84.setTop (mkF m 68 #[.val (.int xa), .val (.int xb), .val (.int xc), .val (.int fl), .val (.ref r_1), .val (.ref r_2), .val .null, .val (.ref b65), .unset, .unset] [(.ref b65)])) (fun _ k => XS.aload X84.here hx rfl (hb hby at_66) rfl rfl k) ?_
    refine own_go (st' := T84.setTop (mkF m 70 #[.val (.int xa), .val (.int xb), .val (.int xc), .val (.int fl), .val (.ref r_1), .val (.ref r_2), .val .null, .val (.ref b65), .unset, .unset] [.null, (.ref b65)])) (fun _ k => XS.aload X84.here hx rfl (hb hby at_68) rfl rfl k) ?_
    have c88 : Exa Z h84 b65 "com/example/greenwood/greenwood/Environment" := (g78_0.keep K84)
    have c89 : Fld Z h84 b65 "com/example/greenwood/greenwood/Environment" "openScopes" "I" (.int (1 : Int32)) := (g78_1.keep K84 (ninS (by first | assumption | exact Ne.symm (by assumption) | (apply Nat.ne_of_lt; omega) | (apply Nat.ne_of_gt; omega)) nin0))
    have c90 : Fld Z h84 b65 "com/example/greenwood/greenwood/Environment" "localCount" "I" (.int (2 : Int32)) := (g78_2.keep K84 (ninS (by first | assumption | exact Ne.symm (by assumption) | (apply Nat.ne_of_lt; omega) | (apply Nat.ne_of_gt; omega)) nin0))
    have c91 : Fld Z h84 b65 "com/example/greenwood/greenwood/Environment" "locals" "[Ljava/lang/Object;" (.ref rl_71) := (g78_3.keep K84 (ninS (by first | assumption | exact Ne.symm (by assumption) | (apply Nat.ne_of_lt; omega) | (apply Nat.ne_of_gt; omega)) nin0))
    have c92 : Fld Z h84 b65 "com/example/greenwood/greenwood/Environment" "scopeStarts" "[I" (.ref rs_71) := (g78_4.keep K84 (ninS (by first | assumption | exact Ne.symm (by assumption) | (apply Nat.ne_of_lt; omega) | (apply Nat.ne_of_gt; omega)) nin0))
    obtain ⟨cq87, kq87, q87a, q87b, q87c⟩ := isOf hZ e84 c88
    obtain ⟨_, _, ⟨T87, LC87, kC87, nC87⟩, -, X87, ⟨Lc87, hQ87, lq87, yq87, zq87⟩, st87⟩ := X84.virtualBack hx (y := (site_51 : MethodName)) (z := (site_51 : MethodName)) hown (mvT hZ (hw _ (List.mem_of_getElem? (i := 55) rfl))) (mvT hZ (hw _ (List.mem_of_getElem? (i := 56) rfl))) (notFace_of_selects (args := #[]) (mvT hZ (hw _ (List.mem_of_getElem? (i := 58) rfl)))) (mvT hZ (hw _ (List.mem_of_getElem? (i := 58) rfl))) (mvT hZ (hw _ (List.mem_of_getElem? (i := 57) rfl))) (by decide) (backOf (W := 0) (rm8_2N l Z a0 hw [] b65 rl_71 rs_71 kl_71 (.ref r_1) (.ref r_2) h84 n0 (by omega) c88 c89 c90 c91 c92 g84_0 g71_7 (by omega) (by first | assumption | exact Ne.symm (by assumption) | (apply Nat.ne_of_lt; omega) | (apply Nat.ne_of_gt; omega))) hZ (hw _ (List.mem_of_getElem? (i := 59) rfl)) (hw _ (List.mem_of_getElem? (i := 9) rfl)) (by decide) (by decide)) q87a q87c (g := (mkF m 70 #[.val (.int xa), .val (.int xb), .val (.int xc), .val (.int fl), .val (.ref r_1), .val (.ref r_2), .val .null, .val (.ref b65), .unset, .unset] [.null, (.ref b65)])) rfl (by rw [hml]; rfl) (Steps.refl _) (argsL := [.null]) (rest := []) (lenOf pd_5 rfl) rfl (by show 2 * 0 + _ ≤ _; exact Nat.le_of_eq rfl) (hb hby at_70) (fun _ _ => ⟨rfl, e84, (by decide : 6 + 0 ≤ _), (by decide : 47 + 0 ≤ _)⟩)
    dsimp only [Pt.U, Pt.locs, Pt.cells, Pt.slots] at X87 lq87 yq87 zq87 st87 hQ87
    subst lq87 yq87 zq87
    obtain ⟨h87, e87⟩ : ∃ z, T87.heap = z := ⟨_, rfl⟩
    rw [e87] at hQ87
    obtain ⟨rfl, Nq87, K87, g87_0⟩ := hQ87
    have sz87 : h84.size ≤ h87.size := K87.1
    have N87 := Fr.app N84 Nq87
    have lt87_1 : @LT.lt Nat _ rl_71 h87.size := g87_0.lt
    refine own_go (st' := T87.setTop (mkF m 73 #[.val (.int xa), .val (.int xb), .val (.int xc), .val (.int fl), .val (.ref r_1), .val (.ref r_2), .val .null, .val (.ref b65), .unset, .unset] [])) (fun _ k => st87.trans k) ?_
    refine own_go (st' := T87.setTop (mkF m 75 #[.val (.int xa), .val (.int xb), .val (.int xc), .val (.int fl), .val (.ref r_1), .val (.ref r_2), .val .null, .val (.ref b65), .unset, .unset] [(.ref b65)])) (fun _ k => XS.aload X87.here hx rfl (hb hby at_73) rfl rfl k) ?_
    obtain ⟨T93, h93, X93, e93, E93, A93, D93, -, st93⟩ := newO X87 hx hZ hown (hw _ (List.mem_of_getElem? (i := 61) rfl)) (hw _ (List.mem_of_getElem? (i := 62) rfl)) (hw _ (List.mem_of_getElem? (i := 63) rfl)) e87 (g := (mkF m 75 #[.val (.int xa), .val (.int xb), .val (.int xc), .val (.int fl), .val (.ref r_1), .val (.ref r_2), .val .null, .val (.ref b65), .unset, .unset] [(.ref b65)])) rfl (hb hby at_75) (by decide) (by decide)
    obtain ⟨b93, g93⟩ : ∃ z, z = h87.size := ⟨_, rfl⟩
    rw [← g93] at A93 D93 st93
    have sz93 : h87.size ≤ h93.size := E93.1
    have lt93 : @LT.lt Nat _ b93 h93.size := A93.lt
    have f94 : Fld Z h93 b93 "com/example/greenwood/greenwood/Local" "depth" "I" (.int (0 : Int32)) := D93 (Or.inr (hw _ (List.mem_of_getElem? (i := 74) rfl))) (ty := .int) (by decide)
    have f95 : Fld Z h93 b93 "com/example/greenwood/greenwood/Local" "slot" "I" (.int (0 : Int32)) := D93 (Or.inr (hw _ (List.mem_of_getElem? (i := 76) rfl))) (ty := .int) (by decide)
    refine own_go (st' := T93.setTop (mkF m 78 #[.val (.int xa), .val (.int xb), .val (.int xc), .val (.int fl), .val (.ref r_1), .val (.ref r_2), .val .null, .val (.ref b65), .unset, .unset] [(.ref b93), (.ref b65)])) (st93) ?_
    refine own_go (st' := T93.setTop (mkF m 79 #[.val (.int xa), .val (.int xb), .val (.int xc), .val (.int fl), .val (.ref r_1), .val (.ref r_2), .val .null, .val (.ref b65), .unset, .unset] [(.ref b93), (.ref b93), (.ref b65)])) (fun _ k => XS.dup X93.here hx rfl (hb hby at_78) rfl rfl k) ?_
    refine own_go (st' := T93.setTop (mkF m 80 #[.val (.int xa), .val (.int xb), .val (.int xc), .val (.int fl), .val (.ref r_1), .val (.ref r_2), .val .null, .val (.ref b65), .unset, .unset] [(.int (0 : Int32)), (.ref b93), (.ref b93), (.ref b65)])) (fun _ k => XS.iconst X93.here hx rfl (hb hby at_79) k) ?_
    refine own_go (st' := T93.setTop (mkF m 81 #[.val (.int xa), .val (.int xb), .val (.int xc), .val (.int fl), .val (.ref r_1), .val (.ref r_2), .val .null, .val (.ref b65), .unset, .unset] [(.int (0 : Int32)), (.int (0 : Int32)), (.ref b93), (.ref b93), (.ref b65)])) (fun _ k => XS.iconst X93.here hx rfl (hb hby at_80) k) ?_
    obtain ⟨_, _, ⟨T96, LC96, kC96, nC96⟩, -, X96, ⟨Lc96, hQ96, lq96, yq96, zq96⟩, st96⟩ := X93.specialBack hx (y := (⟨"com/example/greenwood/greenwood/Local", "<init>", "(II)V"⟩ : MethodName)) rfl hown (mvT hZ (hw _ (List.mem_of_getElem? (i := 64) rfl))) (mvT hZ (hw _ (List.mem_of_getElem? (i := 65) rfl))) (mvT hZ (hw _ (List.mem_of_getElem? (i := 66) rfl))) (by decide) (backOf (W := 2) (rm9 l Z a0 hw [] b93 (0 : Int32) (0 : Int32) (0 : Int32) (0 : Int32) h93 n0 (by omega) A93 f94 f95 (by omega)) hZ (hw _ (List.mem_of_getElem? (i := 66) rfl)) (hw _ (List.mem_of_getElem? (i := 63) rfl)) (by decide) (by decide)) (g := (mkF m 81 #[.val (.int xa), .val (.int xb), .val (.int xc), .val (.int fl), .val (.ref r_1), .val (.ref r_2), .val .null, .val (.ref b65), .unset, .unset] [(.int (0 : Int32)), (.int (0 : Int32)), (.ref b93), (.ref b93), (.ref b65)])) rfl (by rw [hml]; rfl) (Steps.refl _) (a := b93) (argsL := [(.int (0 : Int32)), (.int (0 : Int32))]) (rest := [(.ref b93), (.ref b65)]) (lenOf pd_6 rfl) rfl (by show 2 * 0 + _ ≤ _; exact Nat.le_of_eq rfl) (hb hby at_81) (fun _ _ => ⟨rfl, e93, (by decide : 7 + 0 ≤ _), (by decide : 49 + 0 ≤ _)⟩)
    dsimp only [Pt.U, Pt.locs, Pt.cells, Pt.slots] at X96 lq96 yq96 zq96 st96 hQ96
    subst lq96 yq96 zq96
    obtain ⟨h96, e96⟩ : ∃ z, T96.heap = z := ⟨_, rfl⟩
    rw [e96] at hQ96
    obtain ⟨rfl, Nq96, K96, g96_0, g96_1, g96_2⟩ := hQ96
    have sz96 : h93.size ≤ h96.size := K96.1
    have N96 := Fr.app N87 Nq96
    have lt96_1 : @LT.lt Nat _ b93 h96.size := g96_0.lt
    refine own_go (st' := T96.setTop (mkF m 84 #[.val (.int xa), .val (.int xb), .val (.int xc), .val (.int fl), .val (.ref r_1), .val (.ref r_2), .val .null, .val (.ref b65), .unset, .unset] [(.ref b93), (.ref b65)])) (fun _ k => st96.trans k) ?_
    have c98 : Exa Z h96 b65 "com/example/greenwood/greenwood/Environment" := (((c88.keep K87).ext E93).keep K96)
    have c99 : Fld Z h96 b65 "com/example/greenwood/greenwood/Environment" "openScopes" "I" (.int (1 : Int32)) := (((c89.keep K87 (ninS (by first | assumption | exact Ne.symm (by assumption) | (apply Nat.ne_of_lt; omega) | (apply Nat.ne_of_gt; omega)) nin0)).ext E93).keep K96 (ninS (by first | assumption | exact Ne.symm (by assumption) | (apply Nat.ne_of_lt; omega) | (apply Nat.ne_of_gt; omega)) nin0))
    have c100 : Fld Z h96 b65 "com/example/greenwood/greenwood/Environment" "localCount" "I" (.int (2 : Int32)) := (((c90.keep K87 (ninS (by first | assumption | exact Ne.symm (by assumption) | (apply Nat.ne_of_lt; omega) | (apply Nat.ne_of_gt; omega)) nin0)).ext E93).keep K96 (ninS (by first | assumption | exact Ne.symm (by assumption) | (apply Nat.ne_of_lt; omega) | (apply Nat.ne_of_gt; omega)) nin0))
    have c101 : Fld Z h96 b65 "com/example/greenwood/greenwood/Environment" "locals" "[Ljava/lang/Object;" (.ref rl_71) := (((c91.keep K87 (ninS (by first | assumption | exact Ne.symm (by assumption) | (apply Nat.ne_of_lt; omega) | (apply Nat.ne_of_gt; omega)) nin0)).ext E93).keep K96 (ninS (by first | assumption | exact Ne.symm (by assumption) | (apply Nat.ne_of_lt; omega) | (apply Nat.ne_of_gt; omega)) nin0))
    have c102 : Fld Z h96 b65 "com/example/greenwood/greenwood/Environment" "scopeStarts" "[I" (.ref rs_71) := (((c92.keep K87 (ninS (by first | assumption | exact Ne.symm (by assumption) | (apply Nat.ne_of_lt; omega) | (apply Nat.ne_of_gt; omega)) nin0)).ext E93).keep K96 (ninS (by first | assumption | exact Ne.symm (by assumption) | (apply Nat.ne_of_lt; omega) | (apply Nat.ne_of_gt; omega)) nin0))
    have c103 : Arv Z h96 rl_71 kl_71 (.object "java/lang/Object") (16 : Int32) [(.ref r_1), .null, .null, .null, .null, .null, .null, .null, .null, .null, .null, .null, .null, .null, .null, .null] .null := ((g87_0.ext E93).keep K96 (ninS (by first | assumption | exact Ne.symm (by assumption) | (apply Nat.ne_of_lt; omega) | (apply Nat.ne_of_gt; omega)) nin0))
    have c104 : Arv Z h96 rs_71 ks_71 .int (16 : Int32) [(.int (0 : Int32)), (.int (0 : Int32)), (.int (0 : Int32)), (.int (0 : Int32)), (.int (0 : Int32)), (.int (0 : Int32)), (.int (0 : Int32)), (.int (0 : Int32)), (.int (0 : Int32)), (.int (0 : Int32)), (.int (0 : Int32)), (.int (0 : Int32)), (.int (0 : Int32)), (.int (0 : Int32)), (.int (0 : Int32)), (.int (0 : Int32))] (.int (0 : Int32)) := (((((((g72_5.keep K73 (ninS (by first | assumption | exact Ne.symm (by assumption) | (apply Nat.ne_of_lt; omega) | (apply Nat.ne_of_gt; omega)) nin0)).keep K75 (ninS (by first | assumption | exact Ne.symm (by assumption) | (apply Nat.ne_of_lt; omega) | (apply Nat.ne_of_gt; omega)) nin0)).keep K78 (ninS (by first | assumption | exact Ne.symm (by assumption) | (apply Nat.ne_of_lt; omega) | (apply Nat.ne_of_gt; omega)) nin0)).keep K84 (ninS (by first | assumption | exact Ne.symm (by assumption) | (apply Nat.ne_of_lt; omega) | (apply Nat.ne_of_gt; omega)) nin0)).keep K87 (ninS (by first | assumption | exact Ne.symm (by assumption) | (apply Nat.ne_of_lt; omega) | (apply Nat.ne_of_gt; omega)) nin0)).ext E93).keep K96 (ninS (by first | assumption | exact Ne.symm (by assumption) | (apply Nat.ne_of_lt; omega) | (apply Nat.ne_of_gt; omega)) nin0))
    obtain ⟨cq97, kq97, q97a, q97b, q97c⟩ := isOf hZ e96 c98
    obtain ⟨_, _, ⟨T97, LC97, kC97, nC97⟩, -, X97, ⟨Lc97, hQ97, lq97, yq97, zq97⟩, st97⟩ := X96.virtualBack hx (y := (⟨"com/example/greenwood/greenwood/Environment", "get", "(Lcom/example/greenwood/greenwood/Local;)Ljava/lang/Object;"⟩ : MethodName)) (z := (⟨"com/example/greenwood/greenwood/Environment", "get", "(Lcom/example/greenwood/greenwood/Local;)Ljava/lang/Object;"⟩ : MethodName)) hown (mvT hZ (hw _ (List.mem_of_getElem? (i := 77) rfl))) (mvT hZ (hw _ (List.mem_of_getElem? (i := 78) rfl))) (notFace_of_selects (args := #[]) (mvT hZ (hw _ (List.mem_of_getElem? (i := 80) rfl)))) (mvT hZ (hw _ (List.mem_of_getElem? (i := 80) rfl))) (mvT hZ (hw _ (List.mem_of_getElem? (i := 79) rfl))) (by decide) (backOf (W := 0) (rm11_0 l Z a0 hw [] b65 rl_71 rs_71 kl_71 ks_71 b93 (.ref r_1) .null h96 n0 (by omega) c98 c99 c100 c101 c102 c103 c104 g96_0 g96_1 g96_2 rfl) hZ (hw _ (List.mem_of_getElem? (i := 81) rfl)) (hw _ (List.mem_of_getElem? (i := 9) rfl)) (by decide) (by decide)) q97a q97c (g := (mkF m 84 #[.val (.int xa), .val (.int xb), .val (.int xc), .val (.int fl), .val (.ref r_1), .val (.ref r_2), .val .null, .val (.ref b65), .unset, .unset] [(.ref b93), (.ref b65)])) rfl (by rw [hml]; rfl) (Steps.refl _) (argsL := [(.ref b93)]) (rest := []) (lenOf pd_7 rfl) rfl (by show 2 * 0 + _ ≤ _; exact Nat.le_of_eq rfl) (hb hby at_84) (fun _ _ => ⟨rfl, e96, (by decide : 7 + 0 ≤ _), (by decide : 49 + 0 ≤ _)⟩)
    dsimp only [Pt.U, Pt.locs, Pt.cells, Pt.slots] at X97 lq97 yq97 zq97 st97 hQ97
    subst lq97 yq97 zq97
    obtain ⟨rfl, Nq97, eq97⟩ := hQ97
    have N97 := Fr.app N96 Nq97
    refine own_go (st' := T97.setTop (mkF m 87 #[.val (.int xa), .val (.int xb), .val (.int xc), .val (.int fl), .val (.ref r_1), .val (.ref r_2), .val .null, .val (.ref b65), .unset, .unset] [(.ref r_1)])) (fun _ k => st97.trans k) ?_
    refine own_go (st' := T97.setTop (mkF m 89 #[.val (.int xa), .val (.int xb), .val (.int xc), .val (.int fl), .val (.ref r_1), .val (.ref r_2), .val .null, .val (.ref b65), .val (.ref r_1), .unset] [])) (fun _ k => XS.astore X97.here hx rfl (hb hby at_87) rfl rfl (l' := #[.val (.int xa), .val (.int xb), .val (.int xc), .val (.int fl), .val (.ref r_1), .val (.ref r_2), .val .null, .val (.ref b65), .val (.ref r_1), .unset]) rfl k) ?_
    refine own_go (st' := T97.setTop (mkF m 91 #[.val (.int xa), .val (.int xb), .val (.int xc), .val (.int fl), .val (.ref r_1), .val (.ref r_2), .val .null, .val (.ref b65), .val (.ref r_1), .unset] [(.ref b65)])) (fun _ k => XS.aload X97.here hx rfl (hb hby at_89) rfl rfl k) ?_
    obtain ⟨T105, h105, X105, e105, E105, A105, D105, -, st105⟩ := newO X97 hx hZ hown (hw _ (List.mem_of_getElem? (i := 61) rfl)) (hw _ (List.mem_of_getElem? (i := 62) rfl)) (hw _ (List.mem_of_getElem? (i := 63) rfl)) eq97 (g := (mkF m 91 #[.val (.int xa), .val (.int xb), .val (.int xc), .val (.int fl), .val (.ref r_1), .val (.ref r_2), .val .null, .val (.ref b65), .val (.ref r_1), .unset] [(.ref b65)])) rfl (hb hby at_91) (by decide) (by decide)
    obtain ⟨b105, g105⟩ : ∃ z, z = h96.size := ⟨_, rfl⟩
    rw [← g105] at A105 D105 st105
    have sz105 : h96.size ≤ h105.size := E105.1
    have lt105 : @LT.lt Nat _ b105 h105.size := A105.lt
    have f106 : Fld Z h105 b105 "com/example/greenwood/greenwood/Local" "depth" "I" (.int (0 : Int32)) := D105 (Or.inr (hw _ (List.mem_of_getElem? (i := 74) rfl))) (ty := .int) (by decide)
    have f107 : Fld Z h105 b105 "com/example/greenwood/greenwood/Local" "slot" "I" (.int (0 : Int32)) := D105 (Or.inr (hw _ (List.mem_of_getElem? (i := 76) rfl))) (ty := .int) (by decide)
    refine own_go (st' := T105.setTop (mkF m 94 #[.val (.int xa), .val (.int xb), .val (.int xc), .val (.int fl), .val (.ref r_1), .val (.ref r_2), .val .null, .val (.ref b65), .val (.ref r_1), .unset] [(.ref b105), (.ref b65)])) (st105) ?_
    refine own_go (st' := T105.setTop (mkF m 95 #[.val (.int xa), .val (.int xb), .val (.int xc), .val (.int fl), .val (.ref r_1), .val (.ref r_2), .val .null, .val (.ref b65), .val (.ref r_1), .unset] [(.ref b105), (.ref b105), (.ref b65)])) (fun _ k => XS.dup X105.here hx rfl (hb hby at_94) rfl rfl k) ?_
    refine own_go (st' := T105.setTop (mkF m 96 #[.val (.int xa), .val (.int xb), .val (.int xc), .val (.int fl), .val (.ref r_1), .val (.ref r_2), .val .null, .val (.ref b65), .val (.ref r_1), .unset] [(.int (0 : Int32)), (.ref b105), (.ref b105), (.ref b65)])) (fun _ k => XS.iconst X105.here hx rfl (hb hby at_95) k) ?_
    refine own_go (st' := T105.setTop (mkF m 97 #[.val (.int xa), .val (.int xb), .val (.int xc), .val (.int fl), .val (.ref r_1), .val (.ref r_2), .val .null, .val (.ref b65), .val (.ref r_1), .unset] [(.int (1 : Int32)), (.int (0 : Int32)), (.ref b105), (.ref b105), (.ref b65)])) (fun _ k => XS.iconst X105.here hx rfl (hb hby at_96) k) ?_
    obtain ⟨_, _, ⟨T108, LC108, kC108, nC108⟩, -, X108, ⟨Lc108, hQ108, lq108, yq108, zq108⟩, st108⟩ := X105.specialBack hx (y := (⟨"com/example/greenwood/greenwood/Local", "<init>", "(II)V"⟩ : MethodName)) rfl hown (mvT hZ (hw _ (List.mem_of_getElem? (i := 64) rfl))) (mvT hZ (hw _ (List.mem_of_getElem? (i := 65) rfl))) (mvT hZ (hw _ (List.mem_of_getElem? (i := 66) rfl))) (by decide) (backOf (W := 2) (rm9 l Z a0 hw [] b105 (0 : Int32) (1 : Int32) (0 : Int32) (0 : Int32) h105 n0 (by omega) A105 f106 f107 (by omega)) hZ (hw _ (List.mem_of_getElem? (i := 66) rfl)) (hw _ (List.mem_of_getElem? (i := 63) rfl)) (by decide) (by decide)) (g := (mkF m 97 #[.val (.int xa), .val (.int xb), .val (.int xc), .val (.int fl), .val (.ref r_1), .val (.ref r_2), .val .null, .val (.ref b65), .val (.ref r_1), .unset] [(.int (1 : Int32)), (.int (0 : Int32)), (.ref b105), (.ref b105), (.ref b65)])) rfl (by rw [hml]; rfl) (Steps.refl _) (a := b105) (argsL := [(.int (0 : Int32)), (.int (1 : Int32))]) (rest := [(.ref b105), (.ref b65)]) (lenOf pd_6 rfl) rfl (by show 2 * 0 + _ ≤ _; exact Nat.le_of_eq rfl) (hb hby at_97) (fun _ _ => ⟨rfl, e105, (by decide : 8 + 0 ≤ _), (by decide : 51 + 0 ≤ _)⟩)
    dsimp only [Pt.U, Pt.locs, Pt.cells, Pt.slots] at X108 lq108 yq108 zq108 st108 hQ108
    subst lq108 yq108 zq108
    obtain ⟨h108, e108⟩ : ∃ z, T108.heap = z := ⟨_, rfl⟩
    rw [e108] at hQ108
    obtain ⟨rfl, Nq108, K108, g108_0, g108_1, g108_2⟩ := hQ108
    have sz108 : h105.size ≤ h108.size := K108.1
    have N108 := Fr.app N97 Nq108
    have lt108_1 : @LT.lt Nat _ b105 h108.size := g108_0.lt
    refine own_go (st' := T108.setTop (mkF m 100 #[.val (.int xa), .val (.int xb), .val (.int xc), .val (.int fl), .val (.ref r_1), .val (.ref r_2), .val .null, .val (.ref b65), .val (.ref r_1), .unset] [(.ref b105), (.ref b65)])) (fun _ k => st108.trans k) ?_
    have c110 : Exa Z h108 b65 "com/example/greenwood/greenwood/Environment" := ((c98.ext E105).keep K108)
    have c111 : Fld Z h108 b65 "com/example/greenwood/greenwood/Environment" "openScopes" "I" (.int (1 : Int32)) := ((c99.ext E105).keep K108 (ninS (by first | assumption | exact Ne.symm (by assumption) | (apply Nat.ne_of_lt; omega) | (apply Nat.ne_of_gt; omega)) nin0))
    have c112 : Fld Z h108 b65 "com/example/greenwood/greenwood/Environment" "localCount" "I" (.int (2 : Int32)) := ((c100.ext E105).keep K108 (ninS (by first | assumption | exact Ne.symm (by assumption) | (apply Nat.ne_of_lt; omega) | (apply Nat.ne_of_gt; omega)) nin0))
    have c113 : Fld Z h108 b65 "com/example/greenwood/greenwood/Environment" "locals" "[Ljava/lang/Object;" (.ref rl_71) := ((c101.ext E105).keep K108 (ninS (by first | assumption | exact Ne.symm (by assumption) | (apply Nat.ne_of_lt; omega) | (apply Nat.ne_of_gt; omega)) nin0))
    have c114 : Fld Z h108 b65 "com/example/greenwood/greenwood/Environment" "scopeStarts" "[I" (.ref rs_71) := ((c102.ext E105).keep K108 (ninS (by first | assumption | exact Ne.symm (by assumption) | (apply Nat.ne_of_lt; omega) | (apply Nat.ne_of_gt; omega)) nin0))
    have c115 : Arv Z h108 rl_71 kl_71 (.object "java/lang/Object") (16 : Int32) [(.ref r_1), .null, .null, .null, .null, .null, .null, .null, .null, .null, .null, .null, .null, .null, .null, .null] .null := ((c103.ext E105).keep K108 (ninS (by first | assumption | exact Ne.symm (by assumption) | (apply Nat.ne_of_lt; omega) | (apply Nat.ne_of_gt; omega)) nin0))
    have c116 : Arv Z h108 rs_71 ks_71 .int (16 : Int32) [(.int (0 : Int32)), (.int (0 : Int32)), (.int (0 : Int32)), (.int (0 : Int32)), (.int (0 : Int32)), (.int (0 : Int32)), (.int (0 : Int32)), (.int (0 : Int32)), (.int (0 : Int32)), (.int (0 : Int32)), (.int (0 : Int32)), (.int (0 : Int32)), (.int (0 : Int32)), (.int (0 : Int32)), (.int (0 : Int32)), (.int (0 : Int32))] (.int (0 : Int32)) := ((c104.ext E105).keep K108 (ninS (by first | assumption | exact Ne.symm (by assumption) | (apply Nat.ne_of_lt; omega) | (apply Nat.ne_of_gt; omega)) nin0))
    obtain ⟨cq109, kq109, q109a, q109b, q109c⟩ := isOf hZ e108 c110
    obtain ⟨_, _, ⟨T109, LC109, kC109, nC109⟩, -, X109, ⟨Lc109, hQ109, lq109, yq109, zq109⟩, st109⟩ := X108.virtualBack hx (y := (⟨"com/example/greenwood/greenwood/Environment", "get", "(Lcom/example/greenwood/greenwood/Local;)Ljava/lang/Object;"⟩ : MethodName)) (z := (⟨"com/example/greenwood/greenwood/Environment", "get", "(Lcom/example/greenwood/greenwood/Local;)Ljava/lang/Object;"⟩ : MethodName)) hown (mvT hZ (hw _ (List.mem_of_getElem? (i := 77) rfl))) (mvT hZ (hw _ (List.mem_of_getElem? (i := 78) rfl))) (notFace_of_selects (args := #[]) (mvT hZ (hw _ (List.mem_of_getElem? (i := 80) rfl)))) (mvT hZ (hw _ (List.mem_of_getElem? (i := 80) rfl))) (mvT hZ (hw _ (List.mem_of_getElem? (i := 79) rfl))) (by decide) (backOf (W := 0) (rm11_1 l Z a0 hw [] b65 rl_71 rs_71 kl_71 ks_71 b105 (.ref r_1) .null h108 n0 (by omega) c110 c111 c112 c113 c114 c115 c116 g108_0 g108_1 g108_2 rfl) hZ (hw _ (List.mem_of_getElem? (i := 81) rfl)) (hw _ (List.mem_of_getElem? (i := 9) rfl)) (by decide) (by decide)) q109a q109c (g := (mkF m 100 #[.val (.int xa), .val (.int xb), .val (.int xc), .val (.int fl), .val (.ref r_1), .val (.ref r_2), .val .null, .val (.ref b65), .val (.ref r_1), .unset] [(.ref b105), (.ref b65)])) rfl (by rw [hml]; rfl) (Steps.refl _) (argsL := [(.ref b105)]) (rest := []) (lenOf pd_7 rfl) rfl (by show 2 * 0 + _ ≤ _; exact Nat.le_of_eq rfl) (hb hby at_100) (fun _ _ => ⟨rfl, e108, (by decide : 8 + 0 ≤ _), (by decide : 51 + 0 ≤ _)⟩)
    dsimp only [Pt.U, Pt.locs, Pt.cells, Pt.slots] at X109 lq109 yq109 zq109 st109 hQ109
    subst lq109 yq109 zq109
    obtain ⟨rfl, Nq109, eq109⟩ := hQ109
    have N109 := Fr.app N108 Nq109
    refine own_go (st' := T109.setTop (mkF m 103 #[.val (.int xa), .val (.int xb), .val (.int xc), .val (.int fl), .val (.ref r_1), .val (.ref r_2), .val .null, .val (.ref b65), .val (.ref r_1), .unset] [.null])) (fun _ k => st109.trans k) ?_
    refine own_go (st' := T109.setTop (mkF m 105 #[.val (.int xa), .val (.int xb), .val (.int xc), .val (.int fl), .val (.ref r_1), .val (.ref r_2), .val .null, .val (.ref b65), .val (.ref r_1), .val .null] [])) (fun _ k => XS.astore X109.here hx rfl (hb hby at_103) rfl rfl (l' := #[.val (.int xa), .val (.int xb), .val (.int xc), .val (.int fl), .val (.ref r_1), .val (.ref r_2), .val .null, .val (.ref b65), .val (.ref r_1), .val .null]) rfl k) ?_
    refine own_go (st' := T109.setTop (mkF m 107 #[.val (.int xa), .val (.int xb), .val (.int xc), .val (.int fl), .val (.ref r_1), .val (.ref r_2), .val .null, .val (.ref b65), .val (.ref r_1), .val .null] [(.ref r_1)])) (fun _ k => XS.aload X109.here hx rfl (hb hby at_105) rfl rfl k) ?_
    refine own_go (st' := T109.setTop (mkF m 109 #[.val (.int xa), .val (.int xb), .val (.int xc), .val (.int fl), .val (.ref r_1), .val (.ref r_2), .val .null, .val (.ref b65), .val (.ref r_1), .val .null] [(.ref r_1), (.ref r_1)])) (fun _ k => XS.aload X109.here hx rfl (hb hby at_107) rfl rfl k) ?_
    refine own_go (st' := T109.setTop (mkF m 112 #[.val (.int xa), .val (.int xb), .val (.int xc), .val (.int fl), .val (.ref r_1), .val (.ref r_2), .val .null, .val (.ref b65), .val (.ref r_1), .val .null] [])) (fun _ k => Jvm.RoadKit.acmp (g := (mkF m 109 #[.val (.int xa), .val (.int xb), .val (.int xc), .val (.int fl), .val (.ref r_1), .val (.ref r_2), .val .null, .val (.ref b65), .val (.ref r_1), .val .null] [(.ref r_1), (.ref r_1)])) X109 hx rfl rfl rfl (pc0 := 109) (pc' := 112) (same := true) rfl (hb hby at_109) rfl (decide_eq_true rfl) (by decide) (by decide) k) ?_
    refine own_go (st' := T109.setTop (mkF m 114 #[.val (.int xa), .val (.int xb), .val (.int xc), .val (.int fl), .val (.ref r_1), .val (.ref r_2), .val .null, .val (.ref b65), .val (.ref r_1), .val .null] [.null])) (fun _ k => XS.aload X109.here hx rfl (hb hby at_112) rfl rfl k) ?_
    refine own_go (st' := T109.setTop (mkF m 116 #[.val (.int xa), .val (.int xb), .val (.int xc), .val (.int fl), .val (.ref r_1), .val (.ref r_2), .val .null, .val (.ref b65), .val (.ref r_1), .val .null] [.null, .null])) (fun _ k => XS.aload X109.here hx rfl (hb hby at_114) rfl rfl k) ?_
    refine own_go (st' := T109.setTop (mkF m 119 #[.val (.int xa), .val (.int xb), .val (.int xc), .val (.int fl), .val (.ref r_1), .val (.ref r_2), .val .null, .val (.ref b65), .val (.ref r_1), .val .null] [])) (fun _ k => Jvm.RoadKit.acmp (g := (mkF m 116 #[.val (.int xa), .val (.int xb), .val (.int xc), .val (.int fl), .val (.ref r_1), .val (.ref r_2), .val .null, .val (.ref b65), .val (.ref r_1), .val .null] [.null, .null])) X109 hx rfl rfl rfl (pc0 := 116) (pc' := 119) (same := true) rfl (hb hby at_116) rfl (decide_eq_true rfl) (by decide) (by decide) k) ?_
    refine own_go (st' := T109.setTop (mkF m 120 #[.val (.int xa), .val (.int xb), .val (.int xc), .val (.int fl), .val (.ref r_1), .val (.ref r_2), .val .null, .val (.ref b65), .val (.ref r_1), .val .null] [(.int (1 : Int32))])) (fun _ k => XS.iconst X109.here hx rfl (hb hby at_119) k) ?_
    refine own_go (st' := T109.setTop (mkF m 124 #[.val (.int xa), .val (.int xb), .val (.int xc), .val (.int fl), .val (.ref r_1), .val (.ref r_2), .val .null, .val (.ref b65), .val (.ref r_1), .val .null] [(.int (1 : Int32))])) (fun _ k => XS.goto X109.here hx rfl (pc0 := 120) (pc' := 124) rfl (hb hby at_120) (by decide) (by decide) k) ?_
    obtain ⟨fs, hr, hrun, hended, hW, hsame⟩ := X109.leave (v := some (.int (1 : Int32))) (fun h => by rw [Bd.returns] at h; cases h)
    refine ⟨_, _, ?_, hP _ _ hrun hended ⟨_, _, rfl, ?_, ⟨_, rfl⟩, hW, hsame.mono (by decide) (by decide)⟩⟩
    · exact retN X109 hx (t := .boolean) Bd.returns (by simp) (hb hby at_124) hr
    · show Qrm0 Z xa xb xc fl ca h0 n0 _ T109.heap _
      rw [eq109]
      exact ⟨rfl, N109, trivial⟩
set_option maxRecDepth 65536 in
set_option maxHeartbeats 40000000 in
theorem comes_1 {Post : Tables → Env → Array Value → State → Outcome → State → Prop} (hpost : ∀ tb e args s v u, (limb_1_1.after args s (.returned v) u = true ∧ limb_1_2.after args s (.returned v) u = true ∧ True) → FrameEnd s (.returned v) u (Jvm.fieldLocs frame_1_writes args s ++ Jvm.arrayLocs frame_1_arrays args s ++ Jvm.staticLocs frame_1_statics s) 32 192 → Post tb e args s (.returned v) u) :
    ArmFor flags0 classFile x code maxLocals ret World_1 tables_1 room_1 Calls_1 rest_1 Pre_1 Post := by
  intro l hfl _ _ p e ha hc hk s m args below hf hA hF happ hP
  obtain ⟨hcalls, hrest, hpre⟩ := hP
  obtain ⟨-, -, -, hnamed, -, -, -, hat⟩ := (Spec.applies_iff hf).mp happ
  obtain ⟨hg, hn⟩ := and_e (Cond.before_iff.mp (show (Jvm.Cond.and given_1 narrow_1).before args s = true from hpre))
  obtain ⟨h1, h2⟩ := and_e hg
  obtain ⟨w0, w1, w2, w3, rfl⟩ : ∃ w0 w1 w2 w3 : Value, args = #[w0, w1, w2, w3] := by
    have hs : args.size = 4 := by simpa [Cond.value, given_1] using h1
    obtain ⟨L⟩ := args
    match L, hs with
    | [w0, w1, w2, w3], _ => exact ⟨w0, w1, w2, w3, rfl⟩
  have hw := fun d (hd : d ∈ tables_1) => atoms_spec (ws := Jvm.Cond.code x code maxLocals ret :: tables_1) hat d (List.mem_cons_of_mem _ hd)
  have hfit : Fit s := fun {y c} hc i hi => by
    obtain ⟨ha, rfl⟩ := Array.getElem?_eq_some_iff.mp hc
    have q := List.all_eq_true.mp ((Array.all_eq_true_iff_forall_mem.mp hF) _ (Array.getElem_mem ha)) i (List.mem_range.mpr hi)
    simpa [Array.getElem?_eq_getElem hi] using q
  obtain ⟨hsets, hown0⟩ := atoms_of _ (rest_1_c_eq ▸ (show rest_1_c.before _ s = true from hrest))
  obtain ⟨ha0, hr0⟩ := and_e h2
  obtain ⟨xa, ev0⟩ := is_v ha0
  obtain rfl : w0 = (.int xa) := Option.some.inj ev0
  obtain ⟨ha1, hr1⟩ := and_e hr0
  obtain ⟨xb, ev1⟩ := is_v ha1
  obtain rfl : w1 = (.int xb) := Option.some.inj ev1
  obtain ⟨ha2, hr2⟩ := and_e hr1
  obtain ⟨xc, ev2⟩ := is_v ha2
  obtain rfl : w2 = (.int xc) := Option.some.inj ev2
  obtain ⟨fl, ev3⟩ := is_v hr2
  obtain rfl : w3 = (.int fl) := Option.some.inj ev3
  have eHigh := own_stI (Cond.before_iff.mp (hsets _ (List.mem_of_getElem? (i := 3) rfl)))
  have sHigh : Sta s s.heap "java/lang/Integer$IntegerCache" "high" "I" (.int (127 : Int32)) := Sta.start eHigh (Or.inl (hsets _ (List.mem_of_getElem? (i := 1) rfl)))
  obtain ⟨ca, eca⟩ := arr_v (Cond.before_iff.mp (hsets _ (List.mem_of_getElem? (i := 4) rfl)))
  obtain ⟨clca, Arca⟩ := Arr.start eca (Cond.before_iff.mp (hsets _ (List.mem_of_getElem? (i := 4) rfl)))
  have sca : Sta s s.heap "java/lang/Integer$IntegerCache" "cache" "[Ljava/lang/Integer;" (.ref ca) := Sta.start eca (Or.inr ⟨(hw _ (List.mem_of_getElem? (i := 5) rfl)), (hsets _ (List.mem_of_getElem? (i := 2) rfl))⟩)
  have hca := own_cache_of eca Arca (own_len eca Arca.1 (Cond.before_iff.mp (hsets _ (List.mem_of_getElem? (i := 6) rfl)))) (Cond.before_iff.mp (hsets _ (List.mem_of_getElem? (i := 7) rfl)))
  obtain ⟨n, o, h1, h2, h3, _, L, rfl, hQ, hq⟩ := rm0 l s _ hw tables_1 xa xb xc fl ca s.heap s.heap.size (Nat.le_refl _) sHigh sca hca p e ha hc hk s m _ below hf ((Spec.applies_iff_loose hf).mp happ).1 ⟨rfl, State.Warmed39.refl s, rfl⟩ trivial
  obtain ⟨rfl, N, -⟩ := hQ
  refine ⟨n, _, h1, h2, h3, hpost _ _ _ _ _ _ ⟨Cond.after_iff.mpr rfl, Cond.after_iff.mpr (eq_i res_at (Term.int_eval (1)) rfl), trivial⟩ ⟨hq.1, hq.2.1, (hq.2.2.sift fun y hy => Or.inr (N y hy)).mono (by decide) (by decide)⟩⟩
theorem main_1_1 : Claimed_1_1 := comes_1 fun _ _ _ _ _ _ h hF => ⟨h.1, hF⟩
theorem main_1_2 : Claimed_1_2 := comes_1 fun _ _ _ _ _ _ h hF => ⟨h.2.1, hF⟩
end Jvm.Pilot.@@N@@
namespace Jvm.Pilot.@@N@@
open Jvm Jvm.ClassFile Sem Op Lib Jvm.Free Jvm.Stand Jvm.Pilot.@@N@@.Jvm.D
/-! MADE BY PROGRAM (witnessworld.py) out of the Statement's table words and the real class files: 22 classes; the members and pool entries that the words name. The judged class is class 1, her method 1. -/
namespace start1
open Jvm.ClassFile
def u (s : String) : CpInfo := .utf8 (stringToUtf16 s)
/-- a pool by its gaps: so many unusable entries, then the entry; so many at the end -/
def gap : Nat → List CpInfo → List CpInfo
  | 0, r => r
  | n + 1, r => .unusable :: gap n r
def poolList (es : List (Nat × CpInfo)) (last : Nat) : List CpInfo := es.foldr (fun e r => gap e.1 (e.2 :: r)) (gap last [])
def pool (es : List (Nat × CpInfo)) (last : Nat) : Array CpInfo := ⟨poolList es last⟩
def fileOf (pool : Array CpInfo) (this : Nat) (attrs : Array Attribute := #[]) (ms : Array MethodInfo := #[]) (fl : Nat := 33) (sup : Nat := 0) (ifs : Array Nat := #[]) (fds : Array FieldInfo := #[]) : ClassFile where
  minorVersion := 0
  majorVersion := 65
  constantPool := pool
  accessFlags := fl
  thisClass := this
  superClass := sup
  interfaces := ifs
  fields := fds
  methods := ms
  attributes := attrs
def plain (name : String) (sup : Option ClassId) : Class where
  name := name
  kind := .ordinary
  loader := none
  accessFlags := 33
  super := sup
  interfaces := #[]
  cf := none
  fields := #[]
  methods := #[]
  instanceTypes := #[]
  staticTypes := #[]
  resolved := #[]
  callSites := []
  init := .initialized
  statics := none
  mirror := none

def pool0 : Array CpInfo := pool [(5, u "<init>"), (0, u "()V"), (1, .class_ 10), (1, u "java/lang/Object")] 113

def k0c0 : Code := { maxStack := 0, maxLocals := 1, code := object_method_1_code, exceptionTable := #[], attributes := #[] }
def k0m0 : Method := { name := "<init>", desc := "()V", sig := { parameters := [], returnType := none }, accessFlags := 1, code := some k0c0 }
/-- java/lang/Object -/
def k0 : Class := { plain "java/lang/Object" none with
  accessFlags := 33
  interfaces := #[]
  cf := some (fileOf pool0 8 #[] #[{ accessFlags := 1, nameIndex := 5, descriptorIndex := 6, attributes := #[] }] 33 0 #[] #[])
  fields := #[]
  methods := #[k0m0]
  instanceTypes := #[]
  staticTypes := #[]
  resolved := Array.replicate 124 none
  statics := none }

def pool1 : Array CpInfo := pool [(2, .class_ 4), (0, .nameAndType 5 6), (0, u "java/lang/Object"), (0, u "<init>"), (0, u "()V"), (0, .methodref 8 9), (0, .class_ 10), (0, .nameAndType 11 12), (0, u "java/lang/Integer"), (0, u "valueOf"), (0, u "(I)Ljava/lang/Integer;"), (0, .class_ 14), (0, u "com/example/greenwood/greenwood/Environment"), (0, .methodref 13 3), (0, .methodref 13 17), (0, .nameAndType 18 6), (0, u "openScope"), (0, .methodref 13 20), (0, .nameAndType 21 6), (0, u "declare"), (0, .methodref 13 23), (0, .nameAndType 24 25), (0, u site_51.name), (0, u "(Ljava/lang/Object;)V"), (0, .class_ 27), (0, u "com/example/greenwood/greenwood/Local"), (0, .methodref 26 29), (0, .nameAndType 5 30), (0, u "(II)V"), (0, .methodref 13 32), (0, .nameAndType 33 34), (0, u "get"), (0, u "(Lcom/example/greenwood/greenwood/Local;)Ljava/lang/Object;"), (0, .class_ 36), (0, u "com/example/greenwood/greenwood/EnvironmentInitializePinLaw"), (2, u "law"), (0, u "(IIII)Z")] 3

def k1m0 : Method := { name := "<init>", desc := "()V", sig := { parameters := [], returnType := none }, accessFlags := 2, code := none }
def k1c1 : Code := { maxStack := 5, maxLocals := 10, code := code, exceptionTable := #[], attributes := #[] }
def k1m1 : Method := { name := "law", desc := "(IIII)Z", sig := { parameters := [.int, .int, .int, .int], returnType := some .boolean }, accessFlags := 9, code := some k1c1 }
/-- com/example/greenwood/greenwood/EnvironmentInitializePinLaw -/
def k1 : Class := { plain "com/example/greenwood/greenwood/EnvironmentInitializePinLaw" (some 0) with
  accessFlags := 49
  interfaces := #[]
  cf := some (fileOf pool1 35 #[] #[{ accessFlags := 2, nameIndex := 5, descriptorIndex := 6, attributes := #[] }, { accessFlags := 9, nameIndex := 39, descriptorIndex := 40, attributes := #[] }] 49 2 #[] #[])
  fields := #[]
  methods := #[k1m0, k1m1]
  instanceTypes := #[]
  staticTypes := #[]
  resolved := Array.replicate 44 none
  statics := none }

def pool2 : Array CpInfo := pool [(1, .class_ 2), (0, u "java/io/Serializable"), (0, .class_ 4), (0, u "java/lang/Object")] 2

/-- java/io/Serializable -/
def k2 : Class := { plain "java/io/Serializable" (some 0) with
  accessFlags := 1537
  interfaces := #[]
  cf := some (fileOf pool2 1 #[] #[] 1537 3 #[] #[])
  fields := #[]
  methods := #[]
  instanceTypes := #[]
  staticTypes := #[]
  resolved := Array.replicate 7 none
  statics := none }

def pool3 : Array CpInfo := pool [(1, .methodref 2 3), (0, .class_ 4), (0, .nameAndType 5 6), (0, u "java/lang/Object"), (0, u "<init>"), (0, u "()V"), (1, .class_ 10), (1, u "java/lang/Number"), (2, .class_ 14), (0, u "java/io/Serializable"), (0, u "serialVersionUID"), (0, u "J")] 20

def k3c0 : Code := { maxStack := 1, maxLocals := 1, code := jdk_18_method_1_code, exceptionTable := #[], attributes := #[] }
def k3m0 : Method := { name := "<init>", desc := "()V", sig := { parameters := [], returnType := none }, accessFlags := 1, code := some k3c0 }
/-- java/lang/Number -/
def k3 : Class := { plain "java/lang/Number" (some 0) with
  accessFlags := 1057
  interfaces := #[2]
  cf := some (fileOf pool3 8 #[] #[{ accessFlags := 1, nameIndex := 5, descriptorIndex := 6, attributes := #[] }] 1057 2 #[13] #[{ accessFlags := 26, nameIndex := 15, descriptorIndex := 16, attributes := #[] }])
  fields := #[{ name := "serialVersionUID", type := .long, accessFlags := 26, slot := 0, constantValue := 0 }]
  methods := #[k3m0]
  instanceTypes := #[]
  staticTypes := #[.long]
  resolved := Array.replicate 37 none
  statics := none }

def pool4 : Array CpInfo := pool [(1, .class_ 2), (0, u "java/lang/Comparable"), (0, .class_ 4), (0, u "java/lang/Object")] 7

/-- java/lang/Comparable -/
def k4 : Class := { plain "java/lang/Comparable" (some 0) with
  accessFlags := 1537
  interfaces := #[]
  cf := some (fileOf pool4 1 #[] #[] 1537 3 #[] #[])
  fields := #[]
  methods := #[]
  instanceTypes := #[]
  staticTypes := #[]
  resolved := Array.replicate 12 none
  statics := none }

def pool5 : Array CpInfo := pool [(1, .class_ 2), (0, u "java/lang/constant/Constable"), (0, .class_ 4), (0, u "java/lang/Object")] 6

/-- java/lang/constant/Constable -/
def k5 : Class := { plain "java/lang/constant/Constable" (some 0) with
  accessFlags := 1537
  interfaces := #[]
  cf := some (fileOf pool5 1 #[] #[] 1537 3 #[] #[])
  fields := #[]
  methods := #[]
  instanceTypes := #[]
  staticTypes := #[]
  resolved := Array.replicate 11 none
  statics := none }

def pool6 : Array CpInfo := pool [(1, .class_ 2), (0, u "java/lang/constant/ConstantDesc"), (0, .class_ 4), (0, u "java/lang/Object")] 32

/-- java/lang/constant/ConstantDesc -/
def k6 : Class := { plain "java/lang/constant/ConstantDesc" (some 0) with
  accessFlags := 1537
  interfaces := #[]
  cf := some (fileOf pool6 1 #[] #[] 1537 3 #[] #[])
  fields := #[]
  methods := #[]
  instanceTypes := #[]
  staticTypes := #[]
  resolved := Array.replicate 37 none
  statics := none }

def pool7 : Array CpInfo := pool [(1, .class_ 2), (0, u "java/lang/Integer"), (16, u "digits"), (0, u "[C"), (46, u "<init>"), (17, u "DigitOnes"), (0, u "[B"), (2, u "DigitTens"), (10, .nameAndType 67 101), (0, u "()V"), (85, u "valueOf"), (0, u "(I)Ljava/lang/Integer;"), (0, .class_ 190), (0, u "java/lang/Integer$IntegerCache"), (0, .fieldref 189 192), (0, .nameAndType 193 194), (0, u "high"), (0, u "I"), (0, .fieldref 189 196), (0, .nameAndType 197 198), (0, u "cache"), (0, u "[Ljava/lang/Integer;"), (0, .methodref 1 200), (0, .nameAndType 67 201), (0, u "(I)V"), (0, .methodref 203 100), (0, .class_ 204), (0, u "java/lang/Number"), (0, .fieldref 1 206), (0, .nameAndType 207 194), (0, u "value"), (94, u "TYPE"), (0, u "Ljava/lang/Class;"), (0, .class_ 305), (0, u "java/lang/Comparable"), (0, .class_ 307), (0, u "java/lang/constant/Constable"), (0, .class_ 309), (0, u "java/lang/constant/ConstantDesc"), (0, u "MIN_VALUE"), (1, u "MAX_VALUE"), (3, u "SIZE"), (1, u "BYTES"), (1, u "serialVersionUID"), (0, u "J")] 131

def k7c0 : Code := { maxStack := 3, maxLocals := 1, code := jdk_33_method_22_code, exceptionTable := #[], attributes := #[] }
def k7m0 : Method := { name := "valueOf", desc := "(I)Ljava/lang/Integer;", sig := { parameters := [.int], returnType := some (.object "java/lang/Integer") }, accessFlags := 9, code := some k7c0 }
def k7c1 : Code := { maxStack := 2, maxLocals := 2, code := jdk_33_method_23_code, exceptionTable := #[], attributes := #[] }
def k7m1 : Method := { name := "<init>", desc := "(I)V", sig := { parameters := [.int], returnType := none }, accessFlags := 1, code := some k7c1 }
/-- java/lang/Integer -/
def k7 : Class := { plain "java/lang/Integer" (some 3) with
  accessFlags := 49
  interfaces := #[4, 5, 6]
  cf := some (fileOf pool7 1 #[.nestMembers #[189]] #[{ accessFlags := 9, nameIndex := 187, descriptorIndex := 188, attributes := #[] }, { accessFlags := 1, nameIndex := 67, descriptorIndex := 201, attributes := #[] }] 49 203 #[304, 306, 308] #[{ accessFlags := 25, nameIndex := 310, descriptorIndex := 194, attributes := #[] }, { accessFlags := 25, nameIndex := 312, descriptorIndex := 194, attributes := #[] }, { accessFlags := 25, nameIndex := 302, descriptorIndex := 303, attributes := #[] }, { accessFlags := 24, nameIndex := 19, descriptorIndex := 20, attributes := #[] }, { accessFlags := 24, nameIndex := 89, descriptorIndex := 86, attributes := #[] }, { accessFlags := 24, nameIndex := 85, descriptorIndex := 86, attributes := #[] }, { accessFlags := 18, nameIndex := 207, descriptorIndex := 194, attributes := #[] }, { accessFlags := 25, nameIndex := 316, descriptorIndex := 194, attributes := #[] }, { accessFlags := 25, nameIndex := 318, descriptorIndex := 194, attributes := #[] }, { accessFlags := 26, nameIndex := 320, descriptorIndex := 321, attributes := #[] }])
  fields := #[{ name := "MIN_VALUE", type := .int, accessFlags := 25, slot := 0, constantValue := 0 }, { name := "MAX_VALUE", type := .int, accessFlags := 25, slot := 1, constantValue := 0 }, { name := "TYPE", type := (.object "java/lang/Class"), accessFlags := 25, slot := 2, constantValue := 0 }, { name := "digits", type := (.array .char), accessFlags := 24, slot := 3, constantValue := 0 }, { name := "DigitTens", type := (.array .byte), accessFlags := 24, slot := 4, constantValue := 0 }, { name := "DigitOnes", type := (.array .byte), accessFlags := 24, slot := 5, constantValue := 0 }, { name := "value", type := .int, accessFlags := 18, slot := 0, constantValue := 0 }, { name := "SIZE", type := .int, accessFlags := 25, slot := 6, constantValue := 0 }, { name := "BYTES", type := .int, accessFlags := 25, slot := 7, constantValue := 0 }, { name := "serialVersionUID", type := .long, accessFlags := 26, slot := 8, constantValue := 0 }]
  methods := #[k7m0, k7m1]
  instanceTypes := #[.int]
  staticTypes := #[.int, .int, (.object "java/lang/Class"), (.array .char), (.array .byte), (.array .byte), .int, .int, .long]
  resolved := Array.replicate 453 none
  statics := none }

def pool8 : Array CpInfo := pool [(2, .class_ 4), (1, u "java/lang/Object"), (0, u "<init>"), (0, u "()V"), (0, .class_ 8), (0, u "java/lang/Integer"), (7, .class_ 18), (1, u "java/lang/Integer$IntegerCache"), (0, u "$assertionsDisabled"), (0, u "Z"), (26, u "high"), (0, u "I"), (8, u "archivedCache"), (0, u "[Ljava/lang/Integer;"), (12, u "cache"), (0, u "low")] 27

def k8m0 : Method := { name := "<init>", desc := "()V", sig := { parameters := [], returnType := none }, accessFlags := 2, code := none }
/-- java/lang/Integer$IntegerCache -/
def k8 : Class := { plain "java/lang/Integer$IntegerCache" (some 0) with
  accessFlags := 48
  interfaces := #[]
  cf := some (fileOf pool8 16 #[.nestHost 7] #[{ accessFlags := 2, nameIndex := 5, descriptorIndex := 6, attributes := #[] }] 48 2 #[] #[{ accessFlags := 24, nameIndex := 72, descriptorIndex := 48, attributes := #[] }, { accessFlags := 24, nameIndex := 47, descriptorIndex := 48, attributes := #[] }, { accessFlags := 24, nameIndex := 71, descriptorIndex := 58, attributes := #[] }, { accessFlags := 8, nameIndex := 57, descriptorIndex := 58, attributes := #[] }, { accessFlags := 4120, nameIndex := 19, descriptorIndex := 20, attributes := #[] }])
  fields := #[{ name := "low", type := .int, accessFlags := 24, slot := 0, constantValue := 0 }, { name := "high", type := .int, accessFlags := 24, slot := 1, constantValue := 0 }, { name := "cache", type := (.array (.object "java/lang/Integer")), accessFlags := 24, slot := 2, constantValue := 0 }, { name := "archivedCache", type := (.array (.object "java/lang/Integer")), accessFlags := 8, slot := 3, constantValue := 0 }, { name := "$assertionsDisabled", type := .boolean, accessFlags := 4120, slot := 4, constantValue := 0 }]
  methods := #[k8m0]
  instanceTypes := #[]
  staticTypes := #[.int, .int, (.array (.object "java/lang/Integer")), (.array (.object "java/lang/Integer")), .boolean]
  resolved := Array.replicate 100 none
  statics := some 0 }

def pool9 : Array CpInfo := pool [(1, .methodref 2 3), (0, .class_ 4), (0, .nameAndType 5 6), (0, u "java/lang/Object"), (0, u "<init>"), (0, u "()V"), (0, .class_ 8), (0, u "java/util/HashMap"), (0, .methodref 7 3), (0, .fieldref 11 12), (0, .class_ 13), (0, .nameAndType 14 15), (0, u "com/example/greenwood/greenwood/Environment"), (0, u "globals"), (0, u "Ljava/util/Map;"), (0, .fieldref 11 17), (0, .nameAndType 18 19), (0, u "locals"), (0, u "[Ljava/lang/Object;"), (0, .fieldref 11 21), (0, .nameAndType 22 23), (0, u "scopeStarts"), (0, u "[I"), (14, u "get"), (18, .fieldref 11 58), (0, .nameAndType 59 60), (0, u "openScopes"), (0, u "I"), (6, .fieldref 11 68), (0, .nameAndType 69 60), (0, u "localCount"), (7, .methodref 11 78), (0, .nameAndType 79 80), (0, u "index"), (0, u "(Lcom/example/greenwood/greenwood/Local;)I"), (0, .methodref 82 83), (0, .class_ 84), (0, .nameAndType 85 86), (0, u "com/example/greenwood/greenwood/Local"), (0, u "depth"), (0, u "()I"), (0, .methodref 82 88), (0, .nameAndType 89 86), (0, u "slot"), (12, u "openScope"), (2, u "declare"), (0, u site_51.name), (0, u "(Ljava/lang/Object;)V"), (0, u "(Lcom/example/greenwood/greenwood/Local;)Ljava/lang/Object;")] 18

def k9c0 : Code := { maxStack := 3, maxLocals := 1, code := prog_1_method_1_code, exceptionTable := #[], attributes := #[] }
def k9m0 : Method := { name := "<init>", desc := "()V", sig := { parameters := [], returnType := none }, accessFlags := 0, code := some k9c0 }
def k9c1 : Code := { maxStack := 4, maxLocals := 1, code := prog_1_method_7_code, exceptionTable := #[], attributes := #[] }
def k9m1 : Method := { name := "openScope", desc := "()V", sig := { parameters := [], returnType := none }, accessFlags := 0, code := some k9c1 }
def k9c2 : Code := { maxStack := 4, maxLocals := 1, code := prog_1_method_10_code, exceptionTable := #[], attributes := #[] }
def k9m2 : Method := { name := "declare", desc := "()V", sig := { parameters := [], returnType := none }, accessFlags := 0, code := some k9c2 }
def k9c3 : Code := { maxStack := 3, maxLocals := 2, code := prog_1_method_11_code, exceptionTable := #[], attributes := #[] }
def k9m3 : Method := { name := site_51.name, desc := "(Ljava/lang/Object;)V", sig := { parameters := [(.object "java/lang/Object")], returnType := none }, accessFlags := 0, code := some k9c3 }
def k9c4 : Code := { maxStack := 3, maxLocals := 2, code := prog_1_method_12_code, exceptionTable := #[], attributes := #[] }
def k9m4 : Method := { name := "get", desc := "(Lcom/example/greenwood/greenwood/Local;)Ljava/lang/Object;", sig := { parameters := [(.object "com/example/greenwood/greenwood/Local")], returnType := some (.object "java/lang/Object") }, accessFlags := 0, code := some k9c4 }
def k9c5 : Code := { maxStack := 3, maxLocals := 2, code := prog_1_method_14_code, exceptionTable := #[], attributes := #[] }
def k9m5 : Method := { name := "index", desc := "(Lcom/example/greenwood/greenwood/Local;)I", sig := { parameters := [(.object "com/example/greenwood/greenwood/Local")], returnType := some .int }, accessFlags := 2, code := some k9c5 }
/-- com/example/greenwood/greenwood/Environment -/
def k9 : Class := { plain "com/example/greenwood/greenwood/Environment" (some 0) with
  accessFlags := 48
  interfaces := #[]
  cf := some (fileOf pool9 11 #[] #[{ accessFlags := 0, nameIndex := 5, descriptorIndex := 6, attributes := #[] }, { accessFlags := 0, nameIndex := 102, descriptorIndex := 6, attributes := #[] }, { accessFlags := 0, nameIndex := 105, descriptorIndex := 6, attributes := #[] }, { accessFlags := 0, nameIndex := 106, descriptorIndex := 107, attributes := #[] }, { accessFlags := 0, nameIndex := 38, descriptorIndex := 108, attributes := #[] }, { accessFlags := 2, nameIndex := 79, descriptorIndex := 80, attributes := #[] }] 48 2 #[] #[{ accessFlags := 18, nameIndex := 14, descriptorIndex := 15, attributes := #[] }, { accessFlags := 2, nameIndex := 18, descriptorIndex := 19, attributes := #[] }, { accessFlags := 2, nameIndex := 69, descriptorIndex := 60, attributes := #[] }, { accessFlags := 2, nameIndex := 22, descriptorIndex := 23, attributes := #[] }, { accessFlags := 2, nameIndex := 59, descriptorIndex := 60, attributes := #[] }])
  fields := #[{ name := "globals", type := (.object "java/util/Map"), accessFlags := 18, slot := 0, constantValue := 0 }, { name := "locals", type := (.array (.object "java/lang/Object")), accessFlags := 2, slot := 1, constantValue := 0 }, { name := "localCount", type := .int, accessFlags := 2, slot := 2, constantValue := 0 }, { name := "scopeStarts", type := (.array .int), accessFlags := 2, slot := 3, constantValue := 0 }, { name := "openScopes", type := .int, accessFlags := 2, slot := 4, constantValue := 0 }]
  methods := #[k9m0, k9m1, k9m2, k9m3, k9m4, k9m5]
  instanceTypes := #[(.object "java/util/Map"), (.array (.object "java/lang/Object")), .int, (.array .int), .int]
  staticTypes := #[]
  resolved := Array.replicate 127 none
  statics := none }

def pool10 : Array CpInfo := pool [(2, .class_ 4), (1, u "java/util/Map"), (31, .class_ 37), (0, u "java/util/Map$Entry"), (55, .class_ 94), (0, u "java/lang/Object")] 168

/-- java/util/Map -/
def k10 : Class := { plain "java/util/Map" (some 0) with
  accessFlags := 1537
  interfaces := #[]
  cf := some (fileOf pool10 2 #[.nestMembers #[36]] #[] 1537 93 #[] #[])
  fields := #[]
  methods := #[]
  instanceTypes := #[]
  staticTypes := #[]
  resolved := Array.replicate 263 none
  statics := none }

def pool11 : Array CpInfo := pool [(1, .methodref 2 3), (0, .class_ 4), (0, .nameAndType 5 6), (0, u "java/lang/Object"), (0, u "<init>"), (0, u "()V"), (1, .class_ 10), (1, u "java/util/AbstractMap"), (42, .class_ 54), (0, u "java/util/Map"), (9, u "keySet"), (0, u "Ljava/util/Set;"), (0, .class_ 67), (0, u "java/util/AbstractMap$1"), (5, u "values"), (0, u "Ljava/util/Collection;"), (0, .class_ 76), (0, u "java/util/AbstractMap$2"), (104, .class_ 182), (0, u "java/util/AbstractMap$ViewCollection"), (0, .class_ 184), (0, u "java/util/AbstractMap$SimpleImmutableEntry"), (0, .class_ 186), (0, u "java/util/AbstractMap$SimpleEntry"), (0, .class_ 188), (0, u "java/util/AbstractMap$2$1"), (0, .class_ 190), (0, u "java/util/AbstractMap$1$1")] 5

def k11c0 : Code := { maxStack := 1, maxLocals := 1, code := jdk_71_method_1_code, exceptionTable := #[], attributes := #[] }
def k11m0 : Method := { name := "<init>", desc := "()V", sig := { parameters := [], returnType := none }, accessFlags := 4, code := some k11c0 }
/-- java/util/AbstractMap -/
def k11 : Class := { plain "java/util/AbstractMap" (some 0) with
  accessFlags := 1057
  interfaces := #[10]
  cf := some (fileOf pool11 8 #[.nestMembers #[181, 183, 185, 75, 187, 66, 189]] #[{ accessFlags := 4, nameIndex := 5, descriptorIndex := 6, attributes := #[] }] 1057 2 #[53] #[{ accessFlags := 128, nameIndex := 64, descriptorIndex := 65, attributes := #[] }, { accessFlags := 128, nameIndex := 73, descriptorIndex := 74, attributes := #[] }])
  fields := #[{ name := "keySet", type := (.object "java/util/Set"), accessFlags := 128, slot := 0, constantValue := 0 }, { name := "values", type := (.object "java/util/Collection"), accessFlags := 128, slot := 1, constantValue := 0 }]
  methods := #[k11m0]
  instanceTypes := #[(.object "java/util/Set"), (.object "java/util/Collection")]
  staticTypes := #[]
  resolved := Array.replicate 196 none
  statics := none }

def pool12 : Array CpInfo := pool [(1, .class_ 2), (0, u "java/lang/Cloneable"), (0, .class_ 4), (0, u "java/lang/Object")] 2

/-- java/lang/Cloneable -/
def k12 : Class := { plain "java/lang/Cloneable" (some 0) with
  accessFlags := 1537
  interfaces := #[]
  cf := some (fileOf pool12 1 #[] #[] 1537 3 #[] #[])
  fields := #[]
  methods := #[]
  instanceTypes := #[]
  staticTypes := #[]
  resolved := Array.replicate 7 none
  statics := none }

def pool13 : Array CpInfo := pool [(40, .class_ 41), (0, u "java/util/HashMap"), (1, .methodref 44 45), (0, .class_ 46), (0, .nameAndType 47 48), (0, u "java/util/AbstractMap"), (0, u "<init>"), (0, u "()V"), (32, .fieldref 40 82), (0, .nameAndType 83 84), (0, u "loadFactor"), (0, u "F"), (5, u "threshold"), (0, u "I"), (0, .float 1061158912), (8, .class_ 103), (1, u "java/util/Map"), (0, u "size"), (2, u "table"), (0, u "[Ljava/util/HashMap$Node;"), (14, u "entrySet"), (39, .class_ 165), (1, u "java/util/HashMap$Node"), (14, .class_ 181), (0, u "java/util/HashMap$TreeNode"), (22, u "modCount"), (37, u "Ljava/util/Set;"), (0, .class_ 244), (0, u "java/util/HashMap$KeySet"), (18, .class_ 264), (0, u "java/util/HashMap$Values"), (3, .class_ 269), (0, u "java/util/HashMap$EntrySet"), (76, .class_ 348), (1, u "java/util/HashMap$UnsafeHolder"), (43, .class_ 393), (0, u "java/lang/Cloneable"), (0, .class_ 395), (0, u "java/io/Serializable"), (0, u "serialVersionUID"), (0, u "J"), (3, u "DEFAULT_INITIAL_CAPACITY"), (1, u "MAXIMUM_CAPACITY"), (0, u "DEFAULT_LOAD_FACTOR"), (0, u "TREEIFY_THRESHOLD"), (1, u "UNTREEIFY_THRESHOLD"), (1, u "MIN_TREEIFY_CAPACITY"), (186, .class_ 597), (0, u "java/util/HashMap$EntrySpliterator"), (0, .class_ 599), (0, u "java/util/HashMap$ValueSpliterator"), (0, .class_ 601), (0, u "java/util/HashMap$KeySpliterator"), (0, .class_ 603), (0, u "java/util/HashMap$HashMapSpliterator"), (0, .class_ 605), (0, u "java/util/HashMap$EntryIterator"), (0, .class_ 607), (0, u "java/util/HashMap$ValueIterator"), (0, .class_ 609), (0, u "java/util/HashMap$KeyIterator"), (0, .class_ 611), (0, u "java/util/HashMap$HashIterator")] 17

def k13c0 : Code := { maxStack := 2, maxLocals := 1, code := jdk_69_method_7_code, exceptionTable := #[], attributes := #[] }
def k13m0 : Method := { name := "<init>", desc := "()V", sig := { parameters := [], returnType := none }, accessFlags := 1, code := some k13c0 }
/-- java/util/HashMap -/
def k13 : Class := { plain "java/util/HashMap" (some 11) with
  accessFlags := 33
  interfaces := #[10, 12, 2]
  cf := some (fileOf pool13 40 #[.nestMembers #[180, 596, 598, 600, 602, 604, 606, 608, 610, 346, 268, 263, 243, 163]] #[{ accessFlags := 1, nameIndex := 47, descriptorIndex := 48, attributes := #[] }] 33 44 #[101, 392, 394] #[{ accessFlags := 26, nameIndex := 396, descriptorIndex := 397, attributes := #[] }, { accessFlags := 24, nameIndex := 401, descriptorIndex := 91, attributes := #[] }, { accessFlags := 24, nameIndex := 403, descriptorIndex := 91, attributes := #[] }, { accessFlags := 24, nameIndex := 404, descriptorIndex := 84, attributes := #[] }, { accessFlags := 24, nameIndex := 405, descriptorIndex := 91, attributes := #[] }, { accessFlags := 24, nameIndex := 407, descriptorIndex := 91, attributes := #[] }, { accessFlags := 24, nameIndex := 409, descriptorIndex := 91, attributes := #[] }, { accessFlags := 128, nameIndex := 107, descriptorIndex := 108, attributes := #[] }, { accessFlags := 128, nameIndex := 123, descriptorIndex := 242, attributes := #[] }, { accessFlags := 128, nameIndex := 104, descriptorIndex := 91, attributes := #[] }, { accessFlags := 128, nameIndex := 204, descriptorIndex := 91, attributes := #[] }, { accessFlags := 0, nameIndex := 90, descriptorIndex := 91, attributes := #[] }, { accessFlags := 16, nameIndex := 83, descriptorIndex := 84, attributes := #[] }])
  fields := #[{ name := "serialVersionUID", type := .long, accessFlags := 26, slot := 0, constantValue := 0 }, { name := "DEFAULT_INITIAL_CAPACITY", type := .int, accessFlags := 24, slot := 1, constantValue := 0 }, { name := "MAXIMUM_CAPACITY", type := .int, accessFlags := 24, slot := 2, constantValue := 0 }, { name := "DEFAULT_LOAD_FACTOR", type := .float, accessFlags := 24, slot := 3, constantValue := 0 }, { name := "TREEIFY_THRESHOLD", type := .int, accessFlags := 24, slot := 4, constantValue := 0 }, { name := "UNTREEIFY_THRESHOLD", type := .int, accessFlags := 24, slot := 5, constantValue := 0 }, { name := "MIN_TREEIFY_CAPACITY", type := .int, accessFlags := 24, slot := 6, constantValue := 0 }, { name := "table", type := (.array (.object "java/util/HashMap$Node")), accessFlags := 128, slot := 2, constantValue := 0 }, { name := "entrySet", type := (.object "java/util/Set"), accessFlags := 128, slot := 3, constantValue := 0 }, { name := "size", type := .int, accessFlags := 128, slot := 4, constantValue := 0 }, { name := "modCount", type := .int, accessFlags := 128, slot := 5, constantValue := 0 }, { name := "threshold", type := .int, accessFlags := 0, slot := 6, constantValue := 0 }, { name := "loadFactor", type := .float, accessFlags := 16, slot := 7, constantValue := 0 }]
  methods := #[k13m0]
  instanceTypes := #[(.object "java/util/Set"), (.object "java/util/Collection"), (.array (.object "java/util/HashMap$Node")), (.object "java/util/Set"), .int, .int, .int, .float]
  staticTypes := #[.long, .int, .int, .float, .int, .int, .int]
  resolved := Array.replicate 629 none
  statics := none }

def pool14 : Array CpInfo := pool [(1, .methodref 2 3), (0, .class_ 4), (0, .nameAndType 5 6), (0, u "java/lang/Object"), (0, u "<init>"), (0, u "()V"), (0, .class_ 8), (0, u "java/lang/Record")] 13

def k14c0 : Code := { maxStack := 1, maxLocals := 1, code := jdk_30_method_1_code, exceptionTable := #[], attributes := #[] }
def k14m0 : Method := { name := "<init>", desc := "()V", sig := { parameters := [], returnType := none }, accessFlags := 4, code := some k14c0 }
/-- java/lang/Record -/
def k14 : Class := { plain "java/lang/Record" (some 0) with
  accessFlags := 1057
  interfaces := #[]
  cf := some (fileOf pool14 7 #[] #[{ accessFlags := 4, nameIndex := 5, descriptorIndex := 6, attributes := #[] }] 1057 2 #[] #[])
  fields := #[]
  methods := #[k14m0]
  instanceTypes := #[]
  staticTypes := #[]
  resolved := Array.replicate 22 none
  statics := none }

def pool15 : Array CpInfo := pool [(1, .methodref 2 3), (0, .class_ 4), (0, .nameAndType 5 6), (0, u "java/lang/Record"), (0, u "<init>"), (0, u "()V"), (0, .fieldref 8 9), (0, .class_ 10), (0, .nameAndType 11 12), (0, u "com/example/greenwood/greenwood/Local"), (0, u "depth"), (0, u "I"), (0, .fieldref 8 14), (0, .nameAndType 15 12), (0, u "slot"), (12, u "(II)V"), (4, u "()I")] 22

def k15c0 : Code := { maxStack := 2, maxLocals := 3, code := prog_21_method_1_code, exceptionTable := #[], attributes := #[] }
def k15m0 : Method := { name := "<init>", desc := "(II)V", sig := { parameters := [.int, .int], returnType := none }, accessFlags := 0, code := some k15c0 }
def k15c1 : Code := { maxStack := 1, maxLocals := 1, code := prog_21_method_5_code, exceptionTable := #[], attributes := #[] }
def k15m1 : Method := { name := "depth", desc := "()I", sig := { parameters := [], returnType := some .int }, accessFlags := 1, code := some k15c1 }
def k15c2 : Code := { maxStack := 1, maxLocals := 1, code := prog_21_method_6_code, exceptionTable := #[], attributes := #[] }
def k15m2 : Method := { name := "slot", desc := "()I", sig := { parameters := [], returnType := some .int }, accessFlags := 1, code := some k15c2 }
/-- com/example/greenwood/greenwood/Local -/
def k15 : Class := { plain "com/example/greenwood/greenwood/Local" (some 14) with
  accessFlags := 48
  interfaces := #[]
  cf := some (fileOf pool15 8 #[] #[{ accessFlags := 0, nameIndex := 5, descriptorIndex := 28, attributes := #[] }, { accessFlags := 1, nameIndex := 11, descriptorIndex := 33, attributes := #[] }, { accessFlags := 1, nameIndex := 15, descriptorIndex := 33, attributes := #[] }] 48 2 #[] #[{ accessFlags := 18, nameIndex := 11, descriptorIndex := 12, attributes := #[] }, { accessFlags := 18, nameIndex := 15, descriptorIndex := 12, attributes := #[] }])
  fields := #[{ name := "depth", type := .int, accessFlags := 18, slot := 0, constantValue := 0 }, { name := "slot", type := .int, accessFlags := 18, slot := 1, constantValue := 0 }]
  methods := #[k15m0, k15m1, k15m2]
  instanceTypes := #[.int, .int]
  staticTypes := #[]
  resolved := Array.replicate 56 none
  statics := none }

/-- the primitive byte -/
def k16 : Class := { plain "byte" none with kind := .primitive 'B', accessFlags := 0x411 }
/-- [B -/
def k17 : Class := { plain "[B" (some 0) with kind := .array 16 .byte, interfaces := #[12, 2], accessFlags := 1041 }

/-- the primitive int -/
def k18 : Class := { plain "int" none with kind := .primitive 'I', accessFlags := 0x411 }
/-- [I -/
def k19 : Class := { plain "[I" (some 0) with kind := .array 18 .int, interfaces := #[12, 2], accessFlags := 1041 }

/-- [Ljava/lang/Integer; -/
def k20 : Class := { plain "[Ljava/lang/Integer;" (some 0) with kind := .array 7 (.object "java/lang/Integer"), interfaces := #[12, 2], accessFlags := 1041 }

/-- [Ljava/lang/Object; -/
def k21 : Class := { plain "[Ljava/lang/Object;" (some 0) with kind := .array 0 (.object "java/lang/Object"), interfaces := #[12, 2], accessFlags := 1041 }

def heap : Heap := #[{ cls := 8, slots := #[.int 0, .int 127, .ref 1, .null, .int 0], vm := .statics 8 },
  { cls := 20, slots := #[.ref 2, .ref 3, .ref 4, .ref 5, .ref 6, .ref 7, .ref 8, .ref 9, .ref 10, .ref 11, .ref 12, .ref 13, .ref 14, .ref 15, .ref 16, .ref 17, .ref 18, .ref 19, .ref 20, .ref 21, .ref 22, .ref 23, .ref 24, .ref 25, .ref 26, .ref 27, .ref 28, .ref 29, .ref 30, .ref 31, .ref 32, .ref 33, .ref 34, .ref 35, .ref 36, .ref 37, .ref 38, .ref 39, .ref 40, .ref 41, .ref 42, .ref 43, .ref 44, .ref 45, .ref 46, .ref 47, .ref 48, .ref 49, .ref 50, .ref 51, .ref 52, .ref 53, .ref 54, .ref 55, .ref 56, .ref 57, .ref 58, .ref 59, .ref 60, .ref 61, .ref 62, .ref 63, .ref 64, .ref 65, .ref 66, .ref 67, .ref 68, .ref 69, .ref 70, .ref 71, .ref 72, .ref 73, .ref 74, .ref 75, .ref 76, .ref 77, .ref 78, .ref 79, .ref 80, .ref 81, .ref 82, .ref 83, .ref 84, .ref 85, .ref 86, .ref 87, .ref 88, .ref 89, .ref 90, .ref 91, .ref 92, .ref 93, .ref 94, .ref 95, .ref 96, .ref 97, .ref 98, .ref 99, .ref 100, .ref 101, .ref 102, .ref 103, .ref 104, .ref 105, .ref 106, .ref 107, .ref 108, .ref 109, .ref 110, .ref 111, .ref 112, .ref 113, .ref 114, .ref 115, .ref 116, .ref 117, .ref 118, .ref 119, .ref 120, .ref 121, .ref 122, .ref 123, .ref 124, .ref 125, .ref 126, .ref 127, .ref 128, .ref 129, .ref 130, .ref 131, .ref 132, .ref 133, .ref 134, .ref 135, .ref 136, .ref 137, .ref 138, .ref 139, .ref 140, .ref 141, .ref 142, .ref 143, .ref 144, .ref 145, .ref 146, .ref 147, .ref 148, .ref 149, .ref 150, .ref 151, .ref 152, .ref 153, .ref 154, .ref 155, .ref 156, .ref 157, .ref 158, .ref 159, .ref 160, .ref 161, .ref 162, .ref 163, .ref 164, .ref 165, .ref 166, .ref 167, .ref 168, .ref 169, .ref 170, .ref 171, .ref 172, .ref 173, .ref 174, .ref 175, .ref 176, .ref 177, .ref 178, .ref 179, .ref 180, .ref 181, .ref 182, .ref 183, .ref 184, .ref 185, .ref 186, .ref 187, .ref 188, .ref 189, .ref 190, .ref 191, .ref 192, .ref 193, .ref 194, .ref 195, .ref 196, .ref 197, .ref 198, .ref 199, .ref 200, .ref 201, .ref 202, .ref 203, .ref 204, .ref 205, .ref 206, .ref 207, .ref 208, .ref 209, .ref 210, .ref 211, .ref 212, .ref 213, .ref 214, .ref 215, .ref 216, .ref 217, .ref 218, .ref 219, .ref 220, .ref 221, .ref 222, .ref 223, .ref 224, .ref 225, .ref 226, .ref 227, .ref 228, .ref 229, .ref 230, .ref 231, .ref 232, .ref 233, .ref 234, .ref 235, .ref 236, .ref 237, .ref 238, .ref 239, .ref 240, .ref 241, .ref 242, .ref 243, .ref 244, .ref 245, .ref 246, .ref 247, .ref 248, .ref 249, .ref 250, .ref 251, .ref 252, .ref 253, .ref 254, .ref 255, .ref 256, .ref 257], vm := .none },
  { cls := 7, slots := #[.int (-128)], vm := .none },
  { cls := 7, slots := #[.int (-127)], vm := .none },
  { cls := 7, slots := #[.int (-126)], vm := .none },
  { cls := 7, slots := #[.int (-125)], vm := .none },
  { cls := 7, slots := #[.int (-124)], vm := .none },
  { cls := 7, slots := #[.int (-123)], vm := .none },
  { cls := 7, slots := #[.int (-122)], vm := .none },
  { cls := 7, slots := #[.int (-121)], vm := .none },
  { cls := 7, slots := #[.int (-120)], vm := .none },
  { cls := 7, slots := #[.int (-119)], vm := .none },
  { cls := 7, slots := #[.int (-118)], vm := .none },
  { cls := 7, slots := #[.int (-117)], vm := .none },
  { cls := 7, slots := #[.int (-116)], vm := .none },
  { cls := 7, slots := #[.int (-115)], vm := .none },
  { cls := 7, slots := #[.int (-114)], vm := .none },
  { cls := 7, slots := #[.int (-113)], vm := .none },
  { cls := 7, slots := #[.int (-112)], vm := .none },
  { cls := 7, slots := #[.int (-111)], vm := .none },
  { cls := 7, slots := #[.int (-110)], vm := .none },
  { cls := 7, slots := #[.int (-109)], vm := .none },
  { cls := 7, slots := #[.int (-108)], vm := .none },
  { cls := 7, slots := #[.int (-107)], vm := .none },
  { cls := 7, slots := #[.int (-106)], vm := .none },
  { cls := 7, slots := #[.int (-105)], vm := .none },
  { cls := 7, slots := #[.int (-104)], vm := .none },
  { cls := 7, slots := #[.int (-103)], vm := .none },
  { cls := 7, slots := #[.int (-102)], vm := .none },
  { cls := 7, slots := #[.int (-101)], vm := .none },
  { cls := 7, slots := #[.int (-100)], vm := .none },
  { cls := 7, slots := #[.int (-99)], vm := .none },
  { cls := 7, slots := #[.int (-98)], vm := .none },
  { cls := 7, slots := #[.int (-97)], vm := .none },
  { cls := 7, slots := #[.int (-96)], vm := .none },
  { cls := 7, slots := #[.int (-95)], vm := .none },
  { cls := 7, slots := #[.int (-94)], vm := .none },
  { cls := 7, slots := #[.int (-93)], vm := .none },
  { cls := 7, slots := #[.int (-92)], vm := .none },
  { cls := 7, slots := #[.int (-91)], vm := .none },
  { cls := 7, slots := #[.int (-90)], vm := .none },
  { cls := 7, slots := #[.int (-89)], vm := .none },
  { cls := 7, slots := #[.int (-88)], vm := .none },
  { cls := 7, slots := #[.int (-87)], vm := .none },
  { cls := 7, slots := #[.int (-86)], vm := .none },
  { cls := 7, slots := #[.int (-85)], vm := .none },
  { cls := 7, slots := #[.int (-84)], vm := .none },
  { cls := 7, slots := #[.int (-83)], vm := .none },
  { cls := 7, slots := #[.int (-82)], vm := .none },
  { cls := 7, slots := #[.int (-81)], vm := .none },
  { cls := 7, slots := #[.int (-80)], vm := .none },
  { cls := 7, slots := #[.int (-79)], vm := .none },
  { cls := 7, slots := #[.int (-78)], vm := .none },
  { cls := 7, slots := #[.int (-77)], vm := .none },
  { cls := 7, slots := #[.int (-76)], vm := .none },
  { cls := 7, slots := #[.int (-75)], vm := .none },
  { cls := 7, slots := #[.int (-74)], vm := .none },
  { cls := 7, slots := #[.int (-73)], vm := .none },
  { cls := 7, slots := #[.int (-72)], vm := .none },
  { cls := 7, slots := #[.int (-71)], vm := .none },
  { cls := 7, slots := #[.int (-70)], vm := .none },
  { cls := 7, slots := #[.int (-69)], vm := .none },
  { cls := 7, slots := #[.int (-68)], vm := .none },
  { cls := 7, slots := #[.int (-67)], vm := .none },
  { cls := 7, slots := #[.int (-66)], vm := .none },
  { cls := 7, slots := #[.int (-65)], vm := .none },
  { cls := 7, slots := #[.int (-64)], vm := .none },
  { cls := 7, slots := #[.int (-63)], vm := .none },
  { cls := 7, slots := #[.int (-62)], vm := .none },
  { cls := 7, slots := #[.int (-61)], vm := .none },
  { cls := 7, slots := #[.int (-60)], vm := .none },
  { cls := 7, slots := #[.int (-59)], vm := .none },
  { cls := 7, slots := #[.int (-58)], vm := .none },
  { cls := 7, slots := #[.int (-57)], vm := .none },
  { cls := 7, slots := #[.int (-56)], vm := .none },
  { cls := 7, slots := #[.int (-55)], vm := .none },
  { cls := 7, slots := #[.int (-54)], vm := .none },
  { cls := 7, slots := #[.int (-53)], vm := .none },
  { cls := 7, slots := #[.int (-52)], vm := .none },
  { cls := 7, slots := #[.int (-51)], vm := .none },
  { cls := 7, slots := #[.int (-50)], vm := .none },
  { cls := 7, slots := #[.int (-49)], vm := .none },
  { cls := 7, slots := #[.int (-48)], vm := .none },
  { cls := 7, slots := #[.int (-47)], vm := .none },
  { cls := 7, slots := #[.int (-46)], vm := .none },
  { cls := 7, slots := #[.int (-45)], vm := .none },
  { cls := 7, slots := #[.int (-44)], vm := .none },
  { cls := 7, slots := #[.int (-43)], vm := .none },
  { cls := 7, slots := #[.int (-42)], vm := .none },
  { cls := 7, slots := #[.int (-41)], vm := .none },
  { cls := 7, slots := #[.int (-40)], vm := .none },
  { cls := 7, slots := #[.int (-39)], vm := .none },
  { cls := 7, slots := #[.int (-38)], vm := .none },
  { cls := 7, slots := #[.int (-37)], vm := .none },
  { cls := 7, slots := #[.int (-36)], vm := .none },
  { cls := 7, slots := #[.int (-35)], vm := .none },
  { cls := 7, slots := #[.int (-34)], vm := .none },
  { cls := 7, slots := #[.int (-33)], vm := .none },
  { cls := 7, slots := #[.int (-32)], vm := .none },
  { cls := 7, slots := #[.int (-31)], vm := .none },
  { cls := 7, slots := #[.int (-30)], vm := .none },
  { cls := 7, slots := #[.int (-29)], vm := .none },
  { cls := 7, slots := #[.int (-28)], vm := .none },
  { cls := 7, slots := #[.int (-27)], vm := .none },
  { cls := 7, slots := #[.int (-26)], vm := .none },
  { cls := 7, slots := #[.int (-25)], vm := .none },
  { cls := 7, slots := #[.int (-24)], vm := .none },
  { cls := 7, slots := #[.int (-23)], vm := .none },
  { cls := 7, slots := #[.int (-22)], vm := .none },
  { cls := 7, slots := #[.int (-21)], vm := .none },
  { cls := 7, slots := #[.int (-20)], vm := .none },
  { cls := 7, slots := #[.int (-19)], vm := .none },
  { cls := 7, slots := #[.int (-18)], vm := .none },
  { cls := 7, slots := #[.int (-17)], vm := .none },
  { cls := 7, slots := #[.int (-16)], vm := .none },
  { cls := 7, slots := #[.int (-15)], vm := .none },
  { cls := 7, slots := #[.int (-14)], vm := .none },
  { cls := 7, slots := #[.int (-13)], vm := .none },
  { cls := 7, slots := #[.int (-12)], vm := .none },
  { cls := 7, slots := #[.int (-11)], vm := .none },
  { cls := 7, slots := #[.int (-10)], vm := .none },
  { cls := 7, slots := #[.int (-9)], vm := .none },
  { cls := 7, slots := #[.int (-8)], vm := .none },
  { cls := 7, slots := #[.int (-7)], vm := .none },
  { cls := 7, slots := #[.int (-6)], vm := .none },
  { cls := 7, slots := #[.int (-5)], vm := .none },
  { cls := 7, slots := #[.int (-4)], vm := .none },
  { cls := 7, slots := #[.int (-3)], vm := .none },
  { cls := 7, slots := #[.int (-2)], vm := .none },
  { cls := 7, slots := #[.int (-1)], vm := .none },
  { cls := 7, slots := #[.int 0], vm := .none },
  { cls := 7, slots := #[.int 1], vm := .none },
  { cls := 7, slots := #[.int 2], vm := .none },
  { cls := 7, slots := #[.int 3], vm := .none },
  { cls := 7, slots := #[.int 4], vm := .none },
  { cls := 7, slots := #[.int 5], vm := .none },
  { cls := 7, slots := #[.int 6], vm := .none },
  { cls := 7, slots := #[.int 7], vm := .none },
  { cls := 7, slots := #[.int 8], vm := .none },
  { cls := 7, slots := #[.int 9], vm := .none },
  { cls := 7, slots := #[.int 10], vm := .none },
  { cls := 7, slots := #[.int 11], vm := .none },
  { cls := 7, slots := #[.int 12], vm := .none },
  { cls := 7, slots := #[.int 13], vm := .none },
  { cls := 7, slots := #[.int 14], vm := .none },
  { cls := 7, slots := #[.int 15], vm := .none },
  { cls := 7, slots := #[.int 16], vm := .none },
  { cls := 7, slots := #[.int 17], vm := .none },
  { cls := 7, slots := #[.int 18], vm := .none },
  { cls := 7, slots := #[.int 19], vm := .none },
  { cls := 7, slots := #[.int 20], vm := .none },
  { cls := 7, slots := #[.int 21], vm := .none },
  { cls := 7, slots := #[.int 22], vm := .none },
  { cls := 7, slots := #[.int 23], vm := .none },
  { cls := 7, slots := #[.int 24], vm := .none },
  { cls := 7, slots := #[.int 25], vm := .none },
  { cls := 7, slots := #[.int 26], vm := .none },
  { cls := 7, slots := #[.int 27], vm := .none },
  { cls := 7, slots := #[.int 28], vm := .none },
  { cls := 7, slots := #[.int 29], vm := .none },
  { cls := 7, slots := #[.int 30], vm := .none },
  { cls := 7, slots := #[.int 31], vm := .none },
  { cls := 7, slots := #[.int 32], vm := .none },
  { cls := 7, slots := #[.int 33], vm := .none },
  { cls := 7, slots := #[.int 34], vm := .none },
  { cls := 7, slots := #[.int 35], vm := .none },
  { cls := 7, slots := #[.int 36], vm := .none },
  { cls := 7, slots := #[.int 37], vm := .none },
  { cls := 7, slots := #[.int 38], vm := .none },
  { cls := 7, slots := #[.int 39], vm := .none },
  { cls := 7, slots := #[.int 40], vm := .none },
  { cls := 7, slots := #[.int 41], vm := .none },
  { cls := 7, slots := #[.int 42], vm := .none },
  { cls := 7, slots := #[.int 43], vm := .none },
  { cls := 7, slots := #[.int 44], vm := .none },
  { cls := 7, slots := #[.int 45], vm := .none },
  { cls := 7, slots := #[.int 46], vm := .none },
  { cls := 7, slots := #[.int 47], vm := .none },
  { cls := 7, slots := #[.int 48], vm := .none },
  { cls := 7, slots := #[.int 49], vm := .none },
  { cls := 7, slots := #[.int 50], vm := .none },
  { cls := 7, slots := #[.int 51], vm := .none },
  { cls := 7, slots := #[.int 52], vm := .none },
  { cls := 7, slots := #[.int 53], vm := .none },
  { cls := 7, slots := #[.int 54], vm := .none },
  { cls := 7, slots := #[.int 55], vm := .none },
  { cls := 7, slots := #[.int 56], vm := .none },
  { cls := 7, slots := #[.int 57], vm := .none },
  { cls := 7, slots := #[.int 58], vm := .none },
  { cls := 7, slots := #[.int 59], vm := .none },
  { cls := 7, slots := #[.int 60], vm := .none },
  { cls := 7, slots := #[.int 61], vm := .none },
  { cls := 7, slots := #[.int 62], vm := .none },
  { cls := 7, slots := #[.int 63], vm := .none },
  { cls := 7, slots := #[.int 64], vm := .none },
  { cls := 7, slots := #[.int 65], vm := .none },
  { cls := 7, slots := #[.int 66], vm := .none },
  { cls := 7, slots := #[.int 67], vm := .none },
  { cls := 7, slots := #[.int 68], vm := .none },
  { cls := 7, slots := #[.int 69], vm := .none },
  { cls := 7, slots := #[.int 70], vm := .none },
  { cls := 7, slots := #[.int 71], vm := .none },
  { cls := 7, slots := #[.int 72], vm := .none },
  { cls := 7, slots := #[.int 73], vm := .none },
  { cls := 7, slots := #[.int 74], vm := .none },
  { cls := 7, slots := #[.int 75], vm := .none },
  { cls := 7, slots := #[.int 76], vm := .none },
  { cls := 7, slots := #[.int 77], vm := .none },
  { cls := 7, slots := #[.int 78], vm := .none },
  { cls := 7, slots := #[.int 79], vm := .none },
  { cls := 7, slots := #[.int 80], vm := .none },
  { cls := 7, slots := #[.int 81], vm := .none },
  { cls := 7, slots := #[.int 82], vm := .none },
  { cls := 7, slots := #[.int 83], vm := .none },
  { cls := 7, slots := #[.int 84], vm := .none },
  { cls := 7, slots := #[.int 85], vm := .none },
  { cls := 7, slots := #[.int 86], vm := .none },
  { cls := 7, slots := #[.int 87], vm := .none },
  { cls := 7, slots := #[.int 88], vm := .none },
  { cls := 7, slots := #[.int 89], vm := .none },
  { cls := 7, slots := #[.int 90], vm := .none },
  { cls := 7, slots := #[.int 91], vm := .none },
  { cls := 7, slots := #[.int 92], vm := .none },
  { cls := 7, slots := #[.int 93], vm := .none },
  { cls := 7, slots := #[.int 94], vm := .none },
  { cls := 7, slots := #[.int 95], vm := .none },
  { cls := 7, slots := #[.int 96], vm := .none },
  { cls := 7, slots := #[.int 97], vm := .none },
  { cls := 7, slots := #[.int 98], vm := .none },
  { cls := 7, slots := #[.int 99], vm := .none },
  { cls := 7, slots := #[.int 100], vm := .none },
  { cls := 7, slots := #[.int 101], vm := .none },
  { cls := 7, slots := #[.int 102], vm := .none },
  { cls := 7, slots := #[.int 103], vm := .none },
  { cls := 7, slots := #[.int 104], vm := .none },
  { cls := 7, slots := #[.int 105], vm := .none },
  { cls := 7, slots := #[.int 106], vm := .none },
  { cls := 7, slots := #[.int 107], vm := .none },
  { cls := 7, slots := #[.int 108], vm := .none },
  { cls := 7, slots := #[.int 109], vm := .none },
  { cls := 7, slots := #[.int 110], vm := .none },
  { cls := 7, slots := #[.int 111], vm := .none },
  { cls := 7, slots := #[.int 112], vm := .none },
  { cls := 7, slots := #[.int 113], vm := .none },
  { cls := 7, slots := #[.int 114], vm := .none },
  { cls := 7, slots := #[.int 115], vm := .none },
  { cls := 7, slots := #[.int 116], vm := .none },
  { cls := 7, slots := #[.int 117], vm := .none },
  { cls := 7, slots := #[.int 118], vm := .none },
  { cls := 7, slots := #[.int 119], vm := .none },
  { cls := 7, slots := #[.int 120], vm := .none },
  { cls := 7, slots := #[.int 121], vm := .none },
  { cls := 7, slots := #[.int 122], vm := .none },
  { cls := 7, slots := #[.int 123], vm := .none },
  { cls := 7, slots := #[.int 124], vm := .none },
  { cls := 7, slots := #[.int 125], vm := .none },
  { cls := 7, slots := #[.int 126], vm := .none },
  { cls := 7, slots := #[.int 127], vm := .none }]
def classes : Array Class := #[k0, k1, k2, k3, k4, k5, k6, k7, k8, k9, k10, k11, k12, k13, k14, k15, k16, k17, k18, k19, k20, k21]
def interned : List (Array UInt16 × Addr) := []
def slotsUsed : Nat := 517
def theMethod : MethodId := ⟨1, 1⟩
def args0 : Array Value := #[.int 3, .int 2, .int 8, .int 9]
def aboutOver (below : List Frame) : State where
  vm := { classes := classes, interned := interned.toArray }
  heap := heap
  slotsUsed := slotsUsed
  threads := #[{ frames := .invoking theMethod args0 :: below }]
def below0 : List Frame := [.native { method := ⟨0, 0⟩, args := #[] }]
def about1 : State := aboutOver below0
def p0 : Program := .bare "" "" ""
def e0 : Env := launch0.env 0 0 0
theorem w_frames : about1.frames = Frame.invoking theMethod args0 :: below0 := rfl
set_option maxRecDepth 65536 in
theorem w_args : argsFit about1.vm theMethod args0 = true := by decide +kernel
set_option maxRecDepth 65536 in
theorem w_heap : heapFits about1 = true := by decide +kernel
set_option maxRecDepth 65536 in
theorem w_runnable : about1.curStatus? = some .runnable := by decide +kernel
set_option maxRecDepth 65536 in
theorem w_alone : about1.alone = true := by decide +kernel
set_option maxRecDepth 65536 in
theorem w_named : about1.methodNamed? x = some theMethod := by decide +kernel
set_option maxRecDepth 65536 in
theorem w_hears : about1.hears theMethod below0 = true := by decide +kernel
set_option maxRecDepth 65536 in
theorem w_ripe : about1.ripe theMethod args0 below0 = true := by decide +kernel
theorem w_running : about1.status = .running := rfl
set_option maxRecDepth 65536 in
theorem w_room : about1.hasRoom e0.platform room_1 = true :=
  launch0.hasRoom_least _ room_1 (by decide +kernel) (by decide +kernel) (by decide +kernel) (by decide +kernel) (by decide +kernel) (by decide +kernel)
theorem allAtoms_all (ts : List Jvm.Cond) (a : Array Jvm.Value) (st : Jvm.State) : (allAtoms ts).before a st = ts.all (fun c => c.before a st) := by
  induction ts with
  | nil => rfl
  | cons c t ih =>
    show (Jvm.Cond.and c (allAtoms t)).before a st = _
    rw [Jvm.Cond.before_and, ih, List.all_cons]
def words1 : List Jvm.Cond := Jvm.Cond.code x code maxLocals ret :: tables_1
/-- a 'code' word, met by the world's own term for the bytes: nothing is compared byte by byte -/
theorem code_word {y : MethodName} {bytes : ByteArray} {mx : Nat} {rt : Option FieldType} {a : Array Value} {s : State} {m : MethodId} {meth : Method} {c : Code} (h1 : s.methodNamed? y = some m) (h2 : s.vm.method? m = some meth) (h3 : meth.code = some c) (h4 : c.code = bytes)
    (h5 : (c.maxLocals == mx && c.exceptionTable.isEmpty && decide (c.maxStack ≤ mostOperands) && decide (meth.sig.returnType = rt) && !meth.locks && decide (parseMethodDescriptor y.desc = some meth.sig)) = true) : (Jvm.Cond.code y bytes mx rt).before a s = true := by
  simp only [Bool.and_eq_true, beq_iff_eq, Bool.not_eq_true', decide_eq_true_eq] at h5
  obtain ⟨⟨⟨⟨⟨g1, g2⟩, g3⟩, g4⟩, g5⟩, g6⟩ := h5
  simp [Cond.before, Cond.holds, Cond.value, h1, h2, h3, h4, g1, g2, g3, g4, g5, g6]
def isCode : Jvm.Cond → Bool
  | .code _ _ _ _ => true
  | _ => false
theorem all_split {L : List Jvm.Cond} {P : Jvm.Cond → Bool} (h1 : L.all (fun c => isCode c || P c) = true) (h2 : ∀ c ∈ L.filter isCode, P c = true) : L.all P = true := by
  refine List.all_eq_true.mpr fun c hc => ?_
  have h := List.all_eq_true.mp h1 c hc
  rcases Bool.eq_false_or_eq_true (isCode c) with hi | hi
  · exact h2 c (List.mem_filter.mpr ⟨hc, hi⟩)
  · simpa [hi] using h
set_option maxRecDepth 65536 in
theorem w_c0 : (Jvm.Cond.code x code maxLocals ret).before args0 about1 = true := code_word (m := ⟨1, 1⟩) (meth := k1m1) (c := k1c1) (by decide +kernel) rfl rfl rfl (by decide +kernel)
set_option maxRecDepth 65536 in
theorem w_c1 : (Jvm.Cond.code ({ cls := "java/lang/Integer", name := "valueOf", desc := "(I)Ljava/lang/Integer;" } : Jvm.MethodName) jdk_33_method_22_code (1 : Nat) (Option.some (Jvm.ClassFile.FieldType.object "java/lang/Integer"))).before args0 about1 = true := code_word (m := ⟨7, 0⟩) (meth := k7m0) (c := k7c0) (by decide +kernel) rfl rfl rfl (by decide +kernel)
set_option maxRecDepth 65536 in
theorem w_c2 : (Jvm.Cond.code ({ cls := "com/example/greenwood/greenwood/Environment", name := "<init>", desc := "()V" } : Jvm.MethodName) prog_1_method_1_code (1 : Nat) (Option.none : Option Jvm.ClassFile.FieldType)).before args0 about1 = true := code_word (m := ⟨9, 0⟩) (meth := k9m0) (c := k9c0) (by decide +kernel) rfl rfl rfl (by decide +kernel)
set_option maxRecDepth 65536 in
theorem w_c3 : (Jvm.Cond.code ({ cls := "java/lang/Object", name := "<init>", desc := "()V" } : Jvm.MethodName) object_method_1_code (1 : Nat) (Option.none : Option Jvm.ClassFile.FieldType)).before args0 about1 = true := code_word (m := ⟨0, 0⟩) (meth := k0m0) (c := k0c0) (by decide +kernel) rfl rfl rfl (by decide +kernel)
set_option maxRecDepth 65536 in
theorem w_c4 : (Jvm.Cond.code ({ cls := "java/util/HashMap", name := "<init>", desc := "()V" } : Jvm.MethodName) jdk_69_method_7_code (1 : Nat) (Option.none : Option Jvm.ClassFile.FieldType)).before args0 about1 = true := code_word (m := ⟨13, 0⟩) (meth := k13m0) (c := k13c0) (by decide +kernel) rfl rfl rfl (by decide +kernel)
set_option maxRecDepth 65536 in
theorem w_c5 : (Jvm.Cond.code ({ cls := "java/util/AbstractMap", name := "<init>", desc := "()V" } : Jvm.MethodName) jdk_71_method_1_code (1 : Nat) (Option.none : Option Jvm.ClassFile.FieldType)).before args0 about1 = true := code_word (m := ⟨11, 0⟩) (meth := k11m0) (c := k11c0) (by decide +kernel) rfl rfl rfl (by decide +kernel)
set_option maxRecDepth 65536 in
theorem w_c6 : (Jvm.Cond.code ({ cls := "com/example/greenwood/greenwood/Environment", name := "openScope", desc := "()V" } : Jvm.MethodName) prog_1_method_7_code (1 : Nat) (Option.none : Option Jvm.ClassFile.FieldType)).before args0 about1 = true := code_word (m := ⟨9, 1⟩) (meth := k9m1) (c := k9c1) (by decide +kernel) rfl rfl rfl (by decide +kernel)
set_option maxRecDepth 65536 in
theorem w_c7 : (Jvm.Cond.code ({ cls := "com/example/greenwood/greenwood/Environment", name := "declare", desc := "()V" } : Jvm.MethodName) prog_1_method_10_code (1 : Nat) (Option.none : Option Jvm.ClassFile.FieldType)).before args0 about1 = true := code_word (m := ⟨9, 2⟩) (meth := k9m2) (c := k9c2) (by decide +kernel) rfl rfl rfl (by decide +kernel)
set_option maxRecDepth 65536 in
theorem w_c8 : (Jvm.Cond.code ({ cls := "com/example/greenwood/greenwood/Environment", name := site_51.name, desc := "(Ljava/lang/Object;)V" } : Jvm.MethodName) prog_1_method_11_code (2 : Nat) (Option.none : Option Jvm.ClassFile.FieldType)).before args0 about1 = true := code_word (m := ⟨9, 3⟩) (meth := k9m3) (c := k9c3) (by decide +kernel) rfl rfl rfl (by decide +kernel)
set_option maxRecDepth 65536 in
theorem w_c9 : (Jvm.Cond.code ({ cls := "com/example/greenwood/greenwood/Local", name := "<init>", desc := "(II)V" } : Jvm.MethodName) prog_21_method_1_code (3 : Nat) (Option.none : Option Jvm.ClassFile.FieldType)).before args0 about1 = true := code_word (m := ⟨15, 0⟩) (meth := k15m0) (c := k15c0) (by decide +kernel) rfl rfl rfl (by decide +kernel)
set_option maxRecDepth 65536 in
theorem w_c10 : (Jvm.Cond.code ({ cls := "java/lang/Record", name := "<init>", desc := "()V" } : Jvm.MethodName) jdk_30_method_1_code (1 : Nat) (Option.none : Option Jvm.ClassFile.FieldType)).before args0 about1 = true := code_word (m := ⟨14, 0⟩) (meth := k14m0) (c := k14c0) (by decide +kernel) rfl rfl rfl (by decide +kernel)
set_option maxRecDepth 65536 in
theorem w_c11 : (Jvm.Cond.code ({ cls := "com/example/greenwood/greenwood/Environment", name := "get", desc := "(Lcom/example/greenwood/greenwood/Local;)Ljava/lang/Object;" } : Jvm.MethodName) prog_1_method_12_code (2 : Nat) (Option.some (Jvm.ClassFile.FieldType.object "java/lang/Object"))).before args0 about1 = true := code_word (m := ⟨9, 4⟩) (meth := k9m4) (c := k9c4) (by decide +kernel) rfl rfl rfl (by decide +kernel)
set_option maxRecDepth 65536 in
theorem w_c12 : (Jvm.Cond.code ({ cls := "com/example/greenwood/greenwood/Environment", name := "index", desc := "(Lcom/example/greenwood/greenwood/Local;)I" } : Jvm.MethodName) prog_1_method_14_code (2 : Nat) (Option.some Jvm.ClassFile.FieldType.int)).before args0 about1 = true := code_word (m := ⟨9, 5⟩) (meth := k9m5) (c := k9c5) (by decide +kernel) rfl rfl rfl (by decide +kernel)
set_option maxRecDepth 65536 in
theorem w_c13 : (Jvm.Cond.code ({ cls := "com/example/greenwood/greenwood/Local", name := "depth", desc := "()I" } : Jvm.MethodName) prog_21_method_5_code (1 : Nat) (Option.some Jvm.ClassFile.FieldType.int)).before args0 about1 = true := code_word (m := ⟨15, 1⟩) (meth := k15m1) (c := k15c1) (by decide +kernel) rfl rfl rfl (by decide +kernel)
set_option maxRecDepth 65536 in
theorem w_c14 : (Jvm.Cond.code ({ cls := "com/example/greenwood/greenwood/Local", name := "slot", desc := "()I" } : Jvm.MethodName) prog_21_method_6_code (1 : Nat) (Option.some Jvm.ClassFile.FieldType.int)).before args0 about1 = true := code_word (m := ⟨15, 2⟩) (meth := k15m2) (c := k15c2) (by decide +kernel) rfl rfl rfl (by decide +kernel)
set_option maxRecDepth 65536 in
theorem w_c15 : (Jvm.Cond.code ({ cls := "java/lang/Integer", name := "<init>", desc := "(I)V" } : Jvm.MethodName) jdk_33_method_23_code (2 : Nat) (Option.none : Option Jvm.ClassFile.FieldType)).before args0 about1 = true := code_word (m := ⟨7, 1⟩) (meth := k7m1) (c := k7c1) (by decide +kernel) rfl rfl rfl (by decide +kernel)
set_option maxRecDepth 65536 in
theorem w_c16 : (Jvm.Cond.code ({ cls := "java/lang/Number", name := "<init>", desc := "()V" } : Jvm.MethodName) jdk_18_method_1_code (1 : Nat) (Option.none : Option Jvm.ClassFile.FieldType)).before args0 about1 = true := code_word (m := ⟨3, 0⟩) (meth := k3m0) (c := k3c0) (by decide +kernel) rfl rfl rfl (by decide +kernel)
def codes1 : List Jvm.Cond := [Jvm.Cond.code x code maxLocals ret, Jvm.Cond.code ({ cls := "java/lang/Integer", name := "valueOf", desc := "(I)Ljava/lang/Integer;" } : Jvm.MethodName) jdk_33_method_22_code (1 : Nat) (Option.some (Jvm.ClassFile.FieldType.object "java/lang/Integer")), Jvm.Cond.code ({ cls := "com/example/greenwood/greenwood/Environment", name := "<init>", desc := "()V" } : Jvm.MethodName) prog_1_method_1_code (1 : Nat) (Option.none : Option Jvm.ClassFile.FieldType), Jvm.Cond.code ({ cls := "java/lang/Object", name := "<init>", desc := "()V" } : Jvm.MethodName) object_method_1_code (1 : Nat) (Option.none : Option Jvm.ClassFile.FieldType), Jvm.Cond.code ({ cls := "java/util/HashMap", name := "<init>", desc := "()V" } : Jvm.MethodName) jdk_69_method_7_code (1 : Nat) (Option.none : Option Jvm.ClassFile.FieldType), Jvm.Cond.code ({ cls := "java/util/AbstractMap", name := "<init>", desc := "()V" } : Jvm.MethodName) jdk_71_method_1_code (1 : Nat) (Option.none : Option Jvm.ClassFile.FieldType), Jvm.Cond.code ({ cls := "com/example/greenwood/greenwood/Environment", name := "openScope", desc := "()V" } : Jvm.MethodName) prog_1_method_7_code (1 : Nat) (Option.none : Option Jvm.ClassFile.FieldType), Jvm.Cond.code ({ cls := "com/example/greenwood/greenwood/Environment", name := "declare", desc := "()V" } : Jvm.MethodName) prog_1_method_10_code (1 : Nat) (Option.none : Option Jvm.ClassFile.FieldType), Jvm.Cond.code ({ cls := "com/example/greenwood/greenwood/Environment", name := site_51.name, desc := "(Ljava/lang/Object;)V" } : Jvm.MethodName) prog_1_method_11_code (2 : Nat) (Option.none : Option Jvm.ClassFile.FieldType), Jvm.Cond.code ({ cls := "com/example/greenwood/greenwood/Local", name := "<init>", desc := "(II)V" } : Jvm.MethodName) prog_21_method_1_code (3 : Nat) (Option.none : Option Jvm.ClassFile.FieldType), Jvm.Cond.code ({ cls := "java/lang/Record", name := "<init>", desc := "()V" } : Jvm.MethodName) jdk_30_method_1_code (1 : Nat) (Option.none : Option Jvm.ClassFile.FieldType), Jvm.Cond.code ({ cls := "com/example/greenwood/greenwood/Environment", name := "get", desc := "(Lcom/example/greenwood/greenwood/Local;)Ljava/lang/Object;" } : Jvm.MethodName) prog_1_method_12_code (2 : Nat) (Option.some (Jvm.ClassFile.FieldType.object "java/lang/Object")), Jvm.Cond.code ({ cls := "com/example/greenwood/greenwood/Environment", name := "index", desc := "(Lcom/example/greenwood/greenwood/Local;)I" } : Jvm.MethodName) prog_1_method_14_code (2 : Nat) (Option.some Jvm.ClassFile.FieldType.int), Jvm.Cond.code ({ cls := "com/example/greenwood/greenwood/Local", name := "depth", desc := "()I" } : Jvm.MethodName) prog_21_method_5_code (1 : Nat) (Option.some Jvm.ClassFile.FieldType.int), Jvm.Cond.code ({ cls := "com/example/greenwood/greenwood/Local", name := "slot", desc := "()I" } : Jvm.MethodName) prog_21_method_6_code (1 : Nat) (Option.some Jvm.ClassFile.FieldType.int), Jvm.Cond.code ({ cls := "java/lang/Integer", name := "<init>", desc := "(I)V" } : Jvm.MethodName) jdk_33_method_23_code (2 : Nat) (Option.none : Option Jvm.ClassFile.FieldType), Jvm.Cond.code ({ cls := "java/lang/Number", name := "<init>", desc := "()V" } : Jvm.MethodName) jdk_18_method_1_code (1 : Nat) (Option.none : Option Jvm.ClassFile.FieldType)]
set_option maxRecDepth 65536 in
theorem codes_eq : words1.filter isCode = codes1 := rfl
theorem w_codes : ∀ c ∈ words1.filter isCode, c.before args0 about1 = true := by
  rw [codes_eq]
  intro c hc
  simp only [codes1, List.mem_cons, List.not_mem_nil, or_false] at hc
  rcases hc with rfl | rfl | rfl | rfl | rfl | rfl | rfl | rfl | rfl | rfl | rfl | rfl | rfl | rfl | rfl | rfl | rfl
  · exact w_c0
  · exact w_c1
  · exact w_c2
  · exact w_c3
  · exact w_c4
  · exact w_c5
  · exact w_c6
  · exact w_c7
  · exact w_c8
  · exact w_c9
  · exact w_c10
  · exact w_c11
  · exact w_c12
  · exact w_c13
  · exact w_c14
  · exact w_c15
  · exact w_c16
set_option maxRecDepth 65536 in
theorem w_t1 : (words1.take 24).all (fun c => isCode c || c.before args0 about1) = true := by decide +kernel
set_option maxRecDepth 65536 in
theorem w_t2 : ((words1.drop 24).take 24).all (fun c => isCode c || c.before args0 about1) = true := by decide +kernel
set_option maxRecDepth 65536 in
theorem w_t3 : (((words1.drop 24).drop 24).take 24).all (fun c => isCode c || c.before args0 about1) = true := by decide +kernel
set_option maxRecDepth 65536 in
theorem w_t4 : ((((words1.drop 24).drop 24).drop 24).take 24).all (fun c => isCode c || c.before args0 about1) = true := by decide +kernel
set_option maxRecDepth 65536 in
theorem w_t5 : ((((words1.drop 24).drop 24).drop 24).drop 24).all (fun c => isCode c || c.before args0 about1) = true := by decide +kernel
theorem w_tables : (allAtoms (Jvm.Cond.code x code maxLocals ret :: tables_1)).before args0 about1 = true := by
  rw [allAtoms_all]
  show words1.all (fun c => c.before args0 about1) = true
  refine all_split ?_ w_codes
  rw [← List.take_append_drop 24 words1, List.all_append, w_t1, ← List.take_append_drop 24 (words1.drop 24), List.all_append, w_t2, ← List.take_append_drop 24 ((words1.drop 24).drop 24), List.all_append, w_t3, ← List.take_append_drop 24 (((words1.drop 24).drop 24).drop 24), List.all_append, w_t4, w_t5]
  rfl
set_option maxRecDepth 65536 in
theorem w_rest : rest_1_c.before args0 about1 = true := by decide +kernel
set_option maxRecDepth 65536 in
theorem w_case : (Jvm.Cond.and given_1 narrow_1).before args0 about1 = true := by decide +kernel
theorem w_applies : (headSpec (Jvm.Cond.code x code maxLocals ret :: tables_1) room_1).applies x e0.platform about1 = true :=
  (Spec.applies_iff w_frames).mpr ⟨w_running, w_runnable, w_alone, w_named, w_hears, w_ripe, w_room, w_tables⟩
theorem atStart : AtStart classFile x code maxLocals ret World_1 tables_1 room_1 Calls_1 rest_1 Pre_1 launch0 p0 e0 about1 theMethod args0 below0 :=
  ⟨lists_1, trivial, launch0.admits_env _ _ _, launch0.least_env, fairChoices_fair.cas, fairChoices_fair.clock, w_frames, w_args, w_heap, w_applies, trivial, w_rest, w_case⟩
end start1
theorem witness_1 : WitnessClaimed_1 := ⟨start1.p0, start1.e0, start1.about1, start1.theMethod, start1.args0, start1.below0, start1.atStart⟩
end Jvm.Pilot.@@N@@
