import JvmDerived
import JvmDerived.Pilot.@@N@@Statement
import JvmDerived.Pilot.@@N@@Code
set_option linter.unusedVariables false
set_option linter.unusedSimpArgs false
namespace Jvm.Pilot.@@N@@
open Jvm Jvm.ClassFile Sem Op Lib Jvm.Free Jvm.Stand Jvm.LawKit Jvm.RoadKit Bundle Jvm.Pilot.@@N@@.Jvm.D
abbrev own_Go (tb : Tables) (e : Env) (below : List Frame) (P : State → Outcome → Prop) (st : State) : Prop := ∃ U o, Steps tb e below st U ∧ P U o
theorem own_go {tb : Tables} {e : Env} {below : List Frame} {P : State → Outcome → Prop} {st st' : State} (h : ∀ t, Steps tb e below st' t → Steps tb e below st t) (k : own_Go tb e below P st') : own_Go tb e below P st := by
  obtain ⟨U, o, h1, h2⟩ := k; exact ⟨U, o, h _ h1, h2⟩
theorem own_cat {v : Value} (h : v.isRef = true) : v.category = 1 := by rcases ref_cases h with rfl | ⟨a, rfl⟩ <;> rfl
theorem own_nar_ref {t : FieldType} {v : Value} (h : v.isRef = true) : narrow t v = v := by rcases ref_cases h with rfl | ⟨a, rfl⟩ <;> cases t <;> rfl
theorem own_fit_ref {t : FieldType} {v : Value} (h : v.isRef = true) (ht : t.isReference = true := by rfl) : fits t v = true := by rcases ref_cases h with rfl | ⟨a, rfl⟩ <;> cases t <;> first | rfl | (cases ht)
theorem own_widen {p : Program} {l : Launch} {e : Env} {R : Room} {s : State} {m : MethodId} {args : Array Value} {below : List Frame} {meth : Method} {c : Code} {T : State} {locs : List Loc} {cells slots cells' slots' : Nat} (X : Stand p l e R s m args below meth c T locs cells slots) (h1 : cells ≤ cells') (h2 : slots ≤ slots') : Stand p l e R s m args below meth c T locs cells' slots' :=
  { X with same := X.same.mono h1 h2 }
theorem own_sel_priv {s : State} {args : Array Value} {y : MethodName} {n : Nat} (wi : (Jvm.Cond.instantiable y.cls n).before args s = true) (hp : s.PrivateAt y) (hinst : (Jvm.Cond.instanceMethod y).before args s = true) (hy : y.cls ≠ "java/lang/invoke/MethodHandle" ∧ y.cls ≠ "java/lang/invoke/VarHandle") : (Jvm.Cond.selects y.cls y y).before args s = true := by
  obtain ⟨c, k, h1, h2, -, h4, -⟩ := Cond.instantiable_spec wi
  exact selects_self_of_private h1 h2 (Bool.or_eq_false_iff.mp h4).1 hp hinst hy
theorem own_sta_keep {Z : State} {h h' : Heap} {ws : List Addr} {C n d : String} {v : Value} (F : Sta Z h C n d v) (K : Keep h h' ws) (q : ∀ x ∈ ws, ∀ c : Cell, h[x]? = some c → c.vm.isStatics = false) : Sta Z h' C n d v := by
  obtain ⟨cf, i, k, f, st, cell, h1, h2, h3, h4, h5, h6, h7⟩ := F
  exact ⟨cf, i, k, f, st, cell, h1, h2, h3, h4, K.2.1 st cell h5 (fun z => by rw [q st z cell h5] at h6; cases h6), h6, h7⟩
theorem own_pl_exa {Z : State} {h : Heap} {a : Addr} {C : String} (F : Exa Z h a C) : ∀ c : Cell, h[a]? = some c → c.vm.isStatics = false := fun c hc => by
  obtain ⟨c1, k, h1, -, -, h4, -⟩ := F; cases h1.symm.trans hc; exact h4
theorem own_pl_fld {Z : State} {h : Heap} {a : Addr} {C n d : String} {v : Value} (F : Fld Z h a C n d v) : ∀ c : Cell, h[a]? = some c → c.vm.isStatics = false := old_plain F
theorem own_pl_arv {Z : State} {h : Heap} {a : Addr} {k : ClassId} {ty : FieldType} {n : Int32} {vs : List Value} {d : Value} (F : Arv Z h a k ty n vs d) : ∀ c : Cell, h[a]? = some c → c.vm.isStatics = false := fun c hc => by
  obtain ⟨c1, A, -⟩ := F; cases A.1.symm.trans hc; exact A.plain
def own_re (p : Int32) : Int32 := if p &&& 2 = 0 then 0 else 1
def own_ra (p : Int32) : Int32 := if p = 0 then 0 else 1
theorem own_and3 (f : Int32) : f &&& 3 = 0 ∨ f &&& 3 = 1 ∨ f &&& 3 = 2 ∨ f &&& 3 = 3 := by
  have h := c_mask f 3 2 (by decide) (by decide)
  have h2 : (f &&& 3).toInt = 0 ∨ (f &&& 3).toInt = 1 ∨ (f &&& 3).toInt = 2 ∨ (f &&& 3).toInt = 3 := by
    have : ((2 ^ 2 : Nat) : Int) = 4 := rfl
    rw [this] at h; omega
  rcases h2 with h | h | h | h
  · exact Or.inl (Int32.toInt_inj.mp h)
  · exact Or.inr (Or.inl (Int32.toInt_inj.mp h))
  · exact Or.inr (Or.inr (Or.inl (Int32.toInt_inj.mp h)))
  · exact Or.inr (Or.inr (Or.inr (Int32.toInt_inj.mp h)))
theorem own_re_of (f k : Int32) (h : f &&& 3 = k) : own_re f = own_re k := by
  have e : f &&& 2 = (f &&& 3) &&& 2 := by rw [Int32.and_assoc]; rfl
  have e2 : k &&& 2 = (k &&& 3) &&& 2 := by rw [Int32.and_assoc]; rfl
  have e3 : k &&& 3 = k := by rw [← h, Int32.and_assoc]; rfl
  unfold own_re; rw [e, e2, e3, h]
theorem own_mod3 (x : Int32) : x % 3 = 0 ∨ x % 3 = 1 ∨ x % 3 = 2 ∨ x < 0 := by
  have h := Int32.toInt_mod x 3
  have e3 : (3 : Int32).toInt = 3 := rfl
  rw [e3] at h
  by_cases hx : x < 0
  · exact Or.inr (Or.inr (Or.inr hx))
  · have h0 : 0 ≤ x.toInt := by rw [Int32.lt_iff_toInt_lt] at hx; have : (0 : Int32).toInt = 0 := rfl; omega
    rw [Int.tmod_eq_emod_of_nonneg h0] at h
    have h2 : (x % 3).toInt = 0 ∨ (x % 3).toInt = 1 ∨ (x % 3).toInt = 2 := by omega
    rcases h2 with h | h | h
    · exact Or.inl (Int32.toInt_inj.mp h)
    · exact Or.inr (Or.inl (Int32.toInt_inj.mp h))
    · exact Or.inr (Or.inr (Or.inl (Int32.toInt_inj.mp h)))
theorem own_pos (x : Int32) : ¬ (x &&& 2147483647) < 0 := by
  have := (c_and x 2147483647 (by decide)).1
  rw [Int32.lt_iff_toInt_lt]; have e : (0 : Int32).toInt = 0 := rfl; omega
theorem d2_0 : decode jdk_30_method_1_code 0 = .ok (.aload_n 0, 1) := by decide +kernel
theorem d2_1 : decode jdk_30_method_1_code 1 = .ok (.invokespecial 1, 3) := by decide +kernel
theorem d2_4 : decode jdk_30_method_1_code 4 = .ok (.return_, 1) := by decide +kernel
theorem pn_2 : plainName "java/lang/Record" = true := by first | (simp [plainName, overriddenIn]; done) | decide +kernel
theorem ef_rm2 (m : MethodId) (x0 : Addr) : entryFrame m #[(.ref x0)] 1 = mkF m 0 #[.val (.ref x0)] [] := by first | (simp [entryFrame, mkF, argsToLocals, Value.category]; done) | rfl
def Qrm2 (Z : State) (a1 : Addr) (h0 : Heap) (n0 : Nat) (v : Option Value) (h : Heap) (L : List Loc) : Prop := (v = none) ∧ (Fr n0 L) ∧ (h = h0)
set_option maxRecDepth 65536 in
set_option maxHeartbeats 40000000 in
theorem rm2 (l : Launch) (Z : State) (a0 : Array Value) (hw : ∀ d ∈ tables_1, d.before a0 Z = true) (ws : List Jvm.Cond) (a1 : Addr) (h0 : Heap) (n0 : Nat) (Z0 : n0 ≤ h0.size)  :
    MetFree l (⟨"java/lang/Record", "<init>", "()V"⟩ : MethodName) (head1 (Jvm.Cond.code (⟨"java/lang/Record", "<init>", "()V"⟩ : MethodName) jdk_30_method_1_code 1 none :: ws) ({ frames := 1, cells := 0, slots := 0, locals := 12 } : Room)) (fun a U => a = #[(.ref a1)] ∧ Z.Warmed39 U.vm ∧ U.heap = h0) (fun _ _ _ _ _ => True) (fun _ U o U' => ∃ v L, o = .returned v ∧ Qrm2 Z a1 h0 n0 v U'.heap L ∧ FrameEnd U o U' L ({ frames := 1, cells := 0, slots := 0, locals := 12 } : Room).cells ({ frames := 1, cells := 0, slots := 0, locals := 12 } : Room).slots) := by
  refine MetFree.of_bodySF (plainFor_of_name pn_2) hisR ?_
  intro p e s m args below meth c s₁ Bd hml0 hP0 hK
  obtain ⟨rfl, hZ, hh⟩ := hP0
  have hx := Bd.exec
  have hby := Bd.bytes
  have hml : c.maxLocals = 1 := hml0
  have hown : s.vm.findClass "java/lang/Record" = some m.cls := findClass_of_methodNamed Bd.named
  have hnm := (name_of_methodNamed Bd.named Bd.method).1
  have X0 : Stand p l e ({ frames := 1, cells := 0, slots := 0, locals := 12 } : Room) s m #[(.ref a1)] below meth c s₁ [] 0 0 := Stand.of_body Bd
  have e0 : s₁.heap = h0 := by rw [← hh, Bd.state]; rfl
  have N0 := Fr.nil n0
  suffices own_H : ∀ (P : State → Outcome → Prop), (∀ U o, U.status = .running → Ended U below o → (∃ v L, o = .returned v ∧ Qrm2 Z a1 h0 n0 v U.heap L ∧ FrameEnd s o U L ({ frames := 1, cells := 0, slots := 0, locals := 12 } : Room).cells ({ frames := 1, cells := 0, slots := 0, locals := 12 } : Room).slots) → P U o) → own_Go p.tables e below P (s₁.setTop (mkF m 0 #[.val (.ref a1)] [])) from own_go (fun _ k => castTop (ef_rm2 m a1) k) (own_H _ (fun U o h1 h2 h3 => ⟨h1, h2, h3⟩))
  intro P hP
  refine own_go (st' := s₁.setTop (mkF m 1 #[.val (.ref a1)] [(.ref a1)])) (fun _ k => XS.aloadN X0.here hx rfl (hb hby d2_0) rfl rfl k) ?_
  obtain ⟨T1, X1, e1, st1⟩ := initO X0 hx hZ hown (hw _ (List.mem_of_getElem? (i := 11) rfl)) (hw _ (List.mem_of_getElem? (i := 12) rfl)) (hw _ (List.mem_of_getElem? (i := 13) rfl)) e0 (g := (mkF m 1 #[.val (.ref a1)] [(.ref a1)])) rfl (by rw [hml]; rfl) rfl (hb hby d2_1) (by decide) (W := 0) (by show 2 * 0 + _ ≤ _; exact Nat.le_of_eq rfl) (by decide)
  refine own_go (st' := T1.setTop (mkF m 4 #[.val (.ref a1)] [])) (st1) ?_
  obtain ⟨fs, hr, hrun, hended, hW, hsame⟩ := X1.leave (v := none) (fun _ => rfl)
  refine ⟨_, _, ?_, hP _ _ hrun hended ⟨_, _, rfl, ?_, ⟨_, rfl⟩, hW, hsame.mono (by decide) (by decide)⟩⟩
  · exact X1.returnOut hx Bd.returns (hb hby d2_4) hr
  · show Qrm2 Z a1 h0 n0 _ T1.heap _
    rw [e1]
    exact ⟨rfl, N0, rfl⟩
theorem pd_0 : parseMethodDescriptor "()V" = some ⟨[], none⟩ := by decide +kernel
theorem d1_0 : decode prog_92_method_1_code 0 = .ok (.aload_n 0, 1) := by decide +kernel
theorem d1_1 : decode prog_92_method_1_code 1 = .ok (.invokespecial 1, 3) := by decide +kernel
theorem d1_4 : decode prog_92_method_1_code 4 = .ok (.aload_n 0, 1) := by decide +kernel
theorem d1_5 : decode prog_92_method_1_code 5 = .ok (.iload_n 1, 1) := by decide +kernel
theorem d1_6 : decode prog_92_method_1_code 6 = .ok (.putfield 7, 3) := by decide +kernel
theorem d1_9 : decode prog_92_method_1_code 9 = .ok (.aload_n 0, 1) := by decide +kernel
theorem d1_10 : decode prog_92_method_1_code 10 = .ok (.iload_n 2, 1) := by decide +kernel
theorem d1_11 : decode prog_92_method_1_code 11 = .ok (.putfield 13, 3) := by decide +kernel
theorem d1_14 : decode prog_92_method_1_code 14 = .ok (.aload_n 0, 1) := by decide +kernel
theorem d1_15 : decode prog_92_method_1_code 15 = .ok (.aload_n 3, 1) := by decide +kernel
theorem d1_16 : decode prog_92_method_1_code 16 = .ok (.putfield 16, 3) := by decide +kernel
theorem d1_19 : decode prog_92_method_1_code 19 = .ok (.aload_n 0, 1) := by decide +kernel
theorem d1_20 : decode prog_92_method_1_code 20 = .ok (.aload 4, 2) := by decide +kernel
theorem d1_22 : decode prog_92_method_1_code 22 = .ok (.putfield 20, 3) := by decide +kernel
theorem d1_25 : decode prog_92_method_1_code 25 = .ok (.aload_n 0, 1) := by decide +kernel
theorem d1_26 : decode prog_92_method_1_code 26 = .ok (.aload 5, 2) := by decide +kernel
theorem d1_28 : decode prog_92_method_1_code 28 = .ok (.putfield 24, 3) := by decide +kernel
theorem d1_31 : decode prog_92_method_1_code 31 = .ok (.return_, 1) := by decide +kernel
theorem pn_1 : plainName "com/example/interpoint/interpoint/giop/RequestHeader" = true := by first | (simp [plainName, overriddenIn]; done) | decide +kernel
theorem ef_rm1 (m : MethodId) (x0 : Addr) (x1 : Int32) (x2 : Int32) : entryFrame m #[(.ref x0), (.int x1), (.int x2), .null, .null, .null] 6 = mkF m 0 #[.val (.ref x0), .val (.int x1), .val (.int x2), .val .null, .val .null, .val .null] [] := by first | (simp [entryFrame, mkF, argsToLocals, Value.category]; done) | rfl
def Qrm1 (Z : State) (a1 : Addr) (p2 : Int32) (p3 : Int32) (u4 : Int32) (u5 : Int32) (h0 : Heap) (n0 : Nat) (v : Option Value) (h : Heap) (L : List Loc) : Prop := (v = none) ∧ (Fr n0 L) ∧ (Keep h0 h [a1]) ∧ (Exa Z h a1 "com/example/interpoint/interpoint/giop/RequestHeader") ∧ (Fld Z h a1 "com/example/interpoint/interpoint/giop/RequestHeader" "responseFlags" "I" (.int p3))
set_option maxRecDepth 65536 in
set_option maxHeartbeats 40000000 in
theorem rm1 (l : Launch) (Z : State) (a0 : Array Value) (hw : ∀ d ∈ tables_1, d.before a0 Z = true) (ws : List Jvm.Cond) (a1 : Addr) (p2 : Int32) (p3 : Int32) (u4 : Int32) (u5 : Int32) (h0 : Heap) (n0 : Nat) (Z0 : n0 ≤ h0.size) (pr1 : Exa Z h0 a1 "com/example/interpoint/interpoint/giop/RequestHeader") (pr2 : Fld Z h0 a1 "com/example/interpoint/interpoint/giop/RequestHeader" "requestId" "I" (.int u4)) (pr3 : Fld Z h0 a1 "com/example/interpoint/interpoint/giop/RequestHeader" "responseFlags" "I" (.int u5)) (pr4 : Fld Z h0 a1 "com/example/interpoint/interpoint/giop/RequestHeader" "objectKey" "[B" .null) (pr5 : Fld Z h0 a1 "com/example/interpoint/interpoint/giop/RequestHeader" "operation" "Ljava/lang/String;" .null) (pr6 : Fld Z h0 a1 "com/example/interpoint/interpoint/giop/RequestHeader" "contexts" "Ljava/util/List;" .null) (pr7 : n0 ≤ a1) :
    MetFree l (⟨"com/example/interpoint/interpoint/giop/RequestHeader", "<init>", "(II[BLjava/lang/String;Ljava/util/List;)V"⟩ : MethodName) (head1 (Jvm.Cond.code (⟨"com/example/interpoint/interpoint/giop/RequestHeader", "<init>", "(II[BLjava/lang/String;Ljava/util/List;)V"⟩ : MethodName) prog_92_method_1_code 6 none :: ws) ({ frames := 2, cells := 0, slots := 0, locals := 24 } : Room)) (fun a U => a = #[(.ref a1), (.int p2), (.int p3), .null, .null, .null] ∧ Z.Warmed39 U.vm ∧ U.heap = h0) (fun _ _ _ _ _ => True) (fun _ U o U' => ∃ v L, o = .returned v ∧ Qrm1 Z a1 p2 p3 u4 u5 h0 n0 v U'.heap L ∧ FrameEnd U o U' L ({ frames := 2, cells := 0, slots := 0, locals := 24 } : Room).cells ({ frames := 2, cells := 0, slots := 0, locals := 24 } : Room).slots) := by
  refine MetFree.of_bodySF (plainFor_of_name pn_1) hisR ?_
  intro p e s m args below meth c s₁ Bd hml0 hP0 hK
  obtain ⟨rfl, hZ, hh⟩ := hP0
  have hx := Bd.exec
  have hby := Bd.bytes
  have hml : c.maxLocals = 6 := hml0
  have hown : s.vm.findClass "com/example/interpoint/interpoint/giop/RequestHeader" = some m.cls := findClass_of_methodNamed Bd.named
  have hnm := (name_of_methodNamed Bd.named Bd.method).1
  have X0 : Stand p l e ({ frames := 2, cells := 0, slots := 0, locals := 24 } : Room) s m #[(.ref a1), (.int p2), (.int p3), .null, .null, .null] below meth c s₁ [] 0 0 := Stand.of_body Bd
  have e0 : s₁.heap = h0 := by rw [← hh, Bd.state]; rfl
  have N0 := Fr.nil n0
  suffices own_H : ∀ (P : State → Outcome → Prop), (∀ U o, U.status = .running → Ended U below o → (∃ v L, o = .returned v ∧ Qrm1 Z a1 p2 p3 u4 u5 h0 n0 v U.heap L ∧ FrameEnd s o U L ({ frames := 2, cells := 0, slots := 0, locals := 24 } : Room).cells ({ frames := 2, cells := 0, slots := 0, locals := 24 } : Room).slots) → P U o) → own_Go p.tables e below P (s₁.setTop (mkF m 0 #[.val (.ref a1), .val (.int p2), .val (.int p3), .val .null, .val .null, .val .null] [])) from own_go (fun _ k => castTop (ef_rm1 m a1 p2 p3) k) (own_H _ (fun U o h1 h2 h3 => ⟨h1, h2, h3⟩))
  intro P hP
  have lt_a1 : a1 < h0.size := pr1.lt
  refine own_go (st' := s₁.setTop (mkF m 1 #[.val (.ref a1), .val (.int p2), .val (.int p3), .val .null, .val .null, .val .null] [(.ref a1)])) (fun _ k => XS.aloadN X0.here hx rfl (hb hby d1_0) rfl rfl k) ?_
  obtain ⟨_, _, ⟨T1, LC1, kC1, nC1⟩, -, X1, ⟨Lc1, hQ1, lq1, yq1, zq1⟩, st1⟩ := X0.specialBack hx (y := (⟨"java/lang/Record", "<init>", "()V"⟩ : MethodName)) rfl hown (mvT hZ (hw _ (List.mem_of_getElem? (i := 6) rfl))) (mvT hZ (hw _ (List.mem_of_getElem? (i := 7) rfl))) (mvT hZ (hw _ (List.mem_of_getElem? (i := 10) rfl))) (by decide) (backOf (W := 0) (rm2 l Z a0 hw [] a1 h0 n0 (by omega) ) hZ (hw _ (List.mem_of_getElem? (i := 10) rfl)) (hw _ (List.mem_of_getElem? (i := 9) rfl)) (by decide) (by decide)) (g := (mkF m 1 #[.val (.ref a1), .val (.int p2), .val (.int p3), .val .null, .val .null, .val .null] [(.ref a1)])) rfl (by rw [hml]; rfl) (Steps.refl _) (a := a1) (argsL := []) (rest := []) (lenOf pd_0 rfl) rfl (by show 2 * 0 + _ ≤ _; exact Nat.le_of_eq rfl) (hb hby d1_1) (fun _ _ => ⟨rfl, e0, (by decide : 0 + 0 ≤ _), (by decide : 0 + 0 ≤ _)⟩)
  dsimp only [Pt.U, Pt.locs, Pt.cells, Pt.slots] at X1 lq1 yq1 zq1 st1 hQ1
  subst lq1 yq1 zq1
  obtain ⟨rfl, Nq1, eq1⟩ := hQ1
  have N1 := Fr.app N0 Nq1
  refine own_go (st' := T1.setTop (mkF m 4 #[.val (.ref a1), .val (.int p2), .val (.int p3), .val .null, .val .null, .val .null] [])) (fun _ k => st1.trans k) ?_
  refine own_go (st' := T1.setTop (mkF m 5 #[.val (.ref a1), .val (.int p2), .val (.int p3), .val .null, .val .null, .val .null] [(.ref a1)])) (fun _ k => XS.aloadN X1.here hx rfl (hb hby d1_4) rfl rfl k) ?_
  refine own_go (st' := T1.setTop (mkF m 6 #[.val (.ref a1), .val (.int p2), .val (.int p3), .val .null, .val .null, .val .null] [(.int p2), (.ref a1)])) (fun _ k => XS.iloadN X1.here hx rfl (hb hby d1_5) rfl k) ?_
  obtain ⟨T2, h2, X2, e2, W2, st2⟩ := putF X1 hx hZ hown (host := "") (Or.inl (hw _ (List.mem_of_getElem? (i := 14) rfl))) Via.refl eq1 pr2 pr1 (Or.inr ⟨(hw _ (List.mem_of_getElem? (i := 15) rfl)), rfl, hnm⟩) (hw _ (List.mem_of_getElem? (i := 1) rfl)) (ty := .int) (by decide) rfl rfl (g := (mkF m 6 #[.val (.ref a1), .val (.int p2), .val (.int p3), .val .null, .val .null, .val .null] [(.int p2), (.ref a1)])) rfl rfl (hb hby d1_6)
  have sz2 : h2.size = h0.size := W2.size
  have N2 := Fr.snoc X2 N1 (by omega)
  have f2 : Fld Z h2 a1 "com/example/interpoint/interpoint/giop/RequestHeader" "requestId" "I" (.int p2) := pr2.same W2
  refine own_go (st' := T2.setTop (mkF m 9 #[.val (.ref a1), .val (.int p2), .val (.int p3), .val .null, .val .null, .val .null] [])) (st2) ?_
  refine own_go (st' := T2.setTop (mkF m 10 #[.val (.ref a1), .val (.int p2), .val (.int p3), .val .null, .val .null, .val .null] [(.ref a1)])) (fun _ k => XS.aloadN X2.here hx rfl (hb hby d1_9) rfl rfl k) ?_
  refine own_go (st' := T2.setTop (mkF m 11 #[.val (.ref a1), .val (.int p2), .val (.int p3), .val .null, .val .null, .val .null] [(.int p3), (.ref a1)])) (fun _ k => XS.iloadN X2.here hx rfl (hb hby d1_10) rfl k) ?_
  have c3 : Fld Z h2 a1 "com/example/interpoint/interpoint/giop/RequestHeader" "responseFlags" "I" (.int u5) := (pr3.other W2 (Or.inr (slot_ne (Or.inr (hw _ (List.mem_of_getElem? (i := 17) rfl))) (Or.inr (hw _ (List.mem_of_getElem? (i := 15) rfl))) (by decide) (t := .int) (t' := .int) (by decide) (by decide))))
  have c4 : Exa Z h2 a1 "com/example/interpoint/interpoint/giop/RequestHeader" := (pr1.wr W2)
  obtain ⟨T5, h5, X5, e5, W5, st5⟩ := putF X2 hx hZ hown (host := "") (Or.inl (hw _ (List.mem_of_getElem? (i := 16) rfl))) Via.refl e2 c3 c4 (Or.inr ⟨(hw _ (List.mem_of_getElem? (i := 17) rfl)), rfl, hnm⟩) (hw _ (List.mem_of_getElem? (i := 1) rfl)) (ty := .int) (by decide) rfl rfl (g := (mkF m 11 #[.val (.ref a1), .val (.int p2), .val (.int p3), .val .null, .val .null, .val .null] [(.int p3), (.ref a1)])) rfl rfl (hb hby d1_11)
  have sz5 : h5.size = h2.size := W5.size
  have N5 := Fr.snoc X5 N2 (by omega)
  have f5 : Fld Z h5 a1 "com/example/interpoint/interpoint/giop/RequestHeader" "responseFlags" "I" (.int p3) := c3.same W5
  refine own_go (st' := T5.setTop (mkF m 14 #[.val (.ref a1), .val (.int p2), .val (.int p3), .val .null, .val .null, .val .null] [])) (st5) ?_
  refine own_go (st' := T5.setTop (mkF m 15 #[.val (.ref a1), .val (.int p2), .val (.int p3), .val .null, .val .null, .val .null] [(.ref a1)])) (fun _ k => XS.aloadN X5.here hx rfl (hb hby d1_14) rfl rfl k) ?_
  refine own_go (st' := T5.setTop (mkF m 16 #[.val (.ref a1), .val (.int p2), .val (.int p3), .val .null, .val .null, .val .null] [.null, (.ref a1)])) (fun _ k => XS.aloadN X5.here hx rfl (hb hby d1_15) rfl rfl k) ?_
  have c6 : Fld Z h5 a1 "com/example/interpoint/interpoint/giop/RequestHeader" "objectKey" "[B" .null := ((pr4.other W2 (Or.inr (slot_ne (Or.inr (hw _ (List.mem_of_getElem? (i := 19) rfl))) (Or.inr (hw _ (List.mem_of_getElem? (i := 15) rfl))) (by decide) (t := (.array .byte)) (t' := .int) (by decide) (by decide)))).other W5 (Or.inr (slot_ne (Or.inr (hw _ (List.mem_of_getElem? (i := 19) rfl))) (Or.inr (hw _ (List.mem_of_getElem? (i := 17) rfl))) (by decide) (t := (.array .byte)) (t' := .int) (by decide) (by decide))))
  have c7 : Exa Z h5 a1 "com/example/interpoint/interpoint/giop/RequestHeader" := (c4.wr W5)
  obtain ⟨T8, h8, X8, e8, W8, st8⟩ := putF X5 hx hZ hown (host := "") (Or.inl (hw _ (List.mem_of_getElem? (i := 18) rfl))) Via.refl e5 c6 c7 (Or.inr ⟨(hw _ (List.mem_of_getElem? (i := 19) rfl)), rfl, hnm⟩) (hw _ (List.mem_of_getElem? (i := 1) rfl)) (ty := (.array .byte)) (by decide) rfl rfl (g := (mkF m 16 #[.val (.ref a1), .val (.int p2), .val (.int p3), .val .null, .val .null, .val .null] [.null, (.ref a1)])) rfl rfl (hb hby d1_16)
  have sz8 : h8.size = h5.size := W8.size
  have N8 := Fr.snoc X8 N5 (by omega)
  have f8 : Fld Z h8 a1 "com/example/interpoint/interpoint/giop/RequestHeader" "objectKey" "[B" .null := c6.same W8
  refine own_go (st' := T8.setTop (mkF m 19 #[.val (.ref a1), .val (.int p2), .val (.int p3), .val .null, .val .null, .val .null] [])) (st8) ?_
  refine own_go (st' := T8.setTop (mkF m 20 #[.val (.ref a1), .val (.int p2), .val (.int p3), .val .null, .val .null, .val .null] [(.ref a1)])) (fun _ k => XS.aloadN X8.here hx rfl (hb hby d1_19) rfl rfl k) ?_
  refine own_go (st' := T8.setTop (mkF m 22 #[.val (.ref a1), .val (.int p2), .val (.int p3), .val .null, .val .null, .val .null] [.null, (.ref a1)])) (fun _ k => XS.aload X8.here hx rfl (hb hby d1_20) rfl rfl k) ?_
  have c9 : Fld Z h8 a1 "com/example/interpoint/interpoint/giop/RequestHeader" "operation" "Ljava/lang/String;" .null := (((pr5.other W2 (Or.inr (slot_ne (Or.inr (hw _ (List.mem_of_getElem? (i := 21) rfl))) (Or.inr (hw _ (List.mem_of_getElem? (i := 15) rfl))) (by decide) (t := (.object "java/lang/String")) (t' := .int) (by decide) (by decide)))).other W5 (Or.inr (slot_ne (Or.inr (hw _ (List.mem_of_getElem? (i := 21) rfl))) (Or.inr (hw _ (List.mem_of_getElem? (i := 17) rfl))) (by decide) (t := (.object "java/lang/String")) (t' := .int) (by decide) (by decide)))).other W8 (Or.inr (slot_ne (Or.inr (hw _ (List.mem_of_getElem? (i := 21) rfl))) (Or.inr (hw _ (List.mem_of_getElem? (i := 19) rfl))) (by decide) (t := (.object "java/lang/String")) (t' := (.array .byte)) (by decide) (by decide))))
  have c10 : Exa Z h8 a1 "com/example/interpoint/interpoint/giop/RequestHeader" := (c7.wr W8)
  obtain ⟨T11, h11, X11, e11, W11, st11⟩ := putF X8 hx hZ hown (host := "") (Or.inl (hw _ (List.mem_of_getElem? (i := 20) rfl))) Via.refl e8 c9 c10 (Or.inr ⟨(hw _ (List.mem_of_getElem? (i := 21) rfl)), rfl, hnm⟩) (hw _ (List.mem_of_getElem? (i := 1) rfl)) (ty := (.object "java/lang/String")) (by decide) rfl rfl (g := (mkF m 22 #[.val (.ref a1), .val (.int p2), .val (.int p3), .val .null, .val .null, .val .null] [.null, (.ref a1)])) rfl rfl (hb hby d1_22)
  have sz11 : h11.size = h8.size := W11.size
  have N11 := Fr.snoc X11 N8 (by omega)
  have f11 : Fld Z h11 a1 "com/example/interpoint/interpoint/giop/RequestHeader" "operation" "Ljava/lang/String;" .null := c9.same W11
  refine own_go (st' := T11.setTop (mkF m 25 #[.val (.ref a1), .val (.int p2), .val (.int p3), .val .null, .val .null, .val .null] [])) (st11) ?_
  refine own_go (st' := T11.setTop (mkF m 26 #[.val (.ref a1), .val (.int p2), .val (.int p3), .val .null, .val .null, .val .null] [(.ref a1)])) (fun _ k => XS.aloadN X11.here hx rfl (hb hby d1_25) rfl rfl k) ?_
  refine own_go (st' := T11.setTop (mkF m 28 #[.val (.ref a1), .val (.int p2), .val (.int p3), .val .null, .val .null, .val .null] [.null, (.ref a1)])) (fun _ k => XS.aload X11.here hx rfl (hb hby d1_26) rfl rfl k) ?_
  have c12 : Fld Z h11 a1 "com/example/interpoint/interpoint/giop/RequestHeader" "contexts" "Ljava/util/List;" .null := ((((pr6.other W2 (Or.inr (slot_ne (Or.inr (hw _ (List.mem_of_getElem? (i := 23) rfl))) (Or.inr (hw _ (List.mem_of_getElem? (i := 15) rfl))) (by decide) (t := (.object "java/util/List")) (t' := .int) (by decide) (by decide)))).other W5 (Or.inr (slot_ne (Or.inr (hw _ (List.mem_of_getElem? (i := 23) rfl))) (Or.inr (hw _ (List.mem_of_getElem? (i := 17) rfl))) (by decide) (t := (.object "java/util/List")) (t' := .int) (by decide) (by decide)))).other W8 (Or.inr (slot_ne (Or.inr (hw _ (List.mem_of_getElem? (i := 23) rfl))) (Or.inr (hw _ (List.mem_of_getElem? (i := 19) rfl))) (by decide) (t := (.object "java/util/List")) (t' := (.array .byte)) (by decide) (by decide)))).other W11 (Or.inr (slot_ne (Or.inr (hw _ (List.mem_of_getElem? (i := 23) rfl))) (Or.inr (hw _ (List.mem_of_getElem? (i := 21) rfl))) (by decide) (t := (.object "java/util/List")) (t' := (.object "java/lang/String")) (by decide) (by decide))))
  have c13 : Exa Z h11 a1 "com/example/interpoint/interpoint/giop/RequestHeader" := (c10.wr W11)
  obtain ⟨T14, h14, X14, e14, W14, st14⟩ := putF X11 hx hZ hown (host := "") (Or.inl (hw _ (List.mem_of_getElem? (i := 22) rfl))) Via.refl e11 c12 c13 (Or.inr ⟨(hw _ (List.mem_of_getElem? (i := 23) rfl)), rfl, hnm⟩) (hw _ (List.mem_of_getElem? (i := 1) rfl)) (ty := (.object "java/util/List")) (by decide) rfl rfl (g := (mkF m 28 #[.val (.ref a1), .val (.int p2), .val (.int p3), .val .null, .val .null, .val .null] [.null, (.ref a1)])) rfl rfl (hb hby d1_28)
  have sz14 : h14.size = h11.size := W14.size
  have N14 := Fr.snoc X14 N11 (by omega)
  have f14 : Fld Z h14 a1 "com/example/interpoint/interpoint/giop/RequestHeader" "contexts" "Ljava/util/List;" .null := c12.same W14
  refine own_go (st' := T14.setTop (mkF m 31 #[.val (.ref a1), .val (.int p2), .val (.int p3), .val .null, .val .null, .val .null] [])) (st14) ?_
  obtain ⟨fs, hr, hrun, hended, hW, hsame⟩ := X14.leave (v := none) (fun _ => rfl)
  refine ⟨_, _, ?_, hP _ _ hrun hended ⟨_, _, rfl, ?_, ⟨_, rfl⟩, hW, hsame.mono (by decide) (by decide)⟩⟩
  · exact X14.returnOut hx Bd.returns (hb hby d1_31) hr
  · show Qrm1 Z a1 p2 p3 u4 u5 h0 n0 _ T14.heap _
    have c16 : Exa Z h14 a1 "com/example/interpoint/interpoint/giop/RequestHeader" := (c13.wr W14)
    have c17 : Fld Z h14 a1 "com/example/interpoint/interpoint/giop/RequestHeader" "responseFlags" "I" (.int p3) := (((f5.other W8 (Or.inr (slot_ne (Or.inr (hw _ (List.mem_of_getElem? (i := 17) rfl))) (Or.inr (hw _ (List.mem_of_getElem? (i := 19) rfl))) (by decide) (t := .int) (t' := (.array .byte)) (by decide) (by decide)))).other W11 (Or.inr (slot_ne (Or.inr (hw _ (List.mem_of_getElem? (i := 17) rfl))) (Or.inr (hw _ (List.mem_of_getElem? (i := 21) rfl))) (by decide) (t := .int) (t' := (.object "java/lang/String")) (by decide) (by decide)))).other W14 (Or.inr (slot_ne (Or.inr (hw _ (List.mem_of_getElem? (i := 17) rfl))) (Or.inr (hw _ (List.mem_of_getElem? (i := 23) rfl))) (by decide) (t := .int) (t' := (.object "java/util/List")) (by decide) (by decide))))
    rw [e14]
    exact ⟨rfl, N14, ((((((Keep.refl h0 [a1]).wr W2 (Or.inl (List.mem_of_getElem? (i := 0) rfl))).wr W5 (Or.inl (List.mem_of_getElem? (i := 0) rfl))).wr W8 (Or.inl (List.mem_of_getElem? (i := 0) rfl))).wr W11 (Or.inl (List.mem_of_getElem? (i := 0) rfl))).wr W14 (Or.inl (List.mem_of_getElem? (i := 0) rfl))), c16, c17⟩
theorem d4_0 : decode prog_92_method_2_code 0 = .ok (.aload_n 0, 1) := by decide +kernel
theorem d4_1 : decode prog_92_method_2_code 1 = .ok (.getfield 13, 3) := by decide +kernel
theorem d4_4 : decode prog_92_method_2_code 4 = .ok (.iconst 2, 1) := by decide +kernel
theorem d4_5 : decode prog_92_method_2_code 5 = .ok (.iand, 1) := by decide +kernel
theorem d4_6 : decode prog_92_method_2_code 6 = .ok (.ifCond .eq 7, 3) := by decide +kernel
theorem d4_9 : decode prog_92_method_2_code 9 = .ok (.iconst 1, 1) := by decide +kernel
theorem d4_10 : decode prog_92_method_2_code 10 = .ok (.goto 4, 3) := by decide +kernel
theorem d4_13 : decode prog_92_method_2_code 13 = .ok (.iconst 0, 1) := by decide +kernel
theorem d4_14 : decode prog_92_method_2_code 14 = .ok (.ireturn, 1) := by decide +kernel
theorem pn_4 : plainName "com/example/interpoint/interpoint/giop/RequestHeader" = true := by first | (simp [plainName, overriddenIn]; done) | decide +kernel
theorem ef_rm4 (m : MethodId) (x0 : Addr) : entryFrame m #[(.ref x0)] 1 = mkF m 0 #[.val (.ref x0)] [] := by first | (simp [entryFrame, mkF, argsToLocals, Value.category]; done) | rfl
def Qrm4 (Z : State) (a1 : Addr) (p2 : Int32) (h0 : Heap) (n0 : Nat) (v : Option Value) (h : Heap) (L : List Loc) : Prop := (v = some (.int (own_re p2))) ∧ (Fr n0 L) ∧ (h = h0)
set_option maxRecDepth 65536 in
set_option maxHeartbeats 40000000 in
theorem rm4 (l : Launch) (Z : State) (a0 : Array Value) (hw : ∀ d ∈ tables_1, d.before a0 Z = true) (ws : List Jvm.Cond) (a1 : Addr) (p2 : Int32) (h0 : Heap) (n0 : Nat) (Z0 : n0 ≤ h0.size) (pr1 : Fld Z h0 a1 "com/example/interpoint/interpoint/giop/RequestHeader" "responseFlags" "I" (.int p2)) :
    MetFree l (⟨"com/example/interpoint/interpoint/giop/RequestHeader", "responseExpected", "()Z"⟩ : MethodName) (head1 (Jvm.Cond.code (⟨"com/example/interpoint/interpoint/giop/RequestHeader", "responseExpected", "()Z"⟩ : MethodName) prog_92_method_2_code 1 (some .boolean) :: ws) ({ frames := 0, cells := 0, slots := 0, locals := 0 } : Room)) (fun a U => a = #[(.ref a1)] ∧ Z.Warmed39 U.vm ∧ U.heap = h0) (fun _ _ _ _ _ => True) (fun _ U o U' => ∃ v L, o = .returned v ∧ Qrm4 Z a1 p2 h0 n0 v U'.heap L ∧ FrameEnd U o U' L ({ frames := 0, cells := 0, slots := 0, locals := 0 } : Room).cells ({ frames := 0, cells := 0, slots := 0, locals := 0 } : Room).slots) := by
  refine MetFree.of_bodySF (plainFor_of_name pn_4) hisR ?_
  intro p e s m args below meth c s₁ Bd hml0 hP0 hK
  obtain ⟨rfl, hZ, hh⟩ := hP0
  have hx := Bd.exec
  have hby := Bd.bytes
  have hml : c.maxLocals = 1 := hml0
  have hown : s.vm.findClass "com/example/interpoint/interpoint/giop/RequestHeader" = some m.cls := findClass_of_methodNamed Bd.named
  have hnm := (name_of_methodNamed Bd.named Bd.method).1
  have X0 : Stand p l e ({ frames := 0, cells := 0, slots := 0, locals := 0 } : Room) s m #[(.ref a1)] below meth c s₁ [] 0 0 := Stand.of_body Bd
  have e0 : s₁.heap = h0 := by rw [← hh, Bd.state]; rfl
  have N0 := Fr.nil n0
  suffices own_H : ∀ (P : State → Outcome → Prop), (∀ U o, U.status = .running → Ended U below o → (∃ v L, o = .returned v ∧ Qrm4 Z a1 p2 h0 n0 v U.heap L ∧ FrameEnd s o U L ({ frames := 0, cells := 0, slots := 0, locals := 0 } : Room).cells ({ frames := 0, cells := 0, slots := 0, locals := 0 } : Room).slots) → P U o) → own_Go p.tables e below P (s₁.setTop (mkF m 0 #[.val (.ref a1)] [])) from own_go (fun _ k => castTop (ef_rm4 m a1) k) (own_H _ (fun U o h1 h2 h3 => ⟨h1, h2, h3⟩))
  intro P hP
  have lt_a1 : a1 < h0.size := pr1.lt
  refine own_go (st' := s₁.setTop (mkF m 1 #[.val (.ref a1)] [(.ref a1)])) (fun _ k => XS.aloadN X0.here hx rfl (hb hby d4_0) rfl rfl k) ?_
  obtain ⟨T1, X1, e1, st1⟩ := getF X0 hx hZ hown (host := "") (Or.inl (hw _ (List.mem_of_getElem? (i := 16) rfl))) Via.refl e0 pr1 (g := (mkF m 1 #[.val (.ref a1)] [(.ref a1)])) rfl rfl (hb hby d4_1)
  refine own_go (st' := T1.setTop (mkF m 4 #[.val (.ref a1)] [(.int p2)])) (st1) ?_
  refine own_go (st' := T1.setTop (mkF m 5 #[.val (.ref a1)] [(.int (2 : Int32)), (.int p2)])) (fun _ k => XS.iconst X1.here hx rfl (hb hby d4_4) k) ?_
  refine own_go (st' := T1.setTop (mkF m 6 #[.val (.ref a1)] [(.int (p2 &&& (2 : Int32)))])) (fun _ k => XS.iand X1.here hx rfl (hb hby d4_5) rfl k) ?_
  by_cases hc2 : (p2 &&& (2 : Int32)) = (0 : Int32)
  · --
    refine own_go (st' := T1.setTop (mkF m 13 #[.val (.ref a1)] [])) (fun _ k => XS.ifYes X1.here hx rfl (pc0 := 6) (pc' := 13) rfl (hb hby d4_6) rfl ((if0 _ _).trans (teq hc2).1) (by decide) (by decide) k) ?_
    refine own_go (st' := T1.setTop (mkF m 14 #[.val (.ref a1)] [(.int (0 : Int32))])) (fun _ k => XS.iconst X1.here hx rfl (hb hby d4_13) k) ?_
    obtain ⟨fs, hr, hrun, hended, hW, hsame⟩ := X1.leave (v := some (.int (0 : Int32))) (fun h => by rw [Bd.returns] at h; cases h)
    refine ⟨_, _, ?_, hP _ _ hrun hended ⟨_, _, rfl, ?_, ⟨_, rfl⟩, hW, hsame.mono (by decide) (by decide)⟩⟩
    · exact retN X1 hx (t := .boolean) Bd.returns (by simp) (hb hby d4_14) hr
    · show Qrm4 Z a1 p2 h0 n0 _ T1.heap _
      rw [e1]
      exact ⟨(by unfold own_re; rw [if_pos hc2]), N0, rfl⟩
  · --
    refine own_go (st' := T1.setTop (mkF m 9 #[.val (.ref a1)] [])) (fun _ k => XS.ifNo X1.here hx rfl (hb hby d4_6) rfl ((if0 _ _).trans (feq hc2).1) k) ?_
    refine own_go (st' := T1.setTop (mkF m 10 #[.val (.ref a1)] [(.int (1 : Int32))])) (fun _ k => XS.iconst X1.here hx rfl (hb hby d4_9) k) ?_
    refine own_go (st' := T1.setTop (mkF m 14 #[.val (.ref a1)] [(.int (1 : Int32))])) (fun _ k => XS.goto X1.here hx rfl (pc0 := 10) (pc' := 14) rfl (hb hby d4_10) (by decide) (by decide) k) ?_
    obtain ⟨fs, hr, hrun, hended, hW, hsame⟩ := X1.leave (v := some (.int (1 : Int32))) (fun h => by rw [Bd.returns] at h; cases h)
    refine ⟨_, _, ?_, hP _ _ hrun hended ⟨_, _, rfl, ?_, ⟨_, rfl⟩, hW, hsame.mono (by decide) (by decide)⟩⟩
    · exact retN X1 hx (t := .boolean) Bd.returns (by simp) (hb hby d4_14) hr
    · show Qrm4 Z a1 p2 h0 n0 _ T1.heap _
      rw [e1]
      exact ⟨(by unfold own_re; rw [if_neg hc2]), N0, rfl⟩
theorem d5_0 : decode prog_92_method_3_code 0 = .ok (.aload_n 0, 1) := by decide +kernel
theorem d5_1 : decode prog_92_method_3_code 1 = .ok (.getfield 13, 3) := by decide +kernel
theorem d5_4 : decode prog_92_method_3_code 4 = .ok (.ifCond .eq 7, 3) := by decide +kernel
theorem d5_7 : decode prog_92_method_3_code 7 = .ok (.iconst 1, 1) := by decide +kernel
theorem d5_8 : decode prog_92_method_3_code 8 = .ok (.goto 4, 3) := by decide +kernel
theorem d5_11 : decode prog_92_method_3_code 11 = .ok (.iconst 0, 1) := by decide +kernel
theorem d5_12 : decode prog_92_method_3_code 12 = .ok (.ireturn, 1) := by decide +kernel
theorem pn_5 : plainName "com/example/interpoint/interpoint/giop/RequestHeader" = true := by first | (simp [plainName, overriddenIn]; done) | decide +kernel
theorem ef_rm5 (m : MethodId) (x0 : Addr) : entryFrame m #[(.ref x0)] 1 = mkF m 0 #[.val (.ref x0)] [] := by first | (simp [entryFrame, mkF, argsToLocals, Value.category]; done) | rfl
def Qrm5 (Z : State) (a1 : Addr) (p2 : Int32) (h0 : Heap) (n0 : Nat) (v : Option Value) (h : Heap) (L : List Loc) : Prop := (v = some (.int (own_ra p2))) ∧ (Fr n0 L) ∧ (h = h0)
set_option maxRecDepth 65536 in
set_option maxHeartbeats 40000000 in
theorem rm5 (l : Launch) (Z : State) (a0 : Array Value) (hw : ∀ d ∈ tables_1, d.before a0 Z = true) (ws : List Jvm.Cond) (a1 : Addr) (p2 : Int32) (h0 : Heap) (n0 : Nat) (Z0 : n0 ≤ h0.size) (pr1 : Fld Z h0 a1 "com/example/interpoint/interpoint/giop/RequestHeader" "responseFlags" "I" (.int p2)) :
    MetFree l (⟨"com/example/interpoint/interpoint/giop/RequestHeader", "replyAwaited", "()Z"⟩ : MethodName) (head1 (Jvm.Cond.code (⟨"com/example/interpoint/interpoint/giop/RequestHeader", "replyAwaited", "()Z"⟩ : MethodName) prog_92_method_3_code 1 (some .boolean) :: ws) ({ frames := 0, cells := 0, slots := 0, locals := 0 } : Room)) (fun a U => a = #[(.ref a1)] ∧ Z.Warmed39 U.vm ∧ U.heap = h0) (fun _ _ _ _ _ => True) (fun _ U o U' => ∃ v L, o = .returned v ∧ Qrm5 Z a1 p2 h0 n0 v U'.heap L ∧ FrameEnd U o U' L ({ frames := 0, cells := 0, slots := 0, locals := 0 } : Room).cells ({ frames := 0, cells := 0, slots := 0, locals := 0 } : Room).slots) := by
  refine MetFree.of_bodySF (plainFor_of_name pn_5) hisR ?_
  intro p e s m args below meth c s₁ Bd hml0 hP0 hK
  obtain ⟨rfl, hZ, hh⟩ := hP0
  have hx := Bd.exec
  have hby := Bd.bytes
  have hml : c.maxLocals = 1 := hml0
  have hown : s.vm.findClass "com/example/interpoint/interpoint/giop/RequestHeader" = some m.cls := findClass_of_methodNamed Bd.named
  have hnm := (name_of_methodNamed Bd.named Bd.method).1
  have X0 : Stand p l e ({ frames := 0, cells := 0, slots := 0, locals := 0 } : Room) s m #[(.ref a1)] below meth c s₁ [] 0 0 := Stand.of_body Bd
  have e0 : s₁.heap = h0 := by rw [← hh, Bd.state]; rfl
  have N0 := Fr.nil n0
  suffices own_H : ∀ (P : State → Outcome → Prop), (∀ U o, U.status = .running → Ended U below o → (∃ v L, o = .returned v ∧ Qrm5 Z a1 p2 h0 n0 v U.heap L ∧ FrameEnd s o U L ({ frames := 0, cells := 0, slots := 0, locals := 0 } : Room).cells ({ frames := 0, cells := 0, slots := 0, locals := 0 } : Room).slots) → P U o) → own_Go p.tables e below P (s₁.setTop (mkF m 0 #[.val (.ref a1)] [])) from own_go (fun _ k => castTop (ef_rm5 m a1) k) (own_H _ (fun U o h1 h2 h3 => ⟨h1, h2, h3⟩))
  intro P hP
  have lt_a1 : a1 < h0.size := pr1.lt
  refine own_go (st' := s₁.setTop (mkF m 1 #[.val (.ref a1)] [(.ref a1)])) (fun _ k => XS.aloadN X0.here hx rfl (hb hby d5_0) rfl rfl k) ?_
  obtain ⟨T1, X1, e1, st1⟩ := getF X0 hx hZ hown (host := "") (Or.inl (hw _ (List.mem_of_getElem? (i := 16) rfl))) Via.refl e0 pr1 (g := (mkF m 1 #[.val (.ref a1)] [(.ref a1)])) rfl rfl (hb hby d5_1)
  refine own_go (st' := T1.setTop (mkF m 4 #[.val (.ref a1)] [(.int p2)])) (st1) ?_
  by_cases hc2 : p2 = (0 : Int32)
  · --
    refine own_go (st' := T1.setTop (mkF m 11 #[.val (.ref a1)] [])) (fun _ k => XS.ifYes X1.here hx rfl (pc0 := 4) (pc' := 11) rfl (hb hby d5_4) rfl ((if0 _ _).trans (teq hc2).1) (by decide) (by decide) k) ?_
    refine own_go (st' := T1.setTop (mkF m 12 #[.val (.ref a1)] [(.int (0 : Int32))])) (fun _ k => XS.iconst X1.here hx rfl (hb hby d5_11) k) ?_
    obtain ⟨fs, hr, hrun, hended, hW, hsame⟩ := X1.leave (v := some (.int (0 : Int32))) (fun h => by rw [Bd.returns] at h; cases h)
    refine ⟨_, _, ?_, hP _ _ hrun hended ⟨_, _, rfl, ?_, ⟨_, rfl⟩, hW, hsame.mono (by decide) (by decide)⟩⟩
    · exact retN X1 hx (t := .boolean) Bd.returns (by simp) (hb hby d5_12) hr
    · show Qrm5 Z a1 p2 h0 n0 _ T1.heap _
      rw [e1]
      exact ⟨(by unfold own_ra; rw [if_pos hc2]), N0, rfl⟩
  · --
    refine own_go (st' := T1.setTop (mkF m 7 #[.val (.ref a1)] [])) (fun _ k => XS.ifNo X1.here hx rfl (hb hby d5_4) rfl ((if0 _ _).trans (feq hc2).1) k) ?_
    refine own_go (st' := T1.setTop (mkF m 8 #[.val (.ref a1)] [(.int (1 : Int32))])) (fun _ k => XS.iconst X1.here hx rfl (hb hby d5_7) k) ?_
    refine own_go (st' := T1.setTop (mkF m 12 #[.val (.ref a1)] [(.int (1 : Int32))])) (fun _ k => XS.goto X1.here hx rfl (pc0 := 8) (pc' := 12) rfl (hb hby d5_8) (by decide) (by decide) k) ?_
    obtain ⟨fs, hr, hrun, hended, hW, hsame⟩ := X1.leave (v := some (.int (1 : Int32))) (fun h => by rw [Bd.returns] at h; cases h)
    refine ⟨_, _, ?_, hP _ _ hrun hended ⟨_, _, rfl, ?_, ⟨_, rfl⟩, hW, hsame.mono (by decide) (by decide)⟩⟩
    · exact retN X1 hx (t := .boolean) Bd.returns (by simp) (hb hby d5_12) hr
    · show Qrm5 Z a1 p2 h0 n0 _ T1.heap _
      rw [e1]
      exact ⟨(by unfold own_ra; rw [if_neg hc2]), N0, rfl⟩
theorem pd_1 : parseMethodDescriptor "(II[BLjava/lang/String;Ljava/util/List;)V" = some ⟨[.int, .int, (.array .byte), (.object "java/lang/String"), (.object "java/util/List")], none⟩ := by decide +kernel
theorem pd_2 : parseMethodDescriptor "()Z" = some ⟨[], some .boolean⟩ := by decide +kernel
theorem pn_0 : plainName "com/example/interpoint/interpoint/giop/RequestHeaderResponseExpectedPinLaw" = true := by first | (simp [plainName, overriddenIn]; done) | decide +kernel
theorem ef_rm0 (m : MethodId) (x0 : Int32) (x1 : Int32) (x2 : Int32) : entryFrame m #[(.int x0), (.int x1), (.int x2)] maxLocals = mkF m 0 #[.val (.int x0), .val (.int x1), .val (.int x2), .unset, .unset, .unset, .unset, .unset, .unset, .unset] [] := by first | (simp [entryFrame, mkF, argsToLocals, Value.category, maxLocals]; done) | rfl
def Qrm0 (Z : State) (rq : Int32) (fl : Int32) (cc : Int32) (h0 : Heap) (n0 : Nat) (v : Option Value) (h : Heap) (L : List Loc) : Prop := v = some (.int 1) ∧ Fr n0 L ∧ True
set_option maxRecDepth 65536 in
set_option maxHeartbeats 40000000 in
theorem rm0 (l : Launch) (Z : State) (a0 : Array Value) (hw : ∀ d ∈ tables_1, d.before a0 Z = true) (ws : List Jvm.Cond) (rq : Int32) (fl : Int32) (cc : Int32) (h0 : Heap) (n0 : Nat) (Z0 : n0 ≤ h0.size)  :
    MetFree l x (head1 (Jvm.Cond.code x code maxLocals ret :: ws) room_1) (fun a U => a = #[(.int rq), (.int fl), (.int cc)] ∧ Z.Warmed39 U.vm ∧ U.heap = h0) (fun _ _ _ _ _ => True) (fun _ U o U' => ∃ v L, o = .returned v ∧ Qrm0 Z rq fl cc h0 n0 v U'.heap L ∧ FrameEnd U o U' L 16 128) := by
  refine MetFree.of_bodySF (plainFor_of_name pn_0) hisR ?_
  intro p e s m args below meth c s₁ Bd hml0 hP0 hK
  obtain ⟨rfl, hZ, hh⟩ := hP0
  have hx := Bd.exec
  have hby := Bd.bytes
  have hml : c.maxLocals = 10 := hml0
  have hown : s.vm.findClass "com/example/interpoint/interpoint/giop/RequestHeaderResponseExpectedPinLaw" = some m.cls := findClass_of_methodNamed Bd.named
  have hnm := (name_of_methodNamed Bd.named Bd.method).1
  have X0 : Stand p l e room_1 s m #[(.int rq), (.int fl), (.int cc)] below meth c s₁ [] 0 0 := Stand.of_body Bd
  have e0 : s₁.heap = h0 := by rw [← hh, Bd.state]; rfl
  have N0 := Fr.nil n0
  suffices own_H : ∀ (P : State → Outcome → Prop), (∀ U o, U.status = .running → Ended U below o → (∃ v L, o = .returned v ∧ Qrm0 Z rq fl cc h0 n0 v U.heap L ∧ FrameEnd s o U L 16 128) → P U o) → own_Go p.tables e below P (s₁.setTop (mkF m 0 #[.val (.int rq), .val (.int fl), .val (.int cc), .unset, .unset, .unset, .unset, .unset, .unset, .unset] [])) from own_go (fun _ k => castTop (ef_rm0 m rq fl cc) k) (own_H _ (fun U o h1 h2 h3 => ⟨h1, h2, h3⟩))
  intro P hP
  obtain ⟨T1, h1, X1, e1, E1, A1, D1, -, st1⟩ := newO X0 hx hZ hown (hw _ (List.mem_of_getElem? (i := 0) rfl)) (hw _ (List.mem_of_getElem? (i := 1) rfl)) (hw _ (List.mem_of_getElem? (i := 2) rfl)) e0 (g := (mkF m 0 #[.val (.int rq), .val (.int fl), .val (.int cc), .unset, .unset, .unset, .unset, .unset, .unset, .unset] [])) rfl (hb hby at_0) (by decide) (by decide)
  obtain ⟨b1, g1⟩ : ∃ z, z = h0.size := ⟨_, rfl⟩
  rw [← g1] at A1 D1 st1
  have sz1 : h0.size ≤ h1.size := E1.1
  have lt1 : b1 < h1.size := A1.lt
  have f2 : Fld Z h1 b1 "com/example/interpoint/interpoint/giop/RequestHeader" "requestId" "I" (.int (0 : Int32)) := D1 (Or.inr (hw _ (List.mem_of_getElem? (i := 15) rfl))) (ty := .int) (by decide)
  have f3 : Fld Z h1 b1 "com/example/interpoint/interpoint/giop/RequestHeader" "responseFlags" "I" (.int (0 : Int32)) := D1 (Or.inr (hw _ (List.mem_of_getElem? (i := 17) rfl))) (ty := .int) (by decide)
  have f4 : Fld Z h1 b1 "com/example/interpoint/interpoint/giop/RequestHeader" "objectKey" "[B" .null := D1 (Or.inr (hw _ (List.mem_of_getElem? (i := 19) rfl))) (ty := (.array .byte)) (by decide)
  have f5 : Fld Z h1 b1 "com/example/interpoint/interpoint/giop/RequestHeader" "operation" "Ljava/lang/String;" .null := D1 (Or.inr (hw _ (List.mem_of_getElem? (i := 21) rfl))) (ty := (.object "java/lang/String")) (by decide)
  have f6 : Fld Z h1 b1 "com/example/interpoint/interpoint/giop/RequestHeader" "contexts" "Ljava/util/List;" .null := D1 (Or.inr (hw _ (List.mem_of_getElem? (i := 23) rfl))) (ty := (.object "java/util/List")) (by decide)
  refine own_go (st' := T1.setTop (mkF m 3 #[.val (.int rq), .val (.int fl), .val (.int cc), .unset, .unset, .unset, .unset, .unset, .unset, .unset] [(.ref b1)])) (st1) ?_
  refine own_go (st' := T1.setTop (mkF m 4 #[.val (.int rq), .val (.int fl), .val (.int cc), .unset, .unset, .unset, .unset, .unset, .unset, .unset] [(.ref b1), (.ref b1)])) (fun _ k => XS.dup X1.here hx rfl (hb hby at_3) rfl rfl k) ?_
  refine own_go (st' := T1.setTop (mkF m 5 #[.val (.int rq), .val (.int fl), .val (.int cc), .unset, .unset, .unset, .unset, .unset, .unset, .unset] [(.int rq), (.ref b1), (.ref b1)])) (fun _ k => XS.iloadN X1.here hx rfl (hb hby at_4) rfl k) ?_
  refine own_go (st' := T1.setTop (mkF m 6 #[.val (.int rq), .val (.int fl), .val (.int cc), .unset, .unset, .unset, .unset, .unset, .unset, .unset] [(.int fl), (.int rq), (.ref b1), (.ref b1)])) (fun _ k => XS.iloadN X1.here hx rfl (hb hby at_5) rfl k) ?_
  refine own_go (st' := T1.setTop (mkF m 7 #[.val (.int rq), .val (.int fl), .val (.int cc), .unset, .unset, .unset, .unset, .unset, .unset, .unset] [.null, (.int fl), (.int rq), (.ref b1), (.ref b1)])) (fun _ k => XS.aconstNull X1.here hx rfl (hb hby at_6) k) ?_
  refine own_go (st' := T1.setTop (mkF m 8 #[.val (.int rq), .val (.int fl), .val (.int cc), .unset, .unset, .unset, .unset, .unset, .unset, .unset] [.null, .null, (.int fl), (.int rq), (.ref b1), (.ref b1)])) (fun _ k => XS.aconstNull X1.here hx rfl (hb hby at_7) k) ?_
  refine own_go (st' := T1.setTop (mkF m 9 #[.val (.int rq), .val (.int fl), .val (.int cc), .unset, .unset, .unset, .unset, .unset, .unset, .unset] [.null, .null, .null, (.int fl), (.int rq), (.ref b1), (.ref b1)])) (fun _ k => XS.aconstNull X1.here hx rfl (hb hby at_8) k) ?_
  obtain ⟨_, _, ⟨T7, LC7, kC7, nC7⟩, -, X7, ⟨Lc7, hQ7, lq7, yq7, zq7⟩, st7⟩ := X1.specialBack hx (y := (⟨"com/example/interpoint/interpoint/giop/RequestHeader", "<init>", "(II[BLjava/lang/String;Ljava/util/List;)V"⟩ : MethodName)) rfl hown (mvT hZ (hw _ (List.mem_of_getElem? (i := 3) rfl))) (mvT hZ (hw _ (List.mem_of_getElem? (i := 4) rfl))) (mvT hZ (hw _ (List.mem_of_getElem? (i := 5) rfl))) (by decide) (backOf (W := 1) (rm1 l Z a0 hw [] b1 rq fl (0 : Int32) (0 : Int32) h1 n0 (by omega) A1 f2 f3 f4 f5 f6 (by omega)) hZ (hw _ (List.mem_of_getElem? (i := 5) rfl)) (hw _ (List.mem_of_getElem? (i := 2) rfl)) (by decide) (by decide)) (g := (mkF m 9 #[.val (.int rq), .val (.int fl), .val (.int cc), .unset, .unset, .unset, .unset, .unset, .unset, .unset] [.null, .null, .null, (.int fl), (.int rq), (.ref b1), (.ref b1)])) rfl (by rw [hml]; rfl) (Steps.refl _) (a := b1) (argsL := [(.int rq), (.int fl), .null, .null, .null]) (rest := [(.ref b1)]) (lenOf pd_1 rfl) rfl (by show 2 * 0 + _ ≤ _; exact Nat.le_of_eq rfl) (hb hby at_9) (fun _ _ => ⟨rfl, e1, (by decide : 1 + 0 ≤ _), (by decide : 5 + 0 ≤ _)⟩)
  dsimp only [Pt.U, Pt.locs, Pt.cells, Pt.slots] at X7 lq7 yq7 zq7 st7 hQ7
  subst lq7 yq7 zq7
  obtain ⟨h7, e7⟩ : ∃ z, T7.heap = z := ⟨_, rfl⟩
  rw [e7] at hQ7
  obtain ⟨rfl, Nq7, K7, g7_0, g7_1⟩ := hQ7
  have sz7 : h1.size ≤ h7.size := K7.1
  have N7 := Fr.app N0 Nq7
  have lt7_1 : b1 < h7.size := g7_0.lt
  refine own_go (st' := T7.setTop (mkF m 12 #[.val (.int rq), .val (.int fl), .val (.int cc), .unset, .unset, .unset, .unset, .unset, .unset, .unset] [(.ref b1)])) (fun _ k => st7.trans k) ?_
  refine own_go (st' := T7.setTop (mkF m 13 #[.val (.int rq), .val (.int fl), .val (.int cc), .val (.ref b1), .unset, .unset, .unset, .unset, .unset, .unset] [])) (fun _ k => XS.astoreN X7.here hx rfl (hb hby at_12) rfl rfl (l' := #[.val (.int rq), .val (.int fl), .val (.int cc), .val (.ref b1), .unset, .unset, .unset, .unset, .unset, .unset]) rfl k) ?_
  refine own_go (st' := T7.setTop (mkF m 14 #[.val (.int rq), .val (.int fl), .val (.int cc), .val (.ref b1), .unset, .unset, .unset, .unset, .unset, .unset] [(.int fl)])) (fun _ k => XS.iloadN X7.here hx rfl (hb hby at_13) rfl k) ?_
  refine own_go (st' := T7.setTop (mkF m 15 #[.val (.int rq), .val (.int fl), .val (.int cc), .val (.ref b1), .unset, .unset, .unset, .unset, .unset, .unset] [(.int (3 : Int32)), (.int fl)])) (fun _ k => XS.iconst X7.here hx rfl (hb hby at_14) k) ?_
  refine own_go (st' := T7.setTop (mkF m 16 #[.val (.int rq), .val (.int fl), .val (.int cc), .val (.ref b1), .unset, .unset, .unset, .unset, .unset, .unset] [(.int (fl &&& (3 : Int32)))])) (fun _ k => XS.iand X7.here hx rfl (hb hby at_15) rfl k) ?_
  refine own_go (st' := T7.setTop (mkF m 18 #[.val (.int rq), .val (.int fl), .val (.int cc), .val (.ref b1), .val (.int (fl &&& (3 : Int32))), .unset, .unset, .unset, .unset, .unset] [])) (fun _ k => XS.istore X7.here hx rfl (hb hby at_16) rfl (l' := #[.val (.int rq), .val (.int fl), .val (.int cc), .val (.ref b1), .val (.int (fl &&& (3 : Int32))), .unset, .unset, .unset, .unset, .unset]) rfl k) ?_
  have J66_8 : ∀ (Tj8 : State) (lj8 : List Loc) (e5 : Int32) (e6 : Int32) (Xj8 : Stand p l e room_1 s m #[(.int rq), (.int fl), (.int cc)] below meth c Tj8 lj8 1 5) (ej8 : Tj8.heap = h7) (Nj8 : Fr n0 lj8) , own_Go p.tables e below P (Tj8.setTop (mkF m 66 #[.val (.int rq), .val (.int fl), .val (.int cc), .val (.ref b1), .val (.int (fl &&& (3 : Int32))), .val (.int e5), .val (.int e6), .unset, .unset, .unset] [])) := by
    intro Tj8 lj8 e5 e6 Xj8 ej8 Nj8
    refine own_go (st' := Tj8.setTop (mkF m 67 #[.val (.int rq), .val (.int fl), .val (.int cc), .val (.ref b1), .val (.int (fl &&& (3 : Int32))), .val (.int e5), .val (.int e6), .unset, .unset, .unset] [(.int cc)])) (fun _ k => XS.iloadN Xj8.here hx rfl (hb hby at_66) rfl k) ?_
    refine own_go (st' := Tj8.setTop (mkF m 69 #[.val (.int rq), .val (.int fl), .val (.int cc), .val (.ref b1), .val (.int (fl &&& (3 : Int32))), .val (.int e5), .val (.int e6), .unset, .unset, .unset] [(.int (2147483647 : Int32)), (.int cc)])) (Xj8.ldcInt hx hown (mvT hZ (hw _ (List.mem_of_getElem? (i := 34) rfl))) (g := (mkF m 67 #[.val (.int rq), .val (.int fl), .val (.int cc), .val (.ref b1), .val (.int (fl &&& (3 : Int32))), .val (.int e5), .val (.int e6), .unset, .unset, .unset] [(.int cc)])) rfl (hb hby at_67)) ?_
    refine own_go (st' := Tj8.setTop (mkF m 70 #[.val (.int rq), .val (.int fl), .val (.int cc), .val (.ref b1), .val (.int (fl &&& (3 : Int32))), .val (.int e5), .val (.int e6), .unset, .unset, .unset] [(.int (cc &&& (2147483647 : Int32)))])) (fun _ k => XS.iand Xj8.here hx rfl (hb hby at_69) rfl k) ?_
    refine own_go (st' := Tj8.setTop (mkF m 71 #[.val (.int rq), .val (.int fl), .val (.int cc), .val (.ref b1), .val (.int (fl &&& (3 : Int32))), .val (.int e5), .val (.int e6), .unset, .unset, .unset] [(.int (3 : Int32)), (.int (cc &&& (2147483647 : Int32)))])) (fun _ k => XS.iconst Xj8.here hx rfl (hb hby at_70) k) ?_
    refine own_go (st' := Tj8.setTop (mkF m 72 #[.val (.int rq), .val (.int fl), .val (.int cc), .val (.ref b1), .val (.int (fl &&& (3 : Int32))), .val (.int e5), .val (.int e6), .unset, .unset, .unset] [(.int ((cc &&& (2147483647 : Int32)) % (3 : Int32)))])) (fun _ k => iremM Xj8 hx rfl (hb hby at_71) rfl (by decide) k) ?_
    refine own_go (st' := Tj8.setTop (mkF m 74 #[.val (.int rq), .val (.int fl), .val (.int cc), .val (.ref b1), .val (.int (fl &&& (3 : Int32))), .val (.int e5), .val (.int e6), .val (.int ((cc &&& (2147483647 : Int32)) % (3 : Int32))), .unset, .unset] [])) (fun _ k => XS.istore Xj8.here hx rfl (hb hby at_72) rfl (l' := #[.val (.int rq), .val (.int fl), .val (.int cc), .val (.ref b1), .val (.int (fl &&& (3 : Int32))), .val (.int e5), .val (.int e6), .val (.int ((cc &&& (2147483647 : Int32)) % (3 : Int32))), .unset, .unset]) rfl k) ?_
    refine own_go (st' := Tj8.setTop (mkF m 76 #[.val (.int rq), .val (.int fl), .val (.int cc), .val (.ref b1), .val (.int (fl &&& (3 : Int32))), .val (.int e5), .val (.int e6), .val (.int ((cc &&& (2147483647 : Int32)) % (3 : Int32))), .unset, .unset] [(.int ((cc &&& (2147483647 : Int32)) % (3 : Int32)))])) (fun _ k => XS.iload Xj8.here hx rfl (hb hby at_74) rfl k) ?_
    rcases own_mod3 (cc &&& (2147483647 : Int32)) with hk | hk | hk | hk
    · --
      have hc9 : ((cc &&& (2147483647 : Int32)) % (3 : Int32)) = (0 : Int32) := hk
      refine own_go (st' := Tj8.setTop (mkF m 79 #[.val (.int rq), .val (.int fl), .val (.int cc), .val (.ref b1), .val (.int (fl &&& (3 : Int32))), .val (.int e5), .val (.int e6), .val (.int ((cc &&& (2147483647 : Int32)) % (3 : Int32))), .unset, .unset] [])) (fun _ k => XS.ifNo Xj8.here hx rfl (hb hby at_76) rfl ((if0 _ _).trans (teq hc9).2) k) ?_
      refine own_go (st' := Tj8.setTop (mkF m 80 #[.val (.int rq), .val (.int fl), .val (.int cc), .val (.ref b1), .val (.int (fl &&& (3 : Int32))), .val (.int e5), .val (.int e6), .val (.int ((cc &&& (2147483647 : Int32)) % (3 : Int32))), .unset, .unset] [(.int (0 : Int32))])) (fun _ k => XS.iconst Xj8.here hx rfl (hb hby at_79) k) ?_
      refine own_go (st' := Tj8.setTop (mkF m 94 #[.val (.int rq), .val (.int fl), .val (.int cc), .val (.ref b1), .val (.int (fl &&& (3 : Int32))), .val (.int e5), .val (.int e6), .val (.int ((cc &&& (2147483647 : Int32)) % (3 : Int32))), .unset, .unset] [(.int (0 : Int32))])) (fun _ k => XS.goto Xj8.here hx rfl (pc0 := 80) (pc' := 94) rfl (hb hby at_80) (by decide) (by decide) k) ?_
      refine own_go (st' := Tj8.setTop (mkF m 96 #[.val (.int rq), .val (.int fl), .val (.int cc), .val (.ref b1), .val (.int (fl &&& (3 : Int32))), .val (.int e5), .val (.int e6), .val (.int ((cc &&& (2147483647 : Int32)) % (3 : Int32))), .val (.int (0 : Int32)), .unset] [])) (fun _ k => XS.istore Xj8.here hx rfl (hb hby at_94) rfl (l' := #[.val (.int rq), .val (.int fl), .val (.int cc), .val (.ref b1), .val (.int (fl &&& (3 : Int32))), .val (.int e5), .val (.int e6), .val (.int ((cc &&& (2147483647 : Int32)) % (3 : Int32))), .val (.int (0 : Int32)), .unset]) rfl k) ?_
      obtain ⟨T10, h10, X10, e10, E10, A10, D10, -, st10⟩ := newO Xj8 hx hZ hown (hw _ (List.mem_of_getElem? (i := 0) rfl)) (hw _ (List.mem_of_getElem? (i := 1) rfl)) (hw _ (List.mem_of_getElem? (i := 2) rfl)) ej8 (g := (mkF m 96 #[.val (.int rq), .val (.int fl), .val (.int cc), .val (.ref b1), .val (.int (fl &&& (3 : Int32))), .val (.int e5), .val (.int e6), .val (.int ((cc &&& (2147483647 : Int32)) % (3 : Int32))), .val (.int (0 : Int32)), .unset] [])) rfl (hb hby at_96) (by decide) (by decide)
      obtain ⟨b10, g10⟩ : ∃ z, z = h7.size := ⟨_, rfl⟩
      rw [← g10] at A10 D10 st10
      have sz10 : h7.size ≤ h10.size := E10.1
      have lt10 : b10 < h10.size := A10.lt
      have f11 : Fld Z h10 b10 "com/example/interpoint/interpoint/giop/RequestHeader" "requestId" "I" (.int (0 : Int32)) := D10 (Or.inr (hw _ (List.mem_of_getElem? (i := 15) rfl))) (ty := .int) (by decide)
      have f12 : Fld Z h10 b10 "com/example/interpoint/interpoint/giop/RequestHeader" "responseFlags" "I" (.int (0 : Int32)) := D10 (Or.inr (hw _ (List.mem_of_getElem? (i := 17) rfl))) (ty := .int) (by decide)
      have f13 : Fld Z h10 b10 "com/example/interpoint/interpoint/giop/RequestHeader" "objectKey" "[B" .null := D10 (Or.inr (hw _ (List.mem_of_getElem? (i := 19) rfl))) (ty := (.array .byte)) (by decide)
      have f14 : Fld Z h10 b10 "com/example/interpoint/interpoint/giop/RequestHeader" "operation" "Ljava/lang/String;" .null := D10 (Or.inr (hw _ (List.mem_of_getElem? (i := 21) rfl))) (ty := (.object "java/lang/String")) (by decide)
      have f15 : Fld Z h10 b10 "com/example/interpoint/interpoint/giop/RequestHeader" "contexts" "Ljava/util/List;" .null := D10 (Or.inr (hw _ (List.mem_of_getElem? (i := 23) rfl))) (ty := (.object "java/util/List")) (by decide)
      refine own_go (st' := T10.setTop (mkF m 99 #[.val (.int rq), .val (.int fl), .val (.int cc), .val (.ref b1), .val (.int (fl &&& (3 : Int32))), .val (.int e5), .val (.int e6), .val (.int ((cc &&& (2147483647 : Int32)) % (3 : Int32))), .val (.int (0 : Int32)), .unset] [(.ref b10)])) (st10) ?_
      refine own_go (st' := T10.setTop (mkF m 100 #[.val (.int rq), .val (.int fl), .val (.int cc), .val (.ref b1), .val (.int (fl &&& (3 : Int32))), .val (.int e5), .val (.int e6), .val (.int ((cc &&& (2147483647 : Int32)) % (3 : Int32))), .val (.int (0 : Int32)), .unset] [(.ref b10), (.ref b10)])) (fun _ k => XS.dup X10.here hx rfl (hb hby at_99) rfl rfl k) ?_
      refine own_go (st' := T10.setTop (mkF m 101 #[.val (.int rq), .val (.int fl), .val (.int cc), .val (.ref b1), .val (.int (fl &&& (3 : Int32))), .val (.int e5), .val (.int e6), .val (.int ((cc &&& (2147483647 : Int32)) % (3 : Int32))), .val (.int (0 : Int32)), .unset] [(.int cc), (.ref b10), (.ref b10)])) (fun _ k => XS.iloadN X10.here hx rfl (hb hby at_100) rfl k) ?_
      refine own_go (st' := T10.setTop (mkF m 103 #[.val (.int rq), .val (.int fl), .val (.int cc), .val (.ref b1), .val (.int (fl &&& (3 : Int32))), .val (.int e5), .val (.int e6), .val (.int ((cc &&& (2147483647 : Int32)) % (3 : Int32))), .val (.int (0 : Int32)), .unset] [(.int (0 : Int32)), (.int cc), (.ref b10), (.ref b10)])) (fun _ k => XS.iload X10.here hx rfl (hb hby at_101) rfl k) ?_
      refine own_go (st' := T10.setTop (mkF m 104 #[.val (.int rq), .val (.int fl), .val (.int cc), .val (.ref b1), .val (.int (fl &&& (3 : Int32))), .val (.int e5), .val (.int e6), .val (.int ((cc &&& (2147483647 : Int32)) % (3 : Int32))), .val (.int (0 : Int32)), .unset] [.null, (.int (0 : Int32)), (.int cc), (.ref b10), (.ref b10)])) (fun _ k => XS.aconstNull X10.here hx rfl (hb hby at_103) k) ?_
      refine own_go (st' := T10.setTop (mkF m 105 #[.val (.int rq), .val (.int fl), .val (.int cc), .val (.ref b1), .val (.int (fl &&& (3 : Int32))), .val (.int e5), .val (.int e6), .val (.int ((cc &&& (2147483647 : Int32)) % (3 : Int32))), .val (.int (0 : Int32)), .unset] [.null, .null, (.int (0 : Int32)), (.int cc), (.ref b10), (.ref b10)])) (fun _ k => XS.aconstNull X10.here hx rfl (hb hby at_104) k) ?_
      refine own_go (st' := T10.setTop (mkF m 106 #[.val (.int rq), .val (.int fl), .val (.int cc), .val (.ref b1), .val (.int (fl &&& (3 : Int32))), .val (.int e5), .val (.int e6), .val (.int ((cc &&& (2147483647 : Int32)) % (3 : Int32))), .val (.int (0 : Int32)), .unset] [.null, .null, .null, (.int (0 : Int32)), (.int cc), (.ref b10), (.ref b10)])) (fun _ k => XS.aconstNull X10.here hx rfl (hb hby at_105) k) ?_
      obtain ⟨_, _, ⟨T16, LC16, kC16, nC16⟩, -, X16, ⟨Lc16, hQ16, lq16, yq16, zq16⟩, st16⟩ := X10.specialBack hx (y := (⟨"com/example/interpoint/interpoint/giop/RequestHeader", "<init>", "(II[BLjava/lang/String;Ljava/util/List;)V"⟩ : MethodName)) rfl hown (mvT hZ (hw _ (List.mem_of_getElem? (i := 3) rfl))) (mvT hZ (hw _ (List.mem_of_getElem? (i := 4) rfl))) (mvT hZ (hw _ (List.mem_of_getElem? (i := 5) rfl))) (by decide) (backOf (W := 1) (rm1 l Z a0 hw [] b10 cc (0 : Int32) (0 : Int32) (0 : Int32) h10 n0 (by omega) A10 f11 f12 f13 f14 f15 (by omega)) hZ (hw _ (List.mem_of_getElem? (i := 5) rfl)) (hw _ (List.mem_of_getElem? (i := 2) rfl)) (by decide) (by decide)) (g := (mkF m 106 #[.val (.int rq), .val (.int fl), .val (.int cc), .val (.ref b1), .val (.int (fl &&& (3 : Int32))), .val (.int e5), .val (.int e6), .val (.int ((cc &&& (2147483647 : Int32)) % (3 : Int32))), .val (.int (0 : Int32)), .unset] [.null, .null, .null, (.int (0 : Int32)), (.int cc), (.ref b10), (.ref b10)])) rfl (by rw [hml]; rfl) (Steps.refl _) (a := b10) (argsL := [(.int cc), (.int (0 : Int32)), .null, .null, .null]) (rest := [(.ref b10)]) (lenOf pd_1 rfl) rfl (by show 2 * 0 + _ ≤ _; exact Nat.le_of_eq rfl) (hb hby at_106) (fun _ _ => ⟨rfl, e10, (by decide : 2 + 0 ≤ _), (by decide : 10 + 0 ≤ _)⟩)
      dsimp only [Pt.U, Pt.locs, Pt.cells, Pt.slots] at X16 lq16 yq16 zq16 st16 hQ16
      subst lq16 yq16 zq16
      obtain ⟨h16, e16⟩ : ∃ z, T16.heap = z := ⟨_, rfl⟩
      rw [e16] at hQ16
      obtain ⟨rfl, Nq16, K16, g16_0, g16_1⟩ := hQ16
      have sz16 : h10.size ≤ h16.size := K16.1
      have N16 := Fr.app Nj8 Nq16
      have lt16_1 : b10 < h16.size := g16_0.lt
      refine own_go (st' := T16.setTop (mkF m 109 #[.val (.int rq), .val (.int fl), .val (.int cc), .val (.ref b1), .val (.int (fl &&& (3 : Int32))), .val (.int e5), .val (.int e6), .val (.int ((cc &&& (2147483647 : Int32)) % (3 : Int32))), .val (.int (0 : Int32)), .unset] [(.ref b10)])) (fun _ k => st16.trans k) ?_
      refine own_go (st' := T16.setTop (mkF m 111 #[.val (.int rq), .val (.int fl), .val (.int cc), .val (.ref b1), .val (.int (fl &&& (3 : Int32))), .val (.int e5), .val (.int e6), .val (.int ((cc &&& (2147483647 : Int32)) % (3 : Int32))), .val (.int (0 : Int32)), .val (.ref b10)] [])) (fun _ k => XS.astore X16.here hx rfl (hb hby at_109) rfl rfl (l' := #[.val (.int rq), .val (.int fl), .val (.int cc), .val (.ref b1), .val (.int (fl &&& (3 : Int32))), .val (.int e5), .val (.int e6), .val (.int ((cc &&& (2147483647 : Int32)) % (3 : Int32))), .val (.int (0 : Int32)), .val (.ref b10)]) rfl k) ?_
      refine own_go (st' := T16.setTop (mkF m 113 #[.val (.int rq), .val (.int fl), .val (.int cc), .val (.ref b1), .val (.int (fl &&& (3 : Int32))), .val (.int e5), .val (.int e6), .val (.int ((cc &&& (2147483647 : Int32)) % (3 : Int32))), .val (.int (0 : Int32)), .val (.ref b10)] [(.ref b10)])) (fun _ k => XS.aload X16.here hx rfl (hb hby at_111) rfl rfl k) ?_
      obtain ⟨cq17, kq17, q17a, q17b, q17c⟩ := isOf hZ e16 g16_0
      obtain ⟨_, _, ⟨T17, LC17, kC17, nC17⟩, -, X17, ⟨Lc17, hQ17, lq17, yq17, zq17⟩, st17⟩ := X16.virtualBack hx (y := (⟨"com/example/interpoint/interpoint/giop/RequestHeader", "responseExpected", "()Z"⟩ : MethodName)) (z := (⟨"com/example/interpoint/interpoint/giop/RequestHeader", "responseExpected", "()Z"⟩ : MethodName)) hown (mvT hZ (hw _ (List.mem_of_getElem? (i := 24) rfl))) (mvT hZ (hw _ (List.mem_of_getElem? (i := 25) rfl))) (notFace_of_selects (args := #[]) (mvT hZ (hw _ (List.mem_of_getElem? (i := 27) rfl)))) (mvT hZ (hw _ (List.mem_of_getElem? (i := 27) rfl))) (mvT hZ (hw _ (List.mem_of_getElem? (i := 26) rfl))) (by decide) (backOf (W := 0) (rm4 l Z a0 hw [] b10 (0 : Int32) h16 n0 (by omega) g16_1) hZ (hw _ (List.mem_of_getElem? (i := 28) rfl)) (hw _ (List.mem_of_getElem? (i := 2) rfl)) (by decide) (by decide)) q17a q17c (g := (mkF m 113 #[.val (.int rq), .val (.int fl), .val (.int cc), .val (.ref b1), .val (.int (fl &&& (3 : Int32))), .val (.int e5), .val (.int e6), .val (.int ((cc &&& (2147483647 : Int32)) % (3 : Int32))), .val (.int (0 : Int32)), .val (.ref b10)] [(.ref b10)])) rfl (by rw [hml]; rfl) (Steps.refl _) (argsL := []) (rest := []) (lenOf pd_2 rfl) rfl (by show 2 * 0 + _ ≤ _; exact Nat.le_of_eq rfl) (hb hby at_113) (fun _ _ => ⟨rfl, e16, (by decide : 2 + 0 ≤ _), (by decide : 10 + 0 ≤ _)⟩)
      dsimp only [Pt.U, Pt.locs, Pt.cells, Pt.slots] at X17 lq17 yq17 zq17 st17 hQ17
      subst lq17 yq17 zq17
      obtain ⟨rfl, Nq17, eq17⟩ := hQ17
      have N17 := Fr.app N16 Nq17
      refine own_go (st' := T17.setTop (mkF m 116 #[.val (.int rq), .val (.int fl), .val (.int cc), .val (.ref b1), .val (.int (fl &&& (3 : Int32))), .val (.int e5), .val (.int e6), .val (.int ((cc &&& (2147483647 : Int32)) % (3 : Int32))), .val (.int (0 : Int32)), .val (.ref b10)] [(.int (own_re (0 : Int32)))])) (fun _ k => st17.trans k) ?_
      refine own_go (st' := T17.setTop (mkF m 118 #[.val (.int rq), .val (.int fl), .val (.int cc), .val (.ref b1), .val (.int (fl &&& (3 : Int32))), .val (.int e5), .val (.int e6), .val (.int ((cc &&& (2147483647 : Int32)) % (3 : Int32))), .val (.int (0 : Int32)), .val (.ref b10)] [(.int ((cc &&& (2147483647 : Int32)) % (3 : Int32))), (.int (own_re (0 : Int32)))])) (fun _ k => XS.iload X17.here hx rfl (hb hby at_116) rfl k) ?_
      refine own_go (st' := T17.setTop (mkF m 119 #[.val (.int rq), .val (.int fl), .val (.int cc), .val (.ref b1), .val (.int (fl &&& (3 : Int32))), .val (.int e5), .val (.int e6), .val (.int ((cc &&& (2147483647 : Int32)) % (3 : Int32))), .val (.int (0 : Int32)), .val (.ref b10)] [(.int (2 : Int32)), (.int ((cc &&& (2147483647 : Int32)) % (3 : Int32))), (.int (own_re (0 : Int32)))])) (fun _ k => XS.iconst X17.here hx rfl (hb hby at_118) k) ?_
      have hc18 : ¬ (((cc &&& (2147483647 : Int32)) % (3 : Int32)) = (2 : Int32)) := by rw [hk]; decide
      refine own_go (st' := T17.setTop (mkF m 126 #[.val (.int rq), .val (.int fl), .val (.int cc), .val (.ref b1), .val (.int (fl &&& (3 : Int32))), .val (.int e5), .val (.int e6), .val (.int ((cc &&& (2147483647 : Int32)) % (3 : Int32))), .val (.int (0 : Int32)), .val (.ref b10)] [(.int (own_re (0 : Int32)))])) (fun _ k => XS.icmpYes X17.here hx rfl (pc0 := 119) (pc' := 126) rfl (hb hby at_119) rfl (feq hc18).2 (by decide) (by decide) k) ?_
      refine own_go (st' := T17.setTop (mkF m 127 #[.val (.int rq), .val (.int fl), .val (.int cc), .val (.ref b1), .val (.int (fl &&& (3 : Int32))), .val (.int e5), .val (.int e6), .val (.int ((cc &&& (2147483647 : Int32)) % (3 : Int32))), .val (.int (0 : Int32)), .val (.ref b10)] [(.int (0 : Int32)), (.int (own_re (0 : Int32)))])) (fun _ k => XS.iconst X17.here hx rfl (hb hby at_126) k) ?_
      have hc19 : (own_re (0 : Int32)) = (0 : Int32) := by decide
      refine own_go (st' := T17.setTop (mkF m 130 #[.val (.int rq), .val (.int fl), .val (.int cc), .val (.ref b1), .val (.int (fl &&& (3 : Int32))), .val (.int e5), .val (.int e6), .val (.int ((cc &&& (2147483647 : Int32)) % (3 : Int32))), .val (.int (0 : Int32)), .val (.ref b10)] [])) (fun _ k => XS.icmpNo X17.here hx rfl (hb hby at_127) rfl (teq hc19).2 k) ?_
      refine own_go (st' := T17.setTop (mkF m 131 #[.val (.int rq), .val (.int fl), .val (.int cc), .val (.ref b1), .val (.int (fl &&& (3 : Int32))), .val (.int e5), .val (.int e6), .val (.int ((cc &&& (2147483647 : Int32)) % (3 : Int32))), .val (.int (0 : Int32)), .val (.ref b10)] [(.int (1 : Int32))])) (fun _ k => XS.iconst X17.here hx rfl (hb hby at_130) k) ?_
      refine own_go (st' := T17.setTop (mkF m 135 #[.val (.int rq), .val (.int fl), .val (.int cc), .val (.ref b1), .val (.int (fl &&& (3 : Int32))), .val (.int e5), .val (.int e6), .val (.int ((cc &&& (2147483647 : Int32)) % (3 : Int32))), .val (.int (0 : Int32)), .val (.ref b10)] [(.int (1 : Int32))])) (fun _ k => XS.goto X17.here hx rfl (pc0 := 131) (pc' := 135) rfl (hb hby at_131) (by decide) (by decide) k) ?_
      obtain ⟨fs, hr, hrun, hended, hW, hsame⟩ := X17.leave (v := some (.int (1 : Int32))) (fun h => by rw [Bd.returns] at h; cases h)
      refine ⟨_, _, ?_, hP _ _ hrun hended ⟨_, _, rfl, ?_, ⟨_, rfl⟩, hW, hsame.mono (by decide) (by decide)⟩⟩
      · exact retN X17 hx (t := .boolean) Bd.returns (by simp) (hb hby at_135) hr
      · show Qrm0 Z rq fl cc h0 n0 _ T17.heap _
        rw [eq17]
        exact ⟨rfl, N17, trivial⟩
    · --
      have hc21 : ¬ (((cc &&& (2147483647 : Int32)) % (3 : Int32)) = (0 : Int32)) := by rw [hk]; decide
      refine own_go (st' := Tj8.setTop (mkF m 83 #[.val (.int rq), .val (.int fl), .val (.int cc), .val (.ref b1), .val (.int (fl &&& (3 : Int32))), .val (.int e5), .val (.int e6), .val (.int ((cc &&& (2147483647 : Int32)) % (3 : Int32))), .unset, .unset] [])) (fun _ k => XS.ifYes Xj8.here hx rfl (pc0 := 76) (pc' := 83) rfl (hb hby at_76) rfl ((if0 _ _).trans (feq hc21).2) (by decide) (by decide) k) ?_
      refine own_go (st' := Tj8.setTop (mkF m 85 #[.val (.int rq), .val (.int fl), .val (.int cc), .val (.ref b1), .val (.int (fl &&& (3 : Int32))), .val (.int e5), .val (.int e6), .val (.int ((cc &&& (2147483647 : Int32)) % (3 : Int32))), .unset, .unset] [(.int ((cc &&& (2147483647 : Int32)) % (3 : Int32)))])) (fun _ k => XS.iload Xj8.here hx rfl (hb hby at_83) rfl k) ?_
      refine own_go (st' := Tj8.setTop (mkF m 86 #[.val (.int rq), .val (.int fl), .val (.int cc), .val (.ref b1), .val (.int (fl &&& (3 : Int32))), .val (.int e5), .val (.int e6), .val (.int ((cc &&& (2147483647 : Int32)) % (3 : Int32))), .unset, .unset] [(.int (1 : Int32)), (.int ((cc &&& (2147483647 : Int32)) % (3 : Int32)))])) (fun _ k => XS.iconst Xj8.here hx rfl (hb hby at_85) k) ?_
      have hc22 : ((cc &&& (2147483647 : Int32)) % (3 : Int32)) = (1 : Int32) := hk
      refine own_go (st' := Tj8.setTop (mkF m 89 #[.val (.int rq), .val (.int fl), .val (.int cc), .val (.ref b1), .val (.int (fl &&& (3 : Int32))), .val (.int e5), .val (.int e6), .val (.int ((cc &&& (2147483647 : Int32)) % (3 : Int32))), .unset, .unset] [])) (fun _ k => XS.icmpNo Xj8.here hx rfl (hb hby at_86) rfl (teq hc22).2 k) ?_
      refine own_go (st' := Tj8.setTop (mkF m 90 #[.val (.int rq), .val (.int fl), .val (.int cc), .val (.ref b1), .val (.int (fl &&& (3 : Int32))), .val (.int e5), .val (.int e6), .val (.int ((cc &&& (2147483647 : Int32)) % (3 : Int32))), .unset, .unset] [(.int (1 : Int32))])) (fun _ k => XS.iconst Xj8.here hx rfl (hb hby at_89) k) ?_
      refine own_go (st' := Tj8.setTop (mkF m 94 #[.val (.int rq), .val (.int fl), .val (.int cc), .val (.ref b1), .val (.int (fl &&& (3 : Int32))), .val (.int e5), .val (.int e6), .val (.int ((cc &&& (2147483647 : Int32)) % (3 : Int32))), .unset, .unset] [(.int (1 : Int32))])) (fun _ k => XS.goto Xj8.here hx rfl (pc0 := 90) (pc' := 94) rfl (hb hby at_90) (by decide) (by decide) k) ?_
      refine own_go (st' := Tj8.setTop (mkF m 96 #[.val (.int rq), .val (.int fl), .val (.int cc), .val (.ref b1), .val (.int (fl &&& (3 : Int32))), .val (.int e5), .val (.int e6), .val (.int ((cc &&& (2147483647 : Int32)) % (3 : Int32))), .val (.int (1 : Int32)), .unset] [])) (fun _ k => XS.istore Xj8.here hx rfl (hb hby at_94) rfl (l' := #[.val (.int rq), .val (.int fl), .val (.int cc), .val (.ref b1), .val (.int (fl &&& (3 : Int32))), .val (.int e5), .val (.int e6), .val (.int ((cc &&& (2147483647 : Int32)) % (3 : Int32))), .val (.int (1 : Int32)), .unset]) rfl k) ?_
      obtain ⟨T23, h23, X23, e23, E23, A23, D23, -, st23⟩ := newO Xj8 hx hZ hown (hw _ (List.mem_of_getElem? (i := 0) rfl)) (hw _ (List.mem_of_getElem? (i := 1) rfl)) (hw _ (List.mem_of_getElem? (i := 2) rfl)) ej8 (g := (mkF m 96 #[.val (.int rq), .val (.int fl), .val (.int cc), .val (.ref b1), .val (.int (fl &&& (3 : Int32))), .val (.int e5), .val (.int e6), .val (.int ((cc &&& (2147483647 : Int32)) % (3 : Int32))), .val (.int (1 : Int32)), .unset] [])) rfl (hb hby at_96) (by decide) (by decide)
      obtain ⟨b23, g23⟩ : ∃ z, z = h7.size := ⟨_, rfl⟩
      rw [← g23] at A23 D23 st23
      have sz23 : h7.size ≤ h23.size := E23.1
      have lt23 : b23 < h23.size := A23.lt
      have f24 : Fld Z h23 b23 "com/example/interpoint/interpoint/giop/RequestHeader" "requestId" "I" (.int (0 : Int32)) := D23 (Or.inr (hw _ (List.mem_of_getElem? (i := 15) rfl))) (ty := .int) (by decide)
      have f25 : Fld Z h23 b23 "com/example/interpoint/interpoint/giop/RequestHeader" "responseFlags" "I" (.int (0 : Int32)) := D23 (Or.inr (hw _ (List.mem_of_getElem? (i := 17) rfl))) (ty := .int) (by decide)
      have f26 : Fld Z h23 b23 "com/example/interpoint/interpoint/giop/RequestHeader" "objectKey" "[B" .null := D23 (Or.inr (hw _ (List.mem_of_getElem? (i := 19) rfl))) (ty := (.array .byte)) (by decide)
      have f27 : Fld Z h23 b23 "com/example/interpoint/interpoint/giop/RequestHeader" "operation" "Ljava/lang/String;" .null := D23 (Or.inr (hw _ (List.mem_of_getElem? (i := 21) rfl))) (ty := (.object "java/lang/String")) (by decide)
      have f28 : Fld Z h23 b23 "com/example/interpoint/interpoint/giop/RequestHeader" "contexts" "Ljava/util/List;" .null := D23 (Or.inr (hw _ (List.mem_of_getElem? (i := 23) rfl))) (ty := (.object "java/util/List")) (by decide)
      refine own_go (st' := T23.setTop (mkF m 99 #[.val (.int rq), .val (.int fl), .val (.int cc), .val (.ref b1), .val (.int (fl &&& (3 : Int32))), .val (.int e5), .val (.int e6), .val (.int ((cc &&& (2147483647 : Int32)) % (3 : Int32))), .val (.int (1 : Int32)), .unset] [(.ref b23)])) (st23) ?_
      refine own_go (st' := T23.setTop (mkF m 100 #[.val (.int rq), .val (.int fl), .val (.int cc), .val (.ref b1), .val (.int (fl &&& (3 : Int32))), .val (.int e5), .val (.int e6), .val (.int ((cc &&& (2147483647 : Int32)) % (3 : Int32))), .val (.int (1 : Int32)), .unset] [(.ref b23), (.ref b23)])) (fun _ k => XS.dup X23.here hx rfl (hb hby at_99) rfl rfl k) ?_
      refine own_go (st' := T23.setTop (mkF m 101 #[.val (.int rq), .val (.int fl), .val (.int cc), .val (.ref b1), .val (.int (fl &&& (3 : Int32))), .val (.int e5), .val (.int e6), .val (.int ((cc &&& (2147483647 : Int32)) % (3 : Int32))), .val (.int (1 : Int32)), .unset] [(.int cc), (.ref b23), (.ref b23)])) (fun _ k => XS.iloadN X23.here hx rfl (hb hby at_100) rfl k) ?_
      refine own_go (st' := T23.setTop (mkF m 103 #[.val (.int rq), .val (.int fl), .val (.int cc), .val (.ref b1), .val (.int (fl &&& (3 : Int32))), .val (.int e5), .val (.int e6), .val (.int ((cc &&& (2147483647 : Int32)) % (3 : Int32))), .val (.int (1 : Int32)), .unset] [(.int (1 : Int32)), (.int cc), (.ref b23), (.ref b23)])) (fun _ k => XS.iload X23.here hx rfl (hb hby at_101) rfl k) ?_
      refine own_go (st' := T23.setTop (mkF m 104 #[.val (.int rq), .val (.int fl), .val (.int cc), .val (.ref b1), .val (.int (fl &&& (3 : Int32))), .val (.int e5), .val (.int e6), .val (.int ((cc &&& (2147483647 : Int32)) % (3 : Int32))), .val (.int (1 : Int32)), .unset] [.null, (.int (1 : Int32)), (.int cc), (.ref b23), (.ref b23)])) (fun _ k => XS.aconstNull X23.here hx rfl (hb hby at_103) k) ?_
      refine own_go (st' := T23.setTop (mkF m 105 #[.val (.int rq), .val (.int fl), .val (.int cc), .val (.ref b1), .val (.int (fl &&& (3 : Int32))), .val (.int e5), .val (.int e6), .val (.int ((cc &&& (2147483647 : Int32)) % (3 : Int32))), .val (.int (1 : Int32)), .unset] [.null, .null, (.int (1 : Int32)), (.int cc), (.ref b23), (.ref b23)])) (fun _ k => XS.aconstNull X23.here hx rfl (hb hby at_104) k) ?_
      refine own_go (st' := T23.setTop (mkF m 106 #[.val (.int rq), .val (.int fl), .val (.int cc), .val (.ref b1), .val (.int (fl &&& (3 : Int32))), .val (.int e5), .val (.int e6), .val (.int ((cc &&& (2147483647 : Int32)) % (3 : Int32))), .val (.int (1 : Int32)), .unset] [.null, .null, .null, (.int (1 : Int32)), (.int cc), (.ref b23), (.ref b23)])) (fun _ k => XS.aconstNull X23.here hx rfl (hb hby at_105) k) ?_
      obtain ⟨_, _, ⟨T29, LC29, kC29, nC29⟩, -, X29, ⟨Lc29, hQ29, lq29, yq29, zq29⟩, st29⟩ := X23.specialBack hx (y := (⟨"com/example/interpoint/interpoint/giop/RequestHeader", "<init>", "(II[BLjava/lang/String;Ljava/util/List;)V"⟩ : MethodName)) rfl hown (mvT hZ (hw _ (List.mem_of_getElem? (i := 3) rfl))) (mvT hZ (hw _ (List.mem_of_getElem? (i := 4) rfl))) (mvT hZ (hw _ (List.mem_of_getElem? (i := 5) rfl))) (by decide) (backOf (W := 1) (rm1 l Z a0 hw [] b23 cc (1 : Int32) (0 : Int32) (0 : Int32) h23 n0 (by omega) A23 f24 f25 f26 f27 f28 (by omega)) hZ (hw _ (List.mem_of_getElem? (i := 5) rfl)) (hw _ (List.mem_of_getElem? (i := 2) rfl)) (by decide) (by decide)) (g := (mkF m 106 #[.val (.int rq), .val (.int fl), .val (.int cc), .val (.ref b1), .val (.int (fl &&& (3 : Int32))), .val (.int e5), .val (.int e6), .val (.int ((cc &&& (2147483647 : Int32)) % (3 : Int32))), .val (.int (1 : Int32)), .unset] [.null, .null, .null, (.int (1 : Int32)), (.int cc), (.ref b23), (.ref b23)])) rfl (by rw [hml]; rfl) (Steps.refl _) (a := b23) (argsL := [(.int cc), (.int (1 : Int32)), .null, .null, .null]) (rest := [(.ref b23)]) (lenOf pd_1 rfl) rfl (by show 2 * 0 + _ ≤ _; exact Nat.le_of_eq rfl) (hb hby at_106) (fun _ _ => ⟨rfl, e23, (by decide : 2 + 0 ≤ _), (by decide : 10 + 0 ≤ _)⟩)
      dsimp only [Pt.U, Pt.locs, Pt.cells, Pt.slots] at X29 lq29 yq29 zq29 st29 hQ29
      subst lq29 yq29 zq29
      obtain ⟨h29, e29⟩ : ∃ z, T29.heap = z := ⟨_, rfl⟩
      rw [e29] at hQ29
      obtain ⟨rfl, Nq29, K29, g29_0, g29_1⟩ := hQ29
      have sz29 : h23.size ≤ h29.size := K29.1
      have N29 := Fr.app Nj8 Nq29
      have lt29_1 : b23 < h29.size := g29_0.lt
      refine own_go (st' := T29.setTop (mkF m 109 #[.val (.int rq), .val (.int fl), .val (.int cc), .val (.ref b1), .val (.int (fl &&& (3 : Int32))), .val (.int e5), .val (.int e6), .val (.int ((cc &&& (2147483647 : Int32)) % (3 : Int32))), .val (.int (1 : Int32)), .unset] [(.ref b23)])) (fun _ k => st29.trans k) ?_
      refine own_go (st' := T29.setTop (mkF m 111 #[.val (.int rq), .val (.int fl), .val (.int cc), .val (.ref b1), .val (.int (fl &&& (3 : Int32))), .val (.int e5), .val (.int e6), .val (.int ((cc &&& (2147483647 : Int32)) % (3 : Int32))), .val (.int (1 : Int32)), .val (.ref b23)] [])) (fun _ k => XS.astore X29.here hx rfl (hb hby at_109) rfl rfl (l' := #[.val (.int rq), .val (.int fl), .val (.int cc), .val (.ref b1), .val (.int (fl &&& (3 : Int32))), .val (.int e5), .val (.int e6), .val (.int ((cc &&& (2147483647 : Int32)) % (3 : Int32))), .val (.int (1 : Int32)), .val (.ref b23)]) rfl k) ?_
      refine own_go (st' := T29.setTop (mkF m 113 #[.val (.int rq), .val (.int fl), .val (.int cc), .val (.ref b1), .val (.int (fl &&& (3 : Int32))), .val (.int e5), .val (.int e6), .val (.int ((cc &&& (2147483647 : Int32)) % (3 : Int32))), .val (.int (1 : Int32)), .val (.ref b23)] [(.ref b23)])) (fun _ k => XS.aload X29.here hx rfl (hb hby at_111) rfl rfl k) ?_
      obtain ⟨cq30, kq30, q30a, q30b, q30c⟩ := isOf hZ e29 g29_0
      obtain ⟨_, _, ⟨T30, LC30, kC30, nC30⟩, -, X30, ⟨Lc30, hQ30, lq30, yq30, zq30⟩, st30⟩ := X29.virtualBack hx (y := (⟨"com/example/interpoint/interpoint/giop/RequestHeader", "responseExpected", "()Z"⟩ : MethodName)) (z := (⟨"com/example/interpoint/interpoint/giop/RequestHeader", "responseExpected", "()Z"⟩ : MethodName)) hown (mvT hZ (hw _ (List.mem_of_getElem? (i := 24) rfl))) (mvT hZ (hw _ (List.mem_of_getElem? (i := 25) rfl))) (notFace_of_selects (args := #[]) (mvT hZ (hw _ (List.mem_of_getElem? (i := 27) rfl)))) (mvT hZ (hw _ (List.mem_of_getElem? (i := 27) rfl))) (mvT hZ (hw _ (List.mem_of_getElem? (i := 26) rfl))) (by decide) (backOf (W := 0) (rm4 l Z a0 hw [] b23 (1 : Int32) h29 n0 (by omega) g29_1) hZ (hw _ (List.mem_of_getElem? (i := 28) rfl)) (hw _ (List.mem_of_getElem? (i := 2) rfl)) (by decide) (by decide)) q30a q30c (g := (mkF m 113 #[.val (.int rq), .val (.int fl), .val (.int cc), .val (.ref b1), .val (.int (fl &&& (3 : Int32))), .val (.int e5), .val (.int e6), .val (.int ((cc &&& (2147483647 : Int32)) % (3 : Int32))), .val (.int (1 : Int32)), .val (.ref b23)] [(.ref b23)])) rfl (by rw [hml]; rfl) (Steps.refl _) (argsL := []) (rest := []) (lenOf pd_2 rfl) rfl (by show 2 * 0 + _ ≤ _; exact Nat.le_of_eq rfl) (hb hby at_113) (fun _ _ => ⟨rfl, e29, (by decide : 2 + 0 ≤ _), (by decide : 10 + 0 ≤ _)⟩)
      dsimp only [Pt.U, Pt.locs, Pt.cells, Pt.slots] at X30 lq30 yq30 zq30 st30 hQ30
      subst lq30 yq30 zq30
      obtain ⟨rfl, Nq30, eq30⟩ := hQ30
      have N30 := Fr.app N29 Nq30
      refine own_go (st' := T30.setTop (mkF m 116 #[.val (.int rq), .val (.int fl), .val (.int cc), .val (.ref b1), .val (.int (fl &&& (3 : Int32))), .val (.int e5), .val (.int e6), .val (.int ((cc &&& (2147483647 : Int32)) % (3 : Int32))), .val (.int (1 : Int32)), .val (.ref b23)] [(.int (own_re (1 : Int32)))])) (fun _ k => st30.trans k) ?_
      refine own_go (st' := T30.setTop (mkF m 118 #[.val (.int rq), .val (.int fl), .val (.int cc), .val (.ref b1), .val (.int (fl &&& (3 : Int32))), .val (.int e5), .val (.int e6), .val (.int ((cc &&& (2147483647 : Int32)) % (3 : Int32))), .val (.int (1 : Int32)), .val (.ref b23)] [(.int ((cc &&& (2147483647 : Int32)) % (3 : Int32))), (.int (own_re (1 : Int32)))])) (fun _ k => XS.iload X30.here hx rfl (hb hby at_116) rfl k) ?_
      refine own_go (st' := T30.setTop (mkF m 119 #[.val (.int rq), .val (.int fl), .val (.int cc), .val (.ref b1), .val (.int (fl &&& (3 : Int32))), .val (.int e5), .val (.int e6), .val (.int ((cc &&& (2147483647 : Int32)) % (3 : Int32))), .val (.int (1 : Int32)), .val (.ref b23)] [(.int (2 : Int32)), (.int ((cc &&& (2147483647 : Int32)) % (3 : Int32))), (.int (own_re (1 : Int32)))])) (fun _ k => XS.iconst X30.here hx rfl (hb hby at_118) k) ?_
      have hc31 : ¬ (((cc &&& (2147483647 : Int32)) % (3 : Int32)) = (2 : Int32)) := by rw [hk]; decide
      refine own_go (st' := T30.setTop (mkF m 126 #[.val (.int rq), .val (.int fl), .val (.int cc), .val (.ref b1), .val (.int (fl &&& (3 : Int32))), .val (.int e5), .val (.int e6), .val (.int ((cc &&& (2147483647 : Int32)) % (3 : Int32))), .val (.int (1 : Int32)), .val (.ref b23)] [(.int (own_re (1 : Int32)))])) (fun _ k => XS.icmpYes X30.here hx rfl (pc0 := 119) (pc' := 126) rfl (hb hby at_119) rfl (feq hc31).2 (by decide) (by decide) k) ?_
      refine own_go (st' := T30.setTop (mkF m 127 #[.val (.int rq), .val (.int fl), .val (.int cc), .val (.ref b1), .val (.int (fl &&& (3 : Int32))), .val (.int e5), .val (.int e6), .val (.int ((cc &&& (2147483647 : Int32)) % (3 : Int32))), .val (.int (1 : Int32)), .val (.ref b23)] [(.int (0 : Int32)), (.int (own_re (1 : Int32)))])) (fun _ k => XS.iconst X30.here hx rfl (hb hby at_126) k) ?_
      have hc32 : (own_re (1 : Int32)) = (0 : Int32) := by decide
      refine own_go (st' := T30.setTop (mkF m 130 #[.val (.int rq), .val (.int fl), .val (.int cc), .val (.ref b1), .val (.int (fl &&& (3 : Int32))), .val (.int e5), .val (.int e6), .val (.int ((cc &&& (2147483647 : Int32)) % (3 : Int32))), .val (.int (1 : Int32)), .val (.ref b23)] [])) (fun _ k => XS.icmpNo X30.here hx rfl (hb hby at_127) rfl (teq hc32).2 k) ?_
      refine own_go (st' := T30.setTop (mkF m 131 #[.val (.int rq), .val (.int fl), .val (.int cc), .val (.ref b1), .val (.int (fl &&& (3 : Int32))), .val (.int e5), .val (.int e6), .val (.int ((cc &&& (2147483647 : Int32)) % (3 : Int32))), .val (.int (1 : Int32)), .val (.ref b23)] [(.int (1 : Int32))])) (fun _ k => XS.iconst X30.here hx rfl (hb hby at_130) k) ?_
      refine own_go (st' := T30.setTop (mkF m 135 #[.val (.int rq), .val (.int fl), .val (.int cc), .val (.ref b1), .val (.int (fl &&& (3 : Int32))), .val (.int e5), .val (.int e6), .val (.int ((cc &&& (2147483647 : Int32)) % (3 : Int32))), .val (.int (1 : Int32)), .val (.ref b23)] [(.int (1 : Int32))])) (fun _ k => XS.goto X30.here hx rfl (pc0 := 131) (pc' := 135) rfl (hb hby at_131) (by decide) (by decide) k) ?_
      obtain ⟨fs, hr, hrun, hended, hW, hsame⟩ := X30.leave (v := some (.int (1 : Int32))) (fun h => by rw [Bd.returns] at h; cases h)
      refine ⟨_, _, ?_, hP _ _ hrun hended ⟨_, _, rfl, ?_, ⟨_, rfl⟩, hW, hsame.mono (by decide) (by decide)⟩⟩
      · exact retN X30 hx (t := .boolean) Bd.returns (by simp) (hb hby at_135) hr
      · show Qrm0 Z rq fl cc h0 n0 _ T30.heap _
        rw [eq30]
        exact ⟨rfl, N30, trivial⟩
    · --
      have hc34 : ¬ (((cc &&& (2147483647 : Int32)) % (3 : Int32)) = (0 : Int32)) := by rw [hk]; decide
      refine own_go (st' := Tj8.setTop (mkF m 83 #[.val (.int rq), .val (.int fl), .val (.int cc), .val (.ref b1), .val (.int (fl &&& (3 : Int32))), .val (.int e5), .val (.int e6), .val (.int ((cc &&& (2147483647 : Int32)) % (3 : Int32))), .unset, .unset] [])) (fun _ k => XS.ifYes Xj8.here hx rfl (pc0 := 76) (pc' := 83) rfl (hb hby at_76) rfl ((if0 _ _).trans (feq hc34).2) (by decide) (by decide) k) ?_
      refine own_go (st' := Tj8.setTop (mkF m 85 #[.val (.int rq), .val (.int fl), .val (.int cc), .val (.ref b1), .val (.int (fl &&& (3 : Int32))), .val (.int e5), .val (.int e6), .val (.int ((cc &&& (2147483647 : Int32)) % (3 : Int32))), .unset, .unset] [(.int ((cc &&& (2147483647 : Int32)) % (3 : Int32)))])) (fun _ k => XS.iload Xj8.here hx rfl (hb hby at_83) rfl k) ?_
      refine own_go (st' := Tj8.setTop (mkF m 86 #[.val (.int rq), .val (.int fl), .val (.int cc), .val (.ref b1), .val (.int (fl &&& (3 : Int32))), .val (.int e5), .val (.int e6), .val (.int ((cc &&& (2147483647 : Int32)) % (3 : Int32))), .unset, .unset] [(.int (1 : Int32)), (.int ((cc &&& (2147483647 : Int32)) % (3 : Int32)))])) (fun _ k => XS.iconst Xj8.here hx rfl (hb hby at_85) k) ?_
      have hc35 : ¬ (((cc &&& (2147483647 : Int32)) % (3 : Int32)) = (1 : Int32)) := by rw [hk]; decide
      refine own_go (st' := Tj8.setTop (mkF m 93 #[.val (.int rq), .val (.int fl), .val (.int cc), .val (.ref b1), .val (.int (fl &&& (3 : Int32))), .val (.int e5), .val (.int e6), .val (.int ((cc &&& (2147483647 : Int32)) % (3 : Int32))), .unset, .unset] [])) (fun _ k => XS.icmpYes Xj8.here hx rfl (pc0 := 86) (pc' := 93) rfl (hb hby at_86) rfl (feq hc35).2 (by decide) (by decide) k) ?_
      refine own_go (st' := Tj8.setTop (mkF m 94 #[.val (.int rq), .val (.int fl), .val (.int cc), .val (.ref b1), .val (.int (fl &&& (3 : Int32))), .val (.int e5), .val (.int e6), .val (.int ((cc &&& (2147483647 : Int32)) % (3 : Int32))), .unset, .unset] [(.int (3 : Int32))])) (fun _ k => XS.iconst Xj8.here hx rfl (hb hby at_93) k) ?_
      refine own_go (st' := Tj8.setTop (mkF m 96 #[.val (.int rq), .val (.int fl), .val (.int cc), .val (.ref b1), .val (.int (fl &&& (3 : Int32))), .val (.int e5), .val (.int e6), .val (.int ((cc &&& (2147483647 : Int32)) % (3 : Int32))), .val (.int (3 : Int32)), .unset] [])) (fun _ k => XS.istore Xj8.here hx rfl (hb hby at_94) rfl (l' := #[.val (.int rq), .val (.int fl), .val (.int cc), .val (.ref b1), .val (.int (fl &&& (3 : Int32))), .val (.int e5), .val (.int e6), .val (.int ((cc &&& (2147483647 : Int32)) % (3 : Int32))), .val (.int (3 : Int32)), .unset]) rfl k) ?_
      obtain ⟨T36, h36, X36, e36, E36, A36, D36, -, st36⟩ := newO Xj8 hx hZ hown (hw _ (List.mem_of_getElem? (i := 0) rfl)) (hw _ (List.mem_of_getElem? (i := 1) rfl)) (hw _ (List.mem_of_getElem? (i := 2) rfl)) ej8 (g := (mkF m 96 #[.val (.int rq), .val (.int fl), .val (.int cc), .val (.ref b1), .val (.int (fl &&& (3 : Int32))), .val (.int e5), .val (.int e6), .val (.int ((cc &&& (2147483647 : Int32)) % (3 : Int32))), .val (.int (3 : Int32)), .unset] [])) rfl (hb hby at_96) (by decide) (by decide)
      obtain ⟨b36, g36⟩ : ∃ z, z = h7.size := ⟨_, rfl⟩
      rw [← g36] at A36 D36 st36
      have sz36 : h7.size ≤ h36.size := E36.1
      have lt36 : b36 < h36.size := A36.lt
      have f37 : Fld Z h36 b36 "com/example/interpoint/interpoint/giop/RequestHeader" "requestId" "I" (.int (0 : Int32)) := D36 (Or.inr (hw _ (List.mem_of_getElem? (i := 15) rfl))) (ty := .int) (by decide)
      have f38 : Fld Z h36 b36 "com/example/interpoint/interpoint/giop/RequestHeader" "responseFlags" "I" (.int (0 : Int32)) := D36 (Or.inr (hw _ (List.mem_of_getElem? (i := 17) rfl))) (ty := .int) (by decide)
      have f39 : Fld Z h36 b36 "com/example/interpoint/interpoint/giop/RequestHeader" "objectKey" "[B" .null := D36 (Or.inr (hw _ (List.mem_of_getElem? (i := 19) rfl))) (ty := (.array .byte)) (by decide)
      have f40 : Fld Z h36 b36 "com/example/interpoint/interpoint/giop/RequestHeader" "operation" "Ljava/lang/String;" .null := D36 (Or.inr (hw _ (List.mem_of_getElem? (i := 21) rfl))) (ty := (.object "java/lang/String")) (by decide)
      have f41 : Fld Z h36 b36 "com/example/interpoint/interpoint/giop/RequestHeader" "contexts" "Ljava/util/List;" .null := D36 (Or.inr (hw _ (List.mem_of_getElem? (i := 23) rfl))) (ty := (.object "java/util/List")) (by decide)
      refine own_go (st' := T36.setTop (mkF m 99 #[.val (.int rq), .val (.int fl), .val (.int cc), .val (.ref b1), .val (.int (fl &&& (3 : Int32))), .val (.int e5), .val (.int e6), .val (.int ((cc &&& (2147483647 : Int32)) % (3 : Int32))), .val (.int (3 : Int32)), .unset] [(.ref b36)])) (st36) ?_
      refine own_go (st' := T36.setTop (mkF m 100 #[.val (.int rq), .val (.int fl), .val (.int cc), .val (.ref b1), .val (.int (fl &&& (3 : Int32))), .val (.int e5), .val (.int e6), .val (.int ((cc &&& (2147483647 : Int32)) % (3 : Int32))), .val (.int (3 : Int32)), .unset] [(.ref b36), (.ref b36)])) (fun _ k => XS.dup X36.here hx rfl (hb hby at_99) rfl rfl k) ?_
      refine own_go (st' := T36.setTop (mkF m 101 #[.val (.int rq), .val (.int fl), .val (.int cc), .val (.ref b1), .val (.int (fl &&& (3 : Int32))), .val (.int e5), .val (.int e6), .val (.int ((cc &&& (2147483647 : Int32)) % (3 : Int32))), .val (.int (3 : Int32)), .unset] [(.int cc), (.ref b36), (.ref b36)])) (fun _ k => XS.iloadN X36.here hx rfl (hb hby at_100) rfl k) ?_
      refine own_go (st' := T36.setTop (mkF m 103 #[.val (.int rq), .val (.int fl), .val (.int cc), .val (.ref b1), .val (.int (fl &&& (3 : Int32))), .val (.int e5), .val (.int e6), .val (.int ((cc &&& (2147483647 : Int32)) % (3 : Int32))), .val (.int (3 : Int32)), .unset] [(.int (3 : Int32)), (.int cc), (.ref b36), (.ref b36)])) (fun _ k => XS.iload X36.here hx rfl (hb hby at_101) rfl k) ?_
      refine own_go (st' := T36.setTop (mkF m 104 #[.val (.int rq), .val (.int fl), .val (.int cc), .val (.ref b1), .val (.int (fl &&& (3 : Int32))), .val (.int e5), .val (.int e6), .val (.int ((cc &&& (2147483647 : Int32)) % (3 : Int32))), .val (.int (3 : Int32)), .unset] [.null, (.int (3 : Int32)), (.int cc), (.ref b36), (.ref b36)])) (fun _ k => XS.aconstNull X36.here hx rfl (hb hby at_103) k) ?_
      refine own_go (st' := T36.setTop (mkF m 105 #[.val (.int rq), .val (.int fl), .val (.int cc), .val (.ref b1), .val (.int (fl &&& (3 : Int32))), .val (.int e5), .val (.int e6), .val (.int ((cc &&& (2147483647 : Int32)) % (3 : Int32))), .val (.int (3 : Int32)), .unset] [.null, .null, (.int (3 : Int32)), (.int cc), (.ref b36), (.ref b36)])) (fun _ k => XS.aconstNull X36.here hx rfl (hb hby at_104) k) ?_
      refine own_go (st' := T36.setTop (mkF m 106 #[.val (.int rq), .val (.int fl), .val (.int cc), .val (.ref b1), .val (.int (fl &&& (3 : Int32))), .val (.int e5), .val (.int e6), .val (.int ((cc &&& (2147483647 : Int32)) % (3 : Int32))), .val (.int (3 : Int32)), .unset] [.null, .null, .null, (.int (3 : Int32)), (.int cc), (.ref b36), (.ref b36)])) (fun _ k => XS.aconstNull X36.here hx rfl (hb hby at_105) k) ?_
      obtain ⟨_, _, ⟨T42, LC42, kC42, nC42⟩, -, X42, ⟨Lc42, hQ42, lq42, yq42, zq42⟩, st42⟩ := X36.specialBack hx (y := (⟨"com/example/interpoint/interpoint/giop/RequestHeader", "<init>", "(II[BLjava/lang/String;Ljava/util/List;)V"⟩ : MethodName)) rfl hown (mvT hZ (hw _ (List.mem_of_getElem? (i := 3) rfl))) (mvT hZ (hw _ (List.mem_of_getElem? (i := 4) rfl))) (mvT hZ (hw _ (List.mem_of_getElem? (i := 5) rfl))) (by decide) (backOf (W := 1) (rm1 l Z a0 hw [] b36 cc (3 : Int32) (0 : Int32) (0 : Int32) h36 n0 (by omega) A36 f37 f38 f39 f40 f41 (by omega)) hZ (hw _ (List.mem_of_getElem? (i := 5) rfl)) (hw _ (List.mem_of_getElem? (i := 2) rfl)) (by decide) (by decide)) (g := (mkF m 106 #[.val (.int rq), .val (.int fl), .val (.int cc), .val (.ref b1), .val (.int (fl &&& (3 : Int32))), .val (.int e5), .val (.int e6), .val (.int ((cc &&& (2147483647 : Int32)) % (3 : Int32))), .val (.int (3 : Int32)), .unset] [.null, .null, .null, (.int (3 : Int32)), (.int cc), (.ref b36), (.ref b36)])) rfl (by rw [hml]; rfl) (Steps.refl _) (a := b36) (argsL := [(.int cc), (.int (3 : Int32)), .null, .null, .null]) (rest := [(.ref b36)]) (lenOf pd_1 rfl) rfl (by show 2 * 0 + _ ≤ _; exact Nat.le_of_eq rfl) (hb hby at_106) (fun _ _ => ⟨rfl, e36, (by decide : 2 + 0 ≤ _), (by decide : 10 + 0 ≤ _)⟩)
      dsimp only [Pt.U, Pt.locs, Pt.cells, Pt.slots] at X42 lq42 yq42 zq42 st42 hQ42
      subst lq42 yq42 zq42
      obtain ⟨h42, e42⟩ : ∃ z, T42.heap = z := ⟨_, rfl⟩
      rw [e42] at hQ42
      obtain ⟨rfl, Nq42, K42, g42_0, g42_1⟩ := hQ42
      have sz42 : h36.size ≤ h42.size := K42.1
      have N42 := Fr.app Nj8 Nq42
      have lt42_1 : b36 < h42.size := g42_0.lt
      refine own_go (st' := T42.setTop (mkF m 109 #[.val (.int rq), .val (.int fl), .val (.int cc), .val (.ref b1), .val (.int (fl &&& (3 : Int32))), .val (.int e5), .val (.int e6), .val (.int ((cc &&& (2147483647 : Int32)) % (3 : Int32))), .val (.int (3 : Int32)), .unset] [(.ref b36)])) (fun _ k => st42.trans k) ?_
      refine own_go (st' := T42.setTop (mkF m 111 #[.val (.int rq), .val (.int fl), .val (.int cc), .val (.ref b1), .val (.int (fl &&& (3 : Int32))), .val (.int e5), .val (.int e6), .val (.int ((cc &&& (2147483647 : Int32)) % (3 : Int32))), .val (.int (3 : Int32)), .val (.ref b36)] [])) (fun _ k => XS.astore X42.here hx rfl (hb hby at_109) rfl rfl (l' := #[.val (.int rq), .val (.int fl), .val (.int cc), .val (.ref b1), .val (.int (fl &&& (3 : Int32))), .val (.int e5), .val (.int e6), .val (.int ((cc &&& (2147483647 : Int32)) % (3 : Int32))), .val (.int (3 : Int32)), .val (.ref b36)]) rfl k) ?_
      refine own_go (st' := T42.setTop (mkF m 113 #[.val (.int rq), .val (.int fl), .val (.int cc), .val (.ref b1), .val (.int (fl &&& (3 : Int32))), .val (.int e5), .val (.int e6), .val (.int ((cc &&& (2147483647 : Int32)) % (3 : Int32))), .val (.int (3 : Int32)), .val (.ref b36)] [(.ref b36)])) (fun _ k => XS.aload X42.here hx rfl (hb hby at_111) rfl rfl k) ?_
      obtain ⟨cq43, kq43, q43a, q43b, q43c⟩ := isOf hZ e42 g42_0
      obtain ⟨_, _, ⟨T43, LC43, kC43, nC43⟩, -, X43, ⟨Lc43, hQ43, lq43, yq43, zq43⟩, st43⟩ := X42.virtualBack hx (y := (⟨"com/example/interpoint/interpoint/giop/RequestHeader", "responseExpected", "()Z"⟩ : MethodName)) (z := (⟨"com/example/interpoint/interpoint/giop/RequestHeader", "responseExpected", "()Z"⟩ : MethodName)) hown (mvT hZ (hw _ (List.mem_of_getElem? (i := 24) rfl))) (mvT hZ (hw _ (List.mem_of_getElem? (i := 25) rfl))) (notFace_of_selects (args := #[]) (mvT hZ (hw _ (List.mem_of_getElem? (i := 27) rfl)))) (mvT hZ (hw _ (List.mem_of_getElem? (i := 27) rfl))) (mvT hZ (hw _ (List.mem_of_getElem? (i := 26) rfl))) (by decide) (backOf (W := 0) (rm4 l Z a0 hw [] b36 (3 : Int32) h42 n0 (by omega) g42_1) hZ (hw _ (List.mem_of_getElem? (i := 28) rfl)) (hw _ (List.mem_of_getElem? (i := 2) rfl)) (by decide) (by decide)) q43a q43c (g := (mkF m 113 #[.val (.int rq), .val (.int fl), .val (.int cc), .val (.ref b1), .val (.int (fl &&& (3 : Int32))), .val (.int e5), .val (.int e6), .val (.int ((cc &&& (2147483647 : Int32)) % (3 : Int32))), .val (.int (3 : Int32)), .val (.ref b36)] [(.ref b36)])) rfl (by rw [hml]; rfl) (Steps.refl _) (argsL := []) (rest := []) (lenOf pd_2 rfl) rfl (by show 2 * 0 + _ ≤ _; exact Nat.le_of_eq rfl) (hb hby at_113) (fun _ _ => ⟨rfl, e42, (by decide : 2 + 0 ≤ _), (by decide : 10 + 0 ≤ _)⟩)
      dsimp only [Pt.U, Pt.locs, Pt.cells, Pt.slots] at X43 lq43 yq43 zq43 st43 hQ43
      subst lq43 yq43 zq43
      obtain ⟨rfl, Nq43, eq43⟩ := hQ43
      have N43 := Fr.app N42 Nq43
      refine own_go (st' := T43.setTop (mkF m 116 #[.val (.int rq), .val (.int fl), .val (.int cc), .val (.ref b1), .val (.int (fl &&& (3 : Int32))), .val (.int e5), .val (.int e6), .val (.int ((cc &&& (2147483647 : Int32)) % (3 : Int32))), .val (.int (3 : Int32)), .val (.ref b36)] [(.int (own_re (3 : Int32)))])) (fun _ k => st43.trans k) ?_
      refine own_go (st' := T43.setTop (mkF m 118 #[.val (.int rq), .val (.int fl), .val (.int cc), .val (.ref b1), .val (.int (fl &&& (3 : Int32))), .val (.int e5), .val (.int e6), .val (.int ((cc &&& (2147483647 : Int32)) % (3 : Int32))), .val (.int (3 : Int32)), .val (.ref b36)] [(.int ((cc &&& (2147483647 : Int32)) % (3 : Int32))), (.int (own_re (3 : Int32)))])) (fun _ k => XS.iload X43.here hx rfl (hb hby at_116) rfl k) ?_
      refine own_go (st' := T43.setTop (mkF m 119 #[.val (.int rq), .val (.int fl), .val (.int cc), .val (.ref b1), .val (.int (fl &&& (3 : Int32))), .val (.int e5), .val (.int e6), .val (.int ((cc &&& (2147483647 : Int32)) % (3 : Int32))), .val (.int (3 : Int32)), .val (.ref b36)] [(.int (2 : Int32)), (.int ((cc &&& (2147483647 : Int32)) % (3 : Int32))), (.int (own_re (3 : Int32)))])) (fun _ k => XS.iconst X43.here hx rfl (hb hby at_118) k) ?_
      have hc44 : ((cc &&& (2147483647 : Int32)) % (3 : Int32)) = (2 : Int32) := hk
      refine own_go (st' := T43.setTop (mkF m 122 #[.val (.int rq), .val (.int fl), .val (.int cc), .val (.ref b1), .val (.int (fl &&& (3 : Int32))), .val (.int e5), .val (.int e6), .val (.int ((cc &&& (2147483647 : Int32)) % (3 : Int32))), .val (.int (3 : Int32)), .val (.ref b36)] [(.int (own_re (3 : Int32)))])) (fun _ k => XS.icmpNo X43.here hx rfl (hb hby at_119) rfl (teq hc44).2 k) ?_
      refine own_go (st' := T43.setTop (mkF m 123 #[.val (.int rq), .val (.int fl), .val (.int cc), .val (.ref b1), .val (.int (fl &&& (3 : Int32))), .val (.int e5), .val (.int e6), .val (.int ((cc &&& (2147483647 : Int32)) % (3 : Int32))), .val (.int (3 : Int32)), .val (.ref b36)] [(.int (1 : Int32)), (.int (own_re (3 : Int32)))])) (fun _ k => XS.iconst X43.here hx rfl (hb hby at_122) k) ?_
      refine own_go (st' := T43.setTop (mkF m 127 #[.val (.int rq), .val (.int fl), .val (.int cc), .val (.ref b1), .val (.int (fl &&& (3 : Int32))), .val (.int e5), .val (.int e6), .val (.int ((cc &&& (2147483647 : Int32)) % (3 : Int32))), .val (.int (3 : Int32)), .val (.ref b36)] [(.int (1 : Int32)), (.int (own_re (3 : Int32)))])) (fun _ k => XS.goto X43.here hx rfl (pc0 := 123) (pc' := 127) rfl (hb hby at_123) (by decide) (by decide) k) ?_
      have hc45 : (own_re (3 : Int32)) = (1 : Int32) := by decide
      refine own_go (st' := T43.setTop (mkF m 130 #[.val (.int rq), .val (.int fl), .val (.int cc), .val (.ref b1), .val (.int (fl &&& (3 : Int32))), .val (.int e5), .val (.int e6), .val (.int ((cc &&& (2147483647 : Int32)) % (3 : Int32))), .val (.int (3 : Int32)), .val (.ref b36)] [])) (fun _ k => XS.icmpNo X43.here hx rfl (hb hby at_127) rfl (teq hc45).2 k) ?_
      refine own_go (st' := T43.setTop (mkF m 131 #[.val (.int rq), .val (.int fl), .val (.int cc), .val (.ref b1), .val (.int (fl &&& (3 : Int32))), .val (.int e5), .val (.int e6), .val (.int ((cc &&& (2147483647 : Int32)) % (3 : Int32))), .val (.int (3 : Int32)), .val (.ref b36)] [(.int (1 : Int32))])) (fun _ k => XS.iconst X43.here hx rfl (hb hby at_130) k) ?_
      refine own_go (st' := T43.setTop (mkF m 135 #[.val (.int rq), .val (.int fl), .val (.int cc), .val (.ref b1), .val (.int (fl &&& (3 : Int32))), .val (.int e5), .val (.int e6), .val (.int ((cc &&& (2147483647 : Int32)) % (3 : Int32))), .val (.int (3 : Int32)), .val (.ref b36)] [(.int (1 : Int32))])) (fun _ k => XS.goto X43.here hx rfl (pc0 := 131) (pc' := 135) rfl (hb hby at_131) (by decide) (by decide) k) ?_
      obtain ⟨fs, hr, hrun, hended, hW, hsame⟩ := X43.leave (v := some (.int (1 : Int32))) (fun h => by rw [Bd.returns] at h; cases h)
      refine ⟨_, _, ?_, hP _ _ hrun hended ⟨_, _, rfl, ?_, ⟨_, rfl⟩, hW, hsame.mono (by decide) (by decide)⟩⟩
      · exact retN X43 hx (t := .boolean) Bd.returns (by simp) (hb hby at_135) hr
      · show Qrm0 Z rq fl cc h0 n0 _ T43.heap _
        rw [eq43]
        exact ⟨rfl, N43, trivial⟩
    · --
      exact absurd hk (own_pos cc)
  rcases own_and3 fl with hf | hf | hf | hf
  · --
    refine own_go (st' := T7.setTop (mkF m 20 #[.val (.int rq), .val (.int fl), .val (.int cc), .val (.ref b1), .val (.int (fl &&& (3 : Int32))), .unset, .unset, .unset, .unset, .unset] [(.int (fl &&& (3 : Int32)))])) (fun _ k => XS.iload X7.here hx rfl (hb hby at_18) rfl k) ?_
    refine own_go (st' := T7.setTop (mkF m 21 #[.val (.int rq), .val (.int fl), .val (.int cc), .val (.ref b1), .val (.int (fl &&& (3 : Int32))), .unset, .unset, .unset, .unset, .unset] [(.int (2 : Int32)), (.int (fl &&& (3 : Int32)))])) (fun _ k => XS.iconst X7.here hx rfl (hb hby at_20) k) ?_
    have hc47 : ¬ ((fl &&& (3 : Int32)) = (2 : Int32)) := by rw [hf]; decide
    refine own_go (st' := T7.setTop (mkF m 24 #[.val (.int rq), .val (.int fl), .val (.int cc), .val (.ref b1), .val (.int (fl &&& (3 : Int32))), .unset, .unset, .unset, .unset, .unset] [])) (fun _ k => XS.icmpNo X7.here hx rfl (hb hby at_21) rfl (feq hc47).1 k) ?_
    refine own_go (st' := T7.setTop (mkF m 26 #[.val (.int rq), .val (.int fl), .val (.int cc), .val (.ref b1), .val (.int (fl &&& (3 : Int32))), .unset, .unset, .unset, .unset, .unset] [(.int (fl &&& (3 : Int32)))])) (fun _ k => XS.iload X7.here hx rfl (hb hby at_24) rfl k) ?_
    refine own_go (st' := T7.setTop (mkF m 27 #[.val (.int rq), .val (.int fl), .val (.int cc), .val (.ref b1), .val (.int (fl &&& (3 : Int32))), .unset, .unset, .unset, .unset, .unset] [(.int (3 : Int32)), (.int (fl &&& (3 : Int32)))])) (fun _ k => XS.iconst X7.here hx rfl (hb hby at_26) k) ?_
    have hc48 : ¬ ((fl &&& (3 : Int32)) = (3 : Int32)) := by rw [hf]; decide
    refine own_go (st' := T7.setTop (mkF m 34 #[.val (.int rq), .val (.int fl), .val (.int cc), .val (.ref b1), .val (.int (fl &&& (3 : Int32))), .unset, .unset, .unset, .unset, .unset] [])) (fun _ k => XS.icmpYes X7.here hx rfl (pc0 := 27) (pc' := 34) rfl (hb hby at_27) rfl (feq hc48).2 (by decide) (by decide) k) ?_
    refine own_go (st' := T7.setTop (mkF m 35 #[.val (.int rq), .val (.int fl), .val (.int cc), .val (.ref b1), .val (.int (fl &&& (3 : Int32))), .unset, .unset, .unset, .unset, .unset] [(.int (0 : Int32))])) (fun _ k => XS.iconst X7.here hx rfl (hb hby at_34) k) ?_
    refine own_go (st' := T7.setTop (mkF m 37 #[.val (.int rq), .val (.int fl), .val (.int cc), .val (.ref b1), .val (.int (fl &&& (3 : Int32))), .val (.int (0 : Int32)), .unset, .unset, .unset, .unset] [])) (fun _ k => XS.istore X7.here hx rfl (hb hby at_35) rfl (l' := #[.val (.int rq), .val (.int fl), .val (.int cc), .val (.ref b1), .val (.int (fl &&& (3 : Int32))), .val (.int (0 : Int32)), .unset, .unset, .unset, .unset]) rfl k) ?_
    refine own_go (st' := T7.setTop (mkF m 38 #[.val (.int rq), .val (.int fl), .val (.int cc), .val (.ref b1), .val (.int (fl &&& (3 : Int32))), .val (.int (0 : Int32)), .unset, .unset, .unset, .unset] [(.ref b1)])) (fun _ k => XS.aloadN X7.here hx rfl (hb hby at_37) rfl rfl k) ?_
    obtain ⟨cq49, kq49, q49a, q49b, q49c⟩ := isOf hZ e7 g7_0
    obtain ⟨_, _, ⟨T49, LC49, kC49, nC49⟩, -, X49, ⟨Lc49, hQ49, lq49, yq49, zq49⟩, st49⟩ := X7.virtualBack hx (y := (⟨"com/example/interpoint/interpoint/giop/RequestHeader", "responseExpected", "()Z"⟩ : MethodName)) (z := (⟨"com/example/interpoint/interpoint/giop/RequestHeader", "responseExpected", "()Z"⟩ : MethodName)) hown (mvT hZ (hw _ (List.mem_of_getElem? (i := 24) rfl))) (mvT hZ (hw _ (List.mem_of_getElem? (i := 25) rfl))) (notFace_of_selects (args := #[]) (mvT hZ (hw _ (List.mem_of_getElem? (i := 27) rfl)))) (mvT hZ (hw _ (List.mem_of_getElem? (i := 27) rfl))) (mvT hZ (hw _ (List.mem_of_getElem? (i := 26) rfl))) (by decide) (backOf (W := 0) (rm4 l Z a0 hw [] b1 fl h7 n0 (by omega) g7_1) hZ (hw _ (List.mem_of_getElem? (i := 28) rfl)) (hw _ (List.mem_of_getElem? (i := 2) rfl)) (by decide) (by decide)) q49a q49c (g := (mkF m 38 #[.val (.int rq), .val (.int fl), .val (.int cc), .val (.ref b1), .val (.int (fl &&& (3 : Int32))), .val (.int (0 : Int32)), .unset, .unset, .unset, .unset] [(.ref b1)])) rfl (by rw [hml]; rfl) (Steps.refl _) (argsL := []) (rest := []) (lenOf pd_2 rfl) rfl (by show 2 * 0 + _ ≤ _; exact Nat.le_of_eq rfl) (hb hby at_38) (fun _ _ => ⟨rfl, e7, (by decide : 1 + 0 ≤ _), (by decide : 5 + 0 ≤ _)⟩)
    dsimp only [Pt.U, Pt.locs, Pt.cells, Pt.slots] at X49 lq49 yq49 zq49 st49 hQ49
    subst lq49 yq49 zq49
    obtain ⟨rfl, Nq49, eq49⟩ := hQ49
    have N49 := Fr.app N7 Nq49
    refine own_go (st' := T49.setTop (mkF m 41 #[.val (.int rq), .val (.int fl), .val (.int cc), .val (.ref b1), .val (.int (fl &&& (3 : Int32))), .val (.int (0 : Int32)), .unset, .unset, .unset, .unset] [(.int (own_re fl))])) (fun _ k => st49.trans k) ?_
    refine own_go (st' := T49.setTop (mkF m 43 #[.val (.int rq), .val (.int fl), .val (.int cc), .val (.ref b1), .val (.int (fl &&& (3 : Int32))), .val (.int (0 : Int32)), .val (.int (own_re fl)), .unset, .unset, .unset] [])) (fun _ k => XS.istore X49.here hx rfl (hb hby at_41) rfl (l' := #[.val (.int rq), .val (.int fl), .val (.int cc), .val (.ref b1), .val (.int (fl &&& (3 : Int32))), .val (.int (0 : Int32)), .val (.int (own_re fl)), .unset, .unset, .unset]) rfl k) ?_
    refine own_go (st' := T49.setTop (mkF m 45 #[.val (.int rq), .val (.int fl), .val (.int cc), .val (.ref b1), .val (.int (fl &&& (3 : Int32))), .val (.int (0 : Int32)), .val (.int (own_re fl)), .unset, .unset, .unset] [(.int (own_re fl))])) (fun _ k => XS.iload X49.here hx rfl (hb hby at_43) rfl k) ?_
    refine own_go (st' := T49.setTop (mkF m 47 #[.val (.int rq), .val (.int fl), .val (.int cc), .val (.ref b1), .val (.int (fl &&& (3 : Int32))), .val (.int (0 : Int32)), .val (.int (own_re fl)), .unset, .unset, .unset] [(.int (0 : Int32)), (.int (own_re fl))])) (fun _ k => XS.iload X49.here hx rfl (hb hby at_45) rfl k) ?_
    have hc50 : (own_re fl) = (0 : Int32) := by rw [own_re_of fl _ hf]; decide
    refine own_go (st' := T49.setTop (mkF m 52 #[.val (.int rq), .val (.int fl), .val (.int cc), .val (.ref b1), .val (.int (fl &&& (3 : Int32))), .val (.int (0 : Int32)), .val (.int (own_re fl)), .unset, .unset, .unset] [])) (fun _ k => XS.icmpYes X49.here hx rfl (pc0 := 47) (pc' := 52) rfl (hb hby at_47) rfl (teq hc50).1 (by decide) (by decide) k) ?_
    refine own_go (st' := T49.setTop (mkF m 54 #[.val (.int rq), .val (.int fl), .val (.int cc), .val (.ref b1), .val (.int (fl &&& (3 : Int32))), .val (.int (0 : Int32)), .val (.int (own_re fl)), .unset, .unset, .unset] [(.int (own_re fl))])) (fun _ k => XS.iload X49.here hx rfl (hb hby at_52) rfl k) ?_
    have hc51 : (own_re fl) = (0 : Int32) := by rw [own_re_of fl _ hf]; decide
    refine own_go (st' := T49.setTop (mkF m 66 #[.val (.int rq), .val (.int fl), .val (.int cc), .val (.ref b1), .val (.int (fl &&& (3 : Int32))), .val (.int (0 : Int32)), .val (.int (own_re fl)), .unset, .unset, .unset] [])) (fun _ k => XS.ifYes X49.here hx rfl (pc0 := 54) (pc' := 66) rfl (hb hby at_54) rfl ((if0 _ _).trans (teq hc51).1) (by decide) (by decide) k) ?_
    exact J66_8 _ _ (0 : Int32) (own_re fl) X49 eq49 N49
  · --
    refine own_go (st' := T7.setTop (mkF m 20 #[.val (.int rq), .val (.int fl), .val (.int cc), .val (.ref b1), .val (.int (fl &&& (3 : Int32))), .unset, .unset, .unset, .unset, .unset] [(.int (fl &&& (3 : Int32)))])) (fun _ k => XS.iload X7.here hx rfl (hb hby at_18) rfl k) ?_
    refine own_go (st' := T7.setTop (mkF m 21 #[.val (.int rq), .val (.int fl), .val (.int cc), .val (.ref b1), .val (.int (fl &&& (3 : Int32))), .unset, .unset, .unset, .unset, .unset] [(.int (2 : Int32)), (.int (fl &&& (3 : Int32)))])) (fun _ k => XS.iconst X7.here hx rfl (hb hby at_20) k) ?_
    have hc52 : ¬ ((fl &&& (3 : Int32)) = (2 : Int32)) := by rw [hf]; decide
    refine own_go (st' := T7.setTop (mkF m 24 #[.val (.int rq), .val (.int fl), .val (.int cc), .val (.ref b1), .val (.int (fl &&& (3 : Int32))), .unset, .unset, .unset, .unset, .unset] [])) (fun _ k => XS.icmpNo X7.here hx rfl (hb hby at_21) rfl (feq hc52).1 k) ?_
    refine own_go (st' := T7.setTop (mkF m 26 #[.val (.int rq), .val (.int fl), .val (.int cc), .val (.ref b1), .val (.int (fl &&& (3 : Int32))), .unset, .unset, .unset, .unset, .unset] [(.int (fl &&& (3 : Int32)))])) (fun _ k => XS.iload X7.here hx rfl (hb hby at_24) rfl k) ?_
    refine own_go (st' := T7.setTop (mkF m 27 #[.val (.int rq), .val (.int fl), .val (.int cc), .val (.ref b1), .val (.int (fl &&& (3 : Int32))), .unset, .unset, .unset, .unset, .unset] [(.int (3 : Int32)), (.int (fl &&& (3 : Int32)))])) (fun _ k => XS.iconst X7.here hx rfl (hb hby at_26) k) ?_
    have hc53 : ¬ ((fl &&& (3 : Int32)) = (3 : Int32)) := by rw [hf]; decide
    refine own_go (st' := T7.setTop (mkF m 34 #[.val (.int rq), .val (.int fl), .val (.int cc), .val (.ref b1), .val (.int (fl &&& (3 : Int32))), .unset, .unset, .unset, .unset, .unset] [])) (fun _ k => XS.icmpYes X7.here hx rfl (pc0 := 27) (pc' := 34) rfl (hb hby at_27) rfl (feq hc53).2 (by decide) (by decide) k) ?_
    refine own_go (st' := T7.setTop (mkF m 35 #[.val (.int rq), .val (.int fl), .val (.int cc), .val (.ref b1), .val (.int (fl &&& (3 : Int32))), .unset, .unset, .unset, .unset, .unset] [(.int (0 : Int32))])) (fun _ k => XS.iconst X7.here hx rfl (hb hby at_34) k) ?_
    refine own_go (st' := T7.setTop (mkF m 37 #[.val (.int rq), .val (.int fl), .val (.int cc), .val (.ref b1), .val (.int (fl &&& (3 : Int32))), .val (.int (0 : Int32)), .unset, .unset, .unset, .unset] [])) (fun _ k => XS.istore X7.here hx rfl (hb hby at_35) rfl (l' := #[.val (.int rq), .val (.int fl), .val (.int cc), .val (.ref b1), .val (.int (fl &&& (3 : Int32))), .val (.int (0 : Int32)), .unset, .unset, .unset, .unset]) rfl k) ?_
    refine own_go (st' := T7.setTop (mkF m 38 #[.val (.int rq), .val (.int fl), .val (.int cc), .val (.ref b1), .val (.int (fl &&& (3 : Int32))), .val (.int (0 : Int32)), .unset, .unset, .unset, .unset] [(.ref b1)])) (fun _ k => XS.aloadN X7.here hx rfl (hb hby at_37) rfl rfl k) ?_
    obtain ⟨cq54, kq54, q54a, q54b, q54c⟩ := isOf hZ e7 g7_0
    obtain ⟨_, _, ⟨T54, LC54, kC54, nC54⟩, -, X54, ⟨Lc54, hQ54, lq54, yq54, zq54⟩, st54⟩ := X7.virtualBack hx (y := (⟨"com/example/interpoint/interpoint/giop/RequestHeader", "responseExpected", "()Z"⟩ : MethodName)) (z := (⟨"com/example/interpoint/interpoint/giop/RequestHeader", "responseExpected", "()Z"⟩ : MethodName)) hown (mvT hZ (hw _ (List.mem_of_getElem? (i := 24) rfl))) (mvT hZ (hw _ (List.mem_of_getElem? (i := 25) rfl))) (notFace_of_selects (args := #[]) (mvT hZ (hw _ (List.mem_of_getElem? (i := 27) rfl)))) (mvT hZ (hw _ (List.mem_of_getElem? (i := 27) rfl))) (mvT hZ (hw _ (List.mem_of_getElem? (i := 26) rfl))) (by decide) (backOf (W := 0) (rm4 l Z a0 hw [] b1 fl h7 n0 (by omega) g7_1) hZ (hw _ (List.mem_of_getElem? (i := 28) rfl)) (hw _ (List.mem_of_getElem? (i := 2) rfl)) (by decide) (by decide)) q54a q54c (g := (mkF m 38 #[.val (.int rq), .val (.int fl), .val (.int cc), .val (.ref b1), .val (.int (fl &&& (3 : Int32))), .val (.int (0 : Int32)), .unset, .unset, .unset, .unset] [(.ref b1)])) rfl (by rw [hml]; rfl) (Steps.refl _) (argsL := []) (rest := []) (lenOf pd_2 rfl) rfl (by show 2 * 0 + _ ≤ _; exact Nat.le_of_eq rfl) (hb hby at_38) (fun _ _ => ⟨rfl, e7, (by decide : 1 + 0 ≤ _), (by decide : 5 + 0 ≤ _)⟩)
    dsimp only [Pt.U, Pt.locs, Pt.cells, Pt.slots] at X54 lq54 yq54 zq54 st54 hQ54
    subst lq54 yq54 zq54
    obtain ⟨rfl, Nq54, eq54⟩ := hQ54
    have N54 := Fr.app N7 Nq54
    refine own_go (st' := T54.setTop (mkF m 41 #[.val (.int rq), .val (.int fl), .val (.int cc), .val (.ref b1), .val (.int (fl &&& (3 : Int32))), .val (.int (0 : Int32)), .unset, .unset, .unset, .unset] [(.int (own_re fl))])) (fun _ k => st54.trans k) ?_
    refine own_go (st' := T54.setTop (mkF m 43 #[.val (.int rq), .val (.int fl), .val (.int cc), .val (.ref b1), .val (.int (fl &&& (3 : Int32))), .val (.int (0 : Int32)), .val (.int (own_re fl)), .unset, .unset, .unset] [])) (fun _ k => XS.istore X54.here hx rfl (hb hby at_41) rfl (l' := #[.val (.int rq), .val (.int fl), .val (.int cc), .val (.ref b1), .val (.int (fl &&& (3 : Int32))), .val (.int (0 : Int32)), .val (.int (own_re fl)), .unset, .unset, .unset]) rfl k) ?_
    refine own_go (st' := T54.setTop (mkF m 45 #[.val (.int rq), .val (.int fl), .val (.int cc), .val (.ref b1), .val (.int (fl &&& (3 : Int32))), .val (.int (0 : Int32)), .val (.int (own_re fl)), .unset, .unset, .unset] [(.int (own_re fl))])) (fun _ k => XS.iload X54.here hx rfl (hb hby at_43) rfl k) ?_
    refine own_go (st' := T54.setTop (mkF m 47 #[.val (.int rq), .val (.int fl), .val (.int cc), .val (.ref b1), .val (.int (fl &&& (3 : Int32))), .val (.int (0 : Int32)), .val (.int (own_re fl)), .unset, .unset, .unset] [(.int (0 : Int32)), (.int (own_re fl))])) (fun _ k => XS.iload X54.here hx rfl (hb hby at_45) rfl k) ?_
    have hc55 : (own_re fl) = (0 : Int32) := by rw [own_re_of fl _ hf]; decide
    refine own_go (st' := T54.setTop (mkF m 52 #[.val (.int rq), .val (.int fl), .val (.int cc), .val (.ref b1), .val (.int (fl &&& (3 : Int32))), .val (.int (0 : Int32)), .val (.int (own_re fl)), .unset, .unset, .unset] [])) (fun _ k => XS.icmpYes X54.here hx rfl (pc0 := 47) (pc' := 52) rfl (hb hby at_47) rfl (teq hc55).1 (by decide) (by decide) k) ?_
    refine own_go (st' := T54.setTop (mkF m 54 #[.val (.int rq), .val (.int fl), .val (.int cc), .val (.ref b1), .val (.int (fl &&& (3 : Int32))), .val (.int (0 : Int32)), .val (.int (own_re fl)), .unset, .unset, .unset] [(.int (own_re fl))])) (fun _ k => XS.iload X54.here hx rfl (hb hby at_52) rfl k) ?_
    have hc56 : (own_re fl) = (0 : Int32) := by rw [own_re_of fl _ hf]; decide
    refine own_go (st' := T54.setTop (mkF m 66 #[.val (.int rq), .val (.int fl), .val (.int cc), .val (.ref b1), .val (.int (fl &&& (3 : Int32))), .val (.int (0 : Int32)), .val (.int (own_re fl)), .unset, .unset, .unset] [])) (fun _ k => XS.ifYes X54.here hx rfl (pc0 := 54) (pc' := 66) rfl (hb hby at_54) rfl ((if0 _ _).trans (teq hc56).1) (by decide) (by decide) k) ?_
    exact J66_8 _ _ (0 : Int32) (own_re fl) X54 eq54 N54
  · --
    refine own_go (st' := T7.setTop (mkF m 20 #[.val (.int rq), .val (.int fl), .val (.int cc), .val (.ref b1), .val (.int (fl &&& (3 : Int32))), .unset, .unset, .unset, .unset, .unset] [(.int (fl &&& (3 : Int32)))])) (fun _ k => XS.iload X7.here hx rfl (hb hby at_18) rfl k) ?_
    refine own_go (st' := T7.setTop (mkF m 21 #[.val (.int rq), .val (.int fl), .val (.int cc), .val (.ref b1), .val (.int (fl &&& (3 : Int32))), .unset, .unset, .unset, .unset, .unset] [(.int (2 : Int32)), (.int (fl &&& (3 : Int32)))])) (fun _ k => XS.iconst X7.here hx rfl (hb hby at_20) k) ?_
    have hc57 : (fl &&& (3 : Int32)) = (2 : Int32) := by rw [hf]
    refine own_go (st' := T7.setTop (mkF m 30 #[.val (.int rq), .val (.int fl), .val (.int cc), .val (.ref b1), .val (.int (fl &&& (3 : Int32))), .unset, .unset, .unset, .unset, .unset] [])) (fun _ k => XS.icmpYes X7.here hx rfl (pc0 := 21) (pc' := 30) rfl (hb hby at_21) rfl (teq hc57).1 (by decide) (by decide) k) ?_
    refine own_go (st' := T7.setTop (mkF m 31 #[.val (.int rq), .val (.int fl), .val (.int cc), .val (.ref b1), .val (.int (fl &&& (3 : Int32))), .unset, .unset, .unset, .unset, .unset] [(.int (1 : Int32))])) (fun _ k => XS.iconst X7.here hx rfl (hb hby at_30) k) ?_
    refine own_go (st' := T7.setTop (mkF m 35 #[.val (.int rq), .val (.int fl), .val (.int cc), .val (.ref b1), .val (.int (fl &&& (3 : Int32))), .unset, .unset, .unset, .unset, .unset] [(.int (1 : Int32))])) (fun _ k => XS.goto X7.here hx rfl (pc0 := 31) (pc' := 35) rfl (hb hby at_31) (by decide) (by decide) k) ?_
    refine own_go (st' := T7.setTop (mkF m 37 #[.val (.int rq), .val (.int fl), .val (.int cc), .val (.ref b1), .val (.int (fl &&& (3 : Int32))), .val (.int (1 : Int32)), .unset, .unset, .unset, .unset] [])) (fun _ k => XS.istore X7.here hx rfl (hb hby at_35) rfl (l' := #[.val (.int rq), .val (.int fl), .val (.int cc), .val (.ref b1), .val (.int (fl &&& (3 : Int32))), .val (.int (1 : Int32)), .unset, .unset, .unset, .unset]) rfl k) ?_
    refine own_go (st' := T7.setTop (mkF m 38 #[.val (.int rq), .val (.int fl), .val (.int cc), .val (.ref b1), .val (.int (fl &&& (3 : Int32))), .val (.int (1 : Int32)), .unset, .unset, .unset, .unset] [(.ref b1)])) (fun _ k => XS.aloadN X7.here hx rfl (hb hby at_37) rfl rfl k) ?_
    obtain ⟨cq58, kq58, q58a, q58b, q58c⟩ := isOf hZ e7 g7_0
    obtain ⟨_, _, ⟨T58, LC58, kC58, nC58⟩, -, X58, ⟨Lc58, hQ58, lq58, yq58, zq58⟩, st58⟩ := X7.virtualBack hx (y := (⟨"com/example/interpoint/interpoint/giop/RequestHeader", "responseExpected", "()Z"⟩ : MethodName)) (z := (⟨"com/example/interpoint/interpoint/giop/RequestHeader", "responseExpected", "()Z"⟩ : MethodName)) hown (mvT hZ (hw _ (List.mem_of_getElem? (i := 24) rfl))) (mvT hZ (hw _ (List.mem_of_getElem? (i := 25) rfl))) (notFace_of_selects (args := #[]) (mvT hZ (hw _ (List.mem_of_getElem? (i := 27) rfl)))) (mvT hZ (hw _ (List.mem_of_getElem? (i := 27) rfl))) (mvT hZ (hw _ (List.mem_of_getElem? (i := 26) rfl))) (by decide) (backOf (W := 0) (rm4 l Z a0 hw [] b1 fl h7 n0 (by omega) g7_1) hZ (hw _ (List.mem_of_getElem? (i := 28) rfl)) (hw _ (List.mem_of_getElem? (i := 2) rfl)) (by decide) (by decide)) q58a q58c (g := (mkF m 38 #[.val (.int rq), .val (.int fl), .val (.int cc), .val (.ref b1), .val (.int (fl &&& (3 : Int32))), .val (.int (1 : Int32)), .unset, .unset, .unset, .unset] [(.ref b1)])) rfl (by rw [hml]; rfl) (Steps.refl _) (argsL := []) (rest := []) (lenOf pd_2 rfl) rfl (by show 2 * 0 + _ ≤ _; exact Nat.le_of_eq rfl) (hb hby at_38) (fun _ _ => ⟨rfl, e7, (by decide : 1 + 0 ≤ _), (by decide : 5 + 0 ≤ _)⟩)
    dsimp only [Pt.U, Pt.locs, Pt.cells, Pt.slots] at X58 lq58 yq58 zq58 st58 hQ58
    subst lq58 yq58 zq58
    obtain ⟨rfl, Nq58, eq58⟩ := hQ58
    have N58 := Fr.app N7 Nq58
    refine own_go (st' := T58.setTop (mkF m 41 #[.val (.int rq), .val (.int fl), .val (.int cc), .val (.ref b1), .val (.int (fl &&& (3 : Int32))), .val (.int (1 : Int32)), .unset, .unset, .unset, .unset] [(.int (own_re fl))])) (fun _ k => st58.trans k) ?_
    refine own_go (st' := T58.setTop (mkF m 43 #[.val (.int rq), .val (.int fl), .val (.int cc), .val (.ref b1), .val (.int (fl &&& (3 : Int32))), .val (.int (1 : Int32)), .val (.int (own_re fl)), .unset, .unset, .unset] [])) (fun _ k => XS.istore X58.here hx rfl (hb hby at_41) rfl (l' := #[.val (.int rq), .val (.int fl), .val (.int cc), .val (.ref b1), .val (.int (fl &&& (3 : Int32))), .val (.int (1 : Int32)), .val (.int (own_re fl)), .unset, .unset, .unset]) rfl k) ?_
    refine own_go (st' := T58.setTop (mkF m 45 #[.val (.int rq), .val (.int fl), .val (.int cc), .val (.ref b1), .val (.int (fl &&& (3 : Int32))), .val (.int (1 : Int32)), .val (.int (own_re fl)), .unset, .unset, .unset] [(.int (own_re fl))])) (fun _ k => XS.iload X58.here hx rfl (hb hby at_43) rfl k) ?_
    refine own_go (st' := T58.setTop (mkF m 47 #[.val (.int rq), .val (.int fl), .val (.int cc), .val (.ref b1), .val (.int (fl &&& (3 : Int32))), .val (.int (1 : Int32)), .val (.int (own_re fl)), .unset, .unset, .unset] [(.int (1 : Int32)), (.int (own_re fl))])) (fun _ k => XS.iload X58.here hx rfl (hb hby at_45) rfl k) ?_
    have hc59 : (own_re fl) = (1 : Int32) := by rw [own_re_of fl _ hf]; decide
    refine own_go (st' := T58.setTop (mkF m 52 #[.val (.int rq), .val (.int fl), .val (.int cc), .val (.ref b1), .val (.int (fl &&& (3 : Int32))), .val (.int (1 : Int32)), .val (.int (own_re fl)), .unset, .unset, .unset] [])) (fun _ k => XS.icmpYes X58.here hx rfl (pc0 := 47) (pc' := 52) rfl (hb hby at_47) rfl (teq hc59).1 (by decide) (by decide) k) ?_
    refine own_go (st' := T58.setTop (mkF m 54 #[.val (.int rq), .val (.int fl), .val (.int cc), .val (.ref b1), .val (.int (fl &&& (3 : Int32))), .val (.int (1 : Int32)), .val (.int (own_re fl)), .unset, .unset, .unset] [(.int (own_re fl))])) (fun _ k => XS.iload X58.here hx rfl (hb hby at_52) rfl k) ?_
    have hc60 : ¬ ((own_re fl) = (0 : Int32)) := by rw [own_re_of fl _ hf]; decide
    refine own_go (st' := T58.setTop (mkF m 57 #[.val (.int rq), .val (.int fl), .val (.int cc), .val (.ref b1), .val (.int (fl &&& (3 : Int32))), .val (.int (1 : Int32)), .val (.int (own_re fl)), .unset, .unset, .unset] [])) (fun _ k => XS.ifNo X58.here hx rfl (hb hby at_54) rfl ((if0 _ _).trans (feq hc60).1) k) ?_
    refine own_go (st' := T58.setTop (mkF m 58 #[.val (.int rq), .val (.int fl), .val (.int cc), .val (.ref b1), .val (.int (fl &&& (3 : Int32))), .val (.int (1 : Int32)), .val (.int (own_re fl)), .unset, .unset, .unset] [(.ref b1)])) (fun _ k => XS.aloadN X58.here hx rfl (hb hby at_57) rfl rfl k) ?_
    obtain ⟨cq61, kq61, q61a, q61b, q61c⟩ := isOf hZ eq58 g7_0
    obtain ⟨_, _, ⟨T61, LC61, kC61, nC61⟩, -, X61, ⟨Lc61, hQ61, lq61, yq61, zq61⟩, st61⟩ := X58.virtualBack hx (y := (⟨"com/example/interpoint/interpoint/giop/RequestHeader", "replyAwaited", "()Z"⟩ : MethodName)) (z := (⟨"com/example/interpoint/interpoint/giop/RequestHeader", "replyAwaited", "()Z"⟩ : MethodName)) hown (mvT hZ (hw _ (List.mem_of_getElem? (i := 29) rfl))) (mvT hZ (hw _ (List.mem_of_getElem? (i := 30) rfl))) (notFace_of_selects (args := #[]) (mvT hZ (hw _ (List.mem_of_getElem? (i := 32) rfl)))) (mvT hZ (hw _ (List.mem_of_getElem? (i := 32) rfl))) (mvT hZ (hw _ (List.mem_of_getElem? (i := 31) rfl))) (by decide) (backOf (W := 0) (rm5 l Z a0 hw [] b1 fl h7 n0 (by omega) g7_1) hZ (hw _ (List.mem_of_getElem? (i := 33) rfl)) (hw _ (List.mem_of_getElem? (i := 2) rfl)) (by decide) (by decide)) q61a q61c (g := (mkF m 58 #[.val (.int rq), .val (.int fl), .val (.int cc), .val (.ref b1), .val (.int (fl &&& (3 : Int32))), .val (.int (1 : Int32)), .val (.int (own_re fl)), .unset, .unset, .unset] [(.ref b1)])) rfl (by rw [hml]; rfl) (Steps.refl _) (argsL := []) (rest := []) (lenOf pd_2 rfl) rfl (by show 2 * 0 + _ ≤ _; exact Nat.le_of_eq rfl) (hb hby at_58) (fun _ _ => ⟨rfl, eq58, (by decide : 1 + 0 ≤ _), (by decide : 5 + 0 ≤ _)⟩)
    dsimp only [Pt.U, Pt.locs, Pt.cells, Pt.slots] at X61 lq61 yq61 zq61 st61 hQ61
    subst lq61 yq61 zq61
    obtain ⟨rfl, Nq61, eq61⟩ := hQ61
    have N61 := Fr.app N58 Nq61
    refine own_go (st' := T61.setTop (mkF m 61 #[.val (.int rq), .val (.int fl), .val (.int cc), .val (.ref b1), .val (.int (fl &&& (3 : Int32))), .val (.int (1 : Int32)), .val (.int (own_re fl)), .unset, .unset, .unset] [(.int (own_ra fl))])) (fun _ k => st61.trans k) ?_
    have hc62 : ¬ ((own_ra fl) = (0 : Int32)) := by
      intro q
      unfold own_ra at q
      split at q
      · rename_i q2; rw [q2] at hf; revert hf; decide
      · revert q; decide
    refine own_go (st' := T61.setTop (mkF m 66 #[.val (.int rq), .val (.int fl), .val (.int cc), .val (.ref b1), .val (.int (fl &&& (3 : Int32))), .val (.int (1 : Int32)), .val (.int (own_re fl)), .unset, .unset, .unset] [])) (fun _ k => XS.ifYes X61.here hx rfl (pc0 := 61) (pc' := 66) rfl (hb hby at_61) rfl ((if0 _ _).trans (feq hc62).2) (by decide) (by decide) k) ?_
    exact J66_8 _ _ (1 : Int32) (own_re fl) X61 eq61 N61
  · --
    refine own_go (st' := T7.setTop (mkF m 20 #[.val (.int rq), .val (.int fl), .val (.int cc), .val (.ref b1), .val (.int (fl &&& (3 : Int32))), .unset, .unset, .unset, .unset, .unset] [(.int (fl &&& (3 : Int32)))])) (fun _ k => XS.iload X7.here hx rfl (hb hby at_18) rfl k) ?_
    refine own_go (st' := T7.setTop (mkF m 21 #[.val (.int rq), .val (.int fl), .val (.int cc), .val (.ref b1), .val (.int (fl &&& (3 : Int32))), .unset, .unset, .unset, .unset, .unset] [(.int (2 : Int32)), (.int (fl &&& (3 : Int32)))])) (fun _ k => XS.iconst X7.here hx rfl (hb hby at_20) k) ?_
    have hc63 : ¬ ((fl &&& (3 : Int32)) = (2 : Int32)) := by rw [hf]; decide
    refine own_go (st' := T7.setTop (mkF m 24 #[.val (.int rq), .val (.int fl), .val (.int cc), .val (.ref b1), .val (.int (fl &&& (3 : Int32))), .unset, .unset, .unset, .unset, .unset] [])) (fun _ k => XS.icmpNo X7.here hx rfl (hb hby at_21) rfl (feq hc63).1 k) ?_
    refine own_go (st' := T7.setTop (mkF m 26 #[.val (.int rq), .val (.int fl), .val (.int cc), .val (.ref b1), .val (.int (fl &&& (3 : Int32))), .unset, .unset, .unset, .unset, .unset] [(.int (fl &&& (3 : Int32)))])) (fun _ k => XS.iload X7.here hx rfl (hb hby at_24) rfl k) ?_
    refine own_go (st' := T7.setTop (mkF m 27 #[.val (.int rq), .val (.int fl), .val (.int cc), .val (.ref b1), .val (.int (fl &&& (3 : Int32))), .unset, .unset, .unset, .unset, .unset] [(.int (3 : Int32)), (.int (fl &&& (3 : Int32)))])) (fun _ k => XS.iconst X7.here hx rfl (hb hby at_26) k) ?_
    have hc64 : (fl &&& (3 : Int32)) = (3 : Int32) := by rw [hf]
    refine own_go (st' := T7.setTop (mkF m 30 #[.val (.int rq), .val (.int fl), .val (.int cc), .val (.ref b1), .val (.int (fl &&& (3 : Int32))), .unset, .unset, .unset, .unset, .unset] [])) (fun _ k => XS.icmpNo X7.here hx rfl (hb hby at_27) rfl (teq hc64).2 k) ?_
    refine own_go (st' := T7.setTop (mkF m 31 #[.val (.int rq), .val (.int fl), .val (.int cc), .val (.ref b1), .val (.int (fl &&& (3 : Int32))), .unset, .unset, .unset, .unset, .unset] [(.int (1 : Int32))])) (fun _ k => XS.iconst X7.here hx rfl (hb hby at_30) k) ?_
    refine own_go (st' := T7.setTop (mkF m 35 #[.val (.int rq), .val (.int fl), .val (.int cc), .val (.ref b1), .val (.int (fl &&& (3 : Int32))), .unset, .unset, .unset, .unset, .unset] [(.int (1 : Int32))])) (fun _ k => XS.goto X7.here hx rfl (pc0 := 31) (pc' := 35) rfl (hb hby at_31) (by decide) (by decide) k) ?_
    refine own_go (st' := T7.setTop (mkF m 37 #[.val (.int rq), .val (.int fl), .val (.int cc), .val (.ref b1), .val (.int (fl &&& (3 : Int32))), .val (.int (1 : Int32)), .unset, .unset, .unset, .unset] [])) (fun _ k => XS.istore X7.here hx rfl (hb hby at_35) rfl (l' := #[.val (.int rq), .val (.int fl), .val (.int cc), .val (.ref b1), .val (.int (fl &&& (3 : Int32))), .val (.int (1 : Int32)), .unset, .unset, .unset, .unset]) rfl k) ?_
    refine own_go (st' := T7.setTop (mkF m 38 #[.val (.int rq), .val (.int fl), .val (.int cc), .val (.ref b1), .val (.int (fl &&& (3 : Int32))), .val (.int (1 : Int32)), .unset, .unset, .unset, .unset] [(.ref b1)])) (fun _ k => XS.aloadN X7.here hx rfl (hb hby at_37) rfl rfl k) ?_
    obtain ⟨cq65, kq65, q65a, q65b, q65c⟩ := isOf hZ e7 g7_0
    obtain ⟨_, _, ⟨T65, LC65, kC65, nC65⟩, -, X65, ⟨Lc65, hQ65, lq65, yq65, zq65⟩, st65⟩ := X7.virtualBack hx (y := (⟨"com/example/interpoint/interpoint/giop/RequestHeader", "responseExpected", "()Z"⟩ : MethodName)) (z := (⟨"com/example/interpoint/interpoint/giop/RequestHeader", "responseExpected", "()Z"⟩ : MethodName)) hown (mvT hZ (hw _ (List.mem_of_getElem? (i := 24) rfl))) (mvT hZ (hw _ (List.mem_of_getElem? (i := 25) rfl))) (notFace_of_selects (args := #[]) (mvT hZ (hw _ (List.mem_of_getElem? (i := 27) rfl)))) (mvT hZ (hw _ (List.mem_of_getElem? (i := 27) rfl))) (mvT hZ (hw _ (List.mem_of_getElem? (i := 26) rfl))) (by decide) (backOf (W := 0) (rm4 l Z a0 hw [] b1 fl h7 n0 (by omega) g7_1) hZ (hw _ (List.mem_of_getElem? (i := 28) rfl)) (hw _ (List.mem_of_getElem? (i := 2) rfl)) (by decide) (by decide)) q65a q65c (g := (mkF m 38 #[.val (.int rq), .val (.int fl), .val (.int cc), .val (.ref b1), .val (.int (fl &&& (3 : Int32))), .val (.int (1 : Int32)), .unset, .unset, .unset, .unset] [(.ref b1)])) rfl (by rw [hml]; rfl) (Steps.refl _) (argsL := []) (rest := []) (lenOf pd_2 rfl) rfl (by show 2 * 0 + _ ≤ _; exact Nat.le_of_eq rfl) (hb hby at_38) (fun _ _ => ⟨rfl, e7, (by decide : 1 + 0 ≤ _), (by decide : 5 + 0 ≤ _)⟩)
    dsimp only [Pt.U, Pt.locs, Pt.cells, Pt.slots] at X65 lq65 yq65 zq65 st65 hQ65
    subst lq65 yq65 zq65
    obtain ⟨rfl, Nq65, eq65⟩ := hQ65
    have N65 := Fr.app N7 Nq65
    refine own_go (st' := T65.setTop (mkF m 41 #[.val (.int rq), .val (.int fl), .val (.int cc), .val (.ref b1), .val (.int (fl &&& (3 : Int32))), .val (.int (1 : Int32)), .unset, .unset, .unset, .unset] [(.int (own_re fl))])) (fun _ k => st65.trans k) ?_
    refine own_go (st' := T65.setTop (mkF m 43 #[.val (.int rq), .val (.int fl), .val (.int cc), .val (.ref b1), .val (.int (fl &&& (3 : Int32))), .val (.int (1 : Int32)), .val (.int (own_re fl)), .unset, .unset, .unset] [])) (fun _ k => XS.istore X65.here hx rfl (hb hby at_41) rfl (l' := #[.val (.int rq), .val (.int fl), .val (.int cc), .val (.ref b1), .val (.int (fl &&& (3 : Int32))), .val (.int (1 : Int32)), .val (.int (own_re fl)), .unset, .unset, .unset]) rfl k) ?_
    refine own_go (st' := T65.setTop (mkF m 45 #[.val (.int rq), .val (.int fl), .val (.int cc), .val (.ref b1), .val (.int (fl &&& (3 : Int32))), .val (.int (1 : Int32)), .val (.int (own_re fl)), .unset, .unset, .unset] [(.int (own_re fl))])) (fun _ k => XS.iload X65.here hx rfl (hb hby at_43) rfl k) ?_
    refine own_go (st' := T65.setTop (mkF m 47 #[.val (.int rq), .val (.int fl), .val (.int cc), .val (.ref b1), .val (.int (fl &&& (3 : Int32))), .val (.int (1 : Int32)), .val (.int (own_re fl)), .unset, .unset, .unset] [(.int (1 : Int32)), (.int (own_re fl))])) (fun _ k => XS.iload X65.here hx rfl (hb hby at_45) rfl k) ?_
    have hc66 : (own_re fl) = (1 : Int32) := by rw [own_re_of fl _ hf]; decide
    refine own_go (st' := T65.setTop (mkF m 52 #[.val (.int rq), .val (.int fl), .val (.int cc), .val (.ref b1), .val (.int (fl &&& (3 : Int32))), .val (.int (1 : Int32)), .val (.int (own_re fl)), .unset, .unset, .unset] [])) (fun _ k => XS.icmpYes X65.here hx rfl (pc0 := 47) (pc' := 52) rfl (hb hby at_47) rfl (teq hc66).1 (by decide) (by decide) k) ?_
    refine own_go (st' := T65.setTop (mkF m 54 #[.val (.int rq), .val (.int fl), .val (.int cc), .val (.ref b1), .val (.int (fl &&& (3 : Int32))), .val (.int (1 : Int32)), .val (.int (own_re fl)), .unset, .unset, .unset] [(.int (own_re fl))])) (fun _ k => XS.iload X65.here hx rfl (hb hby at_52) rfl k) ?_
    have hc67 : ¬ ((own_re fl) = (0 : Int32)) := by rw [own_re_of fl _ hf]; decide
    refine own_go (st' := T65.setTop (mkF m 57 #[.val (.int rq), .val (.int fl), .val (.int cc), .val (.ref b1), .val (.int (fl &&& (3 : Int32))), .val (.int (1 : Int32)), .val (.int (own_re fl)), .unset, .unset, .unset] [])) (fun _ k => XS.ifNo X65.here hx rfl (hb hby at_54) rfl ((if0 _ _).trans (feq hc67).1) k) ?_
    refine own_go (st' := T65.setTop (mkF m 58 #[.val (.int rq), .val (.int fl), .val (.int cc), .val (.ref b1), .val (.int (fl &&& (3 : Int32))), .val (.int (1 : Int32)), .val (.int (own_re fl)), .unset, .unset, .unset] [(.ref b1)])) (fun _ k => XS.aloadN X65.here hx rfl (hb hby at_57) rfl rfl k) ?_
    obtain ⟨cq68, kq68, q68a, q68b, q68c⟩ := isOf hZ eq65 g7_0
    obtain ⟨_, _, ⟨T68, LC68, kC68, nC68⟩, -, X68, ⟨Lc68, hQ68, lq68, yq68, zq68⟩, st68⟩ := X65.virtualBack hx (y := (⟨"com/example/interpoint/interpoint/giop/RequestHeader", "replyAwaited", "()Z"⟩ : MethodName)) (z := (⟨"com/example/interpoint/interpoint/giop/RequestHeader", "replyAwaited", "()Z"⟩ : MethodName)) hown (mvT hZ (hw _ (List.mem_of_getElem? (i := 29) rfl))) (mvT hZ (hw _ (List.mem_of_getElem? (i := 30) rfl))) (notFace_of_selects (args := #[]) (mvT hZ (hw _ (List.mem_of_getElem? (i := 32) rfl)))) (mvT hZ (hw _ (List.mem_of_getElem? (i := 32) rfl))) (mvT hZ (hw _ (List.mem_of_getElem? (i := 31) rfl))) (by decide) (backOf (W := 0) (rm5 l Z a0 hw [] b1 fl h7 n0 (by omega) g7_1) hZ (hw _ (List.mem_of_getElem? (i := 33) rfl)) (hw _ (List.mem_of_getElem? (i := 2) rfl)) (by decide) (by decide)) q68a q68c (g := (mkF m 58 #[.val (.int rq), .val (.int fl), .val (.int cc), .val (.ref b1), .val (.int (fl &&& (3 : Int32))), .val (.int (1 : Int32)), .val (.int (own_re fl)), .unset, .unset, .unset] [(.ref b1)])) rfl (by rw [hml]; rfl) (Steps.refl _) (argsL := []) (rest := []) (lenOf pd_2 rfl) rfl (by show 2 * 0 + _ ≤ _; exact Nat.le_of_eq rfl) (hb hby at_58) (fun _ _ => ⟨rfl, eq65, (by decide : 1 + 0 ≤ _), (by decide : 5 + 0 ≤ _)⟩)
    dsimp only [Pt.U, Pt.locs, Pt.cells, Pt.slots] at X68 lq68 yq68 zq68 st68 hQ68
    subst lq68 yq68 zq68
    obtain ⟨rfl, Nq68, eq68⟩ := hQ68
    have N68 := Fr.app N65 Nq68
    refine own_go (st' := T68.setTop (mkF m 61 #[.val (.int rq), .val (.int fl), .val (.int cc), .val (.ref b1), .val (.int (fl &&& (3 : Int32))), .val (.int (1 : Int32)), .val (.int (own_re fl)), .unset, .unset, .unset] [(.int (own_ra fl))])) (fun _ k => st68.trans k) ?_
    have hc69 : ¬ ((own_ra fl) = (0 : Int32)) := by
      intro q
      unfold own_ra at q
      split at q
      · rename_i q2; rw [q2] at hf; revert hf; decide
      · revert q; decide
    refine own_go (st' := T68.setTop (mkF m 66 #[.val (.int rq), .val (.int fl), .val (.int cc), .val (.ref b1), .val (.int (fl &&& (3 : Int32))), .val (.int (1 : Int32)), .val (.int (own_re fl)), .unset, .unset, .unset] [])) (fun _ k => XS.ifYes X68.here hx rfl (pc0 := 61) (pc' := 66) rfl (hb hby at_61) rfl ((if0 _ _).trans (feq hc69).2) (by decide) (by decide) k) ?_
    exact J66_8 _ _ (1 : Int32) (own_re fl) X68 eq68 N68
set_option maxRecDepth 65536 in
set_option maxHeartbeats 40000000 in
theorem comes_1 {Post : Tables → Env → Array Value → State → Outcome → State → Prop} (hpost : ∀ tb e args s v u, (limb_1_1.after args s (.returned v) u = true ∧ limb_1_2.after args s (.returned v) u = true ∧ True) → FrameEnd s (.returned v) u (Jvm.fieldLocs frame_1_writes args s ++ Jvm.arrayLocs frame_1_arrays args s ++ Jvm.staticLocs frame_1_statics s) 16 128 → Post tb e args s (.returned v) u) :
    ArmFor flags0 classFile x code maxLocals ret World_1 tables_1 room_1 Calls_1 rest_1 Pre_1 Post := by
  intro l hfl _ _ p e ha hc hk s m args below hf hA hF happ hP
  obtain ⟨hcalls, hrest, hpre⟩ := hP
  obtain ⟨-, -, -, hnamed, -, -, -, hat⟩ := (Spec.applies_iff hf).mp happ
  obtain ⟨hg, hn⟩ := and_e (Cond.before_iff.mp (show (Jvm.Cond.and given_1 narrow_1).before args s = true from hpre))
  obtain ⟨h1, h2⟩ := and_e hg
  obtain ⟨w0, w1, w2, rfl⟩ : ∃ w0 w1 w2 : Value, args = #[w0, w1, w2] := by
    have hs : args.size = 3 := by simpa [Cond.value, given_1] using h1
    obtain ⟨L⟩ := args
    match L, hs with
    | [w0, w1, w2], _ => exact ⟨w0, w1, w2, rfl⟩
  have hw := fun d (hd : d ∈ tables_1) => atoms_spec (ws := Jvm.Cond.code x code maxLocals ret :: tables_1) hat d (List.mem_cons_of_mem _ hd)
  have hfit : Fit s := fun {y c} hc i hi => by
    obtain ⟨ha, rfl⟩ := Array.getElem?_eq_some_iff.mp hc
    have q := List.all_eq_true.mp ((Array.all_eq_true_iff_forall_mem.mp hF) _ (Array.getElem_mem ha)) i (List.mem_range.mpr hi)
    simpa [Array.getElem?_eq_getElem hi] using q
  obtain ⟨ha0, hr0⟩ := and_e h2
  obtain ⟨rq, ev0⟩ := is_v ha0
  obtain rfl : w0 = (.int rq) := Option.some.inj ev0
  obtain ⟨ha1, hr1⟩ := and_e hr0
  obtain ⟨fl, ev1⟩ := is_v ha1
  obtain rfl : w1 = (.int fl) := Option.some.inj ev1
  obtain ⟨cc, ev2⟩ := is_v hr1
  obtain rfl : w2 = (.int cc) := Option.some.inj ev2
  obtain ⟨n, o, h1, h2, h3, _, L, rfl, hQ, hq⟩ := rm0 l s _ hw tables_1 rq fl cc s.heap s.heap.size (Nat.le_refl _)  p e ha hc hk s m _ below hf ((Spec.applies_iff_loose hf).mp happ).1 ⟨rfl, State.Warmed39.refl s, rfl⟩ trivial
  obtain ⟨rfl, N, -⟩ := hQ
  refine ⟨n, _, h1, h2, h3, hpost _ _ _ _ _ _ ⟨Cond.after_iff.mpr rfl, Cond.after_iff.mpr (eq_i res_at (Term.int_eval (1)) rfl), trivial⟩ ⟨hq.1, hq.2.1, (hq.2.2.sift fun y hy => Or.inr (N y hy)).mono (by decide) (by decide)⟩⟩
theorem main_1_1 : Claimed_1_1 := comes_1 fun _ _ _ _ _ _ h hF => ⟨h.1, hF⟩
theorem main_1_2 : Claimed_1_2 := comes_1 fun _ _ _ _ _ _ h hF => ⟨h.2.1, hF⟩
end Jvm.Pilot.@@N@@
namespace Jvm.Pilot.@@N@@
open Jvm Jvm.ClassFile Sem Op Lib Jvm.Free Jvm.Stand Jvm.Pilot.@@N@@.Jvm.D
/-! MADE BY PROGRAM (witnessworld.py) out of the Statement's table words and the real class files: 10 classes; the members and pool entries that the words name. The judged class is class 1, her method 1. -/
namespace start1
open Jvm.ClassFile
def u (s : String) : CpInfo := .utf8 (stringToUtf16 s)
/-- a pool by its gaps: so many unusable entries, then the entry; so many at the end -/
def gap : Nat → List CpInfo → List CpInfo
  | 0, r => r
  | n + 1, r => .unusable :: gap n r
def poolList (es : List (Nat × CpInfo)) (last : Nat) : List CpInfo := es.foldr (fun e r => gap e.1 (e.2 :: r)) (gap last [])
def pool (es : List (Nat × CpInfo)) (last : Nat) : Array CpInfo := ⟨poolList es last⟩
def fileOf (pool : Array CpInfo) (this : Nat) (attrs : Array Attribute := #[]) (ms : Array MethodInfo := #[]) (fl : Nat := 33) (sup : Nat := 0) (ifs : Array Nat := #[]) (fds : Array FieldInfo := #[]) : ClassFile where
  minorVersion := 0
  majorVersion := 65
  constantPool := pool
  accessFlags := fl
  thisClass := this
  superClass := sup
  interfaces := ifs
  fields := fds
  methods := ms
  attributes := attrs
def plain (name : String) (sup : Option ClassId) : Class where
  name := name
  kind := .ordinary
  loader := none
  accessFlags := 33
  super := sup
  interfaces := #[]
  cf := none
  fields := #[]
  methods := #[]
  instanceTypes := #[]
  staticTypes := #[]
  resolved := #[]
  callSites := []
  init := .initialized
  statics := none
  mirror := none

def pool0 : Array CpInfo := pool [(5, u "<init>"), (0, u "()V"), (1, .class_ 10), (1, u "java/lang/Object")] 113

def k0c0 : Code := { maxStack := 0, maxLocals := 1, code := object_method_1_code, exceptionTable := #[], attributes := #[] }
def k0m0 : Method := { name := "<init>", desc := "()V", sig := { parameters := [], returnType := none }, accessFlags := 1, code := some k0c0 }
/-- java/lang/Object -/
def k0 : Class := { plain "java/lang/Object" none with
  accessFlags := 33
  interfaces := #[]
  cf := some (fileOf pool0 8 #[] #[{ accessFlags := 1, nameIndex := 5, descriptorIndex := 6, attributes := #[] }] 33 0 #[] #[])
  fields := #[]
  methods := #[k0m0]
  instanceTypes := #[]
  staticTypes := #[]
  resolved := Array.replicate 124 none
  statics := none }

def pool1 : Array CpInfo := pool [(2, .class_ 4), (1, u "java/lang/Object"), (0, u "<init>"), (0, u "()V"), (0, .class_ 8), (0, u "com/example/interpoint/interpoint/giop/RequestHeader"), (0, .methodref 7 10), (0, .nameAndType 5 11), (0, u "(II[BLjava/lang/String;Ljava/util/List;)V"), (0, .methodref 7 13), (0, .nameAndType 14 15), (0, u "responseExpected"), (0, u "()Z"), (0, .methodref 7 17), (0, .nameAndType 18 15), (0, u "replyAwaited"), (0, .integer 2147483647), (0, .class_ 21), (0, u "com/example/interpoint/interpoint/giop/RequestHeaderResponseExpectedPinLaw"), (2, u "law"), (0, u "(III)Z")] 3

def k1m0 : Method := { name := "<init>", desc := "()V", sig := { parameters := [], returnType := none }, accessFlags := 1, code := none }
def k1c1 : Code := { maxStack := 7, maxLocals := 10, code := code, exceptionTable := #[], attributes := #[] }
def k1m1 : Method := { name := "law", desc := "(III)Z", sig := { parameters := [.int, .int, .int], returnType := some .boolean }, accessFlags := 9, code := some k1c1 }
/-- com/example/interpoint/interpoint/giop/RequestHeaderResponseExpectedPinLaw -/
def k1 : Class := { plain "com/example/interpoint/interpoint/giop/RequestHeaderResponseExpectedPinLaw" (some 0) with
  accessFlags := 49
  interfaces := #[]
  cf := some (fileOf pool1 20 #[] #[{ accessFlags := 1, nameIndex := 5, descriptorIndex := 6, attributes := #[] }, { accessFlags := 9, nameIndex := 24, descriptorIndex := 25, attributes := #[] }] 49 2 #[] #[])
  fields := #[]
  methods := #[k1m0, k1m1]
  instanceTypes := #[]
  staticTypes := #[]
  resolved := Array.replicate 29 none
  statics := none }

def pool2 : Array CpInfo := pool [(1, .methodref 2 3), (0, .class_ 4), (0, .nameAndType 5 6), (0, u "java/lang/Object"), (0, u "<init>"), (0, u "()V"), (0, .class_ 8), (0, u "java/lang/Record")] 13

def k2c0 : Code := { maxStack := 1, maxLocals := 1, code := jdk_30_method_1_code, exceptionTable := #[], attributes := #[] }
def k2m0 : Method := { name := "<init>", desc := "()V", sig := { parameters := [], returnType := none }, accessFlags := 4, code := some k2c0 }
/-- java/lang/Record -/
def k2 : Class := { plain "java/lang/Record" (some 0) with
  accessFlags := 1057
  interfaces := #[]
  cf := some (fileOf pool2 7 #[] #[{ accessFlags := 4, nameIndex := 5, descriptorIndex := 6, attributes := #[] }] 1057 2 #[] #[])
  fields := #[]
  methods := #[k2m0]
  instanceTypes := #[]
  staticTypes := #[]
  resolved := Array.replicate 22 none
  statics := none }

def pool3 : Array CpInfo := pool [(1, .methodref 2 3), (0, .class_ 4), (0, .nameAndType 5 6), (0, u "java/lang/Record"), (0, u "<init>"), (0, u "()V"), (0, .fieldref 8 9), (0, .class_ 10), (0, .nameAndType 11 12), (0, u "com/example/interpoint/interpoint/giop/RequestHeader"), (0, u "requestId"), (0, u "I"), (0, .fieldref 8 14), (0, .nameAndType 15 12), (0, u "responseFlags"), (0, .fieldref 8 17), (0, .nameAndType 18 19), (0, u "objectKey"), (0, u "[B"), (0, .fieldref 8 21), (0, .nameAndType 22 23), (0, u "operation"), (0, u "Ljava/lang/String;"), (0, .fieldref 8 25), (0, .nameAndType 26 27), (0, u "contexts"), (0, u "Ljava/util/List;"), (30, u "(II[BLjava/lang/String;Ljava/util/List;)V"), (70, u "SYNC_NONE"), (2, u "SYNC_WITH_SERVER"), (1, u "SYNC_WITH_TARGET"), (1, u "TARGET_REPLIES_FLAG"), (5, u "responseExpected"), (0, u "()Z"), (1, u "replyAwaited")] 32

def k3c0 : Code := { maxStack := 2, maxLocals := 6, code := prog_92_method_1_code, exceptionTable := #[], attributes := #[] }
def k3m0 : Method := { name := "<init>", desc := "(II[BLjava/lang/String;Ljava/util/List;)V", sig := { parameters := [.int, .int, (.array .byte), (.object "java/lang/String"), (.object "java/util/List")], returnType := none }, accessFlags := 1, code := some k3c0 }
def k3c1 : Code := { maxStack := 2, maxLocals := 1, code := prog_92_method_2_code, exceptionTable := #[], attributes := #[] }
def k3m1 : Method := { name := "responseExpected", desc := "()Z", sig := { parameters := [], returnType := some .boolean }, accessFlags := 1, code := some k3c1 }
def k3c2 : Code := { maxStack := 1, maxLocals := 1, code := prog_92_method_3_code, exceptionTable := #[], attributes := #[] }
def k3m2 : Method := { name := "replyAwaited", desc := "()Z", sig := { parameters := [], returnType := some .boolean }, accessFlags := 1, code := some k3c2 }
/-- com/example/interpoint/interpoint/giop/RequestHeader -/
def k3 : Class := { plain "com/example/interpoint/interpoint/giop/RequestHeader" (some 2) with
  accessFlags := 49
  interfaces := #[]
  cf := some (fileOf pool3 8 #[] #[{ accessFlags := 1, nameIndex := 5, descriptorIndex := 58, attributes := #[] }, { accessFlags := 1, nameIndex := 142, descriptorIndex := 143, attributes := #[] }, { accessFlags := 1, nameIndex := 145, descriptorIndex := 143, attributes := #[] }] 49 2 #[] #[{ accessFlags := 18, nameIndex := 11, descriptorIndex := 12, attributes := #[] }, { accessFlags := 18, nameIndex := 15, descriptorIndex := 12, attributes := #[] }, { accessFlags := 18, nameIndex := 18, descriptorIndex := 19, attributes := #[] }, { accessFlags := 18, nameIndex := 22, descriptorIndex := 23, attributes := #[] }, { accessFlags := 18, nameIndex := 26, descriptorIndex := 27, attributes := #[] }, { accessFlags := 25, nameIndex := 129, descriptorIndex := 12, attributes := #[] }, { accessFlags := 25, nameIndex := 132, descriptorIndex := 12, attributes := #[] }, { accessFlags := 25, nameIndex := 134, descriptorIndex := 12, attributes := #[] }, { accessFlags := 26, nameIndex := 136, descriptorIndex := 12, attributes := #[] }])
  fields := #[{ name := "requestId", type := .int, accessFlags := 18, slot := 0, constantValue := 0 }, { name := "responseFlags", type := .int, accessFlags := 18, slot := 1, constantValue := 0 }, { name := "objectKey", type := (.array .byte), accessFlags := 18, slot := 2, constantValue := 0 }, { name := "operation", type := (.object "java/lang/String"), accessFlags := 18, slot := 3, constantValue := 0 }, { name := "contexts", type := (.object "java/util/List"), accessFlags := 18, slot := 4, constantValue := 0 }, { name := "SYNC_NONE", type := .int, accessFlags := 25, slot := 0, constantValue := 0 }, { name := "SYNC_WITH_SERVER", type := .int, accessFlags := 25, slot := 1, constantValue := 0 }, { name := "SYNC_WITH_TARGET", type := .int, accessFlags := 25, slot := 2, constantValue := 0 }, { name := "TARGET_REPLIES_FLAG", type := .int, accessFlags := 26, slot := 3, constantValue := 0 }]
  methods := #[k3m0, k3m1, k3m2]
  instanceTypes := #[.int, .int, (.array .byte), (.object "java/lang/String"), (.object "java/util/List")]
  staticTypes := #[.int, .int, .int, .int]
  resolved := Array.replicate 178 none
  statics := none }

def pool4 : Array CpInfo := pool [(1, u "java/lang/Cloneable"), (0, .class_ 1), (0, u "java/lang/Object"), (0, .class_ 3)] 3

/-- java/lang/Cloneable -/
def k4 : Class := { plain "java/lang/Cloneable" (some 0) with
  accessFlags := 1537
  interfaces := #[]
  cf := some (fileOf pool4 2 #[] #[] 1537 4 #[] #[])
  fields := #[]
  methods := #[]
  instanceTypes := #[]
  staticTypes := #[]
  resolved := Array.replicate 8 none
  statics := none }

def pool5 : Array CpInfo := pool [(1, u "java/io/Serializable"), (0, .class_ 1), (0, u "java/lang/Object"), (0, .class_ 3)] 3

/-- java/io/Serializable -/
def k5 : Class := { plain "java/io/Serializable" (some 0) with
  accessFlags := 1537
  interfaces := #[]
  cf := some (fileOf pool5 2 #[] #[] 1537 4 #[] #[])
  fields := #[]
  methods := #[]
  instanceTypes := #[]
  staticTypes := #[]
  resolved := Array.replicate 8 none
  statics := none }

/-- the primitive byte -/
def k6 : Class := { plain "byte" none with kind := .primitive 'B', accessFlags := 0x411 }
/-- [B -/
def k7 : Class := { plain "[B" (some 0) with kind := .array 6 .byte, interfaces := #[4, 5], accessFlags := 1041 }

/-- the primitive int -/
def k8 : Class := { plain "int" none with kind := .primitive 'I', accessFlags := 0x411 }
/-- [I -/
def k9 : Class := { plain "[I" (some 0) with kind := .array 8 .int, interfaces := #[4, 5], accessFlags := 1041 }

def heap : Heap := #[]
def classes : Array Class := #[k0, k1, k2, k3, k4, k5, k6, k7, k8, k9]
def interned : List (Array UInt16 × Addr) := []
def slotsUsed : Nat := 0
def theMethod : MethodId := ⟨1, 1⟩
def args0 : Array Value := #[.int 1, .int 2, .int 5]
def aboutOver (below : List Frame) : State where
  vm := { classes := classes, interned := interned.toArray }
  heap := heap
  slotsUsed := slotsUsed
  threads := #[{ frames := .invoking theMethod args0 :: below }]
def below0 : List Frame := [.native { method := ⟨0, 0⟩, args := #[] }]
def about1 : State := aboutOver below0
def p0 : Program := .bare "" "" ""
def e0 : Env := launch0.env 0 0 0
theorem w_frames : about1.frames = Frame.invoking theMethod args0 :: below0 := rfl
set_option maxRecDepth 65536 in
theorem w_args : argsFit about1.vm theMethod args0 = true := by decide +kernel
set_option maxRecDepth 65536 in
theorem w_heap : heapFits about1 = true := by decide +kernel
set_option maxRecDepth 65536 in
theorem w_runnable : about1.curStatus? = some .runnable := by decide +kernel
set_option maxRecDepth 65536 in
theorem w_alone : about1.alone = true := by decide +kernel
set_option maxRecDepth 65536 in
theorem w_named : about1.methodNamed? x = some theMethod := by decide +kernel
set_option maxRecDepth 65536 in
theorem w_hears : about1.hears theMethod below0 = true := by decide +kernel
set_option maxRecDepth 65536 in
theorem w_ripe : about1.ripe theMethod args0 below0 = true := by decide +kernel
theorem w_running : about1.status = .running := rfl
set_option maxRecDepth 65536 in
theorem w_room : about1.hasRoom e0.platform room_1 = true :=
  launch0.hasRoom_least _ room_1 (by decide +kernel) (by decide +kernel) (by decide +kernel) (by decide +kernel) (by decide +kernel) (by decide +kernel)
theorem allAtoms_all (ts : List Jvm.Cond) (a : Array Jvm.Value) (st : Jvm.State) : (allAtoms ts).before a st = ts.all (fun c => c.before a st) := by
  induction ts with
  | nil => rfl
  | cons c t ih =>
    show (Jvm.Cond.and c (allAtoms t)).before a st = _
    rw [Jvm.Cond.before_and, ih, List.all_cons]
def words1 : List Jvm.Cond := Jvm.Cond.code x code maxLocals ret :: tables_1
/-- a 'code' word, met by the world's own term for the bytes: nothing is compared byte by byte -/
theorem code_word {y : MethodName} {bytes : ByteArray} {mx : Nat} {rt : Option FieldType} {a : Array Value} {s : State} {m : MethodId} {meth : Method} {c : Code} (h1 : s.methodNamed? y = some m) (h2 : s.vm.method? m = some meth) (h3 : meth.code = some c) (h4 : c.code = bytes)
    (h5 : (c.maxLocals == mx && c.exceptionTable.isEmpty && decide (c.maxStack ≤ mostOperands) && decide (meth.sig.returnType = rt) && !meth.locks && decide (parseMethodDescriptor y.desc = some meth.sig)) = true) : (Jvm.Cond.code y bytes mx rt).before a s = true := by
  simp only [Bool.and_eq_true, beq_iff_eq, Bool.not_eq_true', decide_eq_true_eq] at h5
  obtain ⟨⟨⟨⟨⟨g1, g2⟩, g3⟩, g4⟩, g5⟩, g6⟩ := h5
  simp [Cond.before, Cond.holds, Cond.value, h1, h2, h3, h4, g1, g2, g3, g4, g5, g6]
def isCode : Jvm.Cond → Bool
  | .code _ _ _ _ => true
  | _ => false
theorem all_split {L : List Jvm.Cond} {P : Jvm.Cond → Bool} (h1 : L.all (fun c => isCode c || P c) = true) (h2 : ∀ c ∈ L.filter isCode, P c = true) : L.all P = true := by
  refine List.all_eq_true.mpr fun c hc => ?_
  have h := List.all_eq_true.mp h1 c hc
  rcases Bool.eq_false_or_eq_true (isCode c) with hi | hi
  · exact h2 c (List.mem_filter.mpr ⟨hc, hi⟩)
  · simpa [hi] using h
set_option maxRecDepth 65536 in
theorem w_c0 : (Jvm.Cond.code x code maxLocals ret).before args0 about1 = true := code_word (m := ⟨1, 1⟩) (meth := k1m1) (c := k1c1) (by decide +kernel) rfl rfl rfl (by decide +kernel)
set_option maxRecDepth 65536 in
theorem w_c1 : (Jvm.Cond.code ({ cls := "com/example/interpoint/interpoint/giop/RequestHeader", name := "<init>", desc := "(II[BLjava/lang/String;Ljava/util/List;)V" } : Jvm.MethodName) prog_92_method_1_code (6 : Nat) (Option.none : Option Jvm.ClassFile.FieldType)).before args0 about1 = true := code_word (m := ⟨3, 0⟩) (meth := k3m0) (c := k3c0) (by decide +kernel) rfl rfl rfl (by decide +kernel)
set_option maxRecDepth 65536 in
theorem w_c2 : (Jvm.Cond.code ({ cls := "java/lang/Record", name := "<init>", desc := "()V" } : Jvm.MethodName) jdk_30_method_1_code (1 : Nat) (Option.none : Option Jvm.ClassFile.FieldType)).before args0 about1 = true := code_word (m := ⟨2, 0⟩) (meth := k2m0) (c := k2c0) (by decide +kernel) rfl rfl rfl (by decide +kernel)
set_option maxRecDepth 65536 in
theorem w_c3 : (Jvm.Cond.code ({ cls := "java/lang/Object", name := "<init>", desc := "()V" } : Jvm.MethodName) object_method_1_code (1 : Nat) (Option.none : Option Jvm.ClassFile.FieldType)).before args0 about1 = true := code_word (m := ⟨0, 0⟩) (meth := k0m0) (c := k0c0) (by decide +kernel) rfl rfl rfl (by decide +kernel)
set_option maxRecDepth 65536 in
theorem w_c4 : (Jvm.Cond.code ({ cls := "com/example/interpoint/interpoint/giop/RequestHeader", name := "responseExpected", desc := "()Z" } : Jvm.MethodName) prog_92_method_2_code (1 : Nat) (Option.some Jvm.ClassFile.FieldType.boolean)).before args0 about1 = true := code_word (m := ⟨3, 1⟩) (meth := k3m1) (c := k3c1) (by decide +kernel) rfl rfl rfl (by decide +kernel)
set_option maxRecDepth 65536 in
theorem w_c5 : (Jvm.Cond.code ({ cls := "com/example/interpoint/interpoint/giop/RequestHeader", name := "replyAwaited", desc := "()Z" } : Jvm.MethodName) prog_92_method_3_code (1 : Nat) (Option.some Jvm.ClassFile.FieldType.boolean)).before args0 about1 = true := code_word (m := ⟨3, 2⟩) (meth := k3m2) (c := k3c2) (by decide +kernel) rfl rfl rfl (by decide +kernel)
def codes1 : List Jvm.Cond := [Jvm.Cond.code x code maxLocals ret, Jvm.Cond.code ({ cls := "com/example/interpoint/interpoint/giop/RequestHeader", name := "<init>", desc := "(II[BLjava/lang/String;Ljava/util/List;)V" } : Jvm.MethodName) prog_92_method_1_code (6 : Nat) (Option.none : Option Jvm.ClassFile.FieldType), Jvm.Cond.code ({ cls := "java/lang/Record", name := "<init>", desc := "()V" } : Jvm.MethodName) jdk_30_method_1_code (1 : Nat) (Option.none : Option Jvm.ClassFile.FieldType), Jvm.Cond.code ({ cls := "java/lang/Object", name := "<init>", desc := "()V" } : Jvm.MethodName) object_method_1_code (1 : Nat) (Option.none : Option Jvm.ClassFile.FieldType), Jvm.Cond.code ({ cls := "com/example/interpoint/interpoint/giop/RequestHeader", name := "responseExpected", desc := "()Z" } : Jvm.MethodName) prog_92_method_2_code (1 : Nat) (Option.some Jvm.ClassFile.FieldType.boolean), Jvm.Cond.code ({ cls := "com/example/interpoint/interpoint/giop/RequestHeader", name := "replyAwaited", desc := "()Z" } : Jvm.MethodName) prog_92_method_3_code (1 : Nat) (Option.some Jvm.ClassFile.FieldType.boolean)]
set_option maxRecDepth 65536 in
theorem codes_eq : words1.filter isCode = codes1 := rfl
theorem w_codes : ∀ c ∈ words1.filter isCode, c.before args0 about1 = true := by
  rw [codes_eq]
  intro c hc
  simp only [codes1, List.mem_cons, List.not_mem_nil, or_false] at hc
  rcases hc with rfl | rfl | rfl | rfl | rfl | rfl
  · exact w_c0
  · exact w_c1
  · exact w_c2
  · exact w_c3
  · exact w_c4
  · exact w_c5
set_option maxRecDepth 65536 in
theorem w_t1 : (words1.take 24).all (fun c => isCode c || c.before args0 about1) = true := by decide +kernel
set_option maxRecDepth 65536 in
theorem w_t2 : (words1.drop 24).all (fun c => isCode c || c.before args0 about1) = true := by decide +kernel
theorem w_tables : (allAtoms (Jvm.Cond.code x code maxLocals ret :: tables_1)).before args0 about1 = true := by
  rw [allAtoms_all]
  show words1.all (fun c => c.before args0 about1) = true
  refine all_split ?_ w_codes
  rw [← List.take_append_drop 24 words1, List.all_append, w_t1, w_t2]
  rfl
set_option maxRecDepth 65536 in
theorem w_case : (Jvm.Cond.and given_1 narrow_1).before args0 about1 = true := by decide +kernel
theorem w_applies : (headSpec (Jvm.Cond.code x code maxLocals ret :: tables_1) room_1).applies x e0.platform about1 = true :=
  (Spec.applies_iff w_frames).mpr ⟨w_running, w_runnable, w_alone, w_named, w_hears, w_ripe, w_room, w_tables⟩
theorem atStart : AtStart classFile x code maxLocals ret World_1 tables_1 room_1 Calls_1 rest_1 Pre_1 launch0 p0 e0 about1 theMethod args0 below0 :=
  ⟨lists_1, trivial, launch0.admits_env _ _ _, launch0.least_env, fairChoices_fair.cas, fairChoices_fair.clock, w_frames, w_args, w_heap, w_applies, trivial, trivial, w_case⟩
end start1
theorem witness_1 : WitnessClaimed_1 := ⟨start1.p0, start1.e0, start1.about1, start1.theMethod, start1.args0, start1.below0, start1.atStart⟩
end Jvm.Pilot.@@N@@
