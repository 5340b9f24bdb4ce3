import JvmDerived
import JvmDerived.Pilot.@@N@@Statement
import JvmDerived.Pilot.@@N@@Code
set_option linter.unusedVariables false
set_option linter.unusedSimpArgs false
namespace Jvm.Pilot.@@N@@
open Jvm Jvm.ClassFile Sem Op Lib Jvm.Free Jvm.Stand Jvm.LawKit Jvm.RoadKit Bundle Jvm.Pilot.@@N@@.Jvm.D
abbrev own_Go (tb : Tables) (e : Env) (below : List Frame) (P : State → Outcome → Prop) (st : State) : Prop := ∃ U o, Steps tb e below st U ∧ P U o
theorem own_go {tb : Tables} {e : Env} {below : List Frame} {P : State → Outcome → Prop} {st st' : State} (h : ∀ t, Steps tb e below st' t → Steps tb e below st t) (k : own_Go tb e below P st') : own_Go tb e below P st := by
  obtain ⟨U, o, h1, h2⟩ := k; exact ⟨U, o, h _ h1, h2⟩
theorem own_cat {v : Value} (h : v.isRef = true) : v.category = 1 := by rcases ref_cases h with rfl | ⟨a, rfl⟩ <;> rfl
theorem own_nar_ref {t : FieldType} {v : Value} (h : v.isRef = true) : narrow t v = v := by rcases ref_cases h with rfl | ⟨a, rfl⟩ <;> cases t <;> rfl
theorem own_fit_ref {t : FieldType} {v : Value} (h : v.isRef = true) (ht : t.isReference = true := by rfl) : fits t v = true := by rcases ref_cases h with rfl | ⟨a, rfl⟩ <;> cases t <;> first | rfl | (cases ht)
theorem own_widen {p : Program} {l : Launch} {e : Env} {R : Room} {s : State} {m : MethodId} {args : Array Value} {below : List Frame} {meth : Method} {c : Code} {T : State} {locs : List Loc} {cells slots cells' slots' : Nat} (X : Stand p l e R s m args below meth c T locs cells slots) (h1 : cells ≤ cells') (h2 : slots ≤ slots') : Stand p l e R s m args below meth c T locs cells' slots' :=
  { X with same := X.same.mono h1 h2 }
theorem own_sel_priv {s : State} {args : Array Value} {y : MethodName} {n : Nat} (wi : (Jvm.Cond.instantiable y.cls n).before args s = true) (hp : s.PrivateAt y) (hinst : (Jvm.Cond.instanceMethod y).before args s = true) (hy : y.cls ≠ "java/lang/invoke/MethodHandle" ∧ y.cls ≠ "java/lang/invoke/VarHandle") : (Jvm.Cond.selects y.cls y y).before args s = true := by
  obtain ⟨c, k, h1, h2, -, h4, -⟩ := Cond.instantiable_spec wi
  exact selects_self_of_private h1 h2 (Bool.or_eq_false_iff.mp h4).1 hp hinst hy
theorem own_sta_keep {Z : State} {h h' : Heap} {ws : List Addr} {C n d : String} {v : Value} (F : Sta Z h C n d v) (K : Keep h h' ws) (q : ∀ x ∈ ws, ∀ c : Cell, h[x]? = some c → c.vm.isStatics = false) : Sta Z h' C n d v := by
  obtain ⟨cf, i, k, f, st, cell, h1, h2, h3, h4, h5, h6, h7⟩ := F
  exact ⟨cf, i, k, f, st, cell, h1, h2, h3, h4, K.2.1 st cell h5 (fun z => by rw [q st z cell h5] at h6; cases h6), h6, h7⟩
theorem own_pl_exa {Z : State} {h : Heap} {a : Addr} {C : String} (F : Exa Z h a C) : ∀ c : Cell, h[a]? = some c → c.vm.isStatics = false := fun c hc => by
  obtain ⟨c1, k, h1, -, -, h4, -⟩ := F; cases h1.symm.trans hc; exact h4
theorem own_pl_fld {Z : State} {h : Heap} {a : Addr} {C n d : String} {v : Value} (F : Fld Z h a C n d v) : ∀ c : Cell, h[a]? = some c → c.vm.isStatics = false := old_plain F
theorem own_pl_arv {Z : State} {h : Heap} {a : Addr} {k : ClassId} {ty : FieldType} {n : Int32} {vs : List Value} {d : Value} (F : Arv Z h a k ty n vs d) : ∀ c : Cell, h[a]? = some c → c.vm.isStatics = false := fun c hc => by
  obtain ⟨c1, A, -⟩ := F; cases A.1.symm.trans hc; exact A.plain
theorem own_mod3 (x : Int32) : x % 3 = 0 ∨ x % 3 = 1 ∨ x % 3 = 2 ∨ x < 0 := by
  have h := Int32.toInt_mod x 3
  have e3 : (3 : Int32).toInt = 3 := rfl
  rw [e3] at h
  by_cases hx : x < 0
  · exact Or.inr (Or.inr (Or.inr hx))
  · have h0 : 0 ≤ x.toInt := by rw [Int32.lt_iff_toInt_lt] at hx; have : (0 : Int32).toInt = 0 := rfl; omega
    rw [Int.tmod_eq_emod_of_nonneg h0] at h
    have h2 : (x % 3).toInt = 0 ∨ (x % 3).toInt = 1 ∨ (x % 3).toInt = 2 := by omega
    rcases h2 with h | h | h
    · exact Or.inl (Int32.toInt_inj.mp h)
    · exact Or.inr (Or.inl (Int32.toInt_inj.mp h))
    · exact Or.inr (Or.inr (Or.inl (Int32.toInt_inj.mp h)))
theorem own_pos (x : Int32) : ¬ (x &&& 2147483647) < 0 := by
  have := (c_and x 2147483647 (by decide)).1
  rw [Int32.lt_iff_toInt_lt]; have e : (0 : Int32).toInt = 0 := rfl; omega
theorem d4_0 : decode jdk_71_method_1_code 0 = .ok (.aload_n 0, 1) := by decide +kernel
theorem d4_1 : decode jdk_71_method_1_code 1 = .ok (.invokespecial 1, 3) := by decide +kernel
theorem d4_4 : decode jdk_71_method_1_code 4 = .ok (.return_, 1) := by decide +kernel
theorem pn_4 : plainName "java/util/AbstractMap" = true := by first | (simp [plainName, overriddenIn]; done) | decide +kernel
theorem ef_rm4 (m : MethodId) (x0 : Addr) : entryFrame m #[(.ref x0)] 1 = mkF m 0 #[.val (.ref x0)] [] := by first | (simp [entryFrame, mkF, argsToLocals, Value.category]; done) | rfl
def Qrm4 (Z : State) (a1 : Addr) (h0 : Heap) (n0 : Nat) (v : Option Value) (h : Heap) (L : List Loc) : Prop := (v = none) ∧ (Fr n0 L) ∧ (h = h0)
set_option maxRecDepth 65536 in
set_option maxHeartbeats 40000000 in
theorem rm4 (l : Launch) (Z : State) (a0 : Array Value) (hw : ∀ d ∈ tables_1, d.before a0 Z = true) (ws : List Jvm.Cond) (a1 : Addr) (h0 : Heap) (n0 : Nat) (Z0 : n0 ≤ h0.size)  :
    MetFree l (⟨"java/util/AbstractMap", "<init>", "()V"⟩ : MethodName) (head1 (Jvm.Cond.code (⟨"java/util/AbstractMap", "<init>", "()V"⟩ : MethodName) jdk_71_method_1_code 1 none :: ws) ({ frames := 1, cells := 0, slots := 0, locals := 12 } : Room)) (fun a U => a = #[(.ref a1)] ∧ Z.Warmed39 U.vm ∧ U.heap = h0) (fun _ _ _ _ _ => True) (fun _ U o U' => ∃ v L, o = .returned v ∧ Qrm4 Z a1 h0 n0 v U'.heap L ∧ FrameEnd U o U' L ({ frames := 1, cells := 0, slots := 0, locals := 12 } : Room).cells ({ frames := 1, cells := 0, slots := 0, locals := 12 } : Room).slots) := by
  refine MetFree.of_bodySF (plainFor_of_name pn_4) hisR ?_
  intro p e s m args below meth c s₁ Bd hml0 hP0 hK
  obtain ⟨rfl, hZ, hh⟩ := hP0
  have hx := Bd.exec
  have hby := Bd.bytes
  have hml : c.maxLocals = 1 := hml0
  have hown : s.vm.findClass "java/util/AbstractMap" = some m.cls := findClass_of_methodNamed Bd.named
  have hnm := (name_of_methodNamed Bd.named Bd.method).1
  have X0 : Stand p l e ({ frames := 1, cells := 0, slots := 0, locals := 12 } : Room) s m #[(.ref a1)] below meth c s₁ [] 0 0 := Stand.of_body Bd
  have e0 : s₁.heap = h0 := by rw [← hh, Bd.state]; rfl
  have N0 := Fr.nil n0
  suffices own_H : ∀ (P : State → Outcome → Prop), (∀ U o, U.status = .running → Ended U below o → (∃ v L, o = .returned v ∧ Qrm4 Z a1 h0 n0 v U.heap L ∧ FrameEnd s o U L ({ frames := 1, cells := 0, slots := 0, locals := 12 } : Room).cells ({ frames := 1, cells := 0, slots := 0, locals := 12 } : Room).slots) → P U o) → own_Go p.tables e below P (s₁.setTop (mkF m 0 #[.val (.ref a1)] [])) from own_go (fun _ k => castTop (ef_rm4 m a1) k) (own_H _ (fun U o h1 h2 h3 => ⟨h1, h2, h3⟩))
  intro P hP
  refine own_go (st' := s₁.setTop (mkF m 1 #[.val (.ref a1)] [(.ref a1)])) (fun _ k => XS.aloadN X0.here hx rfl (hb hby d4_0) rfl rfl k) ?_
  obtain ⟨T1, X1, e1, st1⟩ := initO X0 hx hZ hown (hw _ (List.mem_of_getElem? (i := 22) rfl)) (hw _ (List.mem_of_getElem? (i := 8) rfl)) (hw _ (List.mem_of_getElem? (i := 9) rfl)) e0 (g := (mkF m 1 #[.val (.ref a1)] [(.ref a1)])) rfl (by rw [hml]; rfl) rfl (hb hby d4_1) (by decide) (W := 0) (by show 2 * 0 + _ ≤ _; exact Nat.le_of_eq rfl) (by decide)
  refine own_go (st' := T1.setTop (mkF m 4 #[.val (.ref a1)] [])) (st1) ?_
  obtain ⟨fs, hr, hrun, hended, hW, hsame⟩ := X1.leave (v := none) (fun _ => rfl)
  refine ⟨_, _, ?_, hP _ _ hrun hended ⟨_, _, rfl, ?_, ⟨_, rfl⟩, hW, hsame.mono (by decide) (by decide)⟩⟩
  · exact X1.returnOut hx Bd.returns (hb hby d4_4) hr
  · show Qrm4 Z a1 h0 n0 _ T1.heap _
    rw [e1]
    exact ⟨rfl, N0, rfl⟩
theorem pd_0 : parseMethodDescriptor "()V" = some ⟨[], none⟩ := by decide +kernel
theorem d3_0 : decode jdk_69_method_7_code 0 = .ok (.aload_n 0, 1) := by decide +kernel
theorem d3_1 : decode jdk_69_method_7_code 1 = .ok (.invokespecial 43, 3) := by decide +kernel
theorem d3_4 : decode jdk_69_method_7_code 4 = .ok (.aload_n 0, 1) := by decide +kernel
theorem d3_5 : decode jdk_69_method_7_code 5 = .ok (.ldc 92, 2) := by decide +kernel
theorem d3_7 : decode jdk_69_method_7_code 7 = .ok (.putfield 81, 3) := by decide +kernel
theorem d3_10 : decode jdk_69_method_7_code 10 = .ok (.return_, 1) := by decide +kernel
theorem pn_3 : plainName "java/util/HashMap" = true := by first | (simp [plainName, overriddenIn]; done) | decide +kernel
theorem ef_rm3 (m : MethodId) (x0 : Addr) : entryFrame m #[(.ref x0)] 1 = mkF m 0 #[.val (.ref x0)] [] := by first | (simp [entryFrame, mkF, argsToLocals, Value.category]; done) | rfl
def Qrm3 (Z : State) (a1 : Addr) (u2 : UInt32) (h0 : Heap) (n0 : Nat) (v : Option Value) (h : Heap) (L : List Loc) : Prop := (v = none) ∧ (Fr n0 L) ∧ (Keep h0 h [a1]) ∧ (Exa Z h a1 "java/util/HashMap")
set_option maxRecDepth 65536 in
set_option maxHeartbeats 40000000 in
theorem rm3 (l : Launch) (Z : State) (a0 : Array Value) (hw : ∀ d ∈ tables_1, d.before a0 Z = true) (ws : List Jvm.Cond) (a1 : Addr) (u2 : UInt32) (h0 : Heap) (n0 : Nat) (Z0 : n0 ≤ h0.size) (pr1 : Exa Z h0 a1 "java/util/HashMap") (pr2 : Fld Z h0 a1 "java/util/HashMap" "loadFactor" "F" (.float u2)) (pr3 : n0 ≤ a1) :
    MetFree l (⟨"java/util/HashMap", "<init>", "()V"⟩ : MethodName) (head1 (Jvm.Cond.code (⟨"java/util/HashMap", "<init>", "()V"⟩ : MethodName) jdk_69_method_7_code 1 none :: ws) ({ frames := 2, cells := 0, slots := 0, locals := 24 } : Room)) (fun a U => a = #[(.ref a1)] ∧ Z.Warmed39 U.vm ∧ U.heap = h0) (fun _ _ _ _ _ => True) (fun _ U o U' => ∃ v L, o = .returned v ∧ Qrm3 Z a1 u2 h0 n0 v U'.heap L ∧ FrameEnd U o U' L ({ frames := 2, cells := 0, slots := 0, locals := 24 } : Room).cells ({ frames := 2, cells := 0, slots := 0, locals := 24 } : Room).slots) := by
  refine MetFree.of_bodySF (plainFor_of_name pn_3) hisR ?_
  intro p e s m args below meth c s₁ Bd hml0 hP0 hK
  obtain ⟨rfl, hZ, hh⟩ := hP0
  have hx := Bd.exec
  have hby := Bd.bytes
  have hml : c.maxLocals = 1 := hml0
  have hown : s.vm.findClass "java/util/HashMap" = some m.cls := findClass_of_methodNamed Bd.named
  have hnm := (name_of_methodNamed Bd.named Bd.method).1
  have X0 : Stand p l e ({ frames := 2, cells := 0, slots := 0, locals := 24 } : Room) s m #[(.ref a1)] below meth c s₁ [] 0 0 := Stand.of_body Bd
  have e0 : s₁.heap = h0 := by rw [← hh, Bd.state]; rfl
  have N0 := Fr.nil n0
  suffices own_H : ∀ (P : State → Outcome → Prop), (∀ U o, U.status = .running → Ended U below o → (∃ v L, o = .returned v ∧ Qrm3 Z a1 u2 h0 n0 v U.heap L ∧ FrameEnd s o U L ({ frames := 2, cells := 0, slots := 0, locals := 24 } : Room).cells ({ frames := 2, cells := 0, slots := 0, locals := 24 } : Room).slots) → P U o) → own_Go p.tables e below P (s₁.setTop (mkF m 0 #[.val (.ref a1)] [])) from own_go (fun _ k => castTop (ef_rm3 m a1) k) (own_H _ (fun U o h1 h2 h3 => ⟨h1, h2, h3⟩))
  intro P hP
  have lt_a1 : @LT.lt Nat _ a1 h0.size := pr1.lt
  refine own_go (st' := s₁.setTop (mkF m 1 #[.val (.ref a1)] [(.ref a1)])) (fun _ k => XS.aloadN X0.here hx rfl (hb hby d3_0) rfl rfl k) ?_
  obtain ⟨_, _, ⟨T1, LC1, kC1, nC1⟩, -, X1, ⟨Lc1, hQ1, lq1, yq1, zq1⟩, st1⟩ := X0.specialBack hx (y := (⟨"java/util/AbstractMap", "<init>", "()V"⟩ : MethodName)) rfl hown (mvT hZ (hw _ (List.mem_of_getElem? (i := 16) rfl))) (mvT hZ (hw _ (List.mem_of_getElem? (i := 17) rfl))) (mvT hZ (hw _ (List.mem_of_getElem? (i := 21) rfl))) (by decide) (backOf (W := 0) (rm4 l Z a0 hw [] a1 h0 n0 (by omega) ) hZ (hw _ (List.mem_of_getElem? (i := 21) rfl)) (hw _ (List.mem_of_getElem? (i := 20) rfl)) (by decide) (by decide)) (g := (mkF m 1 #[.val (.ref a1)] [(.ref a1)])) rfl (by rw [hml]; rfl) (Steps.refl _) (a := a1) (argsL := []) (rest := []) (lenOf pd_0 rfl) rfl (by show 2 * 0 + _ ≤ _; exact Nat.le_of_eq rfl) (hb hby d3_1) (fun _ _ => ⟨rfl, e0, (by decide : 0 + 0 ≤ _), (by decide : 0 + 0 ≤ _)⟩)
  dsimp only [Pt.U, Pt.locs, Pt.cells, Pt.slots] at X1 lq1 yq1 zq1 st1 hQ1
  subst lq1 yq1 zq1
  obtain ⟨rfl, Nq1, eq1⟩ := hQ1
  have N1 := Fr.app N0 Nq1
  refine own_go (st' := T1.setTop (mkF m 4 #[.val (.ref a1)] [])) (fun _ k => st1.trans k) ?_
  refine own_go (st' := T1.setTop (mkF m 5 #[.val (.ref a1)] [(.ref a1)])) (fun _ k => XS.aloadN X1.here hx rfl (hb hby d3_4) rfl rfl k) ?_
  refine own_go (st' := T1.setTop (mkF m 7 #[.val (.ref a1)] [(.float (1061158912 : UInt32)), (.ref a1)])) (X1.ldcFloatC hx hown (mvT hZ (hw _ (List.mem_of_getElem? (i := 23) rfl))) (g := (mkF m 5 #[.val (.ref a1)] [(.ref a1)])) rfl (hb hby d3_5)) ?_
  obtain ⟨T2, h2, X2, e2, W2, st2⟩ := putF X1 hx hZ hown (host := "") (Or.inl (hw _ (List.mem_of_getElem? (i := 24) rfl))) Via.refl eq1 pr2 pr1 (Or.inr ⟨(hw _ (List.mem_of_getElem? (i := 25) rfl)), rfl, hnm⟩) (hw _ (List.mem_of_getElem? (i := 11) rfl)) (ty := .float) (by decide) rfl rfl (g := (mkF m 7 #[.val (.ref a1)] [(.float (1061158912 : UInt32)), (.ref a1)])) rfl rfl (hb hby d3_7)
  have sz2 : h2.size = h0.size := W2.size
  have N2 := Fr.snoc X2 N1 (by omega)
  have f2 : Fld Z h2 a1 "java/util/HashMap" "loadFactor" "F" (.float (1061158912 : UInt32)) := pr2.same W2
  refine own_go (st' := T2.setTop (mkF m 10 #[.val (.ref a1)] [])) (st2) ?_
  obtain ⟨fs, hr, hrun, hended, hW, hsame⟩ := X2.leave (v := none) (fun _ => rfl)
  refine ⟨_, _, ?_, hP _ _ hrun hended ⟨_, _, rfl, ?_, ⟨_, rfl⟩, hW, hsame.mono (by decide) (by decide)⟩⟩
  · exact X2.returnOut hx Bd.returns (hb hby d3_10) hr
  · show Qrm3 Z a1 u2 h0 n0 _ T2.heap _
    have c4 : Exa Z h2 a1 "java/util/HashMap" := (pr1.wr W2)
    rw [e2]
    exact ⟨rfl, N2, ((Keep.refl h0 [a1]).wr W2 (Or.inl (List.mem_of_getElem? (i := 0) rfl))), c4⟩
theorem d1_0 : decode prog_1_method_1_code 0 = .ok (.aload_n 0, 1) := by decide +kernel
theorem d1_1 : decode prog_1_method_1_code 1 = .ok (.invokespecial 1, 3) := by decide +kernel
theorem d1_4 : decode prog_1_method_1_code 4 = .ok (.aload_n 0, 1) := by decide +kernel
theorem d1_5 : decode prog_1_method_1_code 5 = .ok (.new 7, 3) := by decide +kernel
theorem d1_8 : decode prog_1_method_1_code 8 = .ok (.dup, 1) := by decide +kernel
theorem d1_9 : decode prog_1_method_1_code 9 = .ok (.invokespecial 9, 3) := by decide +kernel
theorem d1_12 : decode prog_1_method_1_code 12 = .ok (.putfield 10, 3) := by decide +kernel
theorem d1_15 : decode prog_1_method_1_code 15 = .ok (.aload_n 0, 1) := by decide +kernel
theorem d1_16 : decode prog_1_method_1_code 16 = .ok (.bipush 16, 2) := by decide +kernel
theorem d1_18 : decode prog_1_method_1_code 18 = .ok (.anewarray 2, 3) := by decide +kernel
theorem d1_21 : decode prog_1_method_1_code 21 = .ok (.putfield 16, 3) := by decide +kernel
theorem d1_24 : decode prog_1_method_1_code 24 = .ok (.aload_n 0, 1) := by decide +kernel
theorem d1_25 : decode prog_1_method_1_code 25 = .ok (.bipush 16, 2) := by decide +kernel
theorem d1_27 : decode prog_1_method_1_code 27 = .ok (.newarray .int, 2) := by decide +kernel
theorem d1_29 : decode prog_1_method_1_code 29 = .ok (.putfield 20, 3) := by decide +kernel
theorem d1_32 : decode prog_1_method_1_code 32 = .ok (.return_, 1) := by decide +kernel
theorem pn_1 : plainName "com/example/greenwood/greenwood/Environment" = true := by first | (simp [plainName, overriddenIn]; done) | decide +kernel
theorem ef_rm1 (m : MethodId) (x0 : Addr) : entryFrame m #[(.ref x0)] 1 = mkF m 0 #[.val (.ref x0)] [] := by first | (simp [entryFrame, mkF, argsToLocals, Value.category]; done) | rfl
def Qrm1 (Z : State) (a1 : Addr) (h0 : Heap) (n0 : Nat) (v : Option Value) (h : Heap) (L : List Loc) : Prop := ∃ (rl : Addr) (rs : Addr) (kl : ClassId) (ks : ClassId), (v = none) ∧ (Fr n0 L) ∧ (Keep h0 h [a1]) ∧ (Exa Z h a1 "com/example/greenwood/greenwood/Environment") ∧ (Fld Z h a1 "com/example/greenwood/greenwood/Environment" "openScopes" "I" (.int (0 : Int32))) ∧ (Fld Z h a1 "com/example/greenwood/greenwood/Environment" "localCount" "I" (.int (0 : Int32))) ∧ (Fld Z h a1 "com/example/greenwood/greenwood/Environment" "locals" "[Ljava/lang/Object;" (.ref rl)) ∧ (Fld Z h a1 "com/example/greenwood/greenwood/Environment" "scopeStarts" "[I" (.ref rs)) ∧ (Arv Z h rl kl (.object "java/lang/Object") (16 : Int32) [.null, .null, .null, .null, .null, .null, .null, .null, .null, .null, .null, .null, .null, .null, .null, .null] .null) ∧ (Arv Z h rs ks .int (16 : Int32) [(.int (0 : Int32)), (.int (0 : Int32)), (.int (0 : Int32)), (.int (0 : Int32)), (.int (0 : Int32)), (.int (0 : Int32)), (.int (0 : Int32)), (.int (0 : Int32)), (.int (0 : Int32)), (.int (0 : Int32)), (.int (0 : Int32)), (.int (0 : Int32)), (.int (0 : Int32)), (.int (0 : Int32)), (.int (0 : Int32)), (.int (0 : Int32))] (.int (0 : Int32))) ∧ (Ovr Z kl "java/lang/Object") ∧ (h0.size ≤ rl) ∧ (h0.size ≤ rs) ∧ (rl ≠ rs)
set_option maxRecDepth 65536 in
set_option maxHeartbeats 40000000 in
theorem rm1 (l : Launch) (Z : State) (a0 : Array Value) (hw : ∀ d ∈ tables_1, d.before a0 Z = true) (ws : List Jvm.Cond) (a1 : Addr) (h0 : Heap) (n0 : Nat) (Z0 : n0 ≤ h0.size) (pr1 : Exa Z h0 a1 "com/example/greenwood/greenwood/Environment") (pr2 : Fld Z h0 a1 "com/example/greenwood/greenwood/Environment" "globals" "Ljava/util/Map;" .null) (pr3 : Fld Z h0 a1 "com/example/greenwood/greenwood/Environment" "locals" "[Ljava/lang/Object;" .null) (pr4 : Fld Z h0 a1 "com/example/greenwood/greenwood/Environment" "scopeStarts" "[I" .null) (pr5 : Fld Z h0 a1 "com/example/greenwood/greenwood/Environment" "openScopes" "I" (.int (0 : Int32))) (pr6 : Fld Z h0 a1 "com/example/greenwood/greenwood/Environment" "localCount" "I" (.int (0 : Int32))) (pr7 : n0 ≤ a1) :
    MetFree l (⟨"com/example/greenwood/greenwood/Environment", "<init>", "()V"⟩ : MethodName) (head1 (Jvm.Cond.code (⟨"com/example/greenwood/greenwood/Environment", "<init>", "()V"⟩ : MethodName) prog_1_method_1_code 1 none :: ws) ({ frames := 3, cells := 3, slots := 40, locals := 38 } : Room)) (fun a U => a = #[(.ref a1)] ∧ Z.Warmed39 U.vm ∧ U.heap = h0) (fun _ _ _ _ _ => True) (fun _ U o U' => ∃ v L, o = .returned v ∧ Qrm1 Z a1 h0 n0 v U'.heap L ∧ FrameEnd U o U' L ({ frames := 3, cells := 3, slots := 40, locals := 38 } : Room).cells ({ frames := 3, cells := 3, slots := 40, locals := 38 } : Room).slots) := by
  refine MetFree.of_bodySF (plainFor_of_name pn_1) hisR ?_
  intro p e s m args below meth c s₁ Bd hml0 hP0 hK
  obtain ⟨rfl, hZ, hh⟩ := hP0
  have hx := Bd.exec
  have hby := Bd.bytes
  have hml : c.maxLocals = 1 := hml0
  have hown : s.vm.findClass "com/example/greenwood/greenwood/Environment" = some m.cls := findClass_of_methodNamed Bd.named
  have hnm := (name_of_methodNamed Bd.named Bd.method).1
  have X0 : Stand p l e ({ frames := 3, cells := 3, slots := 40, locals := 38 } : Room) s m #[(.ref a1)] below meth c s₁ [] 0 0 := Stand.of_body Bd
  have e0 : s₁.heap = h0 := by rw [← hh, Bd.state]; rfl
  have N0 := Fr.nil n0
  suffices own_H : ∀ (P : State → Outcome → Prop), (∀ U o, U.status = .running → Ended U below o → (∃ v L, o = .returned v ∧ Qrm1 Z a1 h0 n0 v U.heap L ∧ FrameEnd s o U L ({ frames := 3, cells := 3, slots := 40, locals := 38 } : Room).cells ({ frames := 3, cells := 3, slots := 40, locals := 38 } : Room).slots) → P U o) → own_Go p.tables e below P (s₁.setTop (mkF m 0 #[.val (.ref a1)] [])) from own_go (fun _ k => castTop (ef_rm1 m a1) k) (own_H _ (fun U o h1 h2 h3 => ⟨h1, h2, h3⟩))
  intro P hP
  have lt_a1 : @LT.lt Nat _ a1 h0.size := pr1.lt
  refine own_go (st' := s₁.setTop (mkF m 1 #[.val (.ref a1)] [(.ref a1)])) (fun _ k => XS.aloadN X0.here hx rfl (hb hby d1_0) rfl rfl k) ?_
  obtain ⟨T1, X1, e1, st1⟩ := initO X0 hx hZ hown (hw _ (List.mem_of_getElem? (i := 7) rfl)) (hw _ (List.mem_of_getElem? (i := 8) rfl)) (hw _ (List.mem_of_getElem? (i := 9) rfl)) e0 (g := (mkF m 1 #[.val (.ref a1)] [(.ref a1)])) rfl (by rw [hml]; rfl) rfl (hb hby d1_1) (by decide) (W := 0) (by show 2 * 0 + _ ≤ _; exact Nat.le_of_eq rfl) (by decide)
  refine own_go (st' := T1.setTop (mkF m 4 #[.val (.ref a1)] [])) (st1) ?_
  refine own_go (st' := T1.setTop (mkF m 5 #[.val (.ref a1)] [(.ref a1)])) (fun _ k => XS.aloadN X1.here hx rfl (hb hby d1_4) rfl rfl k) ?_
  obtain ⟨T2, h2, X2, e2, E2, A2, D2, -, st2⟩ := newO X1 hx hZ hown (hw _ (List.mem_of_getElem? (i := 10) rfl)) (hw _ (List.mem_of_getElem? (i := 11) rfl)) (hw _ (List.mem_of_getElem? (i := 12) rfl)) e1 (g := (mkF m 5 #[.val (.ref a1)] [(.ref a1)])) rfl (hb hby d1_5) (by decide) (by decide)
  obtain ⟨b2, g2⟩ : ∃ z, z = h0.size := ⟨_, rfl⟩
  rw [← g2] at A2 D2 st2
  have sz2 : h0.size ≤ h2.size := E2.1
  have lt2 : @LT.lt Nat _ b2 h2.size := A2.lt
  have f3 : Fld Z h2 b2 "java/util/HashMap" "loadFactor" "F" (.float (0 : UInt32)) := D2 (Or.inr (hw _ (List.mem_of_getElem? (i := 25) rfl))) (ty := .float) (by decide)
  refine own_go (st' := T2.setTop (mkF m 8 #[.val (.ref a1)] [(.ref b2), (.ref a1)])) (st2) ?_
  refine own_go (st' := T2.setTop (mkF m 9 #[.val (.ref a1)] [(.ref b2), (.ref b2), (.ref a1)])) (fun _ k => XS.dup X2.here hx rfl (hb hby d1_8) rfl rfl k) ?_
  obtain ⟨_, _, ⟨T4, LC4, kC4, nC4⟩, -, X4, ⟨Lc4, hQ4, lq4, yq4, zq4⟩, st4⟩ := X2.specialBack hx (y := (⟨"java/util/HashMap", "<init>", "()V"⟩ : MethodName)) rfl hown (mvT hZ (hw _ (List.mem_of_getElem? (i := 13) rfl))) (mvT hZ (hw _ (List.mem_of_getElem? (i := 14) rfl))) (mvT hZ (hw _ (List.mem_of_getElem? (i := 15) rfl))) (by decide) (backOf (W := 2) (rm3 l Z a0 hw [] b2 (0 : UInt32) h2 n0 (by omega) A2 f3 (by omega)) hZ (hw _ (List.mem_of_getElem? (i := 15) rfl)) (hw _ (List.mem_of_getElem? (i := 12) rfl)) (by decide) (by decide)) (g := (mkF m 9 #[.val (.ref a1)] [(.ref b2), (.ref b2), (.ref a1)])) rfl (by rw [hml]; rfl) (Steps.refl _) (a := b2) (argsL := []) (rest := [(.ref b2), (.ref a1)]) (lenOf pd_0 rfl) rfl (by show 2 * 0 + _ ≤ _; exact Nat.le_of_eq rfl) (hb hby d1_9) (fun _ _ => ⟨rfl, e2, (by decide : 1 + 0 ≤ _), (by decide : 8 + 0 ≤ _)⟩)
  dsimp only [Pt.U, Pt.locs, Pt.cells, Pt.slots] at X4 lq4 yq4 zq4 st4 hQ4
  subst lq4 yq4 zq4
  obtain ⟨h4, e4⟩ : ∃ z, T4.heap = z := ⟨_, rfl⟩
  rw [e4] at hQ4
  obtain ⟨rfl, Nq4, K4, g4_0⟩ := hQ4
  have sz4 : h2.size ≤ h4.size := K4.1
  have N4 := Fr.app N0 Nq4
  have lt4_1 : @LT.lt Nat _ b2 h4.size := g4_0.lt
  refine own_go (st' := T4.setTop (mkF m 12 #[.val (.ref a1)] [(.ref b2), (.ref a1)])) (fun _ k => st4.trans k) ?_
  have c5 : Fld Z h4 a1 "com/example/greenwood/greenwood/Environment" "globals" "Ljava/util/Map;" .null := ((pr2.ext E2).keep K4 (ninS (by first | assumption | exact Ne.symm (by assumption) | (apply Nat.ne_of_lt; omega) | (apply Nat.ne_of_gt; omega)) nin0))
  have c6 : Exa Z h4 a1 "com/example/greenwood/greenwood/Environment" := ((pr1.ext E2).keep K4)
  obtain ⟨T7, h7, X7, e7, W7, st7⟩ := putF X4 hx hZ hown (host := "") (Or.inl (hw _ (List.mem_of_getElem? (i := 26) rfl))) Via.refl e4 c5 c6 (Or.inr ⟨(hw _ (List.mem_of_getElem? (i := 27) rfl)), rfl, hnm⟩) (hw _ (List.mem_of_getElem? (i := 2) rfl)) (ty := (.object "java/util/Map")) (by decide) rfl rfl (g := (mkF m 12 #[.val (.ref a1)] [(.ref b2), (.ref a1)])) rfl rfl (hb hby d1_12)
  have sz7 : h7.size = h4.size := W7.size
  have N7 := Fr.snoc X7 N4 (by omega)
  have f7 : Fld Z h7 a1 "com/example/greenwood/greenwood/Environment" "globals" "Ljava/util/Map;" (.ref b2) := c5.same W7
  refine own_go (st' := T7.setTop (mkF m 15 #[.val (.ref a1)] [])) (st7) ?_
  refine own_go (st' := T7.setTop (mkF m 16 #[.val (.ref a1)] [(.ref a1)])) (fun _ k => XS.aloadN X7.here hx rfl (hb hby d1_15) rfl rfl k) ?_
  refine own_go (st' := T7.setTop (mkF m 18 #[.val (.ref a1)] [(.int (16 : Int32)), (.ref a1)])) (fun _ k => XS.bipush X7.here hx rfl (hb hby d1_16) k) ?_
  obtain ⟨T8, h8, k8, X8, e8, E8, A8, O8, st8⟩ := newR X7 hx hZ hown (hw _ (List.mem_of_getElem? (i := 28) rfl)) (hw _ (List.mem_of_getElem? (i := 29) rfl)) e7 (g := (mkF m 18 #[.val (.ref a1)] [(.int (16 : Int32)), (.ref a1)])) rfl (hb hby d1_18) rfl (by decide) (cap := 16) (by decide) (by decide) (by decide) (by decide)
  obtain ⟨b8, g8⟩ : ∃ z, z = h7.size := ⟨_, rfl⟩
  rw [← g8] at A8 st8
  have sz8 : h7.size ≤ h8.size := E8.1
  have lt8 : @LT.lt Nat _ b8 h8.size := A8.lt
  have v8 : Arv Z h8 b8 k8 (.object "java/lang/Object") (16 : Int32) [.null, .null, .null, .null, .null, .null, .null, .null, .null, .null, .null, .null, .null, .null, .null, .null] .null := (Arv.new A8 (by decide)).pad (pad_rep [] .null 16)
  refine own_go (st' := T8.setTop (mkF m 21 #[.val (.ref a1)] [(.ref b8), (.ref a1)])) (st8) ?_
  have c9 : Fld Z h8 a1 "com/example/greenwood/greenwood/Environment" "locals" "[Ljava/lang/Object;" .null := ((((pr3.ext E2).keep K4 (ninS (by first | assumption | exact Ne.symm (by assumption) | (apply Nat.ne_of_lt; omega) | (apply Nat.ne_of_gt; omega)) nin0)).other W7 (Or.inr (slot_ne (Or.inl (hw _ (List.mem_of_getElem? (i := 31) rfl))) (Or.inr (hw _ (List.mem_of_getElem? (i := 27) rfl))) (by decide) (t := (.array (.object "java/lang/Object"))) (t' := (.object "java/util/Map")) (by decide) (by decide)))).ext E8)
  have c10 : Exa Z h8 a1 "com/example/greenwood/greenwood/Environment" := ((c6.wr W7).ext E8)
  obtain ⟨T11, h11, X11, e11, W11, st11⟩ := putF X8 hx hZ hown (host := "") (Or.inl (hw _ (List.mem_of_getElem? (i := 30) rfl))) Via.refl e8 c9 c10 (Or.inl (hw _ (List.mem_of_getElem? (i := 31) rfl))) (hw _ (List.mem_of_getElem? (i := 2) rfl)) (ty := (.array (.object "java/lang/Object"))) (by decide) rfl rfl (g := (mkF m 21 #[.val (.ref a1)] [(.ref b8), (.ref a1)])) rfl rfl (hb hby d1_21)
  have sz11 : h11.size = h8.size := W11.size
  have N11 := Fr.snoc X11 N7 (by omega)
  have f11 : Fld Z h11 a1 "com/example/greenwood/greenwood/Environment" "locals" "[Ljava/lang/Object;" (.ref b8) := c9.same W11
  refine own_go (st' := T11.setTop (mkF m 24 #[.val (.ref a1)] [])) (st11) ?_
  refine own_go (st' := T11.setTop (mkF m 25 #[.val (.ref a1)] [(.ref a1)])) (fun _ k => XS.aloadN X11.here hx rfl (hb hby d1_24) rfl rfl k) ?_
  refine own_go (st' := T11.setTop (mkF m 27 #[.val (.ref a1)] [(.int (16 : Int32)), (.ref a1)])) (fun _ k => XS.bipush X11.here hx rfl (hb hby d1_25) k) ?_
  obtain ⟨T12, h12, k12, X12, e12, E12, A12, st12⟩ := newP X11 hx hZ (hw _ (List.mem_of_getElem? (i := 32) rfl)) e11 (g := (mkF m 27 #[.val (.ref a1)] [(.int (16 : Int32)), (.ref a1)])) rfl (hb hby d1_27) rfl (by decide) (cap := 16) (by decide) (by decide) (by decide) (by decide)
  obtain ⟨b12, g12⟩ : ∃ z, z = h11.size := ⟨_, rfl⟩
  rw [← g12] at A12 st12
  have sz12 : h11.size ≤ h12.size := E12.1
  have lt12 : @LT.lt Nat _ b12 h12.size := A12.lt
  have v12 : Arv Z h12 b12 k12 .int (16 : Int32) [(.int (0 : Int32)), (.int (0 : Int32)), (.int (0 : Int32)), (.int (0 : Int32)), (.int (0 : Int32)), (.int (0 : Int32)), (.int (0 : Int32)), (.int (0 : Int32)), (.int (0 : Int32)), (.int (0 : Int32)), (.int (0 : Int32)), (.int (0 : Int32)), (.int (0 : Int32)), (.int (0 : Int32)), (.int (0 : Int32)), (.int (0 : Int32))] (.int (0 : Int32)) := (Arv.new A12 (by decide)).pad (pad_rep [] (.int (0 : Int32)) 16)
  refine own_go (st' := T12.setTop (mkF m 29 #[.val (.ref a1)] [(.ref b12), (.ref a1)])) (st12) ?_
  have c13 : Fld Z h12 a1 "com/example/greenwood/greenwood/Environment" "scopeStarts" "[I" .null := ((((((pr4.ext E2).keep K4 (ninS (by first | assumption | exact Ne.symm (by assumption) | (apply Nat.ne_of_lt; omega) | (apply Nat.ne_of_gt; omega)) nin0)).other W7 (Or.inr (slot_ne (Or.inl (hw _ (List.mem_of_getElem? (i := 34) rfl))) (Or.inr (hw _ (List.mem_of_getElem? (i := 27) rfl))) (by decide) (t := (.array .int)) (t' := (.object "java/util/Map")) (by decide) (by decide)))).ext E8).other W11 (Or.inr (slot_ne (Or.inl (hw _ (List.mem_of_getElem? (i := 34) rfl))) (Or.inl (hw _ (List.mem_of_getElem? (i := 31) rfl))) (by decide) (t := (.array .int)) (t' := (.array (.object "java/lang/Object"))) (by decide) (by decide)))).ext E12)
  have c14 : Exa Z h12 a1 "com/example/greenwood/greenwood/Environment" := ((c10.wr W11).ext E12)
  obtain ⟨T15, h15, X15, e15, W15, st15⟩ := putF X12 hx hZ hown (host := "") (Or.inl (hw _ (List.mem_of_getElem? (i := 33) rfl))) Via.refl e12 c13 c14 (Or.inl (hw _ (List.mem_of_getElem? (i := 34) rfl))) (hw _ (List.mem_of_getElem? (i := 2) rfl)) (ty := (.array .int)) (by decide) rfl rfl (g := (mkF m 29 #[.val (.ref a1)] [(.ref b12), (.ref a1)])) rfl rfl (hb hby d1_29)
  have sz15 : h15.size = h12.size := W15.size
  have N15 := Fr.snoc X15 N11 (by omega)
  have f15 : Fld Z h15 a1 "com/example/greenwood/greenwood/Environment" "scopeStarts" "[I" (.ref b12) := c13.same W15
  refine own_go (st' := T15.setTop (mkF m 32 #[.val (.ref a1)] [])) (st15) ?_
  obtain ⟨fs, hr, hrun, hended, hW, hsame⟩ := X15.leave (v := none) (fun _ => rfl)
  refine ⟨_, _, ?_, hP _ _ hrun hended ⟨_, _, rfl, ?_, ⟨_, rfl⟩, hW, hsame.mono (by decide) (by decide)⟩⟩
  · exact X15.returnOut hx Bd.returns (hb hby d1_32) hr
  · show Qrm1 Z a1 h0 n0 _ T15.heap _
    have c17 : Exa Z h15 a1 "com/example/greenwood/greenwood/Environment" := (c14.wr W15)
    have c18 : Fld Z h15 a1 "com/example/greenwood/greenwood/Environment" "openScopes" "I" (.int (0 : Int32)) := (((((((pr5.ext E2).keep K4 (ninS (by first | assumption | exact Ne.symm (by assumption) | (apply Nat.ne_of_lt; omega) | (apply Nat.ne_of_gt; omega)) nin0)).other W7 (Or.inr (slot_ne (Or.inl (hw _ (List.mem_of_getElem? (i := 41) rfl))) (Or.inr (hw _ (List.mem_of_getElem? (i := 27) rfl))) (by decide) (t := .int) (t' := (.object "java/util/Map")) (by decide) (by decide)))).ext E8).other W11 (Or.inr (slot_ne (Or.inl (hw _ (List.mem_of_getElem? (i := 41) rfl))) (Or.inl (hw _ (List.mem_of_getElem? (i := 31) rfl))) (by decide) (t := .int) (t' := (.array (.object "java/lang/Object"))) (by decide) (by decide)))).ext E12).other W15 (Or.inr (slot_ne (Or.inl (hw _ (List.mem_of_getElem? (i := 41) rfl))) (Or.inl (hw _ (List.mem_of_getElem? (i := 34) rfl))) (by decide) (t := .int) (t' := (.array .int)) (by decide) (by decide))))
    have c19 : Fld Z h15 a1 "com/example/greenwood/greenwood/Environment" "localCount" "I" (.int (0 : Int32)) := (((((((pr6.ext E2).keep K4 (ninS (by first | assumption | exact Ne.symm (by assumption) | (apply Nat.ne_of_lt; omega) | (apply Nat.ne_of_gt; omega)) nin0)).other W7 (Or.inr (slot_ne (Or.inl (hw _ (List.mem_of_getElem? (i := 48) rfl))) (Or.inr (hw _ (List.mem_of_getElem? (i := 27) rfl))) (by decide) (t := .int) (t' := (.object "java/util/Map")) (by decide) (by decide)))).ext E8).other W11 (Or.inr (slot_ne (Or.inl (hw _ (List.mem_of_getElem? (i := 48) rfl))) (Or.inl (hw _ (List.mem_of_getElem? (i := 31) rfl))) (by decide) (t := .int) (t' := (.array (.object "java/lang/Object"))) (by decide) (by decide)))).ext E12).other W15 (Or.inr (slot_ne (Or.inl (hw _ (List.mem_of_getElem? (i := 48) rfl))) (Or.inl (hw _ (List.mem_of_getElem? (i := 34) rfl))) (by decide) (t := .int) (t' := (.array .int)) (by decide) (by decide))))
    have c20 : Fld Z h15 a1 "com/example/greenwood/greenwood/Environment" "locals" "[Ljava/lang/Object;" (.ref b8) := ((f11.ext E12).other W15 (Or.inr (slot_ne (Or.inl (hw _ (List.mem_of_getElem? (i := 31) rfl))) (Or.inl (hw _ (List.mem_of_getElem? (i := 34) rfl))) (by decide) (t := (.array (.object "java/lang/Object"))) (t' := (.array .int)) (by decide) (by decide))))
    have c21 : Arv Z h15 b8 k8 (.object "java/lang/Object") (16 : Int32) [.null, .null, .null, .null, .null, .null, .null, .null, .null, .null, .null, .null, .null, .null, .null, .null] .null := (((v8.other W11 (by first | assumption | exact Ne.symm (by assumption) | (apply Nat.ne_of_lt; omega) | (apply Nat.ne_of_gt; omega))).ext E12).other W15 (by first | assumption | exact Ne.symm (by assumption) | (apply Nat.ne_of_lt; omega) | (apply Nat.ne_of_gt; omega)))
    have c22 : Arv Z h15 b12 k12 .int (16 : Int32) [(.int (0 : Int32)), (.int (0 : Int32)), (.int (0 : Int32)), (.int (0 : Int32)), (.int (0 : Int32)), (.int (0 : Int32)), (.int (0 : Int32)), (.int (0 : Int32)), (.int (0 : Int32)), (.int (0 : Int32)), (.int (0 : Int32)), (.int (0 : Int32)), (.int (0 : Int32)), (.int (0 : Int32)), (.int (0 : Int32)), (.int (0 : Int32))] (.int (0 : Int32)) := (v12.other W15 (by first | assumption | exact Ne.symm (by assumption) | (apply Nat.ne_of_lt; omega) | (apply Nat.ne_of_gt; omega)))
    rw [e15]
    exact ⟨b8, b12, k8, k12, rfl, N15, ((((((((Keep.refl h0 [a1]).ext E2).trans K4 (allS (P := fun x => x ∈ [a1] ∨ h0.size ≤ x) (Or.inr (by omega)) all0)).wr W7 (Or.inl (List.mem_of_getElem? (i := 0) rfl))).ext E8).wr W11 (Or.inl (List.mem_of_getElem? (i := 0) rfl))).ext E12).wr W15 (Or.inl (List.mem_of_getElem? (i := 0) rfl))), c17, c18, c19, c20, f15, c21, c22, O8, (by omega), (by omega), (by first | assumption | exact Ne.symm (by assumption) | (apply Nat.ne_of_lt; omega) | (apply Nat.ne_of_gt; omega))⟩
theorem d5_0 : decode prog_1_method_6_code 0 = .ok (.aload_n 0, 1) := by decide +kernel
theorem d5_1 : decode prog_1_method_6_code 1 = .ok (.getfield 57, 3) := by decide +kernel
theorem d5_4 : decode prog_1_method_6_code 4 = .ok (.ifCond .le 7, 3) := by decide +kernel
theorem d5_11 : decode prog_1_method_6_code 11 = .ok (.iconst 0, 1) := by decide +kernel
theorem d5_12 : decode prog_1_method_6_code 12 = .ok (.ireturn, 1) := by decide +kernel
theorem pn_5 : plainName "com/example/greenwood/greenwood/Environment" = true := by first | (simp [plainName, overriddenIn]; done) | decide +kernel
theorem ef_rm5_0 (m : MethodId) (x0 : Addr) : entryFrame m #[(.ref x0)] 1 = mkF m 0 #[.val (.ref x0)] [] := by first | (simp [entryFrame, mkF, argsToLocals, Value.category]; done) | rfl
def Qrm5_0 (Z : State) (a1 : Addr) (h0 : Heap) (n0 : Nat) (v : Option Value) (h : Heap) (L : List Loc) : Prop := (v = some (.int (0 : Int32))) ∧ (Fr n0 L) ∧ (h = h0)
set_option maxRecDepth 65536 in
set_option maxHeartbeats 40000000 in
theorem rm5_0 (l : Launch) (Z : State) (a0 : Array Value) (hw : ∀ d ∈ tables_1, d.before a0 Z = true) (ws : List Jvm.Cond) (a1 : Addr) (h0 : Heap) (n0 : Nat) (Z0 : n0 ≤ h0.size) (pr1 : Fld Z h0 a1 "com/example/greenwood/greenwood/Environment" "openScopes" "I" (.int (0 : Int32))) :
    MetFree l (⟨"com/example/greenwood/greenwood/Environment", "inScope", "()Z"⟩ : MethodName) (head1 (Jvm.Cond.code (⟨"com/example/greenwood/greenwood/Environment", "inScope", "()Z"⟩ : MethodName) prog_1_method_6_code 1 (some .boolean) :: ws) ({ frames := 0, cells := 0, slots := 0, locals := 0 } : Room)) (fun a U => a = #[(.ref a1)] ∧ Z.Warmed39 U.vm ∧ U.heap = h0) (fun _ _ _ _ _ => True) (fun _ U o U' => ∃ v L, o = .returned v ∧ Qrm5_0 Z a1 h0 n0 v U'.heap L ∧ FrameEnd U o U' L ({ frames := 0, cells := 0, slots := 0, locals := 0 } : Room).cells ({ frames := 0, cells := 0, slots := 0, locals := 0 } : Room).slots) := by
  refine MetFree.of_bodySF (plainFor_of_name pn_5) hisR ?_
  intro p e s m args below meth c s₁ Bd hml0 hP0 hK
  obtain ⟨rfl, hZ, hh⟩ := hP0
  have hx := Bd.exec
  have hby := Bd.bytes
  have hml : c.maxLocals = 1 := hml0
  have hown : s.vm.findClass "com/example/greenwood/greenwood/Environment" = some m.cls := findClass_of_methodNamed Bd.named
  have hnm := (name_of_methodNamed Bd.named Bd.method).1
  have X0 : Stand p l e ({ frames := 0, cells := 0, slots := 0, locals := 0 } : Room) s m #[(.ref a1)] below meth c s₁ [] 0 0 := Stand.of_body Bd
  have e0 : s₁.heap = h0 := by rw [← hh, Bd.state]; rfl
  have N0 := Fr.nil n0
  suffices own_H : ∀ (P : State → Outcome → Prop), (∀ U o, U.status = .running → Ended U below o → (∃ v L, o = .returned v ∧ Qrm5_0 Z a1 h0 n0 v U.heap L ∧ FrameEnd s o U L ({ frames := 0, cells := 0, slots := 0, locals := 0 } : Room).cells ({ frames := 0, cells := 0, slots := 0, locals := 0 } : Room).slots) → P U o) → own_Go p.tables e below P (s₁.setTop (mkF m 0 #[.val (.ref a1)] [])) from own_go (fun _ k => castTop (ef_rm5_0 m a1) k) (own_H _ (fun U o h1 h2 h3 => ⟨h1, h2, h3⟩))
  intro P hP
  have lt_a1 : @LT.lt Nat _ a1 h0.size := pr1.lt
  refine own_go (st' := s₁.setTop (mkF m 1 #[.val (.ref a1)] [(.ref a1)])) (fun _ k => XS.aloadN X0.here hx rfl (hb hby d5_0) rfl rfl k) ?_
  obtain ⟨T1, X1, e1, st1⟩ := getF X0 hx hZ hown (host := "") (Or.inl (hw _ (List.mem_of_getElem? (i := 40) rfl))) Via.refl e0 pr1 (g := (mkF m 1 #[.val (.ref a1)] [(.ref a1)])) rfl rfl (hb hby d5_1)
  refine own_go (st' := T1.setTop (mkF m 4 #[.val (.ref a1)] [(.int (0 : Int32))])) (st1) ?_
  have hc2 : ¬ ((0 : Int32) < (0 : Int32)) := by decide
  refine own_go (st' := T1.setTop (mkF m 11 #[.val (.ref a1)] [])) (fun _ k => XS.ifYes X1.here hx rfl (pc0 := 4) (pc' := 11) rfl (hb hby d5_4) rfl ((if0 _ _).trans (flt hc2).2.2.2) (by decide) (by decide) k) ?_
  refine own_go (st' := T1.setTop (mkF m 12 #[.val (.ref a1)] [(.int (0 : Int32))])) (fun _ k => XS.iconst X1.here hx rfl (hb hby d5_11) k) ?_
  obtain ⟨fs, hr, hrun, hended, hW, hsame⟩ := X1.leave (v := some (.int (0 : Int32))) (fun h => by rw [Bd.returns] at h; cases h)
  refine ⟨_, _, ?_, hP _ _ hrun hended ⟨_, _, rfl, ?_, ⟨_, rfl⟩, hW, hsame.mono (by decide) (by decide)⟩⟩
  · exact retN X1 hx (t := .boolean) Bd.returns (by simp) (hb hby d5_12) hr
  · show Qrm5_0 Z a1 h0 n0 _ T1.heap _
    rw [e1]
    exact ⟨rfl, N0, rfl⟩
theorem d5_7 : decode prog_1_method_6_code 7 = .ok (.iconst 1, 1) := by decide +kernel
theorem d5_8 : decode prog_1_method_6_code 8 = .ok (.goto 4, 3) := by decide +kernel
theorem ef_rm5_1 (m : MethodId) (x0 : Addr) : entryFrame m #[(.ref x0)] 1 = mkF m 0 #[.val (.ref x0)] [] := by first | (simp [entryFrame, mkF, argsToLocals, Value.category]; done) | rfl
def Qrm5_1 (Z : State) (a1 : Addr) (h0 : Heap) (n0 : Nat) (v : Option Value) (h : Heap) (L : List Loc) : Prop := (v = some (.int (1 : Int32))) ∧ (Fr n0 L) ∧ (h = h0)
set_option maxRecDepth 65536 in
set_option maxHeartbeats 40000000 in
theorem rm5_1 (l : Launch) (Z : State) (a0 : Array Value) (hw : ∀ d ∈ tables_1, d.before a0 Z = true) (ws : List Jvm.Cond) (a1 : Addr) (h0 : Heap) (n0 : Nat) (Z0 : n0 ≤ h0.size) (pr1 : Fld Z h0 a1 "com/example/greenwood/greenwood/Environment" "openScopes" "I" (.int (1 : Int32))) :
    MetFree l (⟨"com/example/greenwood/greenwood/Environment", "inScope", "()Z"⟩ : MethodName) (head1 (Jvm.Cond.code (⟨"com/example/greenwood/greenwood/Environment", "inScope", "()Z"⟩ : MethodName) prog_1_method_6_code 1 (some .boolean) :: ws) ({ frames := 0, cells := 0, slots := 0, locals := 0 } : Room)) (fun a U => a = #[(.ref a1)] ∧ Z.Warmed39 U.vm ∧ U.heap = h0) (fun _ _ _ _ _ => True) (fun _ U o U' => ∃ v L, o = .returned v ∧ Qrm5_1 Z a1 h0 n0 v U'.heap L ∧ FrameEnd U o U' L ({ frames := 0, cells := 0, slots := 0, locals := 0 } : Room).cells ({ frames := 0, cells := 0, slots := 0, locals := 0 } : Room).slots) := by
  refine MetFree.of_bodySF (plainFor_of_name pn_5) hisR ?_
  intro p e s m args below meth c s₁ Bd hml0 hP0 hK
  obtain ⟨rfl, hZ, hh⟩ := hP0
  have hx := Bd.exec
  have hby := Bd.bytes
  have hml : c.maxLocals = 1 := hml0
  have hown : s.vm.findClass "com/example/greenwood/greenwood/Environment" = some m.cls := findClass_of_methodNamed Bd.named
  have hnm := (name_of_methodNamed Bd.named Bd.method).1
  have X0 : Stand p l e ({ frames := 0, cells := 0, slots := 0, locals := 0 } : Room) s m #[(.ref a1)] below meth c s₁ [] 0 0 := Stand.of_body Bd
  have e0 : s₁.heap = h0 := by rw [← hh, Bd.state]; rfl
  have N0 := Fr.nil n0
  suffices own_H : ∀ (P : State → Outcome → Prop), (∀ U o, U.status = .running → Ended U below o → (∃ v L, o = .returned v ∧ Qrm5_1 Z a1 h0 n0 v U.heap L ∧ FrameEnd s o U L ({ frames := 0, cells := 0, slots := 0, locals := 0 } : Room).cells ({ frames := 0, cells := 0, slots := 0, locals := 0 } : Room).slots) → P U o) → own_Go p.tables e below P (s₁.setTop (mkF m 0 #[.val (.ref a1)] [])) from own_go (fun _ k => castTop (ef_rm5_1 m a1) k) (own_H _ (fun U o h1 h2 h3 => ⟨h1, h2, h3⟩))
  intro P hP
  have lt_a1 : @LT.lt Nat _ a1 h0.size := pr1.lt
  refine own_go (st' := s₁.setTop (mkF m 1 #[.val (.ref a1)] [(.ref a1)])) (fun _ k => XS.aloadN X0.here hx rfl (hb hby d5_0) rfl rfl k) ?_
  obtain ⟨T1, X1, e1, st1⟩ := getF X0 hx hZ hown (host := "") (Or.inl (hw _ (List.mem_of_getElem? (i := 40) rfl))) Via.refl e0 pr1 (g := (mkF m 1 #[.val (.ref a1)] [(.ref a1)])) rfl rfl (hb hby d5_1)
  refine own_go (st' := T1.setTop (mkF m 4 #[.val (.ref a1)] [(.int (1 : Int32))])) (st1) ?_
  have hc2 : (0 : Int32) < (1 : Int32) := by decide
  refine own_go (st' := T1.setTop (mkF m 7 #[.val (.ref a1)] [])) (fun _ k => XS.ifNo X1.here hx rfl (hb hby d5_4) rfl ((if0 _ _).trans (tlt hc2).2.2.2) k) ?_
  refine own_go (st' := T1.setTop (mkF m 8 #[.val (.ref a1)] [(.int (1 : Int32))])) (fun _ k => XS.iconst X1.here hx rfl (hb hby d5_7) k) ?_
  refine own_go (st' := T1.setTop (mkF m 12 #[.val (.ref a1)] [(.int (1 : Int32))])) (fun _ k => XS.goto X1.here hx rfl (pc0 := 8) (pc' := 12) rfl (hb hby d5_8) (by decide) (by decide) k) ?_
  obtain ⟨fs, hr, hrun, hended, hW, hsame⟩ := X1.leave (v := some (.int (1 : Int32))) (fun h => by rw [Bd.returns] at h; cases h)
  refine ⟨_, _, ?_, hP _ _ hrun hended ⟨_, _, rfl, ?_, ⟨_, rfl⟩, hW, hsame.mono (by decide) (by decide)⟩⟩
  · exact retN X1 hx (t := .boolean) Bd.returns (by simp) (hb hby d5_12) hr
  · show Qrm5_1 Z a1 h0 n0 _ T1.heap _
    rw [e1]
    exact ⟨rfl, N0, rfl⟩
theorem ef_rm5_2 (m : MethodId) (x0 : Addr) : entryFrame m #[(.ref x0)] 1 = mkF m 0 #[.val (.ref x0)] [] := by first | (simp [entryFrame, mkF, argsToLocals, Value.category]; done) | rfl
def Qrm5_2 (Z : State) (a1 : Addr) (h0 : Heap) (n0 : Nat) (v : Option Value) (h : Heap) (L : List Loc) : Prop := (v = some (.int (1 : Int32))) ∧ (Fr n0 L) ∧ (h = h0)
set_option maxRecDepth 65536 in
set_option maxHeartbeats 40000000 in
theorem rm5_2 (l : Launch) (Z : State) (a0 : Array Value) (hw : ∀ d ∈ tables_1, d.before a0 Z = true) (ws : List Jvm.Cond) (a1 : Addr) (h0 : Heap) (n0 : Nat) (Z0 : n0 ≤ h0.size) (pr1 : Fld Z h0 a1 "com/example/greenwood/greenwood/Environment" "openScopes" "I" (.int (2 : Int32))) :
    MetFree l (⟨"com/example/greenwood/greenwood/Environment", "inScope", "()Z"⟩ : MethodName) (head1 (Jvm.Cond.code (⟨"com/example/greenwood/greenwood/Environment", "inScope", "()Z"⟩ : MethodName) prog_1_method_6_code 1 (some .boolean) :: ws) ({ frames := 0, cells := 0, slots := 0, locals := 0 } : Room)) (fun a U => a = #[(.ref a1)] ∧ Z.Warmed39 U.vm ∧ U.heap = h0) (fun _ _ _ _ _ => True) (fun _ U o U' => ∃ v L, o = .returned v ∧ Qrm5_2 Z a1 h0 n0 v U'.heap L ∧ FrameEnd U o U' L ({ frames := 0, cells := 0, slots := 0, locals := 0 } : Room).cells ({ frames := 0, cells := 0, slots := 0, locals := 0 } : Room).slots) := by
  refine MetFree.of_bodySF (plainFor_of_name pn_5) hisR ?_
  intro p e s m args below meth c s₁ Bd hml0 hP0 hK
  obtain ⟨rfl, hZ, hh⟩ := hP0
  have hx := Bd.exec
  have hby := Bd.bytes
  have hml : c.maxLocals = 1 := hml0
  have hown : s.vm.findClass "com/example/greenwood/greenwood/Environment" = some m.cls := findClass_of_methodNamed Bd.named
  have hnm := (name_of_methodNamed Bd.named Bd.method).1
  have X0 : Stand p l e ({ frames := 0, cells := 0, slots := 0, locals := 0 } : Room) s m #[(.ref a1)] below meth c s₁ [] 0 0 := Stand.of_body Bd
  have e0 : s₁.heap = h0 := by rw [← hh, Bd.state]; rfl
  have N0 := Fr.nil n0
  suffices own_H : ∀ (P : State → Outcome → Prop), (∀ U o, U.status = .running → Ended U below o → (∃ v L, o = .returned v ∧ Qrm5_2 Z a1 h0 n0 v U.heap L ∧ FrameEnd s o U L ({ frames := 0, cells := 0, slots := 0, locals := 0 } : Room).cells ({ frames := 0, cells := 0, slots := 0, locals := 0 } : Room).slots) → P U o) → own_Go p.tables e below P (s₁.setTop (mkF m 0 #[.val (.ref a1)] [])) from own_go (fun _ k => castTop (ef_rm5_2 m a1) k) (own_H _ (fun U o h1 h2 h3 => ⟨h1, h2, h3⟩))
  intro P hP
  have lt_a1 : @LT.lt Nat _ a1 h0.size := pr1.lt
  refine own_go (st' := s₁.setTop (mkF m 1 #[.val (.ref a1)] [(.ref a1)])) (fun _ k => XS.aloadN X0.here hx rfl (hb hby d5_0) rfl rfl k) ?_
  obtain ⟨T1, X1, e1, st1⟩ := getF X0 hx hZ hown (host := "") (Or.inl (hw _ (List.mem_of_getElem? (i := 40) rfl))) Via.refl e0 pr1 (g := (mkF m 1 #[.val (.ref a1)] [(.ref a1)])) rfl rfl (hb hby d5_1)
  refine own_go (st' := T1.setTop (mkF m 4 #[.val (.ref a1)] [(.int (2 : Int32))])) (st1) ?_
  have hc2 : (0 : Int32) < (2 : Int32) := by decide
  refine own_go (st' := T1.setTop (mkF m 7 #[.val (.ref a1)] [])) (fun _ k => XS.ifNo X1.here hx rfl (hb hby d5_4) rfl ((if0 _ _).trans (tlt hc2).2.2.2) k) ?_
  refine own_go (st' := T1.setTop (mkF m 8 #[.val (.ref a1)] [(.int (1 : Int32))])) (fun _ k => XS.iconst X1.here hx rfl (hb hby d5_7) k) ?_
  refine own_go (st' := T1.setTop (mkF m 12 #[.val (.ref a1)] [(.int (1 : Int32))])) (fun _ k => XS.goto X1.here hx rfl (pc0 := 8) (pc' := 12) rfl (hb hby d5_8) (by decide) (by decide) k) ?_
  obtain ⟨fs, hr, hrun, hended, hW, hsame⟩ := X1.leave (v := some (.int (1 : Int32))) (fun h => by rw [Bd.returns] at h; cases h)
  refine ⟨_, _, ?_, hP _ _ hrun hended ⟨_, _, rfl, ?_, ⟨_, rfl⟩, hW, hsame.mono (by decide) (by decide)⟩⟩
  · exact retN X1 hx (t := .boolean) Bd.returns (by simp) (hb hby d5_12) hr
  · show Qrm5_2 Z a1 h0 n0 _ T1.heap _
    rw [e1]
    exact ⟨rfl, N0, rfl⟩
theorem d8_0 : decode jdk_65_method_30_code 0 = .ok (.iload_n 1, 1) := by decide +kernel
theorem d8_1 : decode jdk_65_method_30_code 1 = .ok (.iload_n 2, 1) := by decide +kernel
theorem d8_2 : decode jdk_65_method_30_code 2 = .ok (.if_icmp .le 44, 3) := by decide +kernel
theorem d8_46 : decode jdk_65_method_30_code 46 = .ok (.iload_n 1, 1) := by decide +kernel
theorem d8_47 : decode jdk_65_method_30_code 47 = .ok (.ifCond .ge 12, 3) := by decide +kernel
theorem d8_59 : decode jdk_65_method_30_code 59 = .ok (.iload_n 2, 1) := by decide +kernel
theorem d8_60 : decode jdk_65_method_30_code 60 = .ok (.iload_n 0, 1) := by decide +kernel
theorem d8_61 : decode jdk_65_method_30_code 61 = .ok (.if_icmp .le 12, 3) := by decide +kernel
theorem d8_73 : decode jdk_65_method_30_code 73 = .ok (.return_, 1) := by decide +kernel
theorem pn_8 : plainName "java/util/Arrays" = true := by first | (simp [plainName, overriddenIn]; done) | decide +kernel
theorem ef_rm8_0 (m : MethodId) (x0 : Int32) (x1 : Int32) (x2 : Int32) : entryFrame m #[(.int x0), (.int x1), (.int x2)] 3 = mkF m 0 #[.val (.int x0), .val (.int x1), .val (.int x2)] [] := by first | (simp [entryFrame, mkF, argsToLocals, Value.category]; done) | rfl
def Qrm8_0 (Z : State)  (h0 : Heap) (n0 : Nat) (v : Option Value) (h : Heap) (L : List Loc) : Prop := (v = none) ∧ (Fr n0 L) ∧ (h = h0)
set_option maxRecDepth 65536 in
set_option maxHeartbeats 40000000 in
theorem rm8_0 (l : Launch) (Z : State) (a0 : Array Value) (hw : ∀ d ∈ tables_1, d.before a0 Z = true) (ws : List Jvm.Cond)  (h0 : Heap) (n0 : Nat) (Z0 : n0 ≤ h0.size)  :
    MetFree l (⟨"java/util/Arrays", "rangeCheck", "(III)V"⟩ : MethodName) (head1 (Jvm.Cond.code (⟨"java/util/Arrays", "rangeCheck", "(III)V"⟩ : MethodName) jdk_65_method_30_code 3 none :: ws) ({ frames := 0, cells := 0, slots := 0, locals := 0 } : Room)) (fun a U => a = #[(.int (16 : Int32)), (.int (0 : Int32)), (.int (0 : Int32))] ∧ Z.Warmed39 U.vm ∧ U.heap = h0) (fun _ _ _ _ _ => True) (fun _ U o U' => ∃ v L, o = .returned v ∧ Qrm8_0 Z  h0 n0 v U'.heap L ∧ FrameEnd U o U' L ({ frames := 0, cells := 0, slots := 0, locals := 0 } : Room).cells ({ frames := 0, cells := 0, slots := 0, locals := 0 } : Room).slots) := by
  refine MetFree.of_bodySF (plainFor_of_name pn_8) hisR ?_
  intro p e s m args below meth c s₁ Bd hml0 hP0 hK
  obtain ⟨rfl, hZ, hh⟩ := hP0
  have hx := Bd.exec
  have hby := Bd.bytes
  have hml : c.maxLocals = 3 := hml0
  have hown : s.vm.findClass "java/util/Arrays" = some m.cls := findClass_of_methodNamed Bd.named
  have hnm := (name_of_methodNamed Bd.named Bd.method).1
  have X0 : Stand p l e ({ frames := 0, cells := 0, slots := 0, locals := 0 } : Room) s m #[(.int (16 : Int32)), (.int (0 : Int32)), (.int (0 : Int32))] below meth c s₁ [] 0 0 := Stand.of_body Bd
  have e0 : s₁.heap = h0 := by rw [← hh, Bd.state]; rfl
  have N0 := Fr.nil n0
  suffices own_H : ∀ (P : State → Outcome → Prop), (∀ U o, U.status = .running → Ended U below o → (∃ v L, o = .returned v ∧ Qrm8_0 Z  h0 n0 v U.heap L ∧ FrameEnd s o U L ({ frames := 0, cells := 0, slots := 0, locals := 0 } : Room).cells ({ frames := 0, cells := 0, slots := 0, locals := 0 } : Room).slots) → P U o) → own_Go p.tables e below P (s₁.setTop (mkF m 0 #[.val (.int (16 : Int32)), .val (.int (0 : Int32)), .val (.int (0 : Int32))] [])) from own_go (fun _ k => castTop (ef_rm8_0 m (16 : Int32) (0 : Int32) (0 : Int32)) k) (own_H _ (fun U o h1 h2 h3 => ⟨h1, h2, h3⟩))
  intro P hP
  refine own_go (st' := s₁.setTop (mkF m 1 #[.val (.int (16 : Int32)), .val (.int (0 : Int32)), .val (.int (0 : Int32))] [(.int (0 : Int32))])) (fun _ k => XS.iloadN X0.here hx rfl (hb hby d8_0) rfl k) ?_
  refine own_go (st' := s₁.setTop (mkF m 2 #[.val (.int (16 : Int32)), .val (.int (0 : Int32)), .val (.int (0 : Int32))] [(.int (0 : Int32)), (.int (0 : Int32))])) (fun _ k => XS.iloadN X0.here hx rfl (hb hby d8_1) rfl k) ?_
  have hc1 : ¬ ((0 : Int32) < (0 : Int32)) := by decide
  refine own_go (st' := s₁.setTop (mkF m 46 #[.val (.int (16 : Int32)), .val (.int (0 : Int32)), .val (.int (0 : Int32))] [])) (fun _ k => XS.icmpYes X0.here hx rfl (pc0 := 2) (pc' := 46) rfl (hb hby d8_2) rfl (flt hc1).2.2.2 (by decide) (by decide) k) ?_
  refine own_go (st' := s₁.setTop (mkF m 47 #[.val (.int (16 : Int32)), .val (.int (0 : Int32)), .val (.int (0 : Int32))] [(.int (0 : Int32))])) (fun _ k => XS.iloadN X0.here hx rfl (hb hby d8_46) rfl k) ?_
  have hc2 : ¬ ((0 : Int32) < (0 : Int32)) := by decide
  refine own_go (st' := s₁.setTop (mkF m 59 #[.val (.int (16 : Int32)), .val (.int (0 : Int32)), .val (.int (0 : Int32))] [])) (fun _ k => XS.ifYes X0.here hx rfl (pc0 := 47) (pc' := 59) rfl (hb hby d8_47) rfl ((if0 _ _).trans (flt hc2).2.1) (by decide) (by decide) k) ?_
  refine own_go (st' := s₁.setTop (mkF m 60 #[.val (.int (16 : Int32)), .val (.int (0 : Int32)), .val (.int (0 : Int32))] [(.int (0 : Int32))])) (fun _ k => XS.iloadN X0.here hx rfl (hb hby d8_59) rfl k) ?_
  refine own_go (st' := s₁.setTop (mkF m 61 #[.val (.int (16 : Int32)), .val (.int (0 : Int32)), .val (.int (0 : Int32))] [(.int (16 : Int32)), (.int (0 : Int32))])) (fun _ k => XS.iloadN X0.here hx rfl (hb hby d8_60) rfl k) ?_
  have hc3 : ¬ ((16 : Int32) < (0 : Int32)) := by decide
  refine own_go (st' := s₁.setTop (mkF m 73 #[.val (.int (16 : Int32)), .val (.int (0 : Int32)), .val (.int (0 : Int32))] [])) (fun _ k => XS.icmpYes X0.here hx rfl (pc0 := 61) (pc' := 73) rfl (hb hby d8_61) rfl (flt hc3).2.2.2 (by decide) (by decide) k) ?_
  obtain ⟨fs, hr, hrun, hended, hW, hsame⟩ := X0.leave (v := none) (fun _ => rfl)
  refine ⟨_, _, ?_, hP _ _ hrun hended ⟨_, _, rfl, ?_, ⟨_, rfl⟩, hW, hsame.mono (by decide) (by decide)⟩⟩
  · exact X0.returnOut hx Bd.returns (hb hby d8_73) hr
  · show Qrm8_0 Z  h0 n0 _ s₁.heap _
    rw [e0]
    exact ⟨rfl, N0, rfl⟩
theorem pd_1 : parseMethodDescriptor "(III)V" = some ⟨[.int, .int, .int], none⟩ := by decide +kernel
theorem d7_0 : decode jdk_65_method_118_code 0 = .ok (.aload_n 0, 1) := by decide +kernel
theorem d7_1 : decode jdk_65_method_118_code 1 = .ok (.arraylength, 1) := by decide +kernel
theorem d7_2 : decode jdk_65_method_118_code 2 = .ok (.iload_n 1, 1) := by decide +kernel
theorem d7_3 : decode jdk_65_method_118_code 3 = .ok (.iload_n 2, 1) := by decide +kernel
theorem d7_4 : decode jdk_65_method_118_code 4 = .ok (.invokestatic 13, 3) := by decide +kernel
theorem d7_7 : decode jdk_65_method_118_code 7 = .ok (.iload_n 1, 1) := by decide +kernel
theorem d7_8 : decode jdk_65_method_118_code 8 = .ok (.istore 4, 2) := by decide +kernel
theorem d7_10 : decode jdk_65_method_118_code 10 = .ok (.iload 4, 2) := by decide +kernel
theorem d7_12 : decode jdk_65_method_118_code 12 = .ok (.iload_n 2, 1) := by decide +kernel
theorem d7_13 : decode jdk_65_method_118_code 13 = .ok (.if_icmp .ge 14, 3) := by decide +kernel
theorem d7_27 : decode jdk_65_method_118_code 27 = .ok (.return_, 1) := by decide +kernel
theorem pn_7 : plainName "java/util/Arrays" = true := by first | (simp [plainName, overriddenIn]; done) | decide +kernel
theorem ef_rm7_0 (m : MethodId) (x0 : Addr) (x1 : Int32) (x2 : Int32) : entryFrame m #[(.ref x0), (.int x1), (.int x2), .null] 5 = mkF m 0 #[.val (.ref x0), .val (.int x1), .val (.int x2), .val .null, .unset] [] := by first | (simp [entryFrame, mkF, argsToLocals, Value.category]; done) | rfl
def Qrm7_0 (Z : State) (rl : Addr) (kl : ClassId) (h0 : Heap) (n0 : Nat) (v : Option Value) (h : Heap) (L : List Loc) : Prop := (v = none) ∧ (Fr n0 L) ∧ (Keep h0 h [rl]) ∧ (Arv Z h rl kl (.object "java/lang/Object") (16 : Int32) [.null, .null, .null, .null, .null, .null, .null, .null, .null, .null, .null, .null, .null, .null, .null, .null] .null)
set_option maxRecDepth 65536 in
set_option maxHeartbeats 40000000 in
theorem rm7_0 (l : Launch) (Z : State) (a0 : Array Value) (hw : ∀ d ∈ tables_1, d.before a0 Z = true) (ws : List Jvm.Cond) (rl : Addr) (kl : ClassId) (h0 : Heap) (n0 : Nat) (Z0 : n0 ≤ h0.size) (pr1 : Arv Z h0 rl kl (.object "java/lang/Object") (16 : Int32) [.null, .null, .null, .null, .null, .null, .null, .null, .null, .null, .null, .null, .null, .null, .null, .null] .null) (pr2 : n0 ≤ rl) :
    MetFree l (⟨"java/util/Arrays", "fill", "([Ljava/lang/Object;IILjava/lang/Object;)V"⟩ : MethodName) (head1 (Jvm.Cond.code (⟨"java/util/Arrays", "fill", "([Ljava/lang/Object;IILjava/lang/Object;)V"⟩ : MethodName) jdk_65_method_118_code 5 none :: ws) ({ frames := 1, cells := 0, slots := 0, locals := 14 } : Room)) (fun a U => a = #[(.ref rl), (.int (0 : Int32)), (.int (0 : Int32)), .null] ∧ Z.Warmed39 U.vm ∧ U.heap = h0) (fun _ _ _ _ _ => True) (fun _ U o U' => ∃ v L, o = .returned v ∧ Qrm7_0 Z rl kl h0 n0 v U'.heap L ∧ FrameEnd U o U' L ({ frames := 1, cells := 0, slots := 0, locals := 14 } : Room).cells ({ frames := 1, cells := 0, slots := 0, locals := 14 } : Room).slots) := by
  refine MetFree.of_bodySF (plainFor_of_name pn_7) hisR ?_
  intro p e s m args below meth c s₁ Bd hml0 hP0 hK
  obtain ⟨rfl, hZ, hh⟩ := hP0
  have hx := Bd.exec
  have hby := Bd.bytes
  have hml : c.maxLocals = 5 := hml0
  have hown : s.vm.findClass "java/util/Arrays" = some m.cls := findClass_of_methodNamed Bd.named
  have hnm := (name_of_methodNamed Bd.named Bd.method).1
  have X0 : Stand p l e ({ frames := 1, cells := 0, slots := 0, locals := 14 } : Room) s m #[(.ref rl), (.int (0 : Int32)), (.int (0 : Int32)), .null] below meth c s₁ [] 0 0 := Stand.of_body Bd
  have e0 : s₁.heap = h0 := by rw [← hh, Bd.state]; rfl
  have N0 := Fr.nil n0
  suffices own_H : ∀ (P : State → Outcome → Prop), (∀ U o, U.status = .running → Ended U below o → (∃ v L, o = .returned v ∧ Qrm7_0 Z rl kl h0 n0 v U.heap L ∧ FrameEnd s o U L ({ frames := 1, cells := 0, slots := 0, locals := 14 } : Room).cells ({ frames := 1, cells := 0, slots := 0, locals := 14 } : Room).slots) → P U o) → own_Go p.tables e below P (s₁.setTop (mkF m 0 #[.val (.ref rl), .val (.int (0 : Int32)), .val (.int (0 : Int32)), .val .null, .unset] [])) from own_go (fun _ k => castTop (ef_rm7_0 m rl (0 : Int32) (0 : Int32)) k) (own_H _ (fun U o h1 h2 h3 => ⟨h1, h2, h3⟩))
  intro P hP
  have lt_rl : @LT.lt Nat _ rl h0.size := pr1.lt
  refine own_go (st' := s₁.setTop (mkF m 1 #[.val (.ref rl), .val (.int (0 : Int32)), .val (.int (0 : Int32)), .val .null, .unset] [(.ref rl)])) (fun _ k => XS.aloadN X0.here hx rfl (hb hby d7_0) rfl rfl k) ?_
  obtain ⟨cl1, Ar1, -, S1, M1, -, -⟩ := id pr1
  refine own_go (st' := s₁.setTop (mkF m 2 #[.val (.ref rl), .val (.int (0 : Int32)), .val (.int (0 : Int32)), .val .null, .unset] [(.int (16 : Int32))])) (fun t k => X0.arraylength hx (by rw [e0]; exact Ar1.1) (State.isArrayOf_alike hZ.alike Ar1.2.1) (g := (mkF m 1 #[.val (.ref rl), .val (.int (0 : Int32)), .val (.int (0 : Int32)), .val .null, .unset] [(.ref rl)])) rfl rfl (hb hby d7_1) t (by rw [len_of S1 M1]; exact k)) ?_
  refine own_go (st' := s₁.setTop (mkF m 3 #[.val (.ref rl), .val (.int (0 : Int32)), .val (.int (0 : Int32)), .val .null, .unset] [(.int (0 : Int32)), (.int (16 : Int32))])) (fun _ k => XS.iloadN X0.here hx rfl (hb hby d7_2) rfl k) ?_
  refine own_go (st' := s₁.setTop (mkF m 4 #[.val (.ref rl), .val (.int (0 : Int32)), .val (.int (0 : Int32)), .val .null, .unset] [(.int (0 : Int32)), (.int (0 : Int32)), (.int (16 : Int32))])) (fun _ k => XS.iloadN X0.here hx rfl (hb hby d7_3) rfl k) ?_
  obtain ⟨_, _, ⟨T2, LC2, kC2, nC2⟩, -, X2, ⟨Lc2, hQ2, lq2, yq2, zq2⟩, st2⟩ := Jvm.LawKit.callS X0 hx (y := (⟨"java/util/Arrays", "rangeCheck", "(III)V"⟩ : MethodName)) hown (mvT hZ (hw _ (List.mem_of_getElem? (i := 53) rfl))) (mvT hZ (hw _ (List.mem_of_getElem? (i := 54) rfl))) (mvT hZ (hw _ (List.mem_of_getElem? (i := 51) rfl))) (mvT hZ (hw _ (List.mem_of_getElem? (i := 55) rfl))) (by decide) (backOf (W := 0) (rm8_0 l Z a0 hw []  h0 n0 (by omega) ) hZ (hw _ (List.mem_of_getElem? (i := 55) rfl)) (hw _ (List.mem_of_getElem? (i := 51) rfl)) (by decide) (by decide)) (g := (mkF m 4 #[.val (.ref rl), .val (.int (0 : Int32)), .val (.int (0 : Int32)), .val .null, .unset] [(.int (0 : Int32)), (.int (0 : Int32)), (.int (16 : Int32))])) rfl (by rw [hml]; rfl) (argsL := [(.int (16 : Int32)), (.int (0 : Int32)), (.int (0 : Int32))]) (rest := []) (lenOf pd_1 rfl) rfl (by show 2 * 0 + _ ≤ _; exact Nat.le_of_eq rfl) (hb hby d7_4) (fun _ _ => ⟨rfl, e0, (by decide : 0 + 0 ≤ _), (by decide : 0 + 0 ≤ _)⟩)
  dsimp only [Pt.U, Pt.locs, Pt.cells, Pt.slots] at X2 lq2 yq2 zq2 st2 hQ2
  subst lq2 yq2 zq2
  obtain ⟨rfl, Nq2, eq2⟩ := hQ2
  have N2 := Fr.app N0 Nq2
  refine own_go (st' := T2.setTop (mkF m 7 #[.val (.ref rl), .val (.int (0 : Int32)), .val (.int (0 : Int32)), .val .null, .unset] [])) (fun t k => st2 t k) ?_
  refine own_go (st' := T2.setTop (mkF m 8 #[.val (.ref rl), .val (.int (0 : Int32)), .val (.int (0 : Int32)), .val .null, .unset] [(.int (0 : Int32))])) (fun _ k => XS.iloadN X2.here hx rfl (hb hby d7_7) rfl k) ?_
  refine own_go (st' := T2.setTop (mkF m 10 #[.val (.ref rl), .val (.int (0 : Int32)), .val (.int (0 : Int32)), .val .null, .val (.int (0 : Int32))] [])) (fun _ k => XS.istore X2.here hx rfl (hb hby d7_8) rfl (l' := #[.val (.ref rl), .val (.int (0 : Int32)), .val (.int (0 : Int32)), .val .null, .val (.int (0 : Int32))]) rfl k) ?_
  refine own_go (st' := T2.setTop (mkF m 12 #[.val (.ref rl), .val (.int (0 : Int32)), .val (.int (0 : Int32)), .val .null, .val (.int (0 : Int32))] [(.int (0 : Int32))])) (fun _ k => XS.iload X2.here hx rfl (hb hby d7_10) rfl k) ?_
  refine own_go (st' := T2.setTop (mkF m 13 #[.val (.ref rl), .val (.int (0 : Int32)), .val (.int (0 : Int32)), .val .null, .val (.int (0 : Int32))] [(.int (0 : Int32)), (.int (0 : Int32))])) (fun _ k => XS.iloadN X2.here hx rfl (hb hby d7_12) rfl k) ?_
  have hc3 : ¬ ((0 : Int32) < (0 : Int32)) := by decide
  refine own_go (st' := T2.setTop (mkF m 27 #[.val (.ref rl), .val (.int (0 : Int32)), .val (.int (0 : Int32)), .val .null, .val (.int (0 : Int32))] [])) (fun _ k => XS.icmpYes X2.here hx rfl (pc0 := 13) (pc' := 27) rfl (hb hby d7_13) rfl (flt hc3).2.1 (by decide) (by decide) k) ?_
  obtain ⟨fs, hr, hrun, hended, hW, hsame⟩ := X2.leave (v := none) (fun _ => rfl)
  refine ⟨_, _, ?_, hP _ _ hrun hended ⟨_, _, rfl, ?_, ⟨_, rfl⟩, hW, hsame.mono (by decide) (by decide)⟩⟩
  · exact X2.returnOut hx Bd.returns (hb hby d7_27) hr
  · show Qrm7_0 Z rl kl h0 n0 _ T2.heap _
    rw [eq2]
    exact ⟨rfl, N2, (Keep.refl h0 [rl]), pr1⟩
theorem ef_rm8_1 (m : MethodId) (x0 : Int32) (x1 : Int32) (x2 : Int32) : entryFrame m #[(.int x0), (.int x1), (.int x2)] 3 = mkF m 0 #[.val (.int x0), .val (.int x1), .val (.int x2)] [] := by first | (simp [entryFrame, mkF, argsToLocals, Value.category]; done) | rfl
def Qrm8_1 (Z : State)  (h0 : Heap) (n0 : Nat) (v : Option Value) (h : Heap) (L : List Loc) : Prop := (v = none) ∧ (Fr n0 L) ∧ (h = h0)
set_option maxRecDepth 65536 in
set_option maxHeartbeats 40000000 in
theorem rm8_1 (l : Launch) (Z : State) (a0 : Array Value) (hw : ∀ d ∈ tables_1, d.before a0 Z = true) (ws : List Jvm.Cond)  (h0 : Heap) (n0 : Nat) (Z0 : n0 ≤ h0.size)  :
    MetFree l (⟨"java/util/Arrays", "rangeCheck", "(III)V"⟩ : MethodName) (head1 (Jvm.Cond.code (⟨"java/util/Arrays", "rangeCheck", "(III)V"⟩ : MethodName) jdk_65_method_30_code 3 none :: ws) ({ frames := 0, cells := 0, slots := 0, locals := 0 } : Room)) (fun a U => a = #[(.int (16 : Int32)), (.int (0 : Int32)), (.int (1 : Int32))] ∧ Z.Warmed39 U.vm ∧ U.heap = h0) (fun _ _ _ _ _ => True) (fun _ U o U' => ∃ v L, o = .returned v ∧ Qrm8_1 Z  h0 n0 v U'.heap L ∧ FrameEnd U o U' L ({ frames := 0, cells := 0, slots := 0, locals := 0 } : Room).cells ({ frames := 0, cells := 0, slots := 0, locals := 0 } : Room).slots) := by
  refine MetFree.of_bodySF (plainFor_of_name pn_8) hisR ?_
  intro p e s m args below meth c s₁ Bd hml0 hP0 hK
  obtain ⟨rfl, hZ, hh⟩ := hP0
  have hx := Bd.exec
  have hby := Bd.bytes
  have hml : c.maxLocals = 3 := hml0
  have hown : s.vm.findClass "java/util/Arrays" = some m.cls := findClass_of_methodNamed Bd.named
  have hnm := (name_of_methodNamed Bd.named Bd.method).1
  have X0 : Stand p l e ({ frames := 0, cells := 0, slots := 0, locals := 0 } : Room) s m #[(.int (16 : Int32)), (.int (0 : Int32)), (.int (1 : Int32))] below meth c s₁ [] 0 0 := Stand.of_body Bd
  have e0 : s₁.heap = h0 := by rw [← hh, Bd.state]; rfl
  have N0 := Fr.nil n0
  suffices own_H : ∀ (P : State → Outcome → Prop), (∀ U o, U.status = .running → Ended U below o → (∃ v L, o = .returned v ∧ Qrm8_1 Z  h0 n0 v U.heap L ∧ FrameEnd s o U L ({ frames := 0, cells := 0, slots := 0, locals := 0 } : Room).cells ({ frames := 0, cells := 0, slots := 0, locals := 0 } : Room).slots) → P U o) → own_Go p.tables e below P (s₁.setTop (mkF m 0 #[.val (.int (16 : Int32)), .val (.int (0 : Int32)), .val (.int (1 : Int32))] [])) from own_go (fun _ k => castTop (ef_rm8_1 m (16 : Int32) (0 : Int32) (1 : Int32)) k) (own_H _ (fun U o h1 h2 h3 => ⟨h1, h2, h3⟩))
  intro P hP
  refine own_go (st' := s₁.setTop (mkF m 1 #[.val (.int (16 : Int32)), .val (.int (0 : Int32)), .val (.int (1 : Int32))] [(.int (0 : Int32))])) (fun _ k => XS.iloadN X0.here hx rfl (hb hby d8_0) rfl k) ?_
  refine own_go (st' := s₁.setTop (mkF m 2 #[.val (.int (16 : Int32)), .val (.int (0 : Int32)), .val (.int (1 : Int32))] [(.int (1 : Int32)), (.int (0 : Int32))])) (fun _ k => XS.iloadN X0.here hx rfl (hb hby d8_1) rfl k) ?_
  have hc1 : ¬ ((1 : Int32) < (0 : Int32)) := by decide
  refine own_go (st' := s₁.setTop (mkF m 46 #[.val (.int (16 : Int32)), .val (.int (0 : Int32)), .val (.int (1 : Int32))] [])) (fun _ k => XS.icmpYes X0.here hx rfl (pc0 := 2) (pc' := 46) rfl (hb hby d8_2) rfl (flt hc1).2.2.2 (by decide) (by decide) k) ?_
  refine own_go (st' := s₁.setTop (mkF m 47 #[.val (.int (16 : Int32)), .val (.int (0 : Int32)), .val (.int (1 : Int32))] [(.int (0 : Int32))])) (fun _ k => XS.iloadN X0.here hx rfl (hb hby d8_46) rfl k) ?_
  have hc2 : ¬ ((0 : Int32) < (0 : Int32)) := by decide
  refine own_go (st' := s₁.setTop (mkF m 59 #[.val (.int (16 : Int32)), .val (.int (0 : Int32)), .val (.int (1 : Int32))] [])) (fun _ k => XS.ifYes X0.here hx rfl (pc0 := 47) (pc' := 59) rfl (hb hby d8_47) rfl ((if0 _ _).trans (flt hc2).2.1) (by decide) (by decide) k) ?_
  refine own_go (st' := s₁.setTop (mkF m 60 #[.val (.int (16 : Int32)), .val (.int (0 : Int32)), .val (.int (1 : Int32))] [(.int (1 : Int32))])) (fun _ k => XS.iloadN X0.here hx rfl (hb hby d8_59) rfl k) ?_
  refine own_go (st' := s₁.setTop (mkF m 61 #[.val (.int (16 : Int32)), .val (.int (0 : Int32)), .val (.int (1 : Int32))] [(.int (16 : Int32)), (.int (1 : Int32))])) (fun _ k => XS.iloadN X0.here hx rfl (hb hby d8_60) rfl k) ?_
  have hc3 : ¬ ((16 : Int32) < (1 : Int32)) := by decide
  refine own_go (st' := s₁.setTop (mkF m 73 #[.val (.int (16 : Int32)), .val (.int (0 : Int32)), .val (.int (1 : Int32))] [])) (fun _ k => XS.icmpYes X0.here hx rfl (pc0 := 61) (pc' := 73) rfl (hb hby d8_61) rfl (flt hc3).2.2.2 (by decide) (by decide) k) ?_
  obtain ⟨fs, hr, hrun, hended, hW, hsame⟩ := X0.leave (v := none) (fun _ => rfl)
  refine ⟨_, _, ?_, hP _ _ hrun hended ⟨_, _, rfl, ?_, ⟨_, rfl⟩, hW, hsame.mono (by decide) (by decide)⟩⟩
  · exact X0.returnOut hx Bd.returns (hb hby d8_73) hr
  · show Qrm8_1 Z  h0 n0 _ s₁.heap _
    rw [e0]
    exact ⟨rfl, N0, rfl⟩
theorem d7_16 : decode jdk_65_method_118_code 16 = .ok (.aload_n 0, 1) := by decide +kernel
theorem d7_17 : decode jdk_65_method_118_code 17 = .ok (.iload 4, 2) := by decide +kernel
theorem d7_19 : decode jdk_65_method_118_code 19 = .ok (.aload_n 3, 1) := by decide +kernel
theorem d7_20 : decode jdk_65_method_118_code 20 = .ok (.aastore, 1) := by decide +kernel
theorem d7_21 : decode jdk_65_method_118_code 21 = .ok (.iinc 4 1, 3) := by decide +kernel
theorem d7_24 : decode jdk_65_method_118_code 24 = .ok (.goto (-14), 3) := by decide +kernel
theorem ef_rm7_1 (m : MethodId) (x0 : Addr) (x1 : Int32) (x2 : Int32) : entryFrame m #[(.ref x0), (.int x1), (.int x2), .null] 5 = mkF m 0 #[.val (.ref x0), .val (.int x1), .val (.int x2), .val .null, .unset] [] := by first | (simp [entryFrame, mkF, argsToLocals, Value.category]; done) | rfl
def Qrm7_1 (Z : State) (rl : Addr) (kl : ClassId) (h0 : Heap) (n0 : Nat) (v : Option Value) (h : Heap) (L : List Loc) : Prop := (v = none) ∧ (Fr n0 L) ∧ (Keep h0 h [rl]) ∧ (Arv Z h rl kl (.object "java/lang/Object") (16 : Int32) [.null, .null, .null, .null, .null, .null, .null, .null, .null, .null, .null, .null, .null, .null, .null, .null] .null)
set_option maxRecDepth 65536 in
set_option maxHeartbeats 40000000 in
theorem rm7_1 (l : Launch) (Z : State) (a0 : Array Value) (hw : ∀ d ∈ tables_1, d.before a0 Z = true) (ws : List Jvm.Cond) (rl : Addr) (kl : ClassId) (h0 : Heap) (n0 : Nat) (Z0 : n0 ≤ h0.size) (pr1 : Arv Z h0 rl kl (.object "java/lang/Object") (16 : Int32) [.null, .null, .null, .null, .null, .null, .null, .null, .null, .null, .null, .null, .null, .null, .null, .null] .null) (pr2 : n0 ≤ rl) :
    MetFree l (⟨"java/util/Arrays", "fill", "([Ljava/lang/Object;IILjava/lang/Object;)V"⟩ : MethodName) (head1 (Jvm.Cond.code (⟨"java/util/Arrays", "fill", "([Ljava/lang/Object;IILjava/lang/Object;)V"⟩ : MethodName) jdk_65_method_118_code 5 none :: ws) ({ frames := 1, cells := 0, slots := 0, locals := 14 } : Room)) (fun a U => a = #[(.ref rl), (.int (0 : Int32)), (.int (1 : Int32)), .null] ∧ Z.Warmed39 U.vm ∧ U.heap = h0) (fun _ _ _ _ _ => True) (fun _ U o U' => ∃ v L, o = .returned v ∧ Qrm7_1 Z rl kl h0 n0 v U'.heap L ∧ FrameEnd U o U' L ({ frames := 1, cells := 0, slots := 0, locals := 14 } : Room).cells ({ frames := 1, cells := 0, slots := 0, locals := 14 } : Room).slots) := by
  refine MetFree.of_bodySF (plainFor_of_name pn_7) hisR ?_
  intro p e s m args below meth c s₁ Bd hml0 hP0 hK
  obtain ⟨rfl, hZ, hh⟩ := hP0
  have hx := Bd.exec
  have hby := Bd.bytes
  have hml : c.maxLocals = 5 := hml0
  have hown : s.vm.findClass "java/util/Arrays" = some m.cls := findClass_of_methodNamed Bd.named
  have hnm := (name_of_methodNamed Bd.named Bd.method).1
  have X0 : Stand p l e ({ frames := 1, cells := 0, slots := 0, locals := 14 } : Room) s m #[(.ref rl), (.int (0 : Int32)), (.int (1 : Int32)), .null] below meth c s₁ [] 0 0 := Stand.of_body Bd
  have e0 : s₁.heap = h0 := by rw [← hh, Bd.state]; rfl
  have N0 := Fr.nil n0
  suffices own_H : ∀ (P : State → Outcome → Prop), (∀ U o, U.status = .running → Ended U below o → (∃ v L, o = .returned v ∧ Qrm7_1 Z rl kl h0 n0 v U.heap L ∧ FrameEnd s o U L ({ frames := 1, cells := 0, slots := 0, locals := 14 } : Room).cells ({ frames := 1, cells := 0, slots := 0, locals := 14 } : Room).slots) → P U o) → own_Go p.tables e below P (s₁.setTop (mkF m 0 #[.val (.ref rl), .val (.int (0 : Int32)), .val (.int (1 : Int32)), .val .null, .unset] [])) from own_go (fun _ k => castTop (ef_rm7_1 m rl (0 : Int32) (1 : Int32)) k) (own_H _ (fun U o h1 h2 h3 => ⟨h1, h2, h3⟩))
  intro P hP
  have lt_rl : @LT.lt Nat _ rl h0.size := pr1.lt
  refine own_go (st' := s₁.setTop (mkF m 1 #[.val (.ref rl), .val (.int (0 : Int32)), .val (.int (1 : Int32)), .val .null, .unset] [(.ref rl)])) (fun _ k => XS.aloadN X0.here hx rfl (hb hby d7_0) rfl rfl k) ?_
  obtain ⟨cl1, Ar1, -, S1, M1, -, -⟩ := id pr1
  refine own_go (st' := s₁.setTop (mkF m 2 #[.val (.ref rl), .val (.int (0 : Int32)), .val (.int (1 : Int32)), .val .null, .unset] [(.int (16 : Int32))])) (fun t k => X0.arraylength hx (by rw [e0]; exact Ar1.1) (State.isArrayOf_alike hZ.alike Ar1.2.1) (g := (mkF m 1 #[.val (.ref rl), .val (.int (0 : Int32)), .val (.int (1 : Int32)), .val .null, .unset] [(.ref rl)])) rfl rfl (hb hby d7_1) t (by rw [len_of S1 M1]; exact k)) ?_
  refine own_go (st' := s₁.setTop (mkF m 3 #[.val (.ref rl), .val (.int (0 : Int32)), .val (.int (1 : Int32)), .val .null, .unset] [(.int (0 : Int32)), (.int (16 : Int32))])) (fun _ k => XS.iloadN X0.here hx rfl (hb hby d7_2) rfl k) ?_
  refine own_go (st' := s₁.setTop (mkF m 4 #[.val (.ref rl), .val (.int (0 : Int32)), .val (.int (1 : Int32)), .val .null, .unset] [(.int (1 : Int32)), (.int (0 : Int32)), (.int (16 : Int32))])) (fun _ k => XS.iloadN X0.here hx rfl (hb hby d7_3) rfl k) ?_
  obtain ⟨_, _, ⟨T2, LC2, kC2, nC2⟩, -, X2, ⟨Lc2, hQ2, lq2, yq2, zq2⟩, st2⟩ := Jvm.LawKit.callS X0 hx (y := (⟨"java/util/Arrays", "rangeCheck", "(III)V"⟩ : MethodName)) hown (mvT hZ (hw _ (List.mem_of_getElem? (i := 53) rfl))) (mvT hZ (hw _ (List.mem_of_getElem? (i := 54) rfl))) (mvT hZ (hw _ (List.mem_of_getElem? (i := 51) rfl))) (mvT hZ (hw _ (List.mem_of_getElem? (i := 55) rfl))) (by decide) (backOf (W := 0) (rm8_1 l Z a0 hw []  h0 n0 (by omega) ) hZ (hw _ (List.mem_of_getElem? (i := 55) rfl)) (hw _ (List.mem_of_getElem? (i := 51) rfl)) (by decide) (by decide)) (g := (mkF m 4 #[.val (.ref rl), .val (.int (0 : Int32)), .val (.int (1 : Int32)), .val .null, .unset] [(.int (1 : Int32)), (.int (0 : Int32)), (.int (16 : Int32))])) rfl (by rw [hml]; rfl) (argsL := [(.int (16 : Int32)), (.int (0 : Int32)), (.int (1 : Int32))]) (rest := []) (lenOf pd_1 rfl) rfl (by show 2 * 0 + _ ≤ _; exact Nat.le_of_eq rfl) (hb hby d7_4) (fun _ _ => ⟨rfl, e0, (by decide : 0 + 0 ≤ _), (by decide : 0 + 0 ≤ _)⟩)
  dsimp only [Pt.U, Pt.locs, Pt.cells, Pt.slots] at X2 lq2 yq2 zq2 st2 hQ2
  subst lq2 yq2 zq2
  obtain ⟨rfl, Nq2, eq2⟩ := hQ2
  have N2 := Fr.app N0 Nq2
  refine own_go (st' := T2.setTop (mkF m 7 #[.val (.ref rl), .val (.int (0 : Int32)), .val (.int (1 : Int32)), .val .null, .unset] [])) (fun t k => st2 t k) ?_
  refine own_go (st' := T2.setTop (mkF m 8 #[.val (.ref rl), .val (.int (0 : Int32)), .val (.int (1 : Int32)), .val .null, .unset] [(.int (0 : Int32))])) (fun _ k => XS.iloadN X2.here hx rfl (hb hby d7_7) rfl k) ?_
  refine own_go (st' := T2.setTop (mkF m 10 #[.val (.ref rl), .val (.int (0 : Int32)), .val (.int (1 : Int32)), .val .null, .val (.int (0 : Int32))] [])) (fun _ k => XS.istore X2.here hx rfl (hb hby d7_8) rfl (l' := #[.val (.ref rl), .val (.int (0 : Int32)), .val (.int (1 : Int32)), .val .null, .val (.int (0 : Int32))]) rfl k) ?_
  refine own_go (st' := T2.setTop (mkF m 12 #[.val (.ref rl), .val (.int (0 : Int32)), .val (.int (1 : Int32)), .val .null, .val (.int (0 : Int32))] [(.int (0 : Int32))])) (fun _ k => XS.iload X2.here hx rfl (hb hby d7_10) rfl k) ?_
  refine own_go (st' := T2.setTop (mkF m 13 #[.val (.ref rl), .val (.int (0 : Int32)), .val (.int (1 : Int32)), .val .null, .val (.int (0 : Int32))] [(.int (1 : Int32)), (.int (0 : Int32))])) (fun _ k => XS.iloadN X2.here hx rfl (hb hby d7_12) rfl k) ?_
  have hc3 : (0 : Int32) < (1 : Int32) := by decide
  refine own_go (st' := T2.setTop (mkF m 16 #[.val (.ref rl), .val (.int (0 : Int32)), .val (.int (1 : Int32)), .val .null, .val (.int (0 : Int32))] [])) (fun _ k => XS.icmpNo X2.here hx rfl (hb hby d7_13) rfl (tlt hc3).2.1 k) ?_
  refine own_go (st' := T2.setTop (mkF m 17 #[.val (.ref rl), .val (.int (0 : Int32)), .val (.int (1 : Int32)), .val .null, .val (.int (0 : Int32))] [(.ref rl)])) (fun _ k => XS.aloadN X2.here hx rfl (hb hby d7_16) rfl rfl k) ?_
  refine own_go (st' := T2.setTop (mkF m 19 #[.val (.ref rl), .val (.int (0 : Int32)), .val (.int (1 : Int32)), .val .null, .val (.int (0 : Int32))] [(.int (0 : Int32)), (.ref rl)])) (fun _ k => XS.iload X2.here hx rfl (hb hby d7_17) rfl k) ?_
  refine own_go (st' := T2.setTop (mkF m 20 #[.val (.ref rl), .val (.int (0 : Int32)), .val (.int (1 : Int32)), .val .null, .val (.int (0 : Int32))] [.null, (.int (0 : Int32)), (.ref rl)])) (fun _ k => XS.aloadN X2.here hx rfl (hb hby d7_19) rfl rfl k) ?_
  obtain ⟨cl4, Ar4, qc4, S4, M4, H4, G4⟩ := id pr1
  have hin4 : ¬ ((0 : Int32) < 0 ∨ cl4.slots.size ≤ ((0 : Int32)).toNatClampNeg) := (inb_of S4 ⟨by decide, by decide⟩)
  obtain ⟨T4, h4, X4, e4, W4, st4⟩ := stR X2 hx hZ eq2 Ar4 (j := (0 : Int32)) hin4 rfl (Or.inl rfl) (g := (mkF m 20 #[.val (.ref rl), .val (.int (0 : Int32)), .val (.int (1 : Int32)), .val .null, .val (.int (0 : Int32))] [.null, (.int (0 : Int32)), (.ref rl)])) rfl rfl (hb hby d7_20)
  have sz4 : h4.size = h0.size := W4.size
  have N4 := Fr.snoc X4 N2 (by omega)
  have v4 : Arv Z h4 rl kl (.object "java/lang/Object") (16 : Int32) [.null, .null, .null, .null, .null, .null, .null, .null, .null, .null, .null, .null, .null, .null, .null, .null] .null := Arv.set Ar4 qc4 S4 M4 H4 G4 rfl W4 0 rfl (Nat.le_of_ble_eq_true rfl)
  refine own_go (st' := T4.setTop (mkF m 21 #[.val (.ref rl), .val (.int (0 : Int32)), .val (.int (1 : Int32)), .val .null, .val (.int (0 : Int32))] [])) (st4) ?_
  refine own_go (st' := T4.setTop (mkF m 24 #[.val (.ref rl), .val (.int (0 : Int32)), .val (.int (1 : Int32)), .val .null, .val (.int (1 : Int32))] [])) (fun _ k => XS.iinc X4.here hx rfl (hb hby d7_21) rfl (l' := #[.val (.ref rl), .val (.int (0 : Int32)), .val (.int (1 : Int32)), .val .null, .val (.int (1 : Int32))]) (by rw [show ((0 : Int32) + Int32.ofInt 1) = (1 : Int32) by decide]; rfl) k) ?_
  refine own_go (st' := T4.setTop (mkF m 10 #[.val (.ref rl), .val (.int (0 : Int32)), .val (.int (1 : Int32)), .val .null, .val (.int (1 : Int32))] [])) (fun _ k => XS.goto X4.here hx rfl (pc0 := 24) (pc' := 10) rfl (hb hby d7_24) (by decide) (by decide) k) ?_
  refine own_go (st' := T4.setTop (mkF m 12 #[.val (.ref rl), .val (.int (0 : Int32)), .val (.int (1 : Int32)), .val .null, .val (.int (1 : Int32))] [(.int (1 : Int32))])) (fun _ k => XS.iload X4.here hx rfl (hb hby d7_10) rfl k) ?_
  refine own_go (st' := T4.setTop (mkF m 13 #[.val (.ref rl), .val (.int (0 : Int32)), .val (.int (1 : Int32)), .val .null, .val (.int (1 : Int32))] [(.int (1 : Int32)), (.int (1 : Int32))])) (fun _ k => XS.iloadN X4.here hx rfl (hb hby d7_12) rfl k) ?_
  have hc5 : ¬ ((1 : Int32) < (1 : Int32)) := by decide
  refine own_go (st' := T4.setTop (mkF m 27 #[.val (.ref rl), .val (.int (0 : Int32)), .val (.int (1 : Int32)), .val .null, .val (.int (1 : Int32))] [])) (fun _ k => XS.icmpYes X4.here hx rfl (pc0 := 13) (pc' := 27) rfl (hb hby d7_13) rfl (flt hc5).2.1 (by decide) (by decide) k) ?_
  obtain ⟨fs, hr, hrun, hended, hW, hsame⟩ := X4.leave (v := none) (fun _ => rfl)
  refine ⟨_, _, ?_, hP _ _ hrun hended ⟨_, _, rfl, ?_, ⟨_, rfl⟩, hW, hsame.mono (by decide) (by decide)⟩⟩
  · exact X4.returnOut hx Bd.returns (hb hby d7_27) hr
  · show Qrm7_1 Z rl kl h0 n0 _ T4.heap _
    rw [e4]
    exact ⟨rfl, N4, ((Keep.refl h0 [rl]).wr W4 (Or.inl (List.mem_of_getElem? (i := 0) rfl))), v4⟩
theorem pd_2 : parseMethodDescriptor "([Ljava/lang/Object;IILjava/lang/Object;)V" = some ⟨[(.array (.object "java/lang/Object")), .int, .int, (.object "java/lang/Object")], none⟩ := by decide +kernel
theorem d6_0 : decode prog_1_method_9_code 0 = .ok (.aload_n 0, 1) := by decide +kernel
theorem d6_1 : decode prog_1_method_9_code 1 = .ok (.getfield 16, 3) := by decide +kernel
theorem d6_4 : decode prog_1_method_9_code 4 = .ok (.iconst 0, 1) := by decide +kernel
theorem d6_5 : decode prog_1_method_9_code 5 = .ok (.aload_n 0, 1) := by decide +kernel
theorem d6_6 : decode prog_1_method_9_code 6 = .ok (.getfield 67, 3) := by decide +kernel
theorem d6_9 : decode prog_1_method_9_code 9 = .ok (.aconst_null, 1) := by decide +kernel
theorem d6_10 : decode prog_1_method_9_code 10 = .ok (.invokestatic 70, 3) := by decide +kernel
theorem d6_13 : decode prog_1_method_9_code 13 = .ok (.aload_n 0, 1) := by decide +kernel
theorem d6_14 : decode prog_1_method_9_code 14 = .ok (.iconst 0, 1) := by decide +kernel
theorem d6_15 : decode prog_1_method_9_code 15 = .ok (.putfield 67, 3) := by decide +kernel
theorem d6_18 : decode prog_1_method_9_code 18 = .ok (.aload_n 0, 1) := by decide +kernel
theorem d6_19 : decode prog_1_method_9_code 19 = .ok (.iconst 0, 1) := by decide +kernel
theorem d6_20 : decode prog_1_method_9_code 20 = .ok (.putfield 57, 3) := by decide +kernel
theorem d6_23 : decode prog_1_method_9_code 23 = .ok (.return_, 1) := by decide +kernel
theorem pn_6 : plainName "com/example/greenwood/greenwood/Environment" = true := by first | (simp [plainName, overriddenIn]; done) | decide +kernel
theorem ef_rm6_0 (m : MethodId) (x0 : Addr) : entryFrame m #[(.ref x0)] 1 = mkF m 0 #[.val (.ref x0)] [] := by first | (simp [entryFrame, mkF, argsToLocals, Value.category]; done) | rfl
def Qrm6_0 (Z : State) (a1 : Addr) (no : Int32) (rl : Addr) (rs : Addr) (kl : ClassId) (ks : ClassId) (h0 : Heap) (n0 : Nat) (v : Option Value) (h : Heap) (L : List Loc) : Prop := (v = none) ∧ (Fr n0 L) ∧ (Keep h0 h [a1, rl]) ∧ (Exa Z h a1 "com/example/greenwood/greenwood/Environment") ∧ (Fld Z h a1 "com/example/greenwood/greenwood/Environment" "openScopes" "I" (.int (0 : Int32))) ∧ (Fld Z h a1 "com/example/greenwood/greenwood/Environment" "localCount" "I" (.int (0 : Int32))) ∧ (Fld Z h a1 "com/example/greenwood/greenwood/Environment" "locals" "[Ljava/lang/Object;" (.ref rl)) ∧ (Fld Z h a1 "com/example/greenwood/greenwood/Environment" "scopeStarts" "[I" (.ref rs)) ∧ (Arv Z h rl kl (.object "java/lang/Object") (16 : Int32) [.null, .null, .null, .null, .null, .null, .null, .null, .null, .null, .null, .null, .null, .null, .null, .null] .null)
set_option maxRecDepth 65536 in
set_option maxHeartbeats 40000000 in
theorem rm6_0 (l : Launch) (Z : State) (a0 : Array Value) (hw : ∀ d ∈ tables_1, d.before a0 Z = true) (ws : List Jvm.Cond) (a1 : Addr) (no : Int32) (rl : Addr) (rs : Addr) (kl : ClassId) (ks : ClassId) (h0 : Heap) (n0 : Nat) (Z0 : n0 ≤ h0.size) (pr1 : Exa Z h0 a1 "com/example/greenwood/greenwood/Environment") (pr2 : Fld Z h0 a1 "com/example/greenwood/greenwood/Environment" "openScopes" "I" (.int no)) (pr3 : Fld Z h0 a1 "com/example/greenwood/greenwood/Environment" "localCount" "I" (.int (0 : Int32))) (pr4 : Fld Z h0 a1 "com/example/greenwood/greenwood/Environment" "locals" "[Ljava/lang/Object;" (.ref rl)) (pr5 : Fld Z h0 a1 "com/example/greenwood/greenwood/Environment" "scopeStarts" "[I" (.ref rs)) (pr6 : Arv Z h0 rl kl (.object "java/lang/Object") (16 : Int32) [.null, .null, .null, .null, .null, .null, .null, .null, .null, .null, .null, .null, .null, .null, .null, .null] .null) (pr7 : Arv Z h0 rs ks .int (16 : Int32) [(.int (0 : Int32)), (.int (0 : Int32)), (.int (0 : Int32)), (.int (0 : Int32)), (.int (0 : Int32)), (.int (0 : Int32)), (.int (0 : Int32)), (.int (0 : Int32)), (.int (0 : Int32)), (.int (0 : Int32)), (.int (0 : Int32)), (.int (0 : Int32)), (.int (0 : Int32)), (.int (0 : Int32)), (.int (0 : Int32)), (.int (0 : Int32))] (.int (0 : Int32))) (pr8 : n0 ≤ a1) (pr9 : n0 ≤ rl) (pr10 : n0 ≤ rs) (pr11 : a1 ≠ rl) (pr12 : a1 ≠ rs) (pr13 : rl ≠ rs) :
    MetFree l (⟨"com/example/greenwood/greenwood/Environment", "closeScopes", "()V"⟩ : MethodName) (head1 (Jvm.Cond.code (⟨"com/example/greenwood/greenwood/Environment", "closeScopes", "()V"⟩ : MethodName) prog_1_method_9_code 1 none :: ws) ({ frames := 2, cells := 0, slots := 0, locals := 30 } : Room)) (fun a U => a = #[(.ref a1)] ∧ Z.Warmed39 U.vm ∧ U.heap = h0) (fun _ _ _ _ _ => True) (fun _ U o U' => ∃ v L, o = .returned v ∧ Qrm6_0 Z a1 no rl rs kl ks h0 n0 v U'.heap L ∧ FrameEnd U o U' L ({ frames := 2, cells := 0, slots := 0, locals := 30 } : Room).cells ({ frames := 2, cells := 0, slots := 0, locals := 30 } : Room).slots) := by
  refine MetFree.of_bodySF (plainFor_of_name pn_6) hisR ?_
  intro p e s m args below meth c s₁ Bd hml0 hP0 hK
  obtain ⟨rfl, hZ, hh⟩ := hP0
  have hx := Bd.exec
  have hby := Bd.bytes
  have hml : c.maxLocals = 1 := hml0
  have hown : s.vm.findClass "com/example/greenwood/greenwood/Environment" = some m.cls := findClass_of_methodNamed Bd.named
  have hnm := (name_of_methodNamed Bd.named Bd.method).1
  have X0 : Stand p l e ({ frames := 2, cells := 0, slots := 0, locals := 30 } : Room) s m #[(.ref a1)] below meth c s₁ [] 0 0 := Stand.of_body Bd
  have e0 : s₁.heap = h0 := by rw [← hh, Bd.state]; rfl
  have N0 := Fr.nil n0
  suffices own_H : ∀ (P : State → Outcome → Prop), (∀ U o, U.status = .running → Ended U below o → (∃ v L, o = .returned v ∧ Qrm6_0 Z a1 no rl rs kl ks h0 n0 v U.heap L ∧ FrameEnd s o U L ({ frames := 2, cells := 0, slots := 0, locals := 30 } : Room).cells ({ frames := 2, cells := 0, slots := 0, locals := 30 } : Room).slots) → P U o) → own_Go p.tables e below P (s₁.setTop (mkF m 0 #[.val (.ref a1)] [])) from own_go (fun _ k => castTop (ef_rm6_0 m a1) k) (own_H _ (fun U o h1 h2 h3 => ⟨h1, h2, h3⟩))
  intro P hP
  have lt_a1 : @LT.lt Nat _ a1 h0.size := pr1.lt
  have lt_rl : @LT.lt Nat _ rl h0.size := pr6.lt
  have lt_rs : @LT.lt Nat _ rs h0.size := pr7.lt
  refine own_go (st' := s₁.setTop (mkF m 1 #[.val (.ref a1)] [(.ref a1)])) (fun _ k => XS.aloadN X0.here hx rfl (hb hby d6_0) rfl rfl k) ?_
  obtain ⟨T1, X1, e1, st1⟩ := getF X0 hx hZ hown (host := "") (Or.inl (hw _ (List.mem_of_getElem? (i := 30) rfl))) Via.refl e0 pr4 (g := (mkF m 1 #[.val (.ref a1)] [(.ref a1)])) rfl rfl (hb hby d6_1)
  refine own_go (st' := T1.setTop (mkF m 4 #[.val (.ref a1)] [(.ref rl)])) (st1) ?_
  refine own_go (st' := T1.setTop (mkF m 5 #[.val (.ref a1)] [(.int (0 : Int32)), (.ref rl)])) (fun _ k => XS.iconst X1.here hx rfl (hb hby d6_4) k) ?_
  refine own_go (st' := T1.setTop (mkF m 6 #[.val (.ref a1)] [(.ref a1), (.int (0 : Int32)), (.ref rl)])) (fun _ k => XS.aloadN X1.here hx rfl (hb hby d6_5) rfl rfl k) ?_
  obtain ⟨T2, X2, e2, st2⟩ := getF X1 hx hZ hown (host := "") (Or.inl (hw _ (List.mem_of_getElem? (i := 47) rfl))) Via.refl e1 pr3 (g := (mkF m 6 #[.val (.ref a1)] [(.ref a1), (.int (0 : Int32)), (.ref rl)])) rfl rfl (hb hby d6_6)
  refine own_go (st' := T2.setTop (mkF m 9 #[.val (.ref a1)] [(.int (0 : Int32)), (.int (0 : Int32)), (.ref rl)])) (st2) ?_
  refine own_go (st' := T2.setTop (mkF m 10 #[.val (.ref a1)] [.null, (.int (0 : Int32)), (.int (0 : Int32)), (.ref rl)])) (fun _ k => XS.aconstNull X2.here hx rfl (hb hby d6_9) k) ?_
  obtain ⟨_, _, ⟨T3, LC3, kC3, nC3⟩, -, X3, ⟨Lc3, hQ3, lq3, yq3, zq3⟩, st3⟩ := Jvm.LawKit.callS X2 hx (y := (⟨"java/util/Arrays", "fill", "([Ljava/lang/Object;IILjava/lang/Object;)V"⟩ : MethodName)) hown (mvT hZ (hw _ (List.mem_of_getElem? (i := 49) rfl))) (mvT hZ (hw _ (List.mem_of_getElem? (i := 50) rfl))) (mvT hZ (hw _ (List.mem_of_getElem? (i := 51) rfl))) (mvT hZ (hw _ (List.mem_of_getElem? (i := 52) rfl))) (by decide) (backOf (W := 0) (rm7_0 l Z a0 hw [] rl kl h0 n0 (by omega) pr6 (by omega)) hZ (hw _ (List.mem_of_getElem? (i := 52) rfl)) (hw _ (List.mem_of_getElem? (i := 51) rfl)) (by decide) (by decide)) (g := (mkF m 10 #[.val (.ref a1)] [.null, (.int (0 : Int32)), (.int (0 : Int32)), (.ref rl)])) rfl (by rw [hml]; rfl) (argsL := [(.ref rl), (.int (0 : Int32)), (.int (0 : Int32)), .null]) (rest := []) (lenOf pd_2 rfl) rfl (by show 2 * 0 + _ ≤ _; exact Nat.le_of_eq rfl) (hb hby d6_10) (fun _ _ => ⟨rfl, e2, (by decide : 0 + 0 ≤ _), (by decide : 0 + 0 ≤ _)⟩)
  dsimp only [Pt.U, Pt.locs, Pt.cells, Pt.slots] at X3 lq3 yq3 zq3 st3 hQ3
  subst lq3 yq3 zq3
  obtain ⟨h3, e3⟩ : ∃ z, T3.heap = z := ⟨_, rfl⟩
  rw [e3] at hQ3
  obtain ⟨rfl, Nq3, K3, g3_0⟩ := hQ3
  have sz3 : h0.size ≤ h3.size := K3.1
  have N3 := Fr.app N0 Nq3
  have lt3_1 : @LT.lt Nat _ rl h3.size := g3_0.lt
  refine own_go (st' := T3.setTop (mkF m 13 #[.val (.ref a1)] [])) (fun t k => st3 t k) ?_
  refine own_go (st' := T3.setTop (mkF m 14 #[.val (.ref a1)] [(.ref a1)])) (fun _ k => XS.aloadN X3.here hx rfl (hb hby d6_13) rfl rfl k) ?_
  refine own_go (st' := T3.setTop (mkF m 15 #[.val (.ref a1)] [(.int (0 : Int32)), (.ref a1)])) (fun _ k => XS.iconst X3.here hx rfl (hb hby d6_14) k) ?_
  have c4 : Fld Z h3 a1 "com/example/greenwood/greenwood/Environment" "localCount" "I" (.int (0 : Int32)) := (pr3.keep K3 (ninS (by first | assumption | exact Ne.symm (by assumption) | (apply Nat.ne_of_lt; omega) | (apply Nat.ne_of_gt; omega)) nin0))
  have c5 : Exa Z h3 a1 "com/example/greenwood/greenwood/Environment" := (pr1.keep K3)
  obtain ⟨T6, h6, X6, e6, W6, st6⟩ := putF X3 hx hZ hown (host := "") (Or.inl (hw _ (List.mem_of_getElem? (i := 47) rfl))) Via.refl e3 c4 c5 (Or.inl (hw _ (List.mem_of_getElem? (i := 48) rfl))) (hw _ (List.mem_of_getElem? (i := 2) rfl)) (ty := .int) (by decide) rfl rfl (g := (mkF m 15 #[.val (.ref a1)] [(.int (0 : Int32)), (.ref a1)])) rfl rfl (hb hby d6_15)
  have sz6 : h6.size = h3.size := W6.size
  have N6 := Fr.snoc X6 N3 (by omega)
  have f6 : Fld Z h6 a1 "com/example/greenwood/greenwood/Environment" "localCount" "I" (.int (0 : Int32)) := c4.same W6
  refine own_go (st' := T6.setTop (mkF m 18 #[.val (.ref a1)] [])) (st6) ?_
  refine own_go (st' := T6.setTop (mkF m 19 #[.val (.ref a1)] [(.ref a1)])) (fun _ k => XS.aloadN X6.here hx rfl (hb hby d6_18) rfl rfl k) ?_
  refine own_go (st' := T6.setTop (mkF m 20 #[.val (.ref a1)] [(.int (0 : Int32)), (.ref a1)])) (fun _ k => XS.iconst X6.here hx rfl (hb hby d6_19) k) ?_
  have c7 : Fld Z h6 a1 "com/example/greenwood/greenwood/Environment" "openScopes" "I" (.int no) := ((pr2.keep K3 (ninS (by first | assumption | exact Ne.symm (by assumption) | (apply Nat.ne_of_lt; omega) | (apply Nat.ne_of_gt; omega)) nin0)).other W6 (Or.inr (slot_ne (Or.inl (hw _ (List.mem_of_getElem? (i := 41) rfl))) (Or.inl (hw _ (List.mem_of_getElem? (i := 48) rfl))) (by decide) (t := .int) (t' := .int) (by decide) (by decide))))
  have c8 : Exa Z h6 a1 "com/example/greenwood/greenwood/Environment" := (c5.wr W6)
  obtain ⟨T9, h9, X9, e9, W9, st9⟩ := putF X6 hx hZ hown (host := "") (Or.inl (hw _ (List.mem_of_getElem? (i := 40) rfl))) Via.refl e6 c7 c8 (Or.inl (hw _ (List.mem_of_getElem? (i := 41) rfl))) (hw _ (List.mem_of_getElem? (i := 2) rfl)) (ty := .int) (by decide) rfl rfl (g := (mkF m 20 #[.val (.ref a1)] [(.int (0 : Int32)), (.ref a1)])) rfl rfl (hb hby d6_20)
  have sz9 : h9.size = h6.size := W9.size
  have N9 := Fr.snoc X9 N6 (by omega)
  have f9 : Fld Z h9 a1 "com/example/greenwood/greenwood/Environment" "openScopes" "I" (.int (0 : Int32)) := c7.same W9
  refine own_go (st' := T9.setTop (mkF m 23 #[.val (.ref a1)] [])) (st9) ?_
  obtain ⟨fs, hr, hrun, hended, hW, hsame⟩ := X9.leave (v := none) (fun _ => rfl)
  refine ⟨_, _, ?_, hP _ _ hrun hended ⟨_, _, rfl, ?_, ⟨_, rfl⟩, hW, hsame.mono (by decide) (by decide)⟩⟩
  · exact X9.returnOut hx Bd.returns (hb hby d6_23) hr
  · show Qrm6_0 Z a1 no rl rs kl ks h0 n0 _ T9.heap _
    have c11 : Exa Z h9 a1 "com/example/greenwood/greenwood/Environment" := (c8.wr W9)
    have c12 : Fld Z h9 a1 "com/example/greenwood/greenwood/Environment" "localCount" "I" (.int (0 : Int32)) := (f6.other W9 (Or.inr (slot_ne (Or.inl (hw _ (List.mem_of_getElem? (i := 48) rfl))) (Or.inl (hw _ (List.mem_of_getElem? (i := 41) rfl))) (by decide) (t := .int) (t' := .int) (by decide) (by decide))))
    have c13 : Fld Z h9 a1 "com/example/greenwood/greenwood/Environment" "locals" "[Ljava/lang/Object;" (.ref rl) := (((pr4.keep K3 (ninS (by first | assumption | exact Ne.symm (by assumption) | (apply Nat.ne_of_lt; omega) | (apply Nat.ne_of_gt; omega)) nin0)).other W6 (Or.inr (slot_ne (Or.inl (hw _ (List.mem_of_getElem? (i := 31) rfl))) (Or.inl (hw _ (List.mem_of_getElem? (i := 48) rfl))) (by decide) (t := (.array (.object "java/lang/Object"))) (t' := .int) (by decide) (by decide)))).other W9 (Or.inr (slot_ne (Or.inl (hw _ (List.mem_of_getElem? (i := 31) rfl))) (Or.inl (hw _ (List.mem_of_getElem? (i := 41) rfl))) (by decide) (t := (.array (.object "java/lang/Object"))) (t' := .int) (by decide) (by decide))))
    have c14 : Fld Z h9 a1 "com/example/greenwood/greenwood/Environment" "scopeStarts" "[I" (.ref rs) := (((pr5.keep K3 (ninS (by first | assumption | exact Ne.symm (by assumption) | (apply Nat.ne_of_lt; omega) | (apply Nat.ne_of_gt; omega)) nin0)).other W6 (Or.inr (slot_ne (Or.inl (hw _ (List.mem_of_getElem? (i := 34) rfl))) (Or.inl (hw _ (List.mem_of_getElem? (i := 48) rfl))) (by decide) (t := (.array .int)) (t' := .int) (by decide) (by decide)))).other W9 (Or.inr (slot_ne (Or.inl (hw _ (List.mem_of_getElem? (i := 34) rfl))) (Or.inl (hw _ (List.mem_of_getElem? (i := 41) rfl))) (by decide) (t := (.array .int)) (t' := .int) (by decide) (by decide))))
    have c15 : Arv Z h9 rl kl (.object "java/lang/Object") (16 : Int32) [.null, .null, .null, .null, .null, .null, .null, .null, .null, .null, .null, .null, .null, .null, .null, .null] .null := ((g3_0.other W6 (by first | assumption | exact Ne.symm (by assumption) | (apply Nat.ne_of_lt; omega) | (apply Nat.ne_of_gt; omega))).other W9 (by first | assumption | exact Ne.symm (by assumption) | (apply Nat.ne_of_lt; omega) | (apply Nat.ne_of_gt; omega)))
    rw [e9]
    exact ⟨rfl, N9, ((((Keep.refl h0 [a1, rl]).trans K3 (allS (P := fun x => x ∈ [a1, rl] ∨ h0.size ≤ x) (Or.inl (List.mem_of_getElem? (i := 1) rfl)) all0)).wr W6 (Or.inl (List.mem_of_getElem? (i := 0) rfl))).wr W9 (Or.inl (List.mem_of_getElem? (i := 0) rfl))), c11, f9, c12, c13, c14, c15⟩
theorem ef_rm6_1 (m : MethodId) (x0 : Addr) : entryFrame m #[(.ref x0)] 1 = mkF m 0 #[.val (.ref x0)] [] := by first | (simp [entryFrame, mkF, argsToLocals, Value.category]; done) | rfl
def Qrm6_1 (Z : State) (a1 : Addr) (no : Int32) (rl : Addr) (rs : Addr) (kl : ClassId) (ks : ClassId) (h0 : Heap) (n0 : Nat) (v : Option Value) (h : Heap) (L : List Loc) : Prop := (v = none) ∧ (Fr n0 L) ∧ (Keep h0 h [a1, rl]) ∧ (Exa Z h a1 "com/example/greenwood/greenwood/Environment") ∧ (Fld Z h a1 "com/example/greenwood/greenwood/Environment" "openScopes" "I" (.int (0 : Int32))) ∧ (Fld Z h a1 "com/example/greenwood/greenwood/Environment" "localCount" "I" (.int (0 : Int32))) ∧ (Fld Z h a1 "com/example/greenwood/greenwood/Environment" "locals" "[Ljava/lang/Object;" (.ref rl)) ∧ (Fld Z h a1 "com/example/greenwood/greenwood/Environment" "scopeStarts" "[I" (.ref rs)) ∧ (Arv Z h rl kl (.object "java/lang/Object") (16 : Int32) [.null, .null, .null, .null, .null, .null, .null, .null, .null, .null, .null, .null, .null, .null, .null, .null] .null)
set_option maxRecDepth 65536 in
set_option maxHeartbeats 40000000 in
theorem rm6_1 (l : Launch) (Z : State) (a0 : Array Value) (hw : ∀ d ∈ tables_1, d.before a0 Z = true) (ws : List Jvm.Cond) (a1 : Addr) (no : Int32) (rl : Addr) (rs : Addr) (kl : ClassId) (ks : ClassId) (h0 : Heap) (n0 : Nat) (Z0 : n0 ≤ h0.size) (pr1 : Exa Z h0 a1 "com/example/greenwood/greenwood/Environment") (pr2 : Fld Z h0 a1 "com/example/greenwood/greenwood/Environment" "openScopes" "I" (.int no)) (pr3 : Fld Z h0 a1 "com/example/greenwood/greenwood/Environment" "localCount" "I" (.int (1 : Int32))) (pr4 : Fld Z h0 a1 "com/example/greenwood/greenwood/Environment" "locals" "[Ljava/lang/Object;" (.ref rl)) (pr5 : Fld Z h0 a1 "com/example/greenwood/greenwood/Environment" "scopeStarts" "[I" (.ref rs)) (pr6 : Arv Z h0 rl kl (.object "java/lang/Object") (16 : Int32) [.null, .null, .null, .null, .null, .null, .null, .null, .null, .null, .null, .null, .null, .null, .null, .null] .null) (pr7 : Arv Z h0 rs ks .int (16 : Int32) [(.int (0 : Int32)), (.int (0 : Int32)), (.int (0 : Int32)), (.int (0 : Int32)), (.int (0 : Int32)), (.int (0 : Int32)), (.int (0 : Int32)), (.int (0 : Int32)), (.int (0 : Int32)), (.int (0 : Int32)), (.int (0 : Int32)), (.int (0 : Int32)), (.int (0 : Int32)), (.int (0 : Int32)), (.int (0 : Int32)), (.int (0 : Int32))] (.int (0 : Int32))) (pr8 : n0 ≤ a1) (pr9 : n0 ≤ rl) (pr10 : n0 ≤ rs) (pr11 : a1 ≠ rl) (pr12 : a1 ≠ rs) (pr13 : rl ≠ rs) :
    MetFree l (⟨"com/example/greenwood/greenwood/Environment", "closeScopes", "()V"⟩ : MethodName) (head1 (Jvm.Cond.code (⟨"com/example/greenwood/greenwood/Environment", "closeScopes", "()V"⟩ : MethodName) prog_1_method_9_code 1 none :: ws) ({ frames := 2, cells := 0, slots := 0, locals := 30 } : Room)) (fun a U => a = #[(.ref a1)] ∧ Z.Warmed39 U.vm ∧ U.heap = h0) (fun _ _ _ _ _ => True) (fun _ U o U' => ∃ v L, o = .returned v ∧ Qrm6_1 Z a1 no rl rs kl ks h0 n0 v U'.heap L ∧ FrameEnd U o U' L ({ frames := 2, cells := 0, slots := 0, locals := 30 } : Room).cells ({ frames := 2, cells := 0, slots := 0, locals := 30 } : Room).slots) := by
  refine MetFree.of_bodySF (plainFor_of_name pn_6) hisR ?_
  intro p e s m args below meth c s₁ Bd hml0 hP0 hK
  obtain ⟨rfl, hZ, hh⟩ := hP0
  have hx := Bd.exec
  have hby := Bd.bytes
  have hml : c.maxLocals = 1 := hml0
  have hown : s.vm.findClass "com/example/greenwood/greenwood/Environment" = some m.cls := findClass_of_methodNamed Bd.named
  have hnm := (name_of_methodNamed Bd.named Bd.method).1
  have X0 : Stand p l e ({ frames := 2, cells := 0, slots := 0, locals := 30 } : Room) s m #[(.ref a1)] below meth c s₁ [] 0 0 := Stand.of_body Bd
  have e0 : s₁.heap = h0 := by rw [← hh, Bd.state]; rfl
  have N0 := Fr.nil n0
  suffices own_H : ∀ (P : State → Outcome → Prop), (∀ U o, U.status = .running → Ended U below o → (∃ v L, o = .returned v ∧ Qrm6_1 Z a1 no rl rs kl ks h0 n0 v U.heap L ∧ FrameEnd s o U L ({ frames := 2, cells := 0, slots := 0, locals := 30 } : Room).cells ({ frames := 2, cells := 0, slots := 0, locals := 30 } : Room).slots) → P U o) → own_Go p.tables e below P (s₁.setTop (mkF m 0 #[.val (.ref a1)] [])) from own_go (fun _ k => castTop (ef_rm6_1 m a1) k) (own_H _ (fun U o h1 h2 h3 => ⟨h1, h2, h3⟩))
  intro P hP
  have lt_a1 : @LT.lt Nat _ a1 h0.size := pr1.lt
  have lt_rl : @LT.lt Nat _ rl h0.size := pr6.lt
  have lt_rs : @LT.lt Nat _ rs h0.size := pr7.lt
  refine own_go (st' := s₁.setTop (mkF m 1 #[.val (.ref a1)] [(.ref a1)])) (fun _ k => XS.aloadN X0.here hx rfl (hb hby d6_0) rfl rfl k) ?_
  obtain ⟨T1, X1, e1, st1⟩ := getF X0 hx hZ hown (host := "") (Or.inl (hw _ (List.mem_of_getElem? (i := 30) rfl))) Via.refl e0 pr4 (g := (mkF m 1 #[.val (.ref a1)] [(.ref a1)])) rfl rfl (hb hby d6_1)
  refine own_go (st' := T1.setTop (mkF m 4 #[.val (.ref a1)] [(.ref rl)])) (st1) ?_
  refine own_go (st' := T1.setTop (mkF m 5 #[.val (.ref a1)] [(.int (0 : Int32)), (.ref rl)])) (fun _ k => XS.iconst X1.here hx rfl (hb hby d6_4) k) ?_
  refine own_go (st' := T1.setTop (mkF m 6 #[.val (.ref a1)] [(.ref a1), (.int (0 : Int32)), (.ref rl)])) (fun _ k => XS.aloadN X1.here hx rfl (hb hby d6_5) rfl rfl k) ?_
  obtain ⟨T2, X2, e2, st2⟩ := getF X1 hx hZ hown (host := "") (Or.inl (hw _ (List.mem_of_getElem? (i := 47) rfl))) Via.refl e1 pr3 (g := (mkF m 6 #[.val (.ref a1)] [(.ref a1), (.int (0 : Int32)), (.ref rl)])) rfl rfl (hb hby d6_6)
  refine own_go (st' := T2.setTop (mkF m 9 #[.val (.ref a1)] [(.int (1 : Int32)), (.int (0 : Int32)), (.ref rl)])) (st2) ?_
  refine own_go (st' := T2.setTop (mkF m 10 #[.val (.ref a1)] [.null, (.int (1 : Int32)), (.int (0 : Int32)), (.ref rl)])) (fun _ k => XS.aconstNull X2.here hx rfl (hb hby d6_9) k) ?_
  obtain ⟨_, _, ⟨T3, LC3, kC3, nC3⟩, -, X3, ⟨Lc3, hQ3, lq3, yq3, zq3⟩, st3⟩ := Jvm.LawKit.callS X2 hx (y := (⟨"java/util/Arrays", "fill", "([Ljava/lang/Object;IILjava/lang/Object;)V"⟩ : MethodName)) hown (mvT hZ (hw _ (List.mem_of_getElem? (i := 49) rfl))) (mvT hZ (hw _ (List.mem_of_getElem? (i := 50) rfl))) (mvT hZ (hw _ (List.mem_of_getElem? (i := 51) rfl))) (mvT hZ (hw _ (List.mem_of_getElem? (i := 52) rfl))) (by decide) (backOf (W := 0) (rm7_1 l Z a0 hw [] rl kl h0 n0 (by omega) pr6 (by omega)) hZ (hw _ (List.mem_of_getElem? (i := 52) rfl)) (hw _ (List.mem_of_getElem? (i := 51) rfl)) (by decide) (by decide)) (g := (mkF m 10 #[.val (.ref a1)] [.null, (.int (1 : Int32)), (.int (0 : Int32)), (.ref rl)])) rfl (by rw [hml]; rfl) (argsL := [(.ref rl), (.int (0 : Int32)), (.int (1 : Int32)), .null]) (rest := []) (lenOf pd_2 rfl) rfl (by show 2 * 0 + _ ≤ _; exact Nat.le_of_eq rfl) (hb hby d6_10) (fun _ _ => ⟨rfl, e2, (by decide : 0 + 0 ≤ _), (by decide : 0 + 0 ≤ _)⟩)
  dsimp only [Pt.U, Pt.locs, Pt.cells, Pt.slots] at X3 lq3 yq3 zq3 st3 hQ3
  subst lq3 yq3 zq3
  obtain ⟨h3, e3⟩ : ∃ z, T3.heap = z := ⟨_, rfl⟩
  rw [e3] at hQ3
  obtain ⟨rfl, Nq3, K3, g3_0⟩ := hQ3
  have sz3 : h0.size ≤ h3.size := K3.1
  have N3 := Fr.app N0 Nq3
  have lt3_1 : @LT.lt Nat _ rl h3.size := g3_0.lt
  refine own_go (st' := T3.setTop (mkF m 13 #[.val (.ref a1)] [])) (fun t k => st3 t k) ?_
  refine own_go (st' := T3.setTop (mkF m 14 #[.val (.ref a1)] [(.ref a1)])) (fun _ k => XS.aloadN X3.here hx rfl (hb hby d6_13) rfl rfl k) ?_
  refine own_go (st' := T3.setTop (mkF m 15 #[.val (.ref a1)] [(.int (0 : Int32)), (.ref a1)])) (fun _ k => XS.iconst X3.here hx rfl (hb hby d6_14) k) ?_
  have c4 : Fld Z h3 a1 "com/example/greenwood/greenwood/Environment" "localCount" "I" (.int (1 : Int32)) := (pr3.keep K3 (ninS (by first | assumption | exact Ne.symm (by assumption) | (apply Nat.ne_of_lt; omega) | (apply Nat.ne_of_gt; omega)) nin0))
  have c5 : Exa Z h3 a1 "com/example/greenwood/greenwood/Environment" := (pr1.keep K3)
  obtain ⟨T6, h6, X6, e6, W6, st6⟩ := putF X3 hx hZ hown (host := "") (Or.inl (hw _ (List.mem_of_getElem? (i := 47) rfl))) Via.refl e3 c4 c5 (Or.inl (hw _ (List.mem_of_getElem? (i := 48) rfl))) (hw _ (List.mem_of_getElem? (i := 2) rfl)) (ty := .int) (by decide) rfl rfl (g := (mkF m 15 #[.val (.ref a1)] [(.int (0 : Int32)), (.ref a1)])) rfl rfl (hb hby d6_15)
  have sz6 : h6.size = h3.size := W6.size
  have N6 := Fr.snoc X6 N3 (by omega)
  have f6 : Fld Z h6 a1 "com/example/greenwood/greenwood/Environment" "localCount" "I" (.int (0 : Int32)) := c4.same W6
  refine own_go (st' := T6.setTop (mkF m 18 #[.val (.ref a1)] [])) (st6) ?_
  refine own_go (st' := T6.setTop (mkF m 19 #[.val (.ref a1)] [(.ref a1)])) (fun _ k => XS.aloadN X6.here hx rfl (hb hby d6_18) rfl rfl k) ?_
  refine own_go (st' := T6.setTop (mkF m 20 #[.val (.ref a1)] [(.int (0 : Int32)), (.ref a1)])) (fun _ k => XS.iconst X6.here hx rfl (hb hby d6_19) k) ?_
  have c7 : Fld Z h6 a1 "com/example/greenwood/greenwood/Environment" "openScopes" "I" (.int no) := ((pr2.keep K3 (ninS (by first | assumption | exact Ne.symm (by assumption) | (apply Nat.ne_of_lt; omega) | (apply Nat.ne_of_gt; omega)) nin0)).other W6 (Or.inr (slot_ne (Or.inl (hw _ (List.mem_of_getElem? (i := 41) rfl))) (Or.inl (hw _ (List.mem_of_getElem? (i := 48) rfl))) (by decide) (t := .int) (t' := .int) (by decide) (by decide))))
  have c8 : Exa Z h6 a1 "com/example/greenwood/greenwood/Environment" := (c5.wr W6)
  obtain ⟨T9, h9, X9, e9, W9, st9⟩ := putF X6 hx hZ hown (host := "") (Or.inl (hw _ (List.mem_of_getElem? (i := 40) rfl))) Via.refl e6 c7 c8 (Or.inl (hw _ (List.mem_of_getElem? (i := 41) rfl))) (hw _ (List.mem_of_getElem? (i := 2) rfl)) (ty := .int) (by decide) rfl rfl (g := (mkF m 20 #[.val (.ref a1)] [(.int (0 : Int32)), (.ref a1)])) rfl rfl (hb hby d6_20)
  have sz9 : h9.size = h6.size := W9.size
  have N9 := Fr.snoc X9 N6 (by omega)
  have f9 : Fld Z h9 a1 "com/example/greenwood/greenwood/Environment" "openScopes" "I" (.int (0 : Int32)) := c7.same W9
  refine own_go (st' := T9.setTop (mkF m 23 #[.val (.ref a1)] [])) (st9) ?_
  obtain ⟨fs, hr, hrun, hended, hW, hsame⟩ := X9.leave (v := none) (fun _ => rfl)
  refine ⟨_, _, ?_, hP _ _ hrun hended ⟨_, _, rfl, ?_, ⟨_, rfl⟩, hW, hsame.mono (by decide) (by decide)⟩⟩
  · exact X9.returnOut hx Bd.returns (hb hby d6_23) hr
  · show Qrm6_1 Z a1 no rl rs kl ks h0 n0 _ T9.heap _
    have c11 : Exa Z h9 a1 "com/example/greenwood/greenwood/Environment" := (c8.wr W9)
    have c12 : Fld Z h9 a1 "com/example/greenwood/greenwood/Environment" "localCount" "I" (.int (0 : Int32)) := (f6.other W9 (Or.inr (slot_ne (Or.inl (hw _ (List.mem_of_getElem? (i := 48) rfl))) (Or.inl (hw _ (List.mem_of_getElem? (i := 41) rfl))) (by decide) (t := .int) (t' := .int) (by decide) (by decide))))
    have c13 : Fld Z h9 a1 "com/example/greenwood/greenwood/Environment" "locals" "[Ljava/lang/Object;" (.ref rl) := (((pr4.keep K3 (ninS (by first | assumption | exact Ne.symm (by assumption) | (apply Nat.ne_of_lt; omega) | (apply Nat.ne_of_gt; omega)) nin0)).other W6 (Or.inr (slot_ne (Or.inl (hw _ (List.mem_of_getElem? (i := 31) rfl))) (Or.inl (hw _ (List.mem_of_getElem? (i := 48) rfl))) (by decide) (t := (.array (.object "java/lang/Object"))) (t' := .int) (by decide) (by decide)))).other W9 (Or.inr (slot_ne (Or.inl (hw _ (List.mem_of_getElem? (i := 31) rfl))) (Or.inl (hw _ (List.mem_of_getElem? (i := 41) rfl))) (by decide) (t := (.array (.object "java/lang/Object"))) (t' := .int) (by decide) (by decide))))
    have c14 : Fld Z h9 a1 "com/example/greenwood/greenwood/Environment" "scopeStarts" "[I" (.ref rs) := (((pr5.keep K3 (ninS (by first | assumption | exact Ne.symm (by assumption) | (apply Nat.ne_of_lt; omega) | (apply Nat.ne_of_gt; omega)) nin0)).other W6 (Or.inr (slot_ne (Or.inl (hw _ (List.mem_of_getElem? (i := 34) rfl))) (Or.inl (hw _ (List.mem_of_getElem? (i := 48) rfl))) (by decide) (t := (.array .int)) (t' := .int) (by decide) (by decide)))).other W9 (Or.inr (slot_ne (Or.inl (hw _ (List.mem_of_getElem? (i := 34) rfl))) (Or.inl (hw _ (List.mem_of_getElem? (i := 41) rfl))) (by decide) (t := (.array .int)) (t' := .int) (by decide) (by decide))))
    have c15 : Arv Z h9 rl kl (.object "java/lang/Object") (16 : Int32) [.null, .null, .null, .null, .null, .null, .null, .null, .null, .null, .null, .null, .null, .null, .null, .null] .null := ((g3_0.other W6 (by first | assumption | exact Ne.symm (by assumption) | (apply Nat.ne_of_lt; omega) | (apply Nat.ne_of_gt; omega))).other W9 (by first | assumption | exact Ne.symm (by assumption) | (apply Nat.ne_of_lt; omega) | (apply Nat.ne_of_gt; omega)))
    rw [e9]
    exact ⟨rfl, N9, ((((Keep.refl h0 [a1, rl]).trans K3 (allS (P := fun x => x ∈ [a1, rl] ∨ h0.size ≤ x) (Or.inl (List.mem_of_getElem? (i := 1) rfl)) all0)).wr W6 (Or.inl (List.mem_of_getElem? (i := 0) rfl))).wr W9 (Or.inl (List.mem_of_getElem? (i := 0) rfl))), c11, f9, c12, c13, c14, c15⟩
theorem d9_0 : decode prog_1_method_7_code 0 = .ok (.aload_n 0, 1) := by decide +kernel
theorem d9_1 : decode prog_1_method_7_code 1 = .ok (.getfield 57, 3) := by decide +kernel
theorem d9_4 : decode prog_1_method_7_code 4 = .ok (.aload_n 0, 1) := by decide +kernel
theorem d9_5 : decode prog_1_method_7_code 5 = .ok (.getfield 20, 3) := by decide +kernel
theorem d9_8 : decode prog_1_method_7_code 8 = .ok (.arraylength, 1) := by decide +kernel
theorem d9_9 : decode prog_1_method_7_code 9 = .ok (.if_icmp .ne 20, 3) := by decide +kernel
theorem d9_29 : decode prog_1_method_7_code 29 = .ok (.aload_n 0, 1) := by decide +kernel
theorem d9_30 : decode prog_1_method_7_code 30 = .ok (.getfield 20, 3) := by decide +kernel
theorem d9_33 : decode prog_1_method_7_code 33 = .ok (.aload_n 0, 1) := by decide +kernel
theorem d9_34 : decode prog_1_method_7_code 34 = .ok (.getfield 57, 3) := by decide +kernel
theorem d9_37 : decode prog_1_method_7_code 37 = .ok (.aload_n 0, 1) := by decide +kernel
theorem d9_38 : decode prog_1_method_7_code 38 = .ok (.getfield 67, 3) := by decide +kernel
theorem d9_41 : decode prog_1_method_7_code 41 = .ok (.iastore, 1) := by decide +kernel
theorem d9_42 : decode prog_1_method_7_code 42 = .ok (.aload_n 0, 1) := by decide +kernel
theorem d9_43 : decode prog_1_method_7_code 43 = .ok (.dup, 1) := by decide +kernel
theorem d9_44 : decode prog_1_method_7_code 44 = .ok (.getfield 57, 3) := by decide +kernel
theorem d9_47 : decode prog_1_method_7_code 47 = .ok (.iconst 1, 1) := by decide +kernel
theorem d9_48 : decode prog_1_method_7_code 48 = .ok (.iadd, 1) := by decide +kernel
theorem d9_49 : decode prog_1_method_7_code 49 = .ok (.putfield 57, 3) := by decide +kernel
theorem d9_52 : decode prog_1_method_7_code 52 = .ok (.return_, 1) := by decide +kernel
theorem pn_9 : plainName "com/example/greenwood/greenwood/Environment" = true := by first | (simp [plainName, overriddenIn]; done) | decide +kernel
theorem ef_rm9_0 (m : MethodId) (x0 : Addr) : entryFrame m #[(.ref x0)] 1 = mkF m 0 #[.val (.ref x0)] [] := by first | (simp [entryFrame, mkF, argsToLocals, Value.category]; done) | rfl
def Qrm9_0 (Z : State) (a1 : Addr) (rl : Addr) (rs : Addr) (kl : ClassId) (ks : ClassId) (h0 : Heap) (n0 : Nat) (v : Option Value) (h : Heap) (L : List Loc) : Prop := (v = none) ∧ (Fr n0 L) ∧ (Keep h0 h [a1, rs]) ∧ (Exa Z h a1 "com/example/greenwood/greenwood/Environment") ∧ (Fld Z h a1 "com/example/greenwood/greenwood/Environment" "openScopes" "I" (.int (1 : Int32))) ∧ (Fld Z h a1 "com/example/greenwood/greenwood/Environment" "localCount" "I" (.int (0 : Int32))) ∧ (Fld Z h a1 "com/example/greenwood/greenwood/Environment" "locals" "[Ljava/lang/Object;" (.ref rl)) ∧ (Fld Z h a1 "com/example/greenwood/greenwood/Environment" "scopeStarts" "[I" (.ref rs)) ∧ (Arv Z h rs ks .int (16 : Int32) [(.int (0 : Int32)), (.int (0 : Int32)), (.int (0 : Int32)), (.int (0 : Int32)), (.int (0 : Int32)), (.int (0 : Int32)), (.int (0 : Int32)), (.int (0 : Int32)), (.int (0 : Int32)), (.int (0 : Int32)), (.int (0 : Int32)), (.int (0 : Int32)), (.int (0 : Int32)), (.int (0 : Int32)), (.int (0 : Int32)), (.int (0 : Int32))] (.int (0 : Int32)))
set_option maxRecDepth 65536 in
set_option maxHeartbeats 40000000 in
theorem rm9_0 (l : Launch) (Z : State) (a0 : Array Value) (hw : ∀ d ∈ tables_1, d.before a0 Z = true) (ws : List Jvm.Cond) (a1 : Addr) (rl : Addr) (rs : Addr) (kl : ClassId) (ks : ClassId) (h0 : Heap) (n0 : Nat) (Z0 : n0 ≤ h0.size) (pr1 : Exa Z h0 a1 "com/example/greenwood/greenwood/Environment") (pr2 : Fld Z h0 a1 "com/example/greenwood/greenwood/Environment" "openScopes" "I" (.int (0 : Int32))) (pr3 : Fld Z h0 a1 "com/example/greenwood/greenwood/Environment" "localCount" "I" (.int (0 : Int32))) (pr4 : Fld Z h0 a1 "com/example/greenwood/greenwood/Environment" "locals" "[Ljava/lang/Object;" (.ref rl)) (pr5 : Fld Z h0 a1 "com/example/greenwood/greenwood/Environment" "scopeStarts" "[I" (.ref rs)) (pr6 : Arv Z h0 rl kl (.object "java/lang/Object") (16 : Int32) [.null, .null, .null, .null, .null, .null, .null, .null, .null, .null, .null, .null, .null, .null, .null, .null] .null) (pr7 : Arv Z h0 rs ks .int (16 : Int32) [(.int (0 : Int32)), (.int (0 : Int32)), (.int (0 : Int32)), (.int (0 : Int32)), (.int (0 : Int32)), (.int (0 : Int32)), (.int (0 : Int32)), (.int (0 : Int32)), (.int (0 : Int32)), (.int (0 : Int32)), (.int (0 : Int32)), (.int (0 : Int32)), (.int (0 : Int32)), (.int (0 : Int32)), (.int (0 : Int32)), (.int (0 : Int32))] (.int (0 : Int32))) (pr8 : n0 ≤ a1) (pr9 : n0 ≤ rl) (pr10 : n0 ≤ rs) (pr11 : a1 ≠ rl) (pr12 : a1 ≠ rs) (pr13 : rl ≠ rs) :
    MetFree l (⟨"com/example/greenwood/greenwood/Environment", "openScope", "()V"⟩ : MethodName) (head1 (Jvm.Cond.code (⟨"com/example/greenwood/greenwood/Environment", "openScope", "()V"⟩ : MethodName) prog_1_method_7_code 1 none :: ws) ({ frames := 0, cells := 0, slots := 0, locals := 0 } : Room)) (fun a U => a = #[(.ref a1)] ∧ Z.Warmed39 U.vm ∧ U.heap = h0) (fun _ _ _ _ _ => True) (fun _ U o U' => ∃ v L, o = .returned v ∧ Qrm9_0 Z a1 rl rs kl ks h0 n0 v U'.heap L ∧ FrameEnd U o U' L ({ frames := 0, cells := 0, slots := 0, locals := 0 } : Room).cells ({ frames := 0, cells := 0, slots := 0, locals := 0 } : Room).slots) := by
  refine MetFree.of_bodySF (plainFor_of_name pn_9) hisR ?_
  intro p e s m args below meth c s₁ Bd hml0 hP0 hK
  obtain ⟨rfl, hZ, hh⟩ := hP0
  have hx := Bd.exec
  have hby := Bd.bytes
  have hml : c.maxLocals = 1 := hml0
  have hown : s.vm.findClass "com/example/greenwood/greenwood/Environment" = some m.cls := findClass_of_methodNamed Bd.named
  have hnm := (name_of_methodNamed Bd.named Bd.method).1
  have X0 : Stand p l e ({ frames := 0, cells := 0, slots := 0, locals := 0 } : Room) s m #[(.ref a1)] below meth c s₁ [] 0 0 := Stand.of_body Bd
  have e0 : s₁.heap = h0 := by rw [← hh, Bd.state]; rfl
  have N0 := Fr.nil n0
  suffices own_H : ∀ (P : State → Outcome → Prop), (∀ U o, U.status = .running → Ended U below o → (∃ v L, o = .returned v ∧ Qrm9_0 Z a1 rl rs kl ks h0 n0 v U.heap L ∧ FrameEnd s o U L ({ frames := 0, cells := 0, slots := 0, locals := 0 } : Room).cells ({ frames := 0, cells := 0, slots := 0, locals := 0 } : Room).slots) → P U o) → own_Go p.tables e below P (s₁.setTop (mkF m 0 #[.val (.ref a1)] [])) from own_go (fun _ k => castTop (ef_rm9_0 m a1) k) (own_H _ (fun U o h1 h2 h3 => ⟨h1, h2, h3⟩))
  intro P hP
  have lt_a1 : @LT.lt Nat _ a1 h0.size := pr1.lt
  have lt_rl : @LT.lt Nat _ rl h0.size := pr6.lt
  have lt_rs : @LT.lt Nat _ rs h0.size := pr7.lt
  refine own_go (st' := s₁.setTop (mkF m 1 #[.val (.ref a1)] [(.ref a1)])) (fun _ k => XS.aloadN X0.here hx rfl (hb hby d9_0) rfl rfl k) ?_
  obtain ⟨T1, X1, e1, st1⟩ := getF X0 hx hZ hown (host := "") (Or.inl (hw _ (List.mem_of_getElem? (i := 40) rfl))) Via.refl e0 pr2 (g := (mkF m 1 #[.val (.ref a1)] [(.ref a1)])) rfl rfl (hb hby d9_1)
  refine own_go (st' := T1.setTop (mkF m 4 #[.val (.ref a1)] [(.int (0 : Int32))])) (st1) ?_
  refine own_go (st' := T1.setTop (mkF m 5 #[.val (.ref a1)] [(.ref a1), (.int (0 : Int32))])) (fun _ k => XS.aloadN X1.here hx rfl (hb hby d9_4) rfl rfl k) ?_
  obtain ⟨T2, X2, e2, st2⟩ := getF X1 hx hZ hown (host := "") (Or.inl (hw _ (List.mem_of_getElem? (i := 33) rfl))) Via.refl e1 pr5 (g := (mkF m 5 #[.val (.ref a1)] [(.ref a1), (.int (0 : Int32))])) rfl rfl (hb hby d9_5)
  refine own_go (st' := T2.setTop (mkF m 8 #[.val (.ref a1)] [(.ref rs), (.int (0 : Int32))])) (st2) ?_
  obtain ⟨cl3, Ar3, -, S3, M3, -, -⟩ := id pr7
  refine own_go (st' := T2.setTop (mkF m 9 #[.val (.ref a1)] [(.int (16 : Int32)), (.int (0 : Int32))])) (fun t k => X2.arraylength hx (by rw [e2]; exact Ar3.1) (State.isArrayOf_alike hZ.alike Ar3.2.1) (g := (mkF m 8 #[.val (.ref a1)] [(.ref rs), (.int (0 : Int32))])) rfl rfl (hb hby d9_8) t (by rw [len_of S3 M3]; exact k)) ?_
  have hc4 : ¬ ((0 : Int32) = (16 : Int32)) := by decide
  refine own_go (st' := T2.setTop (mkF m 29 #[.val (.ref a1)] [])) (fun _ k => XS.icmpYes X2.here hx rfl (pc0 := 9) (pc' := 29) rfl (hb hby d9_9) rfl (feq hc4).2 (by decide) (by decide) k) ?_
  refine own_go (st' := T2.setTop (mkF m 30 #[.val (.ref a1)] [(.ref a1)])) (fun _ k => XS.aloadN X2.here hx rfl (hb hby d9_29) rfl rfl k) ?_
  obtain ⟨T5, X5, e5, st5⟩ := getF X2 hx hZ hown (host := "") (Or.inl (hw _ (List.mem_of_getElem? (i := 33) rfl))) Via.refl e2 pr5 (g := (mkF m 30 #[.val (.ref a1)] [(.ref a1)])) rfl rfl (hb hby d9_30)
  refine own_go (st' := T5.setTop (mkF m 33 #[.val (.ref a1)] [(.ref rs)])) (st5) ?_
  refine own_go (st' := T5.setTop (mkF m 34 #[.val (.ref a1)] [(.ref a1), (.ref rs)])) (fun _ k => XS.aloadN X5.here hx rfl (hb hby d9_33) rfl rfl k) ?_
  obtain ⟨T6, X6, e6, st6⟩ := getF X5 hx hZ hown (host := "") (Or.inl (hw _ (List.mem_of_getElem? (i := 40) rfl))) Via.refl e5 pr2 (g := (mkF m 34 #[.val (.ref a1)] [(.ref a1), (.ref rs)])) rfl rfl (hb hby d9_34)
  refine own_go (st' := T6.setTop (mkF m 37 #[.val (.ref a1)] [(.int (0 : Int32)), (.ref rs)])) (st6) ?_
  refine own_go (st' := T6.setTop (mkF m 38 #[.val (.ref a1)] [(.ref a1), (.int (0 : Int32)), (.ref rs)])) (fun _ k => XS.aloadN X6.here hx rfl (hb hby d9_37) rfl rfl k) ?_
  obtain ⟨T7, X7, e7, st7⟩ := getF X6 hx hZ hown (host := "") (Or.inl (hw _ (List.mem_of_getElem? (i := 47) rfl))) Via.refl e6 pr3 (g := (mkF m 38 #[.val (.ref a1)] [(.ref a1), (.int (0 : Int32)), (.ref rs)])) rfl rfl (hb hby d9_38)
  refine own_go (st' := T7.setTop (mkF m 41 #[.val (.ref a1)] [(.int (0 : Int32)), (.int (0 : Int32)), (.ref rs)])) (st7) ?_
  obtain ⟨cl8, Ar8, qc8, S8, M8, H8, G8⟩ := id pr7
  have hin8 : ¬ ((0 : Int32) < 0 ∨ cl8.slots.size ≤ ((0 : Int32)).toNatClampNeg) := (inb_of S8 ⟨by decide, by decide⟩)
  obtain ⟨T8, h8, X8, e8, W8, st8⟩ := stI X7 hx hZ e7 Ar8 (j := (0 : Int32)) hin8 (g := (mkF m 41 #[.val (.ref a1)] [(.int (0 : Int32)), (.int (0 : Int32)), (.ref rs)])) rfl rfl (hb hby d9_41)
  have sz8 : h8.size = h0.size := W8.size
  have N8 := Fr.snoc X8 N0 (by omega)
  have v8 : Arv Z h8 rs ks .int (16 : Int32) [(.int (0 : Int32)), (.int (0 : Int32)), (.int (0 : Int32)), (.int (0 : Int32)), (.int (0 : Int32)), (.int (0 : Int32)), (.int (0 : Int32)), (.int (0 : Int32)), (.int (0 : Int32)), (.int (0 : Int32)), (.int (0 : Int32)), (.int (0 : Int32)), (.int (0 : Int32)), (.int (0 : Int32)), (.int (0 : Int32)), (.int (0 : Int32))] (.int (0 : Int32)) := Arv.set Ar8 qc8 S8 M8 H8 G8 rfl W8 0 rfl (Nat.le_of_ble_eq_true rfl)
  refine own_go (st' := T8.setTop (mkF m 42 #[.val (.ref a1)] [])) (st8) ?_
  refine own_go (st' := T8.setTop (mkF m 43 #[.val (.ref a1)] [(.ref a1)])) (fun _ k => XS.aloadN X8.here hx rfl (hb hby d9_42) rfl rfl k) ?_
  refine own_go (st' := T8.setTop (mkF m 44 #[.val (.ref a1)] [(.ref a1), (.ref a1)])) (fun _ k => XS.dup X8.here hx rfl (hb hby d9_43) rfl rfl k) ?_
  have c9 : Fld Z h8 a1 "com/example/greenwood/greenwood/Environment" "openScopes" "I" (.int (0 : Int32)) := (pr2.other W8 (Or.inl (by first | assumption | exact Ne.symm (by assumption) | (apply Nat.ne_of_lt; omega) | (apply Nat.ne_of_gt; omega))))
  obtain ⟨T10, X10, e10, st10⟩ := getF X8 hx hZ hown (host := "") (Or.inl (hw _ (List.mem_of_getElem? (i := 40) rfl))) Via.refl e8 c9 (g := (mkF m 44 #[.val (.ref a1)] [(.ref a1), (.ref a1)])) rfl rfl (hb hby d9_44)
  refine own_go (st' := T10.setTop (mkF m 47 #[.val (.ref a1)] [(.int (0 : Int32)), (.ref a1)])) (st10) ?_
  refine own_go (st' := T10.setTop (mkF m 48 #[.val (.ref a1)] [(.int (1 : Int32)), (.int (0 : Int32)), (.ref a1)])) (fun _ k => XS.iconst X10.here hx rfl (hb hby d9_47) k) ?_
  refine own_go (st' := T10.setTop (mkF m 49 #[.val (.ref a1)] [(.int (1 : Int32)), (.ref a1)])) (fun _ k => XS.iadd X10.here hx rfl (hb hby d9_48) rfl (by rw [show ((0 : Int32) + (1 : Int32)) = (1 : Int32) by decide]; exact k)) ?_
  have c11 : Exa Z h8 a1 "com/example/greenwood/greenwood/Environment" := (pr1.wr W8)
  obtain ⟨T12, h12, X12, e12, W12, st12⟩ := putF X10 hx hZ hown (host := "") (Or.inl (hw _ (List.mem_of_getElem? (i := 40) rfl))) Via.refl e10 c9 c11 (Or.inl (hw _ (List.mem_of_getElem? (i := 41) rfl))) (hw _ (List.mem_of_getElem? (i := 2) rfl)) (ty := .int) (by decide) rfl rfl (g := (mkF m 49 #[.val (.ref a1)] [(.int (1 : Int32)), (.ref a1)])) rfl rfl (hb hby d9_49)
  have sz12 : h12.size = h8.size := W12.size
  have N12 := Fr.snoc X12 N8 (by omega)
  have f12 : Fld Z h12 a1 "com/example/greenwood/greenwood/Environment" "openScopes" "I" (.int (1 : Int32)) := c9.same W12
  refine own_go (st' := T12.setTop (mkF m 52 #[.val (.ref a1)] [])) (st12) ?_
  obtain ⟨fs, hr, hrun, hended, hW, hsame⟩ := X12.leave (v := none) (fun _ => rfl)
  refine ⟨_, _, ?_, hP _ _ hrun hended ⟨_, _, rfl, ?_, ⟨_, rfl⟩, hW, hsame.mono (by decide) (by decide)⟩⟩
  · exact X12.returnOut hx Bd.returns (hb hby d9_52) hr
  · show Qrm9_0 Z a1 rl rs kl ks h0 n0 _ T12.heap _
    have c14 : Exa Z h12 a1 "com/example/greenwood/greenwood/Environment" := (c11.wr W12)
    have c15 : Fld Z h12 a1 "com/example/greenwood/greenwood/Environment" "localCount" "I" (.int (0 : Int32)) := ((pr3.other W8 (Or.inl (by first | assumption | exact Ne.symm (by assumption) | (apply Nat.ne_of_lt; omega) | (apply Nat.ne_of_gt; omega)))).other W12 (Or.inr (slot_ne (Or.inl (hw _ (List.mem_of_getElem? (i := 48) rfl))) (Or.inl (hw _ (List.mem_of_getElem? (i := 41) rfl))) (by decide) (t := .int) (t' := .int) (by decide) (by decide))))
    have c16 : Fld Z h12 a1 "com/example/greenwood/greenwood/Environment" "locals" "[Ljava/lang/Object;" (.ref rl) := ((pr4.other W8 (Or.inl (by first | assumption | exact Ne.symm (by assumption) | (apply Nat.ne_of_lt; omega) | (apply Nat.ne_of_gt; omega)))).other W12 (Or.inr (slot_ne (Or.inl (hw _ (List.mem_of_getElem? (i := 31) rfl))) (Or.inl (hw _ (List.mem_of_getElem? (i := 41) rfl))) (by decide) (t := (.array (.object "java/lang/Object"))) (t' := .int) (by decide) (by decide))))
    have c17 : Fld Z h12 a1 "com/example/greenwood/greenwood/Environment" "scopeStarts" "[I" (.ref rs) := ((pr5.other W8 (Or.inl (by first | assumption | exact Ne.symm (by assumption) | (apply Nat.ne_of_lt; omega) | (apply Nat.ne_of_gt; omega)))).other W12 (Or.inr (slot_ne (Or.inl (hw _ (List.mem_of_getElem? (i := 34) rfl))) (Or.inl (hw _ (List.mem_of_getElem? (i := 41) rfl))) (by decide) (t := (.array .int)) (t' := .int) (by decide) (by decide))))
    have c18 : Arv Z h12 rs ks .int (16 : Int32) [(.int (0 : Int32)), (.int (0 : Int32)), (.int (0 : Int32)), (.int (0 : Int32)), (.int (0 : Int32)), (.int (0 : Int32)), (.int (0 : Int32)), (.int (0 : Int32)), (.int (0 : Int32)), (.int (0 : Int32)), (.int (0 : Int32)), (.int (0 : Int32)), (.int (0 : Int32)), (.int (0 : Int32)), (.int (0 : Int32)), (.int (0 : Int32))] (.int (0 : Int32)) := (v8.other W12 (by first | assumption | exact Ne.symm (by assumption) | (apply Nat.ne_of_lt; omega) | (apply Nat.ne_of_gt; omega)))
    rw [e12]
    exact ⟨rfl, N12, (((Keep.refl h0 [a1, rs]).wr W8 (Or.inl (List.mem_of_getElem? (i := 1) rfl))).wr W12 (Or.inl (List.mem_of_getElem? (i := 0) rfl))), c14, f12, c15, c16, c17, c18⟩
theorem ef_rm9_1 (m : MethodId) (x0 : Addr) : entryFrame m #[(.ref x0)] 1 = mkF m 0 #[.val (.ref x0)] [] := by first | (simp [entryFrame, mkF, argsToLocals, Value.category]; done) | rfl
def Qrm9_1 (Z : State) (a1 : Addr) (rl : Addr) (rs : Addr) (kl : ClassId) (ks : ClassId) (h0 : Heap) (n0 : Nat) (v : Option Value) (h : Heap) (L : List Loc) : Prop := (v = none) ∧ (Fr n0 L) ∧ (Keep h0 h [a1, rs]) ∧ (Exa Z h a1 "com/example/greenwood/greenwood/Environment") ∧ (Fld Z h a1 "com/example/greenwood/greenwood/Environment" "openScopes" "I" (.int (2 : Int32))) ∧ (Fld Z h a1 "com/example/greenwood/greenwood/Environment" "localCount" "I" (.int (0 : Int32))) ∧ (Fld Z h a1 "com/example/greenwood/greenwood/Environment" "locals" "[Ljava/lang/Object;" (.ref rl)) ∧ (Fld Z h a1 "com/example/greenwood/greenwood/Environment" "scopeStarts" "[I" (.ref rs)) ∧ (Arv Z h rs ks .int (16 : Int32) [(.int (0 : Int32)), (.int (0 : Int32)), (.int (0 : Int32)), (.int (0 : Int32)), (.int (0 : Int32)), (.int (0 : Int32)), (.int (0 : Int32)), (.int (0 : Int32)), (.int (0 : Int32)), (.int (0 : Int32)), (.int (0 : Int32)), (.int (0 : Int32)), (.int (0 : Int32)), (.int (0 : Int32)), (.int (0 : Int32)), (.int (0 : Int32))] (.int (0 : Int32)))
set_option maxRecDepth 65536 in
set_option maxHeartbeats 40000000 in
theorem rm9_1 (l : Launch) (Z : State) (a0 : Array Value) (hw : ∀ d ∈ tables_1, d.before a0 Z = true) (ws : List Jvm.Cond) (a1 : Addr) (rl : Addr) (rs : Addr) (kl : ClassId) (ks : ClassId) (h0 : Heap) (n0 : Nat) (Z0 : n0 ≤ h0.size) (pr1 : Exa Z h0 a1 "com/example/greenwood/greenwood/Environment") (pr2 : Fld Z h0 a1 "com/example/greenwood/greenwood/Environment" "openScopes" "I" (.int (1 : Int32))) (pr3 : Fld Z h0 a1 "com/example/greenwood/greenwood/Environment" "localCount" "I" (.int (0 : Int32))) (pr4 : Fld Z h0 a1 "com/example/greenwood/greenwood/Environment" "locals" "[Ljava/lang/Object;" (.ref rl)) (pr5 : Fld Z h0 a1 "com/example/greenwood/greenwood/Environment" "scopeStarts" "[I" (.ref rs)) (pr6 : Arv Z h0 rl kl (.object "java/lang/Object") (16 : Int32) [.null, .null, .null, .null, .null, .null, .null, .null, .null, .null, .null, .null, .null, .null, .null, .null] .null) (pr7 : Arv Z h0 rs ks .int (16 : Int32) [(.int (0 : Int32)), (.int (0 : Int32)), (.int (0 : Int32)), (.int (0 : Int32)), (.int (0 : Int32)), (.int (0 : Int32)), (.int (0 : Int32)), (.int (0 : Int32)), (.int (0 : Int32)), (.int (0 : Int32)), (.int (0 : Int32)), (.int (0 : Int32)), (.int (0 : Int32)), (.int (0 : Int32)), (.int (0 : Int32)), (.int (0 : Int32))] (.int (0 : Int32))) (pr8 : n0 ≤ a1) (pr9 : n0 ≤ rl) (pr10 : n0 ≤ rs) (pr11 : a1 ≠ rl) (pr12 : a1 ≠ rs) (pr13 : rl ≠ rs) :
    MetFree l (⟨"com/example/greenwood/greenwood/Environment", "openScope", "()V"⟩ : MethodName) (head1 (Jvm.Cond.code (⟨"com/example/greenwood/greenwood/Environment", "openScope", "()V"⟩ : MethodName) prog_1_method_7_code 1 none :: ws) ({ frames := 0, cells := 0, slots := 0, locals := 0 } : Room)) (fun a U => a = #[(.ref a1)] ∧ Z.Warmed39 U.vm ∧ U.heap = h0) (fun _ _ _ _ _ => True) (fun _ U o U' => ∃ v L, o = .returned v ∧ Qrm9_1 Z a1 rl rs kl ks h0 n0 v U'.heap L ∧ FrameEnd U o U' L ({ frames := 0, cells := 0, slots := 0, locals := 0 } : Room).cells ({ frames := 0, cells := 0, slots := 0, locals := 0 } : Room).slots) := by
  refine MetFree.of_bodySF (plainFor_of_name pn_9) hisR ?_
  intro p e s m args below meth c s₁ Bd hml0 hP0 hK
  obtain ⟨rfl, hZ, hh⟩ := hP0
  have hx := Bd.exec
  have hby := Bd.bytes
  have hml : c.maxLocals = 1 := hml0
  have hown : s.vm.findClass "com/example/greenwood/greenwood/Environment" = some m.cls := findClass_of_methodNamed Bd.named
  have hnm := (name_of_methodNamed Bd.named Bd.method).1
  have X0 : Stand p l e ({ frames := 0, cells := 0, slots := 0, locals := 0 } : Room) s m #[(.ref a1)] below meth c s₁ [] 0 0 := Stand.of_body Bd
  have e0 : s₁.heap = h0 := by rw [← hh, Bd.state]; rfl
  have N0 := Fr.nil n0
  suffices own_H : ∀ (P : State → Outcome → Prop), (∀ U o, U.status = .running → Ended U below o → (∃ v L, o = .returned v ∧ Qrm9_1 Z a1 rl rs kl ks h0 n0 v U.heap L ∧ FrameEnd s o U L ({ frames := 0, cells := 0, slots := 0, locals := 0 } : Room).cells ({ frames := 0, cells := 0, slots := 0, locals := 0 } : Room).slots) → P U o) → own_Go p.tables e below P (s₁.setTop (mkF m 0 #[.val (.ref a1)] [])) from own_go (fun _ k => castTop (ef_rm9_1 m a1) k) (own_H _ (fun U o h1 h2 h3 => ⟨h1, h2, h3⟩))
  intro P hP
  have lt_a1 : @LT.lt Nat _ a1 h0.size := pr1.lt
  have lt_rl : @LT.lt Nat _ rl h0.size := pr6.lt
  have lt_rs : @LT.lt Nat _ rs h0.size := pr7.lt
  refine own_go (st' := s₁.setTop (mkF m 1 #[.val (.ref a1)] [(.ref a1)])) (fun _ k => XS.aloadN X0.here hx rfl (hb hby d9_0) rfl rfl k) ?_
  obtain ⟨T1, X1, e1, st1⟩ := getF X0 hx hZ hown (host := "") (Or.inl (hw _ (List.mem_of_getElem? (i := 40) rfl))) Via.refl e0 pr2 (g := (mkF m 1 #[.val (.ref a1)] [(.ref a1)])) rfl rfl (hb hby d9_1)
  refine own_go (st' := T1.setTop (mkF m 4 #[.val (.ref a1)] [(.int (1 : Int32))])) (st1) ?_
  refine own_go (st' := T1.setTop (mkF m 5 #[.val (.ref a1)] [(.ref a1), (.int (1 : Int32))])) (fun _ k => XS.aloadN X1.here hx rfl (hb hby d9_4) rfl rfl k) ?_
  obtain ⟨T2, X2, e2, st2⟩ := getF X1 hx hZ hown (host := "") (Or.inl (hw _ (List.mem_of_getElem? (i := 33) rfl))) Via.refl e1 pr5 (g := (mkF m 5 #[.val (.ref a1)] [(.ref a1), (.int (1 : Int32))])) rfl rfl (hb hby d9_5)
  refine own_go (st' := T2.setTop (mkF m 8 #[.val (.ref a1)] [(.ref rs), (.int (1 : Int32))])) (st2) ?_
  obtain ⟨cl3, Ar3, -, S3, M3, -, -⟩ := id pr7
  refine own_go (st' := T2.setTop (mkF m 9 #[.val (.ref a1)] [(.int (16 : Int32)), (.int (1 : Int32))])) (fun t k => X2.arraylength hx (by rw [e2]; exact Ar3.1) (State.isArrayOf_alike hZ.alike Ar3.2.1) (g := (mkF m 8 #[.val (.ref a1)] [(.ref rs), (.int (1 : Int32))])) rfl rfl (hb hby d9_8) t (by rw [len_of S3 M3]; exact k)) ?_
  have hc4 : ¬ ((1 : Int32) = (16 : Int32)) := by decide
  refine own_go (st' := T2.setTop (mkF m 29 #[.val (.ref a1)] [])) (fun _ k => XS.icmpYes X2.here hx rfl (pc0 := 9) (pc' := 29) rfl (hb hby d9_9) rfl (feq hc4).2 (by decide) (by decide) k) ?_
  refine own_go (st' := T2.setTop (mkF m 30 #[.val (.ref a1)] [(.ref a1)])) (fun _ k => XS.aloadN X2.here hx rfl (hb hby d9_29) rfl rfl k) ?_
  obtain ⟨T5, X5, e5, st5⟩ := getF X2 hx hZ hown (host := "") (Or.inl (hw _ (List.mem_of_getElem? (i := 33) rfl))) Via.refl e2 pr5 (g := (mkF m 30 #[.val (.ref a1)] [(.ref a1)])) rfl rfl (hb hby d9_30)
  refine own_go (st' := T5.setTop (mkF m 33 #[.val (.ref a1)] [(.ref rs)])) (st5) ?_
  refine own_go (st' := T5.setTop (mkF m 34 #[.val (.ref a1)] [(.ref a1), (.ref rs)])) (fun _ k => XS.aloadN X5.here hx rfl (hb hby d9_33) rfl rfl k) ?_
  obtain ⟨T6, X6, e6, st6⟩ := getF X5 hx hZ hown (host := "") (Or.inl (hw _ (List.mem_of_getElem? (i := 40) rfl))) Via.refl e5 pr2 (g := (mkF m 34 #[.val (.ref a1)] [(.ref a1), (.ref rs)])) rfl rfl (hb hby d9_34)
  refine own_go (st' := T6.setTop (mkF m 37 #[.val (.ref a1)] [(.int (1 : Int32)), (.ref rs)])) (st6) ?_
  refine own_go (st' := T6.setTop (mkF m 38 #[.val (.ref a1)] [(.ref a1), (.int (1 : Int32)), (.ref rs)])) (fun _ k => XS.aloadN X6.here hx rfl (hb hby d9_37) rfl rfl k) ?_
  obtain ⟨T7, X7, e7, st7⟩ := getF X6 hx hZ hown (host := "") (Or.inl (hw _ (List.mem_of_getElem? (i := 47) rfl))) Via.refl e6 pr3 (g := (mkF m 38 #[.val (.ref a1)] [(.ref a1), (.int (1 : Int32)), (.ref rs)])) rfl rfl (hb hby d9_38)
  refine own_go (st' := T7.setTop (mkF m 41 #[.val (.ref a1)] [(.int (0 : Int32)), (.int (1 : Int32)), (.ref rs)])) (st7) ?_
  obtain ⟨cl8, Ar8, qc8, S8, M8, H8, G8⟩ := id pr7
  have hin8 : ¬ ((1 : Int32) < 0 ∨ cl8.slots.size ≤ ((1 : Int32)).toNatClampNeg) := (inb_of S8 ⟨by decide, by decide⟩)
  obtain ⟨T8, h8, X8, e8, W8, st8⟩ := stI X7 hx hZ e7 Ar8 (j := (1 : Int32)) hin8 (g := (mkF m 41 #[.val (.ref a1)] [(.int (0 : Int32)), (.int (1 : Int32)), (.ref rs)])) rfl rfl (hb hby d9_41)
  have sz8 : h8.size = h0.size := W8.size
  have N8 := Fr.snoc X8 N0 (by omega)
  have v8 : Arv Z h8 rs ks .int (16 : Int32) [(.int (0 : Int32)), (.int (0 : Int32)), (.int (0 : Int32)), (.int (0 : Int32)), (.int (0 : Int32)), (.int (0 : Int32)), (.int (0 : Int32)), (.int (0 : Int32)), (.int (0 : Int32)), (.int (0 : Int32)), (.int (0 : Int32)), (.int (0 : Int32)), (.int (0 : Int32)), (.int (0 : Int32)), (.int (0 : Int32)), (.int (0 : Int32))] (.int (0 : Int32)) := Arv.set Ar8 qc8 S8 M8 H8 G8 rfl W8 1 rfl (Nat.le_of_ble_eq_true rfl)
  refine own_go (st' := T8.setTop (mkF m 42 #[.val (.ref a1)] [])) (st8) ?_
  refine own_go (st' := T8.setTop (mkF m 43 #[.val (.ref a1)] [(.ref a1)])) (fun _ k => XS.aloadN X8.here hx rfl (hb hby d9_42) rfl rfl k) ?_
  refine own_go (st' := T8.setTop (mkF m 44 #[.val (.ref a1)] [(.ref a1), (.ref a1)])) (fun _ k => XS.dup X8.here hx rfl (hb hby d9_43) rfl rfl k) ?_
  have c9 : Fld Z h8 a1 "com/example/greenwood/greenwood/Environment" "openScopes" "I" (.int (1 : Int32)) := (pr2.other W8 (Or.inl (by first | assumption | exact Ne.symm (by assumption) | (apply Nat.ne_of_lt; omega) | (apply Nat.ne_of_gt; omega))))
  obtain ⟨T10, X10, e10, st10⟩ := getF X8 hx hZ hown (host := "") (Or.inl (hw _ (List.mem_of_getElem? (i := 40) rfl))) Via.refl e8 c9 (g := (mkF m 44 #[.val (.ref a1)] [(.ref a1), (.ref a1)])) rfl rfl (hb hby d9_44)
  refine own_go (st' := T10.setTop (mkF m 47 #[.val (.ref a1)] [(.int (1 : Int32)), (.ref a1)])) (st10) ?_
  refine own_go (st' := T10.setTop (mkF m 48 #[.val (.ref a1)] [(.int (1 : Int32)), (.int (1 : Int32)), (.ref a1)])) (fun _ k => XS.iconst X10.here hx rfl (hb hby d9_47) k) ?_
  refine own_go (st' := T10.setTop (mkF m 49 #[.val (.ref a1)] [(.int (2 : Int32)), (.ref a1)])) (fun _ k => XS.iadd X10.here hx rfl (hb hby d9_48) rfl (by rw [show ((1 : Int32) + (1 : Int32)) = (2 : Int32) by decide]; exact k)) ?_
  have c11 : Exa Z h8 a1 "com/example/greenwood/greenwood/Environment" := (pr1.wr W8)
  obtain ⟨T12, h12, X12, e12, W12, st12⟩ := putF X10 hx hZ hown (host := "") (Or.inl (hw _ (List.mem_of_getElem? (i := 40) rfl))) Via.refl e10 c9 c11 (Or.inl (hw _ (List.mem_of_getElem? (i := 41) rfl))) (hw _ (List.mem_of_getElem? (i := 2) rfl)) (ty := .int) (by decide) rfl rfl (g := (mkF m 49 #[.val (.ref a1)] [(.int (2 : Int32)), (.ref a1)])) rfl rfl (hb hby d9_49)
  have sz12 : h12.size = h8.size := W12.size
  have N12 := Fr.snoc X12 N8 (by omega)
  have f12 : Fld Z h12 a1 "com/example/greenwood/greenwood/Environment" "openScopes" "I" (.int (2 : Int32)) := c9.same W12
  refine own_go (st' := T12.setTop (mkF m 52 #[.val (.ref a1)] [])) (st12) ?_
  obtain ⟨fs, hr, hrun, hended, hW, hsame⟩ := X12.leave (v := none) (fun _ => rfl)
  refine ⟨_, _, ?_, hP _ _ hrun hended ⟨_, _, rfl, ?_, ⟨_, rfl⟩, hW, hsame.mono (by decide) (by decide)⟩⟩
  · exact X12.returnOut hx Bd.returns (hb hby d9_52) hr
  · show Qrm9_1 Z a1 rl rs kl ks h0 n0 _ T12.heap _
    have c14 : Exa Z h12 a1 "com/example/greenwood/greenwood/Environment" := (c11.wr W12)
    have c15 : Fld Z h12 a1 "com/example/greenwood/greenwood/Environment" "localCount" "I" (.int (0 : Int32)) := ((pr3.other W8 (Or.inl (by first | assumption | exact Ne.symm (by assumption) | (apply Nat.ne_of_lt; omega) | (apply Nat.ne_of_gt; omega)))).other W12 (Or.inr (slot_ne (Or.inl (hw _ (List.mem_of_getElem? (i := 48) rfl))) (Or.inl (hw _ (List.mem_of_getElem? (i := 41) rfl))) (by decide) (t := .int) (t' := .int) (by decide) (by decide))))
    have c16 : Fld Z h12 a1 "com/example/greenwood/greenwood/Environment" "locals" "[Ljava/lang/Object;" (.ref rl) := ((pr4.other W8 (Or.inl (by first | assumption | exact Ne.symm (by assumption) | (apply Nat.ne_of_lt; omega) | (apply Nat.ne_of_gt; omega)))).other W12 (Or.inr (slot_ne (Or.inl (hw _ (List.mem_of_getElem? (i := 31) rfl))) (Or.inl (hw _ (List.mem_of_getElem? (i := 41) rfl))) (by decide) (t := (.array (.object "java/lang/Object"))) (t' := .int) (by decide) (by decide))))
    have c17 : Fld Z h12 a1 "com/example/greenwood/greenwood/Environment" "scopeStarts" "[I" (.ref rs) := ((pr5.other W8 (Or.inl (by first | assumption | exact Ne.symm (by assumption) | (apply Nat.ne_of_lt; omega) | (apply Nat.ne_of_gt; omega)))).other W12 (Or.inr (slot_ne (Or.inl (hw _ (List.mem_of_getElem? (i := 34) rfl))) (Or.inl (hw _ (List.mem_of_getElem? (i := 41) rfl))) (by decide) (t := (.array .int)) (t' := .int) (by decide) (by decide))))
    have c18 : Arv Z h12 rs ks .int (16 : Int32) [(.int (0 : Int32)), (.int (0 : Int32)), (.int (0 : Int32)), (.int (0 : Int32)), (.int (0 : Int32)), (.int (0 : Int32)), (.int (0 : Int32)), (.int (0 : Int32)), (.int (0 : Int32)), (.int (0 : Int32)), (.int (0 : Int32)), (.int (0 : Int32)), (.int (0 : Int32)), (.int (0 : Int32)), (.int (0 : Int32)), (.int (0 : Int32))] (.int (0 : Int32)) := (v8.other W12 (by first | assumption | exact Ne.symm (by assumption) | (apply Nat.ne_of_lt; omega) | (apply Nat.ne_of_gt; omega)))
    rw [e12]
    exact ⟨rfl, N12, (((Keep.refl h0 [a1, rs]).wr W8 (Or.inl (List.mem_of_getElem? (i := 1) rfl))).wr W12 (Or.inl (List.mem_of_getElem? (i := 0) rfl))), c14, f12, c15, c16, c17, c18⟩
theorem d10_0 : decode prog_1_method_10_code 0 = .ok (.aload_n 0, 1) := by decide +kernel
theorem d10_1 : decode prog_1_method_10_code 1 = .ok (.getfield 67, 3) := by decide +kernel
theorem d10_4 : decode prog_1_method_10_code 4 = .ok (.aload_n 0, 1) := by decide +kernel
theorem d10_5 : decode prog_1_method_10_code 5 = .ok (.getfield 16, 3) := by decide +kernel
theorem d10_8 : decode prog_1_method_10_code 8 = .ok (.arraylength, 1) := by decide +kernel
theorem d10_9 : decode prog_1_method_10_code 9 = .ok (.if_icmp .ne 20, 3) := by decide +kernel
theorem d10_29 : decode prog_1_method_10_code 29 = .ok (.aload_n 0, 1) := by decide +kernel
theorem d10_30 : decode prog_1_method_10_code 30 = .ok (.dup, 1) := by decide +kernel
theorem d10_31 : decode prog_1_method_10_code 31 = .ok (.getfield 67, 3) := by decide +kernel
theorem d10_34 : decode prog_1_method_10_code 34 = .ok (.iconst 1, 1) := by decide +kernel
theorem d10_35 : decode prog_1_method_10_code 35 = .ok (.iadd, 1) := by decide +kernel
theorem d10_36 : decode prog_1_method_10_code 36 = .ok (.putfield 67, 3) := by decide +kernel
theorem d10_39 : decode prog_1_method_10_code 39 = .ok (.return_, 1) := by decide +kernel
theorem pn_10 : plainName "com/example/greenwood/greenwood/Environment" = true := by first | (simp [plainName, overriddenIn]; done) | decide +kernel
theorem ef_rm10_1 (m : MethodId) (x0 : Addr) : entryFrame m #[(.ref x0)] 1 = mkF m 0 #[.val (.ref x0)] [] := by first | (simp [entryFrame, mkF, argsToLocals, Value.category]; done) | rfl
def Qrm10_1 (Z : State) (a1 : Addr) (rl : Addr) (rs : Addr) (kl : ClassId) (ks : ClassId) (h0 : Heap) (n0 : Nat) (v : Option Value) (h : Heap) (L : List Loc) : Prop := (v = none) ∧ (Fr n0 L) ∧ (Keep h0 h [a1]) ∧ (Exa Z h a1 "com/example/greenwood/greenwood/Environment") ∧ (Fld Z h a1 "com/example/greenwood/greenwood/Environment" "openScopes" "I" (.int (1 : Int32))) ∧ (Fld Z h a1 "com/example/greenwood/greenwood/Environment" "localCount" "I" (.int (1 : Int32))) ∧ (Fld Z h a1 "com/example/greenwood/greenwood/Environment" "locals" "[Ljava/lang/Object;" (.ref rl)) ∧ (Fld Z h a1 "com/example/greenwood/greenwood/Environment" "scopeStarts" "[I" (.ref rs))
set_option maxRecDepth 65536 in
set_option maxHeartbeats 40000000 in
theorem rm10_1 (l : Launch) (Z : State) (a0 : Array Value) (hw : ∀ d ∈ tables_1, d.before a0 Z = true) (ws : List Jvm.Cond) (a1 : Addr) (rl : Addr) (rs : Addr) (kl : ClassId) (ks : ClassId) (h0 : Heap) (n0 : Nat) (Z0 : n0 ≤ h0.size) (pr1 : Exa Z h0 a1 "com/example/greenwood/greenwood/Environment") (pr2 : Fld Z h0 a1 "com/example/greenwood/greenwood/Environment" "openScopes" "I" (.int (1 : Int32))) (pr3 : Fld Z h0 a1 "com/example/greenwood/greenwood/Environment" "localCount" "I" (.int (0 : Int32))) (pr4 : Fld Z h0 a1 "com/example/greenwood/greenwood/Environment" "locals" "[Ljava/lang/Object;" (.ref rl)) (pr5 : Fld Z h0 a1 "com/example/greenwood/greenwood/Environment" "scopeStarts" "[I" (.ref rs)) (pr6 : Arv Z h0 rl kl (.object "java/lang/Object") (16 : Int32) [.null, .null, .null, .null, .null, .null, .null, .null, .null, .null, .null, .null, .null, .null, .null, .null] .null) (pr7 : Arv Z h0 rs ks .int (16 : Int32) [(.int (0 : Int32)), (.int (0 : Int32)), (.int (0 : Int32)), (.int (0 : Int32)), (.int (0 : Int32)), (.int (0 : Int32)), (.int (0 : Int32)), (.int (0 : Int32)), (.int (0 : Int32)), (.int (0 : Int32)), (.int (0 : Int32)), (.int (0 : Int32)), (.int (0 : Int32)), (.int (0 : Int32)), (.int (0 : Int32)), (.int (0 : Int32))] (.int (0 : Int32))) (pr8 : n0 ≤ a1) (pr9 : n0 ≤ rl) (pr10 : n0 ≤ rs) (pr11 : a1 ≠ rl) (pr12 : a1 ≠ rs) (pr13 : rl ≠ rs) :
    MetFree l (⟨"com/example/greenwood/greenwood/Environment", "declare", "()V"⟩ : MethodName) (head1 (Jvm.Cond.code (⟨"com/example/greenwood/greenwood/Environment", "declare", "()V"⟩ : MethodName) prog_1_method_10_code 1 none :: ws) ({ frames := 0, cells := 0, slots := 0, locals := 0 } : Room)) (fun a U => a = #[(.ref a1)] ∧ Z.Warmed39 U.vm ∧ U.heap = h0) (fun _ _ _ _ _ => True) (fun _ U o U' => ∃ v L, o = .returned v ∧ Qrm10_1 Z a1 rl rs kl ks h0 n0 v U'.heap L ∧ FrameEnd U o U' L ({ frames := 0, cells := 0, slots := 0, locals := 0 } : Room).cells ({ frames := 0, cells := 0, slots := 0, locals := 0 } : Room).slots) := by
  refine MetFree.of_bodySF (plainFor_of_name pn_10) hisR ?_
  intro p e s m args below meth c s₁ Bd hml0 hP0 hK
  obtain ⟨rfl, hZ, hh⟩ := hP0
  have hx := Bd.exec
  have hby := Bd.bytes
  have hml : c.maxLocals = 1 := hml0
  have hown : s.vm.findClass "com/example/greenwood/greenwood/Environment" = some m.cls := findClass_of_methodNamed Bd.named
  have hnm := (name_of_methodNamed Bd.named Bd.method).1
  have X0 : Stand p l e ({ frames := 0, cells := 0, slots := 0, locals := 0 } : Room) s m #[(.ref a1)] below meth c s₁ [] 0 0 := Stand.of_body Bd
  have e0 : s₁.heap = h0 := by rw [← hh, Bd.state]; rfl
  have N0 := Fr.nil n0
  suffices own_H : ∀ (P : State → Outcome → Prop), (∀ U o, U.status = .running → Ended U below o → (∃ v L, o = .returned v ∧ Qrm10_1 Z a1 rl rs kl ks h0 n0 v U.heap L ∧ FrameEnd s o U L ({ frames := 0, cells := 0, slots := 0, locals := 0 } : Room).cells ({ frames := 0, cells := 0, slots := 0, locals := 0 } : Room).slots) → P U o) → own_Go p.tables e below P (s₁.setTop (mkF m 0 #[.val (.ref a1)] [])) from own_go (fun _ k => castTop (ef_rm10_1 m a1) k) (own_H _ (fun U o h1 h2 h3 => ⟨h1, h2, h3⟩))
  intro P hP
  have lt_a1 : @LT.lt Nat _ a1 h0.size := pr1.lt
  have lt_rl : @LT.lt Nat _ rl h0.size := pr6.lt
  have lt_rs : @LT.lt Nat _ rs h0.size := pr7.lt
  refine own_go (st' := s₁.setTop (mkF m 1 #[.val (.ref a1)] [(.ref a1)])) (fun _ k => XS.aloadN X0.here hx rfl (hb hby d10_0) rfl rfl k) ?_
  obtain ⟨T1, X1, e1, st1⟩ := getF X0 hx hZ hown (host := "") (Or.inl (hw _ (List.mem_of_getElem? (i := 47) rfl))) Via.refl e0 pr3 (g := (mkF m 1 #[.val (.ref a1)] [(.ref a1)])) rfl rfl (hb hby d10_1)
  refine own_go (st' := T1.setTop (mkF m 4 #[.val (.ref a1)] [(.int (0 : Int32))])) (st1) ?_
  refine own_go (st' := T1.setTop (mkF m 5 #[.val (.ref a1)] [(.ref a1), (.int (0 : Int32))])) (fun _ k => XS.aloadN X1.here hx rfl (hb hby d10_4) rfl rfl k) ?_
  obtain ⟨T2, X2, e2, st2⟩ := getF X1 hx hZ hown (host := "") (Or.inl (hw _ (List.mem_of_getElem? (i := 30) rfl))) Via.refl e1 pr4 (g := (mkF m 5 #[.val (.ref a1)] [(.ref a1), (.int (0 : Int32))])) rfl rfl (hb hby d10_5)
  refine own_go (st' := T2.setTop (mkF m 8 #[.val (.ref a1)] [(.ref rl), (.int (0 : Int32))])) (st2) ?_
  obtain ⟨cl3, Ar3, -, S3, M3, -, -⟩ := id pr6
  refine own_go (st' := T2.setTop (mkF m 9 #[.val (.ref a1)] [(.int (16 : Int32)), (.int (0 : Int32))])) (fun t k => X2.arraylength hx (by rw [e2]; exact Ar3.1) (State.isArrayOf_alike hZ.alike Ar3.2.1) (g := (mkF m 8 #[.val (.ref a1)] [(.ref rl), (.int (0 : Int32))])) rfl rfl (hb hby d10_8) t (by rw [len_of S3 M3]; exact k)) ?_
  have hc4 : ¬ ((0 : Int32) = (16 : Int32)) := by decide
  refine own_go (st' := T2.setTop (mkF m 29 #[.val (.ref a1)] [])) (fun _ k => XS.icmpYes X2.here hx rfl (pc0 := 9) (pc' := 29) rfl (hb hby d10_9) rfl (feq hc4).2 (by decide) (by decide) k) ?_
  refine own_go (st' := T2.setTop (mkF m 30 #[.val (.ref a1)] [(.ref a1)])) (fun _ k => XS.aloadN X2.here hx rfl (hb hby d10_29) rfl rfl k) ?_
  refine own_go (st' := T2.setTop (mkF m 31 #[.val (.ref a1)] [(.ref a1), (.ref a1)])) (fun _ k => XS.dup X2.here hx rfl (hb hby d10_30) rfl rfl k) ?_
  obtain ⟨T5, X5, e5, st5⟩ := getF X2 hx hZ hown (host := "") (Or.inl (hw _ (List.mem_of_getElem? (i := 47) rfl))) Via.refl e2 pr3 (g := (mkF m 31 #[.val (.ref a1)] [(.ref a1), (.ref a1)])) rfl rfl (hb hby d10_31)
  refine own_go (st' := T5.setTop (mkF m 34 #[.val (.ref a1)] [(.int (0 : Int32)), (.ref a1)])) (st5) ?_
  refine own_go (st' := T5.setTop (mkF m 35 #[.val (.ref a1)] [(.int (1 : Int32)), (.int (0 : Int32)), (.ref a1)])) (fun _ k => XS.iconst X5.here hx rfl (hb hby d10_34) k) ?_
  refine own_go (st' := T5.setTop (mkF m 36 #[.val (.ref a1)] [(.int (1 : Int32)), (.ref a1)])) (fun _ k => XS.iadd X5.here hx rfl (hb hby d10_35) rfl (by rw [show ((0 : Int32) + (1 : Int32)) = (1 : Int32) by decide]; exact k)) ?_
  obtain ⟨T6, h6, X6, e6, W6, st6⟩ := putF X5 hx hZ hown (host := "") (Or.inl (hw _ (List.mem_of_getElem? (i := 47) rfl))) Via.refl e5 pr3 pr1 (Or.inl (hw _ (List.mem_of_getElem? (i := 48) rfl))) (hw _ (List.mem_of_getElem? (i := 2) rfl)) (ty := .int) (by decide) rfl rfl (g := (mkF m 36 #[.val (.ref a1)] [(.int (1 : Int32)), (.ref a1)])) rfl rfl (hb hby d10_36)
  have sz6 : h6.size = h0.size := W6.size
  have N6 := Fr.snoc X6 N0 (by omega)
  have f6 : Fld Z h6 a1 "com/example/greenwood/greenwood/Environment" "localCount" "I" (.int (1 : Int32)) := pr3.same W6
  refine own_go (st' := T6.setTop (mkF m 39 #[.val (.ref a1)] [])) (st6) ?_
  obtain ⟨fs, hr, hrun, hended, hW, hsame⟩ := X6.leave (v := none) (fun _ => rfl)
  refine ⟨_, _, ?_, hP _ _ hrun hended ⟨_, _, rfl, ?_, ⟨_, rfl⟩, hW, hsame.mono (by decide) (by decide)⟩⟩
  · exact X6.returnOut hx Bd.returns (hb hby d10_39) hr
  · show Qrm10_1 Z a1 rl rs kl ks h0 n0 _ T6.heap _
    have c8 : Exa Z h6 a1 "com/example/greenwood/greenwood/Environment" := (pr1.wr W6)
    have c9 : Fld Z h6 a1 "com/example/greenwood/greenwood/Environment" "openScopes" "I" (.int (1 : Int32)) := (pr2.other W6 (Or.inr (slot_ne (Or.inl (hw _ (List.mem_of_getElem? (i := 41) rfl))) (Or.inl (hw _ (List.mem_of_getElem? (i := 48) rfl))) (by decide) (t := .int) (t' := .int) (by decide) (by decide))))
    have c10 : Fld Z h6 a1 "com/example/greenwood/greenwood/Environment" "locals" "[Ljava/lang/Object;" (.ref rl) := (pr4.other W6 (Or.inr (slot_ne (Or.inl (hw _ (List.mem_of_getElem? (i := 31) rfl))) (Or.inl (hw _ (List.mem_of_getElem? (i := 48) rfl))) (by decide) (t := (.array (.object "java/lang/Object"))) (t' := .int) (by decide) (by decide))))
    have c11 : Fld Z h6 a1 "com/example/greenwood/greenwood/Environment" "scopeStarts" "[I" (.ref rs) := (pr5.other W6 (Or.inr (slot_ne (Or.inl (hw _ (List.mem_of_getElem? (i := 34) rfl))) (Or.inl (hw _ (List.mem_of_getElem? (i := 48) rfl))) (by decide) (t := (.array .int)) (t' := .int) (by decide) (by decide))))
    rw [e6]
    exact ⟨rfl, N6, ((Keep.refl h0 [a1]).wr W6 (Or.inl (List.mem_of_getElem? (i := 0) rfl))), c8, c9, f6, c10, c11⟩
theorem ef_rm10_2 (m : MethodId) (x0 : Addr) : entryFrame m #[(.ref x0)] 1 = mkF m 0 #[.val (.ref x0)] [] := by first | (simp [entryFrame, mkF, argsToLocals, Value.category]; done) | rfl
def Qrm10_2 (Z : State) (a1 : Addr) (rl : Addr) (rs : Addr) (kl : ClassId) (ks : ClassId) (h0 : Heap) (n0 : Nat) (v : Option Value) (h : Heap) (L : List Loc) : Prop := (v = none) ∧ (Fr n0 L) ∧ (Keep h0 h [a1]) ∧ (Exa Z h a1 "com/example/greenwood/greenwood/Environment") ∧ (Fld Z h a1 "com/example/greenwood/greenwood/Environment" "openScopes" "I" (.int (2 : Int32))) ∧ (Fld Z h a1 "com/example/greenwood/greenwood/Environment" "localCount" "I" (.int (1 : Int32))) ∧ (Fld Z h a1 "com/example/greenwood/greenwood/Environment" "locals" "[Ljava/lang/Object;" (.ref rl)) ∧ (Fld Z h a1 "com/example/greenwood/greenwood/Environment" "scopeStarts" "[I" (.ref rs))
set_option maxRecDepth 65536 in
set_option maxHeartbeats 40000000 in
theorem rm10_2 (l : Launch) (Z : State) (a0 : Array Value) (hw : ∀ d ∈ tables_1, d.before a0 Z = true) (ws : List Jvm.Cond) (a1 : Addr) (rl : Addr) (rs : Addr) (kl : ClassId) (ks : ClassId) (h0 : Heap) (n0 : Nat) (Z0 : n0 ≤ h0.size) (pr1 : Exa Z h0 a1 "com/example/greenwood/greenwood/Environment") (pr2 : Fld Z h0 a1 "com/example/greenwood/greenwood/Environment" "openScopes" "I" (.int (2 : Int32))) (pr3 : Fld Z h0 a1 "com/example/greenwood/greenwood/Environment" "localCount" "I" (.int (0 : Int32))) (pr4 : Fld Z h0 a1 "com/example/greenwood/greenwood/Environment" "locals" "[Ljava/lang/Object;" (.ref rl)) (pr5 : Fld Z h0 a1 "com/example/greenwood/greenwood/Environment" "scopeStarts" "[I" (.ref rs)) (pr6 : Arv Z h0 rl kl (.object "java/lang/Object") (16 : Int32) [.null, .null, .null, .null, .null, .null, .null, .null, .null, .null, .null, .null, .null, .null, .null, .null] .null) (pr7 : Arv Z h0 rs ks .int (16 : Int32) [(.int (0 : Int32)), (.int (0 : Int32)), (.int (0 : Int32)), (.int (0 : Int32)), (.int (0 : Int32)), (.int (0 : Int32)), (.int (0 : Int32)), (.int (0 : Int32)), (.int (0 : Int32)), (.int (0 : Int32)), (.int (0 : Int32)), (.int (0 : Int32)), (.int (0 : Int32)), (.int (0 : Int32)), (.int (0 : Int32)), (.int (0 : Int32))] (.int (0 : Int32))) (pr8 : n0 ≤ a1) (pr9 : n0 ≤ rl) (pr10 : n0 ≤ rs) (pr11 : a1 ≠ rl) (pr12 : a1 ≠ rs) (pr13 : rl ≠ rs) :
    MetFree l (⟨"com/example/greenwood/greenwood/Environment", "declare", "()V"⟩ : MethodName) (head1 (Jvm.Cond.code (⟨"com/example/greenwood/greenwood/Environment", "declare", "()V"⟩ : MethodName) prog_1_method_10_code 1 none :: ws) ({ frames := 0, cells := 0, slots := 0, locals := 0 } : Room)) (fun a U => a = #[(.ref a1)] ∧ Z.Warmed39 U.vm ∧ U.heap = h0) (fun _ _ _ _ _ => True) (fun _ U o U' => ∃ v L, o = .returned v ∧ Qrm10_2 Z a1 rl rs kl ks h0 n0 v U'.heap L ∧ FrameEnd U o U' L ({ frames := 0, cells := 0, slots := 0, locals := 0 } : Room).cells ({ frames := 0, cells := 0, slots := 0, locals := 0 } : Room).slots) := by
  refine MetFree.of_bodySF (plainFor_of_name pn_10) hisR ?_
  intro p e s m args below meth c s₁ Bd hml0 hP0 hK
  obtain ⟨rfl, hZ, hh⟩ := hP0
  have hx := Bd.exec
  have hby := Bd.bytes
  have hml : c.maxLocals = 1 := hml0
  have hown : s.vm.findClass "com/example/greenwood/greenwood/Environment" = some m.cls := findClass_of_methodNamed Bd.named
  have hnm := (name_of_methodNamed Bd.named Bd.method).1
  have X0 : Stand p l e ({ frames := 0, cells := 0, slots := 0, locals := 0 } : Room) s m #[(.ref a1)] below meth c s₁ [] 0 0 := Stand.of_body Bd
  have e0 : s₁.heap = h0 := by rw [← hh, Bd.state]; rfl
  have N0 := Fr.nil n0
  suffices own_H : ∀ (P : State → Outcome → Prop), (∀ U o, U.status = .running → Ended U below o → (∃ v L, o = .returned v ∧ Qrm10_2 Z a1 rl rs kl ks h0 n0 v U.heap L ∧ FrameEnd s o U L ({ frames := 0, cells := 0, slots := 0, locals := 0 } : Room).cells ({ frames := 0, cells := 0, slots := 0, locals := 0 } : Room).slots) → P U o) → own_Go p.tables e below P (s₁.setTop (mkF m 0 #[.val (.ref a1)] [])) from own_go (fun _ k => castTop (ef_rm10_2 m a1) k) (own_H _ (fun U o h1 h2 h3 => ⟨h1, h2, h3⟩))
  intro P hP
  have lt_a1 : @LT.lt Nat _ a1 h0.size := pr1.lt
  have lt_rl : @LT.lt Nat _ rl h0.size := pr6.lt
  have lt_rs : @LT.lt Nat _ rs h0.size := pr7.lt
  refine own_go (st' := s₁.setTop (mkF m 1 #[.val (.ref a1)] [(.ref a1)])) (fun _ k => XS.aloadN X0.here hx rfl (hb hby d10_0) rfl rfl k) ?_
  obtain ⟨T1, X1, e1, st1⟩ := getF X0 hx hZ hown (host := "") (Or.inl (hw _ (List.mem_of_getElem? (i := 47) rfl))) Via.refl e0 pr3 (g := (mkF m 1 #[.val (.ref a1)] [(.ref a1)])) rfl rfl (hb hby d10_1)
  refine own_go (st' := T1.setTop (mkF m 4 #[.val (.ref a1)] [(.int (0 : Int32))])) (st1) ?_
  refine own_go (st' := T1.setTop (mkF m 5 #[.val (.ref a1)] [(.ref a1), (.int (0 : Int32))])) (fun _ k => XS.aloadN X1.here hx rfl (hb hby d10_4) rfl rfl k) ?_
  obtain ⟨T2, X2, e2, st2⟩ := getF X1 hx hZ hown (host := "") (Or.inl (hw _ (List.mem_of_getElem? (i := 30) rfl))) Via.refl e1 pr4 (g := (mkF m 5 #[.val (.ref a1)] [(.ref a1), (.int (0 : Int32))])) rfl rfl (hb hby d10_5)
  refine own_go (st' := T2.setTop (mkF m 8 #[.val (.ref a1)] [(.ref rl), (.int (0 : Int32))])) (st2) ?_
  obtain ⟨cl3, Ar3, -, S3, M3, -, -⟩ := id pr6
  refine own_go (st' := T2.setTop (mkF m 9 #[.val (.ref a1)] [(.int (16 : Int32)), (.int (0 : Int32))])) (fun t k => X2.arraylength hx (by rw [e2]; exact Ar3.1) (State.isArrayOf_alike hZ.alike Ar3.2.1) (g := (mkF m 8 #[.val (.ref a1)] [(.ref rl), (.int (0 : Int32))])) rfl rfl (hb hby d10_8) t (by rw [len_of S3 M3]; exact k)) ?_
  have hc4 : ¬ ((0 : Int32) = (16 : Int32)) := by decide
  refine own_go (st' := T2.setTop (mkF m 29 #[.val (.ref a1)] [])) (fun _ k => XS.icmpYes X2.here hx rfl (pc0 := 9) (pc' := 29) rfl (hb hby d10_9) rfl (feq hc4).2 (by decide) (by decide) k) ?_
  refine own_go (st' := T2.setTop (mkF m 30 #[.val (.ref a1)] [(.ref a1)])) (fun _ k => XS.aloadN X2.here hx rfl (hb hby d10_29) rfl rfl k) ?_
  refine own_go (st' := T2.setTop (mkF m 31 #[.val (.ref a1)] [(.ref a1), (.ref a1)])) (fun _ k => XS.dup X2.here hx rfl (hb hby d10_30) rfl rfl k) ?_
  obtain ⟨T5, X5, e5, st5⟩ := getF X2 hx hZ hown (host := "") (Or.inl (hw _ (List.mem_of_getElem? (i := 47) rfl))) Via.refl e2 pr3 (g := (mkF m 31 #[.val (.ref a1)] [(.ref a1), (.ref a1)])) rfl rfl (hb hby d10_31)
  refine own_go (st' := T5.setTop (mkF m 34 #[.val (.ref a1)] [(.int (0 : Int32)), (.ref a1)])) (st5) ?_
  refine own_go (st' := T5.setTop (mkF m 35 #[.val (.ref a1)] [(.int (1 : Int32)), (.int (0 : Int32)), (.ref a1)])) (fun _ k => XS.iconst X5.here hx rfl (hb hby d10_34) k) ?_
  refine own_go (st' := T5.setTop (mkF m 36 #[.val (.ref a1)] [(.int (1 : Int32)), (.ref a1)])) (fun _ k => XS.iadd X5.here hx rfl (hb hby d10_35) rfl (by rw [show ((0 : Int32) + (1 : Int32)) = (1 : Int32) by decide]; exact k)) ?_
  obtain ⟨T6, h6, X6, e6, W6, st6⟩ := putF X5 hx hZ hown (host := "") (Or.inl (hw _ (List.mem_of_getElem? (i := 47) rfl))) Via.refl e5 pr3 pr1 (Or.inl (hw _ (List.mem_of_getElem? (i := 48) rfl))) (hw _ (List.mem_of_getElem? (i := 2) rfl)) (ty := .int) (by decide) rfl rfl (g := (mkF m 36 #[.val (.ref a1)] [(.int (1 : Int32)), (.ref a1)])) rfl rfl (hb hby d10_36)
  have sz6 : h6.size = h0.size := W6.size
  have N6 := Fr.snoc X6 N0 (by omega)
  have f6 : Fld Z h6 a1 "com/example/greenwood/greenwood/Environment" "localCount" "I" (.int (1 : Int32)) := pr3.same W6
  refine own_go (st' := T6.setTop (mkF m 39 #[.val (.ref a1)] [])) (st6) ?_
  obtain ⟨fs, hr, hrun, hended, hW, hsame⟩ := X6.leave (v := none) (fun _ => rfl)
  refine ⟨_, _, ?_, hP _ _ hrun hended ⟨_, _, rfl, ?_, ⟨_, rfl⟩, hW, hsame.mono (by decide) (by decide)⟩⟩
  · exact X6.returnOut hx Bd.returns (hb hby d10_39) hr
  · show Qrm10_2 Z a1 rl rs kl ks h0 n0 _ T6.heap _
    have c8 : Exa Z h6 a1 "com/example/greenwood/greenwood/Environment" := (pr1.wr W6)
    have c9 : Fld Z h6 a1 "com/example/greenwood/greenwood/Environment" "openScopes" "I" (.int (2 : Int32)) := (pr2.other W6 (Or.inr (slot_ne (Or.inl (hw _ (List.mem_of_getElem? (i := 41) rfl))) (Or.inl (hw _ (List.mem_of_getElem? (i := 48) rfl))) (by decide) (t := .int) (t' := .int) (by decide) (by decide))))
    have c10 : Fld Z h6 a1 "com/example/greenwood/greenwood/Environment" "locals" "[Ljava/lang/Object;" (.ref rl) := (pr4.other W6 (Or.inr (slot_ne (Or.inl (hw _ (List.mem_of_getElem? (i := 31) rfl))) (Or.inl (hw _ (List.mem_of_getElem? (i := 48) rfl))) (by decide) (t := (.array (.object "java/lang/Object"))) (t' := .int) (by decide) (by decide))))
    have c11 : Fld Z h6 a1 "com/example/greenwood/greenwood/Environment" "scopeStarts" "[I" (.ref rs) := (pr5.other W6 (Or.inr (slot_ne (Or.inl (hw _ (List.mem_of_getElem? (i := 34) rfl))) (Or.inl (hw _ (List.mem_of_getElem? (i := 48) rfl))) (by decide) (t := (.array .int)) (t' := .int) (by decide) (by decide))))
    rw [e6]
    exact ⟨rfl, N6, ((Keep.refl h0 [a1]).wr W6 (Or.inl (List.mem_of_getElem? (i := 0) rfl))), c8, c9, f6, c10, c11⟩
theorem d11_0 : decode prog_1_method_8_code 0 = .ok (.aload_n 0, 1) := by decide +kernel
theorem d11_1 : decode prog_1_method_8_code 1 = .ok (.dup, 1) := by decide +kernel
theorem d11_2 : decode prog_1_method_8_code 2 = .ok (.getfield 57, 3) := by decide +kernel
theorem d11_5 : decode prog_1_method_8_code 5 = .ok (.iconst 1, 1) := by decide +kernel
theorem d11_6 : decode prog_1_method_8_code 6 = .ok (.isub, 1) := by decide +kernel
theorem d11_7 : decode prog_1_method_8_code 7 = .ok (.putfield 57, 3) := by decide +kernel
theorem d11_10 : decode prog_1_method_8_code 10 = .ok (.aload_n 0, 1) := by decide +kernel
theorem d11_11 : decode prog_1_method_8_code 11 = .ok (.getfield 20, 3) := by decide +kernel
theorem d11_14 : decode prog_1_method_8_code 14 = .ok (.aload_n 0, 1) := by decide +kernel
theorem d11_15 : decode prog_1_method_8_code 15 = .ok (.getfield 57, 3) := by decide +kernel
theorem d11_18 : decode prog_1_method_8_code 18 = .ok (.iaload, 1) := by decide +kernel
theorem d11_19 : decode prog_1_method_8_code 19 = .ok (.istore_n 1, 1) := by decide +kernel
theorem d11_20 : decode prog_1_method_8_code 20 = .ok (.aload_n 0, 1) := by decide +kernel
theorem d11_21 : decode prog_1_method_8_code 21 = .ok (.getfield 16, 3) := by decide +kernel
theorem d11_24 : decode prog_1_method_8_code 24 = .ok (.iload_n 1, 1) := by decide +kernel
theorem d11_25 : decode prog_1_method_8_code 25 = .ok (.aload_n 0, 1) := by decide +kernel
theorem d11_26 : decode prog_1_method_8_code 26 = .ok (.getfield 67, 3) := by decide +kernel
theorem d11_29 : decode prog_1_method_8_code 29 = .ok (.aconst_null, 1) := by decide +kernel
theorem d11_30 : decode prog_1_method_8_code 30 = .ok (.invokestatic 70, 3) := by decide +kernel
theorem d11_33 : decode prog_1_method_8_code 33 = .ok (.aload_n 0, 1) := by decide +kernel
theorem d11_34 : decode prog_1_method_8_code 34 = .ok (.iload_n 1, 1) := by decide +kernel
theorem d11_35 : decode prog_1_method_8_code 35 = .ok (.putfield 67, 3) := by decide +kernel
theorem d11_38 : decode prog_1_method_8_code 38 = .ok (.return_, 1) := by decide +kernel
theorem pn_11 : plainName "com/example/greenwood/greenwood/Environment" = true := by first | (simp [plainName, overriddenIn]; done) | decide +kernel
theorem ef_rm11_1_0 (m : MethodId) (x0 : Addr) : entryFrame m #[(.ref x0)] 2 = mkF m 0 #[.val (.ref x0), .unset] [] := by first | (simp [entryFrame, mkF, argsToLocals, Value.category]; done) | rfl
def Qrm11_1_0 (Z : State) (a1 : Addr) (rl : Addr) (rs : Addr) (kl : ClassId) (ks : ClassId) (h0 : Heap) (n0 : Nat) (v : Option Value) (h : Heap) (L : List Loc) : Prop := (v = none) ∧ (Fr n0 L) ∧ (Keep h0 h [a1, rl]) ∧ (Exa Z h a1 "com/example/greenwood/greenwood/Environment") ∧ (Fld Z h a1 "com/example/greenwood/greenwood/Environment" "openScopes" "I" (.int (0 : Int32))) ∧ (Fld Z h a1 "com/example/greenwood/greenwood/Environment" "localCount" "I" (.int (0 : Int32))) ∧ (Fld Z h a1 "com/example/greenwood/greenwood/Environment" "locals" "[Ljava/lang/Object;" (.ref rl)) ∧ (Fld Z h a1 "com/example/greenwood/greenwood/Environment" "scopeStarts" "[I" (.ref rs)) ∧ (Arv Z h rl kl (.object "java/lang/Object") (16 : Int32) [.null, .null, .null, .null, .null, .null, .null, .null, .null, .null, .null, .null, .null, .null, .null, .null] .null)
set_option maxRecDepth 65536 in
set_option maxHeartbeats 40000000 in
theorem rm11_1_0 (l : Launch) (Z : State) (a0 : Array Value) (hw : ∀ d ∈ tables_1, d.before a0 Z = true) (ws : List Jvm.Cond) (a1 : Addr) (rl : Addr) (rs : Addr) (kl : ClassId) (ks : ClassId) (h0 : Heap) (n0 : Nat) (Z0 : n0 ≤ h0.size) (pr1 : Exa Z h0 a1 "com/example/greenwood/greenwood/Environment") (pr2 : Fld Z h0 a1 "com/example/greenwood/greenwood/Environment" "openScopes" "I" (.int (1 : Int32))) (pr3 : Fld Z h0 a1 "com/example/greenwood/greenwood/Environment" "localCount" "I" (.int (0 : Int32))) (pr4 : Fld Z h0 a1 "com/example/greenwood/greenwood/Environment" "locals" "[Ljava/lang/Object;" (.ref rl)) (pr5 : Fld Z h0 a1 "com/example/greenwood/greenwood/Environment" "scopeStarts" "[I" (.ref rs)) (pr6 : Arv Z h0 rl kl (.object "java/lang/Object") (16 : Int32) [.null, .null, .null, .null, .null, .null, .null, .null, .null, .null, .null, .null, .null, .null, .null, .null] .null) (pr7 : Arv Z h0 rs ks .int (16 : Int32) [(.int (0 : Int32)), (.int (0 : Int32)), (.int (0 : Int32)), (.int (0 : Int32)), (.int (0 : Int32)), (.int (0 : Int32)), (.int (0 : Int32)), (.int (0 : Int32)), (.int (0 : Int32)), (.int (0 : Int32)), (.int (0 : Int32)), (.int (0 : Int32)), (.int (0 : Int32)), (.int (0 : Int32)), (.int (0 : Int32)), (.int (0 : Int32))] (.int (0 : Int32))) (pr8 : n0 ≤ a1) (pr9 : n0 ≤ rl) (pr10 : n0 ≤ rs) (pr11 : a1 ≠ rl) (pr12 : a1 ≠ rs) (pr13 : rl ≠ rs) :
    MetFree l (⟨"com/example/greenwood/greenwood/Environment", "closeScope", "()V"⟩ : MethodName) (head1 (Jvm.Cond.code (⟨"com/example/greenwood/greenwood/Environment", "closeScope", "()V"⟩ : MethodName) prog_1_method_8_code 2 none :: ws) ({ frames := 2, cells := 0, slots := 0, locals := 30 } : Room)) (fun a U => a = #[(.ref a1)] ∧ Z.Warmed39 U.vm ∧ U.heap = h0) (fun _ _ _ _ _ => True) (fun _ U o U' => ∃ v L, o = .returned v ∧ Qrm11_1_0 Z a1 rl rs kl ks h0 n0 v U'.heap L ∧ FrameEnd U o U' L ({ frames := 2, cells := 0, slots := 0, locals := 30 } : Room).cells ({ frames := 2, cells := 0, slots := 0, locals := 30 } : Room).slots) := by
  refine MetFree.of_bodySF (plainFor_of_name pn_11) hisR ?_
  intro p e s m args below meth c s₁ Bd hml0 hP0 hK
  obtain ⟨rfl, hZ, hh⟩ := hP0
  have hx := Bd.exec
  have hby := Bd.bytes
  have hml : c.maxLocals = 2 := hml0
  have hown : s.vm.findClass "com/example/greenwood/greenwood/Environment" = some m.cls := findClass_of_methodNamed Bd.named
  have hnm := (name_of_methodNamed Bd.named Bd.method).1
  have X0 : Stand p l e ({ frames := 2, cells := 0, slots := 0, locals := 30 } : Room) s m #[(.ref a1)] below meth c s₁ [] 0 0 := Stand.of_body Bd
  have e0 : s₁.heap = h0 := by rw [← hh, Bd.state]; rfl
  have N0 := Fr.nil n0
  suffices own_H : ∀ (P : State → Outcome → Prop), (∀ U o, U.status = .running → Ended U below o → (∃ v L, o = .returned v ∧ Qrm11_1_0 Z a1 rl rs kl ks h0 n0 v U.heap L ∧ FrameEnd s o U L ({ frames := 2, cells := 0, slots := 0, locals := 30 } : Room).cells ({ frames := 2, cells := 0, slots := 0, locals := 30 } : Room).slots) → P U o) → own_Go p.tables e below P (s₁.setTop (mkF m 0 #[.val (.ref a1), .unset] [])) from own_go (fun _ k => castTop (ef_rm11_1_0 m a1) k) (own_H _ (fun U o h1 h2 h3 => ⟨h1, h2, h3⟩))
  intro P hP
  have lt_a1 : @LT.lt Nat _ a1 h0.size := pr1.lt
  have lt_rl : @LT.lt Nat _ rl h0.size := pr6.lt
  have lt_rs : @LT.lt Nat _ rs h0.size := pr7.lt
  refine own_go (st' := s₁.setTop (mkF m 1 #[.val (.ref a1), .unset] [(.ref a1)])) (fun _ k => XS.aloadN X0.here hx rfl (hb hby d11_0) rfl rfl k) ?_
  refine own_go (st' := s₁.setTop (mkF m 2 #[.val (.ref a1), .unset] [(.ref a1), (.ref a1)])) (fun _ k => XS.dup X0.here hx rfl (hb hby d11_1) rfl rfl k) ?_
  obtain ⟨T1, X1, e1, st1⟩ := getF X0 hx hZ hown (host := "") (Or.inl (hw _ (List.mem_of_getElem? (i := 40) rfl))) Via.refl e0 pr2 (g := (mkF m 2 #[.val (.ref a1), .unset] [(.ref a1), (.ref a1)])) rfl rfl (hb hby d11_2)
  refine own_go (st' := T1.setTop (mkF m 5 #[.val (.ref a1), .unset] [(.int (1 : Int32)), (.ref a1)])) (st1) ?_
  refine own_go (st' := T1.setTop (mkF m 6 #[.val (.ref a1), .unset] [(.int (1 : Int32)), (.int (1 : Int32)), (.ref a1)])) (fun _ k => XS.iconst X1.here hx rfl (hb hby d11_5) k) ?_
  refine own_go (st' := T1.setTop (mkF m 7 #[.val (.ref a1), .unset] [(.int (0 : Int32)), (.ref a1)])) (fun _ k => XS.isub X1.here hx rfl (hb hby d11_6) rfl (by rw [show ((1 : Int32) - (1 : Int32)) = (0 : Int32) by decide]; exact k)) ?_
  obtain ⟨T2, h2, X2, e2, W2, st2⟩ := putF X1 hx hZ hown (host := "") (Or.inl (hw _ (List.mem_of_getElem? (i := 40) rfl))) Via.refl e1 pr2 pr1 (Or.inl (hw _ (List.mem_of_getElem? (i := 41) rfl))) (hw _ (List.mem_of_getElem? (i := 2) rfl)) (ty := .int) (by decide) rfl rfl (g := (mkF m 7 #[.val (.ref a1), .unset] [(.int (0 : Int32)), (.ref a1)])) rfl rfl (hb hby d11_7)
  have sz2 : h2.size = h0.size := W2.size
  have N2 := Fr.snoc X2 N0 (by omega)
  have f2 : Fld Z h2 a1 "com/example/greenwood/greenwood/Environment" "openScopes" "I" (.int (0 : Int32)) := pr2.same W2
  refine own_go (st' := T2.setTop (mkF m 10 #[.val (.ref a1), .unset] [])) (st2) ?_
  refine own_go (st' := T2.setTop (mkF m 11 #[.val (.ref a1), .unset] [(.ref a1)])) (fun _ k => XS.aloadN X2.here hx rfl (hb hby d11_10) rfl rfl k) ?_
  have c3 : Fld Z h2 a1 "com/example/greenwood/greenwood/Environment" "scopeStarts" "[I" (.ref rs) := (pr5.other W2 (Or.inr (slot_ne (Or.inl (hw _ (List.mem_of_getElem? (i := 34) rfl))) (Or.inl (hw _ (List.mem_of_getElem? (i := 41) rfl))) (by decide) (t := (.array .int)) (t' := .int) (by decide) (by decide))))
  obtain ⟨T4, X4, e4, st4⟩ := getF X2 hx hZ hown (host := "") (Or.inl (hw _ (List.mem_of_getElem? (i := 33) rfl))) Via.refl e2 c3 (g := (mkF m 11 #[.val (.ref a1), .unset] [(.ref a1)])) rfl rfl (hb hby d11_11)
  refine own_go (st' := T4.setTop (mkF m 14 #[.val (.ref a1), .unset] [(.ref rs)])) (st4) ?_
  refine own_go (st' := T4.setTop (mkF m 15 #[.val (.ref a1), .unset] [(.ref a1), (.ref rs)])) (fun _ k => XS.aloadN X4.here hx rfl (hb hby d11_14) rfl rfl k) ?_
  obtain ⟨T5, X5, e5, st5⟩ := getF X4 hx hZ hown (host := "") (Or.inl (hw _ (List.mem_of_getElem? (i := 40) rfl))) Via.refl e4 f2 (g := (mkF m 15 #[.val (.ref a1), .unset] [(.ref a1), (.ref rs)])) rfl rfl (hb hby d11_15)
  refine own_go (st' := T5.setTop (mkF m 18 #[.val (.ref a1), .unset] [(.int (0 : Int32)), (.ref rs)])) (st5) ?_
  have c6 : Arv Z h2 rs ks .int (16 : Int32) [(.int (0 : Int32)), (.int (0 : Int32)), (.int (0 : Int32)), (.int (0 : Int32)), (.int (0 : Int32)), (.int (0 : Int32)), (.int (0 : Int32)), (.int (0 : Int32)), (.int (0 : Int32)), (.int (0 : Int32)), (.int (0 : Int32)), (.int (0 : Int32)), (.int (0 : Int32)), (.int (0 : Int32)), (.int (0 : Int32)), (.int (0 : Int32))] (.int (0 : Int32)) := (pr7.other W2 (by first | assumption | exact Ne.symm (by assumption) | (apply Nat.ne_of_lt; omega) | (apply Nat.ne_of_gt; omega)))
  obtain ⟨cl7, Ar7, -, S7, M7, H7, -⟩ := id c6
  have hin7 : ¬ ((0 : Int32) < 0 ∨ cl7.slots.size ≤ ((0 : Int32)).toNatClampNeg) := (inb_of S7 ⟨by decide, by decide⟩)
  have hat7 : cl7.slots[((0 : Int32)).toNatClampNeg]? = some (.int (0 : Int32)) := (H7.at hin7 rfl)
  refine own_go (st' := T5.setTop (mkF m 19 #[.val (.ref a1), .unset] [(.int (0 : Int32))])) (X5.iaload hx (j := (0 : Int32)) (v := (.int (0 : Int32))) (by rw [e5]; exact Ar7.1) (State.isArrayOf_alike hZ.alike Ar7.2.1) Ar7.2.2 hin7 hat7 (g := (mkF m 18 #[.val (.ref a1), .unset] [(.int (0 : Int32)), (.ref rs)])) rfl rfl (hb hby d11_18)) ?_
  refine own_go (st' := T5.setTop (mkF m 20 #[.val (.ref a1), .val (.int (0 : Int32))] [])) (fun _ k => XS.istoreN X5.here hx rfl (hb hby d11_19) rfl (l' := #[.val (.ref a1), .val (.int (0 : Int32))]) rfl k) ?_
  refine own_go (st' := T5.setTop (mkF m 21 #[.val (.ref a1), .val (.int (0 : Int32))] [(.ref a1)])) (fun _ k => XS.aloadN X5.here hx rfl (hb hby d11_20) rfl rfl k) ?_
  have c8 : Fld Z h2 a1 "com/example/greenwood/greenwood/Environment" "locals" "[Ljava/lang/Object;" (.ref rl) := (pr4.other W2 (Or.inr (slot_ne (Or.inl (hw _ (List.mem_of_getElem? (i := 31) rfl))) (Or.inl (hw _ (List.mem_of_getElem? (i := 41) rfl))) (by decide) (t := (.array (.object "java/lang/Object"))) (t' := .int) (by decide) (by decide))))
  obtain ⟨T9, X9, e9, st9⟩ := getF X5 hx hZ hown (host := "") (Or.inl (hw _ (List.mem_of_getElem? (i := 30) rfl))) Via.refl e5 c8 (g := (mkF m 21 #[.val (.ref a1), .val (.int (0 : Int32))] [(.ref a1)])) rfl rfl (hb hby d11_21)
  refine own_go (st' := T9.setTop (mkF m 24 #[.val (.ref a1), .val (.int (0 : Int32))] [(.ref rl)])) (st9) ?_
  refine own_go (st' := T9.setTop (mkF m 25 #[.val (.ref a1), .val (.int (0 : Int32))] [(.int (0 : Int32)), (.ref rl)])) (fun _ k => XS.iloadN X9.here hx rfl (hb hby d11_24) rfl k) ?_
  refine own_go (st' := T9.setTop (mkF m 26 #[.val (.ref a1), .val (.int (0 : Int32))] [(.ref a1), (.int (0 : Int32)), (.ref rl)])) (fun _ k => XS.aloadN X9.here hx rfl (hb hby d11_25) rfl rfl k) ?_
  have c10 : Fld Z h2 a1 "com/example/greenwood/greenwood/Environment" "localCount" "I" (.int (0 : Int32)) := (pr3.other W2 (Or.inr (slot_ne (Or.inl (hw _ (List.mem_of_getElem? (i := 48) rfl))) (Or.inl (hw _ (List.mem_of_getElem? (i := 41) rfl))) (by decide) (t := .int) (t' := .int) (by decide) (by decide))))
  obtain ⟨T11, X11, e11, st11⟩ := getF X9 hx hZ hown (host := "") (Or.inl (hw _ (List.mem_of_getElem? (i := 47) rfl))) Via.refl e9 c10 (g := (mkF m 26 #[.val (.ref a1), .val (.int (0 : Int32))] [(.ref a1), (.int (0 : Int32)), (.ref rl)])) rfl rfl (hb hby d11_26)
  refine own_go (st' := T11.setTop (mkF m 29 #[.val (.ref a1), .val (.int (0 : Int32))] [(.int (0 : Int32)), (.int (0 : Int32)), (.ref rl)])) (st11) ?_
  refine own_go (st' := T11.setTop (mkF m 30 #[.val (.ref a1), .val (.int (0 : Int32))] [.null, (.int (0 : Int32)), (.int (0 : Int32)), (.ref rl)])) (fun _ k => XS.aconstNull X11.here hx rfl (hb hby d11_29) k) ?_
  have c13 : Arv Z h2 rl kl (.object "java/lang/Object") (16 : Int32) [.null, .null, .null, .null, .null, .null, .null, .null, .null, .null, .null, .null, .null, .null, .null, .null] .null := (pr6.other W2 (by first | assumption | exact Ne.symm (by assumption) | (apply Nat.ne_of_lt; omega) | (apply Nat.ne_of_gt; omega)))
  obtain ⟨_, _, ⟨T12, LC12, kC12, nC12⟩, -, X12, ⟨Lc12, hQ12, lq12, yq12, zq12⟩, st12⟩ := Jvm.LawKit.callS X11 hx (y := (⟨"java/util/Arrays", "fill", "([Ljava/lang/Object;IILjava/lang/Object;)V"⟩ : MethodName)) hown (mvT hZ (hw _ (List.mem_of_getElem? (i := 49) rfl))) (mvT hZ (hw _ (List.mem_of_getElem? (i := 50) rfl))) (mvT hZ (hw _ (List.mem_of_getElem? (i := 51) rfl))) (mvT hZ (hw _ (List.mem_of_getElem? (i := 52) rfl))) (by decide) (backOf (W := 0) (rm7_0 l Z a0 hw [] rl kl h2 n0 (by omega) c13 (by omega)) hZ (hw _ (List.mem_of_getElem? (i := 52) rfl)) (hw _ (List.mem_of_getElem? (i := 51) rfl)) (by decide) (by decide)) (g := (mkF m 30 #[.val (.ref a1), .val (.int (0 : Int32))] [.null, (.int (0 : Int32)), (.int (0 : Int32)), (.ref rl)])) rfl (by rw [hml]; rfl) (argsL := [(.ref rl), (.int (0 : Int32)), (.int (0 : Int32)), .null]) (rest := []) (lenOf pd_2 rfl) rfl (by show 2 * 0 + _ ≤ _; exact Nat.le_of_eq rfl) (hb hby d11_30) (fun _ _ => ⟨rfl, e11, (by decide : 0 + 0 ≤ _), (by decide : 0 + 0 ≤ _)⟩)
  dsimp only [Pt.U, Pt.locs, Pt.cells, Pt.slots] at X12 lq12 yq12 zq12 st12 hQ12
  subst lq12 yq12 zq12
  obtain ⟨h12, e12⟩ : ∃ z, T12.heap = z := ⟨_, rfl⟩
  rw [e12] at hQ12
  obtain ⟨rfl, Nq12, K12, g12_0⟩ := hQ12
  have sz12 : h2.size ≤ h12.size := K12.1
  have N12 := Fr.app N2 Nq12
  have lt12_1 : @LT.lt Nat _ rl h12.size := g12_0.lt
  refine own_go (st' := T12.setTop (mkF m 33 #[.val (.ref a1), .val (.int (0 : Int32))] [])) (fun t k => st12 t k) ?_
  refine own_go (st' := T12.setTop (mkF m 34 #[.val (.ref a1), .val (.int (0 : Int32))] [(.ref a1)])) (fun _ k => XS.aloadN X12.here hx rfl (hb hby d11_33) rfl rfl k) ?_
  refine own_go (st' := T12.setTop (mkF m 35 #[.val (.ref a1), .val (.int (0 : Int32))] [(.int (0 : Int32)), (.ref a1)])) (fun _ k => XS.iloadN X12.here hx rfl (hb hby d11_34) rfl k) ?_
  have c14 : Fld Z h12 a1 "com/example/greenwood/greenwood/Environment" "localCount" "I" (.int (0 : Int32)) := (c10.keep K12 (ninS (by first | assumption | exact Ne.symm (by assumption) | (apply Nat.ne_of_lt; omega) | (apply Nat.ne_of_gt; omega)) nin0))
  have c15 : Exa Z h12 a1 "com/example/greenwood/greenwood/Environment" := ((pr1.wr W2).keep K12)
  obtain ⟨T16, h16, X16, e16, W16, st16⟩ := putF X12 hx hZ hown (host := "") (Or.inl (hw _ (List.mem_of_getElem? (i := 47) rfl))) Via.refl e12 c14 c15 (Or.inl (hw _ (List.mem_of_getElem? (i := 48) rfl))) (hw _ (List.mem_of_getElem? (i := 2) rfl)) (ty := .int) (by decide) rfl rfl (g := (mkF m 35 #[.val (.ref a1), .val (.int (0 : Int32))] [(.int (0 : Int32)), (.ref a1)])) rfl rfl (hb hby d11_35)
  have sz16 : h16.size = h12.size := W16.size
  have N16 := Fr.snoc X16 N12 (by omega)
  have f16 : Fld Z h16 a1 "com/example/greenwood/greenwood/Environment" "localCount" "I" (.int (0 : Int32)) := c14.same W16
  refine own_go (st' := T16.setTop (mkF m 38 #[.val (.ref a1), .val (.int (0 : Int32))] [])) (st16) ?_
  obtain ⟨fs, hr, hrun, hended, hW, hsame⟩ := X16.leave (v := none) (fun _ => rfl)
  refine ⟨_, _, ?_, hP _ _ hrun hended ⟨_, _, rfl, ?_, ⟨_, rfl⟩, hW, hsame.mono (by decide) (by decide)⟩⟩
  · exact X16.returnOut hx Bd.returns (hb hby d11_38) hr
  · show Qrm11_1_0 Z a1 rl rs kl ks h0 n0 _ T16.heap _
    have c18 : Exa Z h16 a1 "com/example/greenwood/greenwood/Environment" := (c15.wr W16)
    have c19 : Fld Z h16 a1 "com/example/greenwood/greenwood/Environment" "openScopes" "I" (.int (0 : Int32)) := ((f2.keep K12 (ninS (by first | assumption | exact Ne.symm (by assumption) | (apply Nat.ne_of_lt; omega) | (apply Nat.ne_of_gt; omega)) nin0)).other W16 (Or.inr (slot_ne (Or.inl (hw _ (List.mem_of_getElem? (i := 41) rfl))) (Or.inl (hw _ (List.mem_of_getElem? (i := 48) rfl))) (by decide) (t := .int) (t' := .int) (by decide) (by decide))))
    have c20 : Fld Z h16 a1 "com/example/greenwood/greenwood/Environment" "locals" "[Ljava/lang/Object;" (.ref rl) := ((c8.keep K12 (ninS (by first | assumption | exact Ne.symm (by assumption) | (apply Nat.ne_of_lt; omega) | (apply Nat.ne_of_gt; omega)) nin0)).other W16 (Or.inr (slot_ne (Or.inl (hw _ (List.mem_of_getElem? (i := 31) rfl))) (Or.inl (hw _ (List.mem_of_getElem? (i := 48) rfl))) (by decide) (t := (.array (.object "java/lang/Object"))) (t' := .int) (by decide) (by decide))))
    have c21 : Fld Z h16 a1 "com/example/greenwood/greenwood/Environment" "scopeStarts" "[I" (.ref rs) := ((c3.keep K12 (ninS (by first | assumption | exact Ne.symm (by assumption) | (apply Nat.ne_of_lt; omega) | (apply Nat.ne_of_gt; omega)) nin0)).other W16 (Or.inr (slot_ne (Or.inl (hw _ (List.mem_of_getElem? (i := 34) rfl))) (Or.inl (hw _ (List.mem_of_getElem? (i := 48) rfl))) (by decide) (t := (.array .int)) (t' := .int) (by decide) (by decide))))
    have c22 : Arv Z h16 rl kl (.object "java/lang/Object") (16 : Int32) [.null, .null, .null, .null, .null, .null, .null, .null, .null, .null, .null, .null, .null, .null, .null, .null] .null := (g12_0.other W16 (by first | assumption | exact Ne.symm (by assumption) | (apply Nat.ne_of_lt; omega) | (apply Nat.ne_of_gt; omega)))
    rw [e16]
    exact ⟨rfl, N16, ((((Keep.refl h0 [a1, rl]).wr W2 (Or.inl (List.mem_of_getElem? (i := 0) rfl))).trans K12 (allS (P := fun x => x ∈ [a1, rl] ∨ h0.size ≤ x) (Or.inl (List.mem_of_getElem? (i := 1) rfl)) all0)).wr W16 (Or.inl (List.mem_of_getElem? (i := 0) rfl))), c18, c19, f16, c20, c21, c22⟩
theorem ef_rm11_1_1 (m : MethodId) (x0 : Addr) : entryFrame m #[(.ref x0)] 2 = mkF m 0 #[.val (.ref x0), .unset] [] := by first | (simp [entryFrame, mkF, argsToLocals, Value.category]; done) | rfl
def Qrm11_1_1 (Z : State) (a1 : Addr) (rl : Addr) (rs : Addr) (kl : ClassId) (ks : ClassId) (h0 : Heap) (n0 : Nat) (v : Option Value) (h : Heap) (L : List Loc) : Prop := (v = none) ∧ (Fr n0 L) ∧ (Keep h0 h [a1, rl]) ∧ (Exa Z h a1 "com/example/greenwood/greenwood/Environment") ∧ (Fld Z h a1 "com/example/greenwood/greenwood/Environment" "openScopes" "I" (.int (0 : Int32))) ∧ (Fld Z h a1 "com/example/greenwood/greenwood/Environment" "localCount" "I" (.int (0 : Int32))) ∧ (Fld Z h a1 "com/example/greenwood/greenwood/Environment" "locals" "[Ljava/lang/Object;" (.ref rl)) ∧ (Fld Z h a1 "com/example/greenwood/greenwood/Environment" "scopeStarts" "[I" (.ref rs)) ∧ (Arv Z h rl kl (.object "java/lang/Object") (16 : Int32) [.null, .null, .null, .null, .null, .null, .null, .null, .null, .null, .null, .null, .null, .null, .null, .null] .null)
set_option maxRecDepth 65536 in
set_option maxHeartbeats 40000000 in
theorem rm11_1_1 (l : Launch) (Z : State) (a0 : Array Value) (hw : ∀ d ∈ tables_1, d.before a0 Z = true) (ws : List Jvm.Cond) (a1 : Addr) (rl : Addr) (rs : Addr) (kl : ClassId) (ks : ClassId) (h0 : Heap) (n0 : Nat) (Z0 : n0 ≤ h0.size) (pr1 : Exa Z h0 a1 "com/example/greenwood/greenwood/Environment") (pr2 : Fld Z h0 a1 "com/example/greenwood/greenwood/Environment" "openScopes" "I" (.int (1 : Int32))) (pr3 : Fld Z h0 a1 "com/example/greenwood/greenwood/Environment" "localCount" "I" (.int (1 : Int32))) (pr4 : Fld Z h0 a1 "com/example/greenwood/greenwood/Environment" "locals" "[Ljava/lang/Object;" (.ref rl)) (pr5 : Fld Z h0 a1 "com/example/greenwood/greenwood/Environment" "scopeStarts" "[I" (.ref rs)) (pr6 : Arv Z h0 rl kl (.object "java/lang/Object") (16 : Int32) [.null, .null, .null, .null, .null, .null, .null, .null, .null, .null, .null, .null, .null, .null, .null, .null] .null) (pr7 : Arv Z h0 rs ks .int (16 : Int32) [(.int (0 : Int32)), (.int (0 : Int32)), (.int (0 : Int32)), (.int (0 : Int32)), (.int (0 : Int32)), (.int (0 : Int32)), (.int (0 : Int32)), (.int (0 : Int32)), (.int (0 : Int32)), (.int (0 : Int32)), (.int (0 : Int32)), (.int (0 : Int32)), (.int (0 : Int32)), (.int (0 : Int32)), (.int (0 : Int32)), (.int (0 : Int32))] (.int (0 : Int32))) (pr8 : n0 ≤ a1) (pr9 : n0 ≤ rl) (pr10 : n0 ≤ rs) (pr11 : a1 ≠ rl) (pr12 : a1 ≠ rs) (pr13 : rl ≠ rs) :
    MetFree l (⟨"com/example/greenwood/greenwood/Environment", "closeScope", "()V"⟩ : MethodName) (head1 (Jvm.Cond.code (⟨"com/example/greenwood/greenwood/Environment", "closeScope", "()V"⟩ : MethodName) prog_1_method_8_code 2 none :: ws) ({ frames := 2, cells := 0, slots := 0, locals := 30 } : Room)) (fun a U => a = #[(.ref a1)] ∧ Z.Warmed39 U.vm ∧ U.heap = h0) (fun _ _ _ _ _ => True) (fun _ U o U' => ∃ v L, o = .returned v ∧ Qrm11_1_1 Z a1 rl rs kl ks h0 n0 v U'.heap L ∧ FrameEnd U o U' L ({ frames := 2, cells := 0, slots := 0, locals := 30 } : Room).cells ({ frames := 2, cells := 0, slots := 0, locals := 30 } : Room).slots) := by
  refine MetFree.of_bodySF (plainFor_of_name pn_11) hisR ?_
  intro p e s m args below meth c s₁ Bd hml0 hP0 hK
  obtain ⟨rfl, hZ, hh⟩ := hP0
  have hx := Bd.exec
  have hby := Bd.bytes
  have hml : c.maxLocals = 2 := hml0
  have hown : s.vm.findClass "com/example/greenwood/greenwood/Environment" = some m.cls := findClass_of_methodNamed Bd.named
  have hnm := (name_of_methodNamed Bd.named Bd.method).1
  have X0 : Stand p l e ({ frames := 2, cells := 0, slots := 0, locals := 30 } : Room) s m #[(.ref a1)] below meth c s₁ [] 0 0 := Stand.of_body Bd
  have e0 : s₁.heap = h0 := by rw [← hh, Bd.state]; rfl
  have N0 := Fr.nil n0
  suffices own_H : ∀ (P : State → Outcome → Prop), (∀ U o, U.status = .running → Ended U below o → (∃ v L, o = .returned v ∧ Qrm11_1_1 Z a1 rl rs kl ks h0 n0 v U.heap L ∧ FrameEnd s o U L ({ frames := 2, cells := 0, slots := 0, locals := 30 } : Room).cells ({ frames := 2, cells := 0, slots := 0, locals := 30 } : Room).slots) → P U o) → own_Go p.tables e below P (s₁.setTop (mkF m 0 #[.val (.ref a1), .unset] [])) from own_go (fun _ k => castTop (ef_rm11_1_1 m a1) k) (own_H _ (fun U o h1 h2 h3 => ⟨h1, h2, h3⟩))
  intro P hP
  have lt_a1 : @LT.lt Nat _ a1 h0.size := pr1.lt
  have lt_rl : @LT.lt Nat _ rl h0.size := pr6.lt
  have lt_rs : @LT.lt Nat _ rs h0.size := pr7.lt
  refine own_go (st' := s₁.setTop (mkF m 1 #[.val (.ref a1), .unset] [(.ref a1)])) (fun _ k => XS.aloadN X0.here hx rfl (hb hby d11_0) rfl rfl k) ?_
  refine own_go (st' := s₁.setTop (mkF m 2 #[.val (.ref a1), .unset] [(.ref a1), (.ref a1)])) (fun _ k => XS.dup X0.here hx rfl (hb hby d11_1) rfl rfl k) ?_
  obtain ⟨T1, X1, e1, st1⟩ := getF X0 hx hZ hown (host := "") (Or.inl (hw _ (List.mem_of_getElem? (i := 40) rfl))) Via.refl e0 pr2 (g := (mkF m 2 #[.val (.ref a1), .unset] [(.ref a1), (.ref a1)])) rfl rfl (hb hby d11_2)
  refine own_go (st' := T1.setTop (mkF m 5 #[.val (.ref a1), .unset] [(.int (1 : Int32)), (.ref a1)])) (st1) ?_
  refine own_go (st' := T1.setTop (mkF m 6 #[.val (.ref a1), .unset] [(.int (1 : Int32)), (.int (1 : Int32)), (.ref a1)])) (fun _ k => XS.iconst X1.here hx rfl (hb hby d11_5) k) ?_
  refine own_go (st' := T1.setTop (mkF m 7 #[.val (.ref a1), .unset] [(.int (0 : Int32)), (.ref a1)])) (fun _ k => XS.isub X1.here hx rfl (hb hby d11_6) rfl (by rw [show ((1 : Int32) - (1 : Int32)) = (0 : Int32) by decide]; exact k)) ?_
  obtain ⟨T2, h2, X2, e2, W2, st2⟩ := putF X1 hx hZ hown (host := "") (Or.inl (hw _ (List.mem_of_getElem? (i := 40) rfl))) Via.refl e1 pr2 pr1 (Or.inl (hw _ (List.mem_of_getElem? (i := 41) rfl))) (hw _ (List.mem_of_getElem? (i := 2) rfl)) (ty := .int) (by decide) rfl rfl (g := (mkF m 7 #[.val (.ref a1), .unset] [(.int (0 : Int32)), (.ref a1)])) rfl rfl (hb hby d11_7)
  have sz2 : h2.size = h0.size := W2.size
  have N2 := Fr.snoc X2 N0 (by omega)
  have f2 : Fld Z h2 a1 "com/example/greenwood/greenwood/Environment" "openScopes" "I" (.int (0 : Int32)) := pr2.same W2
  refine own_go (st' := T2.setTop (mkF m 10 #[.val (.ref a1), .unset] [])) (st2) ?_
  refine own_go (st' := T2.setTop (mkF m 11 #[.val (.ref a1), .unset] [(.ref a1)])) (fun _ k => XS.aloadN X2.here hx rfl (hb hby d11_10) rfl rfl k) ?_
  have c3 : Fld Z h2 a1 "com/example/greenwood/greenwood/Environment" "scopeStarts" "[I" (.ref rs) := (pr5.other W2 (Or.inr (slot_ne (Or.inl (hw _ (List.mem_of_getElem? (i := 34) rfl))) (Or.inl (hw _ (List.mem_of_getElem? (i := 41) rfl))) (by decide) (t := (.array .int)) (t' := .int) (by decide) (by decide))))
  obtain ⟨T4, X4, e4, st4⟩ := getF X2 hx hZ hown (host := "") (Or.inl (hw _ (List.mem_of_getElem? (i := 33) rfl))) Via.refl e2 c3 (g := (mkF m 11 #[.val (.ref a1), .unset] [(.ref a1)])) rfl rfl (hb hby d11_11)
  refine own_go (st' := T4.setTop (mkF m 14 #[.val (.ref a1), .unset] [(.ref rs)])) (st4) ?_
  refine own_go (st' := T4.setTop (mkF m 15 #[.val (.ref a1), .unset] [(.ref a1), (.ref rs)])) (fun _ k => XS.aloadN X4.here hx rfl (hb hby d11_14) rfl rfl k) ?_
  obtain ⟨T5, X5, e5, st5⟩ := getF X4 hx hZ hown (host := "") (Or.inl (hw _ (List.mem_of_getElem? (i := 40) rfl))) Via.refl e4 f2 (g := (mkF m 15 #[.val (.ref a1), .unset] [(.ref a1), (.ref rs)])) rfl rfl (hb hby d11_15)
  refine own_go (st' := T5.setTop (mkF m 18 #[.val (.ref a1), .unset] [(.int (0 : Int32)), (.ref rs)])) (st5) ?_
  have c6 : Arv Z h2 rs ks .int (16 : Int32) [(.int (0 : Int32)), (.int (0 : Int32)), (.int (0 : Int32)), (.int (0 : Int32)), (.int (0 : Int32)), (.int (0 : Int32)), (.int (0 : Int32)), (.int (0 : Int32)), (.int (0 : Int32)), (.int (0 : Int32)), (.int (0 : Int32)), (.int (0 : Int32)), (.int (0 : Int32)), (.int (0 : Int32)), (.int (0 : Int32)), (.int (0 : Int32))] (.int (0 : Int32)) := (pr7.other W2 (by first | assumption | exact Ne.symm (by assumption) | (apply Nat.ne_of_lt; omega) | (apply Nat.ne_of_gt; omega)))
  obtain ⟨cl7, Ar7, -, S7, M7, H7, -⟩ := id c6
  have hin7 : ¬ ((0 : Int32) < 0 ∨ cl7.slots.size ≤ ((0 : Int32)).toNatClampNeg) := (inb_of S7 ⟨by decide, by decide⟩)
  have hat7 : cl7.slots[((0 : Int32)).toNatClampNeg]? = some (.int (0 : Int32)) := (H7.at hin7 rfl)
  refine own_go (st' := T5.setTop (mkF m 19 #[.val (.ref a1), .unset] [(.int (0 : Int32))])) (X5.iaload hx (j := (0 : Int32)) (v := (.int (0 : Int32))) (by rw [e5]; exact Ar7.1) (State.isArrayOf_alike hZ.alike Ar7.2.1) Ar7.2.2 hin7 hat7 (g := (mkF m 18 #[.val (.ref a1), .unset] [(.int (0 : Int32)), (.ref rs)])) rfl rfl (hb hby d11_18)) ?_
  refine own_go (st' := T5.setTop (mkF m 20 #[.val (.ref a1), .val (.int (0 : Int32))] [])) (fun _ k => XS.istoreN X5.here hx rfl (hb hby d11_19) rfl (l' := #[.val (.ref a1), .val (.int (0 : Int32))]) rfl k) ?_
  refine own_go (st' := T5.setTop (mkF m 21 #[.val (.ref a1), .val (.int (0 : Int32))] [(.ref a1)])) (fun _ k => XS.aloadN X5.here hx rfl (hb hby d11_20) rfl rfl k) ?_
  have c8 : Fld Z h2 a1 "com/example/greenwood/greenwood/Environment" "locals" "[Ljava/lang/Object;" (.ref rl) := (pr4.other W2 (Or.inr (slot_ne (Or.inl (hw _ (List.mem_of_getElem? (i := 31) rfl))) (Or.inl (hw _ (List.mem_of_getElem? (i := 41) rfl))) (by decide) (t := (.array (.object "java/lang/Object"))) (t' := .int) (by decide) (by decide))))
  obtain ⟨T9, X9, e9, st9⟩ := getF X5 hx hZ hown (host := "") (Or.inl (hw _ (List.mem_of_getElem? (i := 30) rfl))) Via.refl e5 c8 (g := (mkF m 21 #[.val (.ref a1), .val (.int (0 : Int32))] [(.ref a1)])) rfl rfl (hb hby d11_21)
  refine own_go (st' := T9.setTop (mkF m 24 #[.val (.ref a1), .val (.int (0 : Int32))] [(.ref rl)])) (st9) ?_
  refine own_go (st' := T9.setTop (mkF m 25 #[.val (.ref a1), .val (.int (0 : Int32))] [(.int (0 : Int32)), (.ref rl)])) (fun _ k => XS.iloadN X9.here hx rfl (hb hby d11_24) rfl k) ?_
  refine own_go (st' := T9.setTop (mkF m 26 #[.val (.ref a1), .val (.int (0 : Int32))] [(.ref a1), (.int (0 : Int32)), (.ref rl)])) (fun _ k => XS.aloadN X9.here hx rfl (hb hby d11_25) rfl rfl k) ?_
  have c10 : Fld Z h2 a1 "com/example/greenwood/greenwood/Environment" "localCount" "I" (.int (1 : Int32)) := (pr3.other W2 (Or.inr (slot_ne (Or.inl (hw _ (List.mem_of_getElem? (i := 48) rfl))) (Or.inl (hw _ (List.mem_of_getElem? (i := 41) rfl))) (by decide) (t := .int) (t' := .int) (by decide) (by decide))))
  obtain ⟨T11, X11, e11, st11⟩ := getF X9 hx hZ hown (host := "") (Or.inl (hw _ (List.mem_of_getElem? (i := 47) rfl))) Via.refl e9 c10 (g := (mkF m 26 #[.val (.ref a1), .val (.int (0 : Int32))] [(.ref a1), (.int (0 : Int32)), (.ref rl)])) rfl rfl (hb hby d11_26)
  refine own_go (st' := T11.setTop (mkF m 29 #[.val (.ref a1), .val (.int (0 : Int32))] [(.int (1 : Int32)), (.int (0 : Int32)), (.ref rl)])) (st11) ?_
  refine own_go (st' := T11.setTop (mkF m 30 #[.val (.ref a1), .val (.int (0 : Int32))] [.null, (.int (1 : Int32)), (.int (0 : Int32)), (.ref rl)])) (fun _ k => XS.aconstNull X11.here hx rfl (hb hby d11_29) k) ?_
  have c13 : Arv Z h2 rl kl (.object "java/lang/Object") (16 : Int32) [.null, .null, .null, .null, .null, .null, .null, .null, .null, .null, .null, .null, .null, .null, .null, .null] .null := (pr6.other W2 (by first | assumption | exact Ne.symm (by assumption) | (apply Nat.ne_of_lt; omega) | (apply Nat.ne_of_gt; omega)))
  obtain ⟨_, _, ⟨T12, LC12, kC12, nC12⟩, -, X12, ⟨Lc12, hQ12, lq12, yq12, zq12⟩, st12⟩ := Jvm.LawKit.callS X11 hx (y := (⟨"java/util/Arrays", "fill", "([Ljava/lang/Object;IILjava/lang/Object;)V"⟩ : MethodName)) hown (mvT hZ (hw _ (List.mem_of_getElem? (i := 49) rfl))) (mvT hZ (hw _ (List.mem_of_getElem? (i := 50) rfl))) (mvT hZ (hw _ (List.mem_of_getElem? (i := 51) rfl))) (mvT hZ (hw _ (List.mem_of_getElem? (i := 52) rfl))) (by decide) (backOf (W := 0) (rm7_1 l Z a0 hw [] rl kl h2 n0 (by omega) c13 (by omega)) hZ (hw _ (List.mem_of_getElem? (i := 52) rfl)) (hw _ (List.mem_of_getElem? (i := 51) rfl)) (by decide) (by decide)) (g := (mkF m 30 #[.val (.ref a1), .val (.int (0 : Int32))] [.null, (.int (1 : Int32)), (.int (0 : Int32)), (.ref rl)])) rfl (by rw [hml]; rfl) (argsL := [(.ref rl), (.int (0 : Int32)), (.int (1 : Int32)), .null]) (rest := []) (lenOf pd_2 rfl) rfl (by show 2 * 0 + _ ≤ _; exact Nat.le_of_eq rfl) (hb hby d11_30) (fun _ _ => ⟨rfl, e11, (by decide : 0 + 0 ≤ _), (by decide : 0 + 0 ≤ _)⟩)
  dsimp only [Pt.U, Pt.locs, Pt.cells, Pt.slots] at X12 lq12 yq12 zq12 st12 hQ12
  subst lq12 yq12 zq12
  obtain ⟨h12, e12⟩ : ∃ z, T12.heap = z := ⟨_, rfl⟩
  rw [e12] at hQ12
  obtain ⟨rfl, Nq12, K12, g12_0⟩ := hQ12
  have sz12 : h2.size ≤ h12.size := K12.1
  have N12 := Fr.app N2 Nq12
  have lt12_1 : @LT.lt Nat _ rl h12.size := g12_0.lt
  refine own_go (st' := T12.setTop (mkF m 33 #[.val (.ref a1), .val (.int (0 : Int32))] [])) (fun t k => st12 t k) ?_
  refine own_go (st' := T12.setTop (mkF m 34 #[.val (.ref a1), .val (.int (0 : Int32))] [(.ref a1)])) (fun _ k => XS.aloadN X12.here hx rfl (hb hby d11_33) rfl rfl k) ?_
  refine own_go (st' := T12.setTop (mkF m 35 #[.val (.ref a1), .val (.int (0 : Int32))] [(.int (0 : Int32)), (.ref a1)])) (fun _ k => XS.iloadN X12.here hx rfl (hb hby d11_34) rfl k) ?_
  have c14 : Fld Z h12 a1 "com/example/greenwood/greenwood/Environment" "localCount" "I" (.int (1 : Int32)) := (c10.keep K12 (ninS (by first | assumption | exact Ne.symm (by assumption) | (apply Nat.ne_of_lt; omega) | (apply Nat.ne_of_gt; omega)) nin0))
  have c15 : Exa Z h12 a1 "com/example/greenwood/greenwood/Environment" := ((pr1.wr W2).keep K12)
  obtain ⟨T16, h16, X16, e16, W16, st16⟩ := putF X12 hx hZ hown (host := "") (Or.inl (hw _ (List.mem_of_getElem? (i := 47) rfl))) Via.refl e12 c14 c15 (Or.inl (hw _ (List.mem_of_getElem? (i := 48) rfl))) (hw _ (List.mem_of_getElem? (i := 2) rfl)) (ty := .int) (by decide) rfl rfl (g := (mkF m 35 #[.val (.ref a1), .val (.int (0 : Int32))] [(.int (0 : Int32)), (.ref a1)])) rfl rfl (hb hby d11_35)
  have sz16 : h16.size = h12.size := W16.size
  have N16 := Fr.snoc X16 N12 (by omega)
  have f16 : Fld Z h16 a1 "com/example/greenwood/greenwood/Environment" "localCount" "I" (.int (0 : Int32)) := c14.same W16
  refine own_go (st' := T16.setTop (mkF m 38 #[.val (.ref a1), .val (.int (0 : Int32))] [])) (st16) ?_
  obtain ⟨fs, hr, hrun, hended, hW, hsame⟩ := X16.leave (v := none) (fun _ => rfl)
  refine ⟨_, _, ?_, hP _ _ hrun hended ⟨_, _, rfl, ?_, ⟨_, rfl⟩, hW, hsame.mono (by decide) (by decide)⟩⟩
  · exact X16.returnOut hx Bd.returns (hb hby d11_38) hr
  · show Qrm11_1_1 Z a1 rl rs kl ks h0 n0 _ T16.heap _
    have c18 : Exa Z h16 a1 "com/example/greenwood/greenwood/Environment" := (c15.wr W16)
    have c19 : Fld Z h16 a1 "com/example/greenwood/greenwood/Environment" "openScopes" "I" (.int (0 : Int32)) := ((f2.keep K12 (ninS (by first | assumption | exact Ne.symm (by assumption) | (apply Nat.ne_of_lt; omega) | (apply Nat.ne_of_gt; omega)) nin0)).other W16 (Or.inr (slot_ne (Or.inl (hw _ (List.mem_of_getElem? (i := 41) rfl))) (Or.inl (hw _ (List.mem_of_getElem? (i := 48) rfl))) (by decide) (t := .int) (t' := .int) (by decide) (by decide))))
    have c20 : Fld Z h16 a1 "com/example/greenwood/greenwood/Environment" "locals" "[Ljava/lang/Object;" (.ref rl) := ((c8.keep K12 (ninS (by first | assumption | exact Ne.symm (by assumption) | (apply Nat.ne_of_lt; omega) | (apply Nat.ne_of_gt; omega)) nin0)).other W16 (Or.inr (slot_ne (Or.inl (hw _ (List.mem_of_getElem? (i := 31) rfl))) (Or.inl (hw _ (List.mem_of_getElem? (i := 48) rfl))) (by decide) (t := (.array (.object "java/lang/Object"))) (t' := .int) (by decide) (by decide))))
    have c21 : Fld Z h16 a1 "com/example/greenwood/greenwood/Environment" "scopeStarts" "[I" (.ref rs) := ((c3.keep K12 (ninS (by first | assumption | exact Ne.symm (by assumption) | (apply Nat.ne_of_lt; omega) | (apply Nat.ne_of_gt; omega)) nin0)).other W16 (Or.inr (slot_ne (Or.inl (hw _ (List.mem_of_getElem? (i := 34) rfl))) (Or.inl (hw _ (List.mem_of_getElem? (i := 48) rfl))) (by decide) (t := (.array .int)) (t' := .int) (by decide) (by decide))))
    have c22 : Arv Z h16 rl kl (.object "java/lang/Object") (16 : Int32) [.null, .null, .null, .null, .null, .null, .null, .null, .null, .null, .null, .null, .null, .null, .null, .null] .null := (g12_0.other W16 (by first | assumption | exact Ne.symm (by assumption) | (apply Nat.ne_of_lt; omega) | (apply Nat.ne_of_gt; omega)))
    rw [e16]
    exact ⟨rfl, N16, ((((Keep.refl h0 [a1, rl]).wr W2 (Or.inl (List.mem_of_getElem? (i := 0) rfl))).trans K12 (allS (P := fun x => x ∈ [a1, rl] ∨ h0.size ≤ x) (Or.inl (List.mem_of_getElem? (i := 1) rfl)) all0)).wr W16 (Or.inl (List.mem_of_getElem? (i := 0) rfl))), c18, c19, f16, c20, c21, c22⟩
theorem ef_rm11_2_0 (m : MethodId) (x0 : Addr) : entryFrame m #[(.ref x0)] 2 = mkF m 0 #[.val (.ref x0), .unset] [] := by first | (simp [entryFrame, mkF, argsToLocals, Value.category]; done) | rfl
def Qrm11_2_0 (Z : State) (a1 : Addr) (rl : Addr) (rs : Addr) (kl : ClassId) (ks : ClassId) (h0 : Heap) (n0 : Nat) (v : Option Value) (h : Heap) (L : List Loc) : Prop := (v = none) ∧ (Fr n0 L) ∧ (Keep h0 h [a1, rl]) ∧ (Exa Z h a1 "com/example/greenwood/greenwood/Environment") ∧ (Fld Z h a1 "com/example/greenwood/greenwood/Environment" "openScopes" "I" (.int (1 : Int32))) ∧ (Fld Z h a1 "com/example/greenwood/greenwood/Environment" "localCount" "I" (.int (0 : Int32))) ∧ (Fld Z h a1 "com/example/greenwood/greenwood/Environment" "locals" "[Ljava/lang/Object;" (.ref rl)) ∧ (Fld Z h a1 "com/example/greenwood/greenwood/Environment" "scopeStarts" "[I" (.ref rs)) ∧ (Arv Z h rl kl (.object "java/lang/Object") (16 : Int32) [.null, .null, .null, .null, .null, .null, .null, .null, .null, .null, .null, .null, .null, .null, .null, .null] .null)
set_option maxRecDepth 65536 in
set_option maxHeartbeats 40000000 in
theorem rm11_2_0 (l : Launch) (Z : State) (a0 : Array Value) (hw : ∀ d ∈ tables_1, d.before a0 Z = true) (ws : List Jvm.Cond) (a1 : Addr) (rl : Addr) (rs : Addr) (kl : ClassId) (ks : ClassId) (h0 : Heap) (n0 : Nat) (Z0 : n0 ≤ h0.size) (pr1 : Exa Z h0 a1 "com/example/greenwood/greenwood/Environment") (pr2 : Fld Z h0 a1 "com/example/greenwood/greenwood/Environment" "openScopes" "I" (.int (2 : Int32))) (pr3 : Fld Z h0 a1 "com/example/greenwood/greenwood/Environment" "localCount" "I" (.int (0 : Int32))) (pr4 : Fld Z h0 a1 "com/example/greenwood/greenwood/Environment" "locals" "[Ljava/lang/Object;" (.ref rl)) (pr5 : Fld Z h0 a1 "com/example/greenwood/greenwood/Environment" "scopeStarts" "[I" (.ref rs)) (pr6 : Arv Z h0 rl kl (.object "java/lang/Object") (16 : Int32) [.null, .null, .null, .null, .null, .null, .null, .null, .null, .null, .null, .null, .null, .null, .null, .null] .null) (pr7 : Arv Z h0 rs ks .int (16 : Int32) [(.int (0 : Int32)), (.int (0 : Int32)), (.int (0 : Int32)), (.int (0 : Int32)), (.int (0 : Int32)), (.int (0 : Int32)), (.int (0 : Int32)), (.int (0 : Int32)), (.int (0 : Int32)), (.int (0 : Int32)), (.int (0 : Int32)), (.int (0 : Int32)), (.int (0 : Int32)), (.int (0 : Int32)), (.int (0 : Int32)), (.int (0 : Int32))] (.int (0 : Int32))) (pr8 : n0 ≤ a1) (pr9 : n0 ≤ rl) (pr10 : n0 ≤ rs) (pr11 : a1 ≠ rl) (pr12 : a1 ≠ rs) (pr13 : rl ≠ rs) :
    MetFree l (⟨"com/example/greenwood/greenwood/Environment", "closeScope", "()V"⟩ : MethodName) (head1 (Jvm.Cond.code (⟨"com/example/greenwood/greenwood/Environment", "closeScope", "()V"⟩ : MethodName) prog_1_method_8_code 2 none :: ws) ({ frames := 2, cells := 0, slots := 0, locals := 30 } : Room)) (fun a U => a = #[(.ref a1)] ∧ Z.Warmed39 U.vm ∧ U.heap = h0) (fun _ _ _ _ _ => True) (fun _ U o U' => ∃ v L, o = .returned v ∧ Qrm11_2_0 Z a1 rl rs kl ks h0 n0 v U'.heap L ∧ FrameEnd U o U' L ({ frames := 2, cells := 0, slots := 0, locals := 30 } : Room).cells ({ frames := 2, cells := 0, slots := 0, locals := 30 } : Room).slots) := by
  refine MetFree.of_bodySF (plainFor_of_name pn_11) hisR ?_
  intro p e s m args below meth c s₁ Bd hml0 hP0 hK
  obtain ⟨rfl, hZ, hh⟩ := hP0
  have hx := Bd.exec
  have hby := Bd.bytes
  have hml : c.maxLocals = 2 := hml0
  have hown : s.vm.findClass "com/example/greenwood/greenwood/Environment" = some m.cls := findClass_of_methodNamed Bd.named
  have hnm := (name_of_methodNamed Bd.named Bd.method).1
  have X0 : Stand p l e ({ frames := 2, cells := 0, slots := 0, locals := 30 } : Room) s m #[(.ref a1)] below meth c s₁ [] 0 0 := Stand.of_body Bd
  have e0 : s₁.heap = h0 := by rw [← hh, Bd.state]; rfl
  have N0 := Fr.nil n0
  suffices own_H : ∀ (P : State → Outcome → Prop), (∀ U o, U.status = .running → Ended U below o → (∃ v L, o = .returned v ∧ Qrm11_2_0 Z a1 rl rs kl ks h0 n0 v U.heap L ∧ FrameEnd s o U L ({ frames := 2, cells := 0, slots := 0, locals := 30 } : Room).cells ({ frames := 2, cells := 0, slots := 0, locals := 30 } : Room).slots) → P U o) → own_Go p.tables e below P (s₁.setTop (mkF m 0 #[.val (.ref a1), .unset] [])) from own_go (fun _ k => castTop (ef_rm11_2_0 m a1) k) (own_H _ (fun U o h1 h2 h3 => ⟨h1, h2, h3⟩))
  intro P hP
  have lt_a1 : @LT.lt Nat _ a1 h0.size := pr1.lt
  have lt_rl : @LT.lt Nat _ rl h0.size := pr6.lt
  have lt_rs : @LT.lt Nat _ rs h0.size := pr7.lt
  refine own_go (st' := s₁.setTop (mkF m 1 #[.val (.ref a1), .unset] [(.ref a1)])) (fun _ k => XS.aloadN X0.here hx rfl (hb hby d11_0) rfl rfl k) ?_
  refine own_go (st' := s₁.setTop (mkF m 2 #[.val (.ref a1), .unset] [(.ref a1), (.ref a1)])) (fun _ k => XS.dup X0.here hx rfl (hb hby d11_1) rfl rfl k) ?_
  obtain ⟨T1, X1, e1, st1⟩ := getF X0 hx hZ hown (host := "") (Or.inl (hw _ (List.mem_of_getElem? (i := 40) rfl))) Via.refl e0 pr2 (g := (mkF m 2 #[.val (.ref a1), .unset] [(.ref a1), (.ref a1)])) rfl rfl (hb hby d11_2)
  refine own_go (st' := T1.setTop (mkF m 5 #[.val (.ref a1), .unset] [(.int (2 : Int32)), (.ref a1)])) (st1) ?_
  refine own_go (st' := T1.setTop (mkF m 6 #[.val (.ref a1), .unset] [(.int (1 : Int32)), (.int (2 : Int32)), (.ref a1)])) (fun _ k => XS.iconst X1.here hx rfl (hb hby d11_5) k) ?_
  refine own_go (st' := T1.setTop (mkF m 7 #[.val (.ref a1), .unset] [(.int (1 : Int32)), (.ref a1)])) (fun _ k => XS.isub X1.here hx rfl (hb hby d11_6) rfl (by rw [show ((2 : Int32) - (1 : Int32)) = (1 : Int32) by decide]; exact k)) ?_
  obtain ⟨T2, h2, X2, e2, W2, st2⟩ := putF X1 hx hZ hown (host := "") (Or.inl (hw _ (List.mem_of_getElem? (i := 40) rfl))) Via.refl e1 pr2 pr1 (Or.inl (hw _ (List.mem_of_getElem? (i := 41) rfl))) (hw _ (List.mem_of_getElem? (i := 2) rfl)) (ty := .int) (by decide) rfl rfl (g := (mkF m 7 #[.val (.ref a1), .unset] [(.int (1 : Int32)), (.ref a1)])) rfl rfl (hb hby d11_7)
  have sz2 : h2.size = h0.size := W2.size
  have N2 := Fr.snoc X2 N0 (by omega)
  have f2 : Fld Z h2 a1 "com/example/greenwood/greenwood/Environment" "openScopes" "I" (.int (1 : Int32)) := pr2.same W2
  refine own_go (st' := T2.setTop (mkF m 10 #[.val (.ref a1), .unset] [])) (st2) ?_
  refine own_go (st' := T2.setTop (mkF m 11 #[.val (.ref a1), .unset] [(.ref a1)])) (fun _ k => XS.aloadN X2.here hx rfl (hb hby d11_10) rfl rfl k) ?_
  have c3 : Fld Z h2 a1 "com/example/greenwood/greenwood/Environment" "scopeStarts" "[I" (.ref rs) := (pr5.other W2 (Or.inr (slot_ne (Or.inl (hw _ (List.mem_of_getElem? (i := 34) rfl))) (Or.inl (hw _ (List.mem_of_getElem? (i := 41) rfl))) (by decide) (t := (.array .int)) (t' := .int) (by decide) (by decide))))
  obtain ⟨T4, X4, e4, st4⟩ := getF X2 hx hZ hown (host := "") (Or.inl (hw _ (List.mem_of_getElem? (i := 33) rfl))) Via.refl e2 c3 (g := (mkF m 11 #[.val (.ref a1), .unset] [(.ref a1)])) rfl rfl (hb hby d11_11)
  refine own_go (st' := T4.setTop (mkF m 14 #[.val (.ref a1), .unset] [(.ref rs)])) (st4) ?_
  refine own_go (st' := T4.setTop (mkF m 15 #[.val (.ref a1), .unset] [(.ref a1), (.ref rs)])) (fun _ k => XS.aloadN X4.here hx rfl (hb hby d11_14) rfl rfl k) ?_
  obtain ⟨T5, X5, e5, st5⟩ := getF X4 hx hZ hown (host := "") (Or.inl (hw _ (List.mem_of_getElem? (i := 40) rfl))) Via.refl e4 f2 (g := (mkF m 15 #[.val (.ref a1), .unset] [(.ref a1), (.ref rs)])) rfl rfl (hb hby d11_15)
  refine own_go (st' := T5.setTop (mkF m 18 #[.val (.ref a1), .unset] [(.int (1 : Int32)), (.ref rs)])) (st5) ?_
  have c6 : Arv Z h2 rs ks .int (16 : Int32) [(.int (0 : Int32)), (.int (0 : Int32)), (.int (0 : Int32)), (.int (0 : Int32)), (.int (0 : Int32)), (.int (0 : Int32)), (.int (0 : Int32)), (.int (0 : Int32)), (.int (0 : Int32)), (.int (0 : Int32)), (.int (0 : Int32)), (.int (0 : Int32)), (.int (0 : Int32)), (.int (0 : Int32)), (.int (0 : Int32)), (.int (0 : Int32))] (.int (0 : Int32)) := (pr7.other W2 (by first | assumption | exact Ne.symm (by assumption) | (apply Nat.ne_of_lt; omega) | (apply Nat.ne_of_gt; omega)))
  obtain ⟨cl7, Ar7, -, S7, M7, H7, -⟩ := id c6
  have hin7 : ¬ ((1 : Int32) < 0 ∨ cl7.slots.size ≤ ((1 : Int32)).toNatClampNeg) := (inb_of S7 ⟨by decide, by decide⟩)
  have hat7 : cl7.slots[((1 : Int32)).toNatClampNeg]? = some (.int (0 : Int32)) := (H7.at hin7 rfl)
  refine own_go (st' := T5.setTop (mkF m 19 #[.val (.ref a1), .unset] [(.int (0 : Int32))])) (X5.iaload hx (j := (1 : Int32)) (v := (.int (0 : Int32))) (by rw [e5]; exact Ar7.1) (State.isArrayOf_alike hZ.alike Ar7.2.1) Ar7.2.2 hin7 hat7 (g := (mkF m 18 #[.val (.ref a1), .unset] [(.int (1 : Int32)), (.ref rs)])) rfl rfl (hb hby d11_18)) ?_
  refine own_go (st' := T5.setTop (mkF m 20 #[.val (.ref a1), .val (.int (0 : Int32))] [])) (fun _ k => XS.istoreN X5.here hx rfl (hb hby d11_19) rfl (l' := #[.val (.ref a1), .val (.int (0 : Int32))]) rfl k) ?_
  refine own_go (st' := T5.setTop (mkF m 21 #[.val (.ref a1), .val (.int (0 : Int32))] [(.ref a1)])) (fun _ k => XS.aloadN X5.here hx rfl (hb hby d11_20) rfl rfl k) ?_
  have c8 : Fld Z h2 a1 "com/example/greenwood/greenwood/Environment" "locals" "[Ljava/lang/Object;" (.ref rl) := (pr4.other W2 (Or.inr (slot_ne (Or.inl (hw _ (List.mem_of_getElem? (i := 31) rfl))) (Or.inl (hw _ (List.mem_of_getElem? (i := 41) rfl))) (by decide) (t := (.array (.object "java/lang/Object"))) (t' := .int) (by decide) (by decide))))
  obtain ⟨T9, X9, e9, st9⟩ := getF X5 hx hZ hown (host := "") (Or.inl (hw _ (List.mem_of_getElem? (i := 30) rfl))) Via.refl e5 c8 (g := (mkF m 21 #[.val (.ref a1), .val (.int (0 : Int32))] [(.ref a1)])) rfl rfl (hb hby d11_21)
  refine own_go (st' := T9.setTop (mkF m 24 #[.val (.ref a1), .val (.int (0 : Int32))] [(.ref rl)])) (st9) ?_
  refine own_go (st' := T9.setTop (mkF m 25 #[.val (.ref a1), .val (.int (0 : Int32))] [(.int (0 : Int32)), (.ref rl)])) (fun _ k => XS.iloadN X9.here hx rfl (hb hby d11_24) rfl k) ?_
  refine own_go (st' := T9.setTop (mkF m 26 #[.val (.ref a1), .val (.int (0 : Int32))] [(.ref a1), (.int (0 : Int32)), (.ref rl)])) (fun _ k => XS.aloadN X9.here hx rfl (hb hby d11_25) rfl rfl k) ?_
  have c10 : Fld Z h2 a1 "com/example/greenwood/greenwood/Environment" "localCount" "I" (.int (0 : Int32)) := (pr3.other W2 (Or.inr (slot_ne (Or.inl (hw _ (List.mem_of_getElem? (i := 48) rfl))) (Or.inl (hw _ (List.mem_of_getElem? (i := 41) rfl))) (by decide) (t := .int) (t' := .int) (by decide) (by decide))))
  obtain ⟨T11, X11, e11, st11⟩ := getF X9 hx hZ hown (host := "") (Or.inl (hw _ (List.mem_of_getElem? (i := 47) rfl))) Via.refl e9 c10 (g := (mkF m 26 #[.val (.ref a1), .val (.int (0 : Int32))] [(.ref a1), (.int (0 : Int32)), (.ref rl)])) rfl rfl (hb hby d11_26)
  refine own_go (st' := T11.setTop (mkF m 29 #[.val (.ref a1), .val (.int (0 : Int32))] [(.int (0 : Int32)), (.int (0 : Int32)), (.ref rl)])) (st11) ?_
  refine own_go (st' := T11.setTop (mkF m 30 #[.val (.ref a1), .val (.int (0 : Int32))] [.null, (.int (0 : Int32)), (.int (0 : Int32)), (.ref rl)])) (fun _ k => XS.aconstNull X11.here hx rfl (hb hby d11_29) k) ?_
  have c13 : Arv Z h2 rl kl (.object "java/lang/Object") (16 : Int32) [.null, .null, .null, .null, .null, .null, .null, .null, .null, .null, .null, .null, .null, .null, .null, .null] .null := (pr6.other W2 (by first | assumption | exact Ne.symm (by assumption) | (apply Nat.ne_of_lt; omega) | (apply Nat.ne_of_gt; omega)))
  obtain ⟨_, _, ⟨T12, LC12, kC12, nC12⟩, -, X12, ⟨Lc12, hQ12, lq12, yq12, zq12⟩, st12⟩ := Jvm.LawKit.callS X11 hx (y := (⟨"java/util/Arrays", "fill", "([Ljava/lang/Object;IILjava/lang/Object;)V"⟩ : MethodName)) hown (mvT hZ (hw _ (List.mem_of_getElem? (i := 49) rfl))) (mvT hZ (hw _ (List.mem_of_getElem? (i := 50) rfl))) (mvT hZ (hw _ (List.mem_of_getElem? (i := 51) rfl))) (mvT hZ (hw _ (List.mem_of_getElem? (i := 52) rfl))) (by decide) (backOf (W := 0) (rm7_0 l Z a0 hw [] rl kl h2 n0 (by omega) c13 (by omega)) hZ (hw _ (List.mem_of_getElem? (i := 52) rfl)) (hw _ (List.mem_of_getElem? (i := 51) rfl)) (by decide) (by decide)) (g := (mkF m 30 #[.val (.ref a1), .val (.int (0 : Int32))] [.null, (.int (0 : Int32)), (.int (0 : Int32)), (.ref rl)])) rfl (by rw [hml]; rfl) (argsL := [(.ref rl), (.int (0 : Int32)), (.int (0 : Int32)), .null]) (rest := []) (lenOf pd_2 rfl) rfl (by show 2 * 0 + _ ≤ _; exact Nat.le_of_eq rfl) (hb hby d11_30) (fun _ _ => ⟨rfl, e11, (by decide : 0 + 0 ≤ _), (by decide : 0 + 0 ≤ _)⟩)
  dsimp only [Pt.U, Pt.locs, Pt.cells, Pt.slots] at X12 lq12 yq12 zq12 st12 hQ12
  subst lq12 yq12 zq12
  obtain ⟨h12, e12⟩ : ∃ z, T12.heap = z := ⟨_, rfl⟩
  rw [e12] at hQ12
  obtain ⟨rfl, Nq12, K12, g12_0⟩ := hQ12
  have sz12 : h2.size ≤ h12.size := K12.1
  have N12 := Fr.app N2 Nq12
  have lt12_1 : @LT.lt Nat _ rl h12.size := g12_0.lt
  refine own_go (st' := T12.setTop (mkF m 33 #[.val (.ref a1), .val (.int (0 : Int32))] [])) (fun t k => st12 t k) ?_
  refine own_go (st' := T12.setTop (mkF m 34 #[.val (.ref a1), .val (.int (0 : Int32))] [(.ref a1)])) (fun _ k => XS.aloadN X12.here hx rfl (hb hby d11_33) rfl rfl k) ?_
  refine own_go (st' := T12.setTop (mkF m 35 #[.val (.ref a1), .val (.int (0 : Int32))] [(.int (0 : Int32)), (.ref a1)])) (fun _ k => XS.iloadN X12.here hx rfl (hb hby d11_34) rfl k) ?_
  have c14 : Fld Z h12 a1 "com/example/greenwood/greenwood/Environment" "localCount" "I" (.int (0 : Int32)) := (c10.keep K12 (ninS (by first | assumption | exact Ne.symm (by assumption) | (apply Nat.ne_of_lt; omega) | (apply Nat.ne_of_gt; omega)) nin0))
  have c15 : Exa Z h12 a1 "com/example/greenwood/greenwood/Environment" := ((pr1.wr W2).keep K12)
  obtain ⟨T16, h16, X16, e16, W16, st16⟩ := putF X12 hx hZ hown (host := "") (Or.inl (hw _ (List.mem_of_getElem? (i := 47) rfl))) Via.refl e12 c14 c15 (Or.inl (hw _ (List.mem_of_getElem? (i := 48) rfl))) (hw _ (List.mem_of_getElem? (i := 2) rfl)) (ty := .int) (by decide) rfl rfl (g := (mkF m 35 #[.val (.ref a1), .val (.int (0 : Int32))] [(.int (0 : Int32)), (.ref a1)])) rfl rfl (hb hby d11_35)
  have sz16 : h16.size = h12.size := W16.size
  have N16 := Fr.snoc X16 N12 (by omega)
  have f16 : Fld Z h16 a1 "com/example/greenwood/greenwood/Environment" "localCount" "I" (.int (0 : Int32)) := c14.same W16
  refine own_go (st' := T16.setTop (mkF m 38 #[.val (.ref a1), .val (.int (0 : Int32))] [])) (st16) ?_
  obtain ⟨fs, hr, hrun, hended, hW, hsame⟩ := X16.leave (v := none) (fun _ => rfl)
  refine ⟨_, _, ?_, hP _ _ hrun hended ⟨_, _, rfl, ?_, ⟨_, rfl⟩, hW, hsame.mono (by decide) (by decide)⟩⟩
  · exact X16.returnOut hx Bd.returns (hb hby d11_38) hr
  · show Qrm11_2_0 Z a1 rl rs kl ks h0 n0 _ T16.heap _
    have c18 : Exa Z h16 a1 "com/example/greenwood/greenwood/Environment" := (c15.wr W16)
    have c19 : Fld Z h16 a1 "com/example/greenwood/greenwood/Environment" "openScopes" "I" (.int (1 : Int32)) := ((f2.keep K12 (ninS (by first | assumption | exact Ne.symm (by assumption) | (apply Nat.ne_of_lt; omega) | (apply Nat.ne_of_gt; omega)) nin0)).other W16 (Or.inr (slot_ne (Or.inl (hw _ (List.mem_of_getElem? (i := 41) rfl))) (Or.inl (hw _ (List.mem_of_getElem? (i := 48) rfl))) (by decide) (t := .int) (t' := .int) (by decide) (by decide))))
    have c20 : Fld Z h16 a1 "com/example/greenwood/greenwood/Environment" "locals" "[Ljava/lang/Object;" (.ref rl) := ((c8.keep K12 (ninS (by first | assumption | exact Ne.symm (by assumption) | (apply Nat.ne_of_lt; omega) | (apply Nat.ne_of_gt; omega)) nin0)).other W16 (Or.inr (slot_ne (Or.inl (hw _ (List.mem_of_getElem? (i := 31) rfl))) (Or.inl (hw _ (List.mem_of_getElem? (i := 48) rfl))) (by decide) (t := (.array (.object "java/lang/Object"))) (t' := .int) (by decide) (by decide))))
    have c21 : Fld Z h16 a1 "com/example/greenwood/greenwood/Environment" "scopeStarts" "[I" (.ref rs) := ((c3.keep K12 (ninS (by first | assumption | exact Ne.symm (by assumption) | (apply Nat.ne_of_lt; omega) | (apply Nat.ne_of_gt; omega)) nin0)).other W16 (Or.inr (slot_ne (Or.inl (hw _ (List.mem_of_getElem? (i := 34) rfl))) (Or.inl (hw _ (List.mem_of_getElem? (i := 48) rfl))) (by decide) (t := (.array .int)) (t' := .int) (by decide) (by decide))))
    have c22 : Arv Z h16 rl kl (.object "java/lang/Object") (16 : Int32) [.null, .null, .null, .null, .null, .null, .null, .null, .null, .null, .null, .null, .null, .null, .null, .null] .null := (g12_0.other W16 (by first | assumption | exact Ne.symm (by assumption) | (apply Nat.ne_of_lt; omega) | (apply Nat.ne_of_gt; omega)))
    rw [e16]
    exact ⟨rfl, N16, ((((Keep.refl h0 [a1, rl]).wr W2 (Or.inl (List.mem_of_getElem? (i := 0) rfl))).trans K12 (allS (P := fun x => x ∈ [a1, rl] ∨ h0.size ≤ x) (Or.inl (List.mem_of_getElem? (i := 1) rfl)) all0)).wr W16 (Or.inl (List.mem_of_getElem? (i := 0) rfl))), c18, c19, f16, c20, c21, c22⟩
theorem ef_rm11_2_1 (m : MethodId) (x0 : Addr) : entryFrame m #[(.ref x0)] 2 = mkF m 0 #[.val (.ref x0), .unset] [] := by first | (simp [entryFrame, mkF, argsToLocals, Value.category]; done) | rfl
def Qrm11_2_1 (Z : State) (a1 : Addr) (rl : Addr) (rs : Addr) (kl : ClassId) (ks : ClassId) (h0 : Heap) (n0 : Nat) (v : Option Value) (h : Heap) (L : List Loc) : Prop := (v = none) ∧ (Fr n0 L) ∧ (Keep h0 h [a1, rl]) ∧ (Exa Z h a1 "com/example/greenwood/greenwood/Environment") ∧ (Fld Z h a1 "com/example/greenwood/greenwood/Environment" "openScopes" "I" (.int (1 : Int32))) ∧ (Fld Z h a1 "com/example/greenwood/greenwood/Environment" "localCount" "I" (.int (0 : Int32))) ∧ (Fld Z h a1 "com/example/greenwood/greenwood/Environment" "locals" "[Ljava/lang/Object;" (.ref rl)) ∧ (Fld Z h a1 "com/example/greenwood/greenwood/Environment" "scopeStarts" "[I" (.ref rs)) ∧ (Arv Z h rl kl (.object "java/lang/Object") (16 : Int32) [.null, .null, .null, .null, .null, .null, .null, .null, .null, .null, .null, .null, .null, .null, .null, .null] .null)
set_option maxRecDepth 65536 in
set_option maxHeartbeats 40000000 in
theorem rm11_2_1 (l : Launch) (Z : State) (a0 : Array Value) (hw : ∀ d ∈ tables_1, d.before a0 Z = true) (ws : List Jvm.Cond) (a1 : Addr) (rl : Addr) (rs : Addr) (kl : ClassId) (ks : ClassId) (h0 : Heap) (n0 : Nat) (Z0 : n0 ≤ h0.size) (pr1 : Exa Z h0 a1 "com/example/greenwood/greenwood/Environment") (pr2 : Fld Z h0 a1 "com/example/greenwood/greenwood/Environment" "openScopes" "I" (.int (2 : Int32))) (pr3 : Fld Z h0 a1 "com/example/greenwood/greenwood/Environment" "localCount" "I" (.int (1 : Int32))) (pr4 : Fld Z h0 a1 "com/example/greenwood/greenwood/Environment" "locals" "[Ljava/lang/Object;" (.ref rl)) (pr5 : Fld Z h0 a1 "com/example/greenwood/greenwood/Environment" "scopeStarts" "[I" (.ref rs)) (pr6 : Arv Z h0 rl kl (.object "java/lang/Object") (16 : Int32) [.null, .null, .null, .null, .null, .null, .null, .null, .null, .null, .null, .null, .null, .null, .null, .null] .null) (pr7 : Arv Z h0 rs ks .int (16 : Int32) [(.int (0 : Int32)), (.int (0 : Int32)), (.int (0 : Int32)), (.int (0 : Int32)), (.int (0 : Int32)), (.int (0 : Int32)), (.int (0 : Int32)), (.int (0 : Int32)), (.int (0 : Int32)), (.int (0 : Int32)), (.int (0 : Int32)), (.int (0 : Int32)), (.int (0 : Int32)), (.int (0 : Int32)), (.int (0 : Int32)), (.int (0 : Int32))] (.int (0 : Int32))) (pr8 : n0 ≤ a1) (pr9 : n0 ≤ rl) (pr10 : n0 ≤ rs) (pr11 : a1 ≠ rl) (pr12 : a1 ≠ rs) (pr13 : rl ≠ rs) :
    MetFree l (⟨"com/example/greenwood/greenwood/Environment", "closeScope", "()V"⟩ : MethodName) (head1 (Jvm.Cond.code (⟨"com/example/greenwood/greenwood/Environment", "closeScope", "()V"⟩ : MethodName) prog_1_method_8_code 2 none :: ws) ({ frames := 2, cells := 0, slots := 0, locals := 30 } : Room)) (fun a U => a = #[(.ref a1)] ∧ Z.Warmed39 U.vm ∧ U.heap = h0) (fun _ _ _ _ _ => True) (fun _ U o U' => ∃ v L, o = .returned v ∧ Qrm11_2_1 Z a1 rl rs kl ks h0 n0 v U'.heap L ∧ FrameEnd U o U' L ({ frames := 2, cells := 0, slots := 0, locals := 30 } : Room).cells ({ frames := 2, cells := 0, slots := 0, locals := 30 } : Room).slots) := by
  refine MetFree.of_bodySF (plainFor_of_name pn_11) hisR ?_
  intro p e s m args below meth c s₁ Bd hml0 hP0 hK
  obtain ⟨rfl, hZ, hh⟩ := hP0
  have hx := Bd.exec
  have hby := Bd.bytes
  have hml : c.maxLocals = 2 := hml0
  have hown : s.vm.findClass "com/example/greenwood/greenwood/Environment" = some m.cls := findClass_of_methodNamed Bd.named
  have hnm := (name_of_methodNamed Bd.named Bd.method).1
  have X0 : Stand p l e ({ frames := 2, cells := 0, slots := 0, locals := 30 } : Room) s m #[(.ref a1)] below meth c s₁ [] 0 0 := Stand.of_body Bd
  have e0 : s₁.heap = h0 := by rw [← hh, Bd.state]; rfl
  have N0 := Fr.nil n0
  suffices own_H : ∀ (P : State → Outcome → Prop), (∀ U o, U.status = .running → Ended U below o → (∃ v L, o = .returned v ∧ Qrm11_2_1 Z a1 rl rs kl ks h0 n0 v U.heap L ∧ FrameEnd s o U L ({ frames := 2, cells := 0, slots := 0, locals := 30 } : Room).cells ({ frames := 2, cells := 0, slots := 0, locals := 30 } : Room).slots) → P U o) → own_Go p.tables e below P (s₁.setTop (mkF m 0 #[.val (.ref a1), .unset] [])) from own_go (fun _ k => castTop (ef_rm11_2_1 m a1) k) (own_H _ (fun U o h1 h2 h3 => ⟨h1, h2, h3⟩))
  intro P hP
  have lt_a1 : @LT.lt Nat _ a1 h0.size := pr1.lt
  have lt_rl : @LT.lt Nat _ rl h0.size := pr6.lt
  have lt_rs : @LT.lt Nat _ rs h0.size := pr7.lt
  refine own_go (st' := s₁.setTop (mkF m 1 #[.val (.ref a1), .unset] [(.ref a1)])) (fun _ k => XS.aloadN X0.here hx rfl (hb hby d11_0) rfl rfl k) ?_
  refine own_go (st' := s₁.setTop (mkF m 2 #[.val (.ref a1), .unset] [(.ref a1), (.ref a1)])) (fun _ k => XS.dup X0.here hx rfl (hb hby d11_1) rfl rfl k) ?_
  obtain ⟨T1, X1, e1, st1⟩ := getF X0 hx hZ hown (host := "") (Or.inl (hw _ (List.mem_of_getElem? (i := 40) rfl))) Via.refl e0 pr2 (g := (mkF m 2 #[.val (.ref a1), .unset] [(.ref a1), (.ref a1)])) rfl rfl (hb hby d11_2)
  refine own_go (st' := T1.setTop (mkF m 5 #[.val (.ref a1), .unset] [(.int (2 : Int32)), (.ref a1)])) (st1) ?_
  refine own_go (st' := T1.setTop (mkF m 6 #[.val (.ref a1), .unset] [(.int (1 : Int32)), (.int (2 : Int32)), (.ref a1)])) (fun _ k => XS.iconst X1.here hx rfl (hb hby d11_5) k) ?_
  refine own_go (st' := T1.setTop (mkF m 7 #[.val (.ref a1), .unset] [(.int (1 : Int32)), (.ref a1)])) (fun _ k => XS.isub X1.here hx rfl (hb hby d11_6) rfl (by rw [show ((2 : Int32) - (1 : Int32)) = (1 : Int32) by decide]; exact k)) ?_
  obtain ⟨T2, h2, X2, e2, W2, st2⟩ := putF X1 hx hZ hown (host := "") (Or.inl (hw _ (List.mem_of_getElem? (i := 40) rfl))) Via.refl e1 pr2 pr1 (Or.inl (hw _ (List.mem_of_getElem? (i := 41) rfl))) (hw _ (List.mem_of_getElem? (i := 2) rfl)) (ty := .int) (by decide) rfl rfl (g := (mkF m 7 #[.val (.ref a1), .unset] [(.int (1 : Int32)), (.ref a1)])) rfl rfl (hb hby d11_7)
  have sz2 : h2.size = h0.size := W2.size
  have N2 := Fr.snoc X2 N0 (by omega)
  have f2 : Fld Z h2 a1 "com/example/greenwood/greenwood/Environment" "openScopes" "I" (.int (1 : Int32)) := pr2.same W2
  refine own_go (st' := T2.setTop (mkF m 10 #[.val (.ref a1), .unset] [])) (st2) ?_
  refine own_go (st' := T2.setTop (mkF m 11 #[.val (.ref a1), .unset] [(.ref a1)])) (fun _ k => XS.aloadN X2.here hx rfl (hb hby d11_10) rfl rfl k) ?_
  have c3 : Fld Z h2 a1 "com/example/greenwood/greenwood/Environment" "scopeStarts" "[I" (.ref rs) := (pr5.other W2 (Or.inr (slot_ne (Or.inl (hw _ (List.mem_of_getElem? (i := 34) rfl))) (Or.inl (hw _ (List.mem_of_getElem? (i := 41) rfl))) (by decide) (t := (.array .int)) (t' := .int) (by decide) (by decide))))
  obtain ⟨T4, X4, e4, st4⟩ := getF X2 hx hZ hown (host := "") (Or.inl (hw _ (List.mem_of_getElem? (i := 33) rfl))) Via.refl e2 c3 (g := (mkF m 11 #[.val (.ref a1), .unset] [(.ref a1)])) rfl rfl (hb hby d11_11)
  refine own_go (st' := T4.setTop (mkF m 14 #[.val (.ref a1), .unset] [(.ref rs)])) (st4) ?_
  refine own_go (st' := T4.setTop (mkF m 15 #[.val (.ref a1), .unset] [(.ref a1), (.ref rs)])) (fun _ k => XS.aloadN X4.here hx rfl (hb hby d11_14) rfl rfl k) ?_
  obtain ⟨T5, X5, e5, st5⟩ := getF X4 hx hZ hown (host := "") (Or.inl (hw _ (List.mem_of_getElem? (i := 40) rfl))) Via.refl e4 f2 (g := (mkF m 15 #[.val (.ref a1), .unset] [(.ref a1), (.ref rs)])) rfl rfl (hb hby d11_15)
  refine own_go (st' := T5.setTop (mkF m 18 #[.val (.ref a1), .unset] [(.int (1 : Int32)), (.ref rs)])) (st5) ?_
  have c6 : Arv Z h2 rs ks .int (16 : Int32) [(.int (0 : Int32)), (.int (0 : Int32)), (.int (0 : Int32)), (.int (0 : Int32)), (.int (0 : Int32)), (.int (0 : Int32)), (.int (0 : Int32)), (.int (0 : Int32)), (.int (0 : Int32)), (.int (0 : Int32)), (.int (0 : Int32)), (.int (0 : Int32)), (.int (0 : Int32)), (.int (0 : Int32)), (.int (0 : Int32)), (.int (0 : Int32))] (.int (0 : Int32)) := (pr7.other W2 (by first | assumption | exact Ne.symm (by assumption) | (apply Nat.ne_of_lt; omega) | (apply Nat.ne_of_gt; omega)))
  obtain ⟨cl7, Ar7, -, S7, M7, H7, -⟩ := id c6
  have hin7 : ¬ ((1 : Int32) < 0 ∨ cl7.slots.size ≤ ((1 : Int32)).toNatClampNeg) := (inb_of S7 ⟨by decide, by decide⟩)
  have hat7 : cl7.slots[((1 : Int32)).toNatClampNeg]? = some (.int (0 : Int32)) := (H7.at hin7 rfl)
  refine own_go (st' := T5.setTop (mkF m 19 #[.val (.ref a1), .unset] [(.int (0 : Int32))])) (X5.iaload hx (j := (1 : Int32)) (v := (.int (0 : Int32))) (by rw [e5]; exact Ar7.1) (State.isArrayOf_alike hZ.alike Ar7.2.1) Ar7.2.2 hin7 hat7 (g := (mkF m 18 #[.val (.ref a1), .unset] [(.int (1 : Int32)), (.ref rs)])) rfl rfl (hb hby d11_18)) ?_
  refine own_go (st' := T5.setTop (mkF m 20 #[.val (.ref a1), .val (.int (0 : Int32))] [])) (fun _ k => XS.istoreN X5.here hx rfl (hb hby d11_19) rfl (l' := #[.val (.ref a1), .val (.int (0 : Int32))]) rfl k) ?_
  refine own_go (st' := T5.setTop (mkF m 21 #[.val (.ref a1), .val (.int (0 : Int32))] [(.ref a1)])) (fun _ k => XS.aloadN X5.here hx rfl (hb hby d11_20) rfl rfl k) ?_
  have c8 : Fld Z h2 a1 "com/example/greenwood/greenwood/Environment" "locals" "[Ljava/lang/Object;" (.ref rl) := (pr4.other W2 (Or.inr (slot_ne (Or.inl (hw _ (List.mem_of_getElem? (i := 31) rfl))) (Or.inl (hw _ (List.mem_of_getElem? (i := 41) rfl))) (by decide) (t := (.array (.object "java/lang/Object"))) (t' := .int) (by decide) (by decide))))
  obtain ⟨T9, X9, e9, st9⟩ := getF X5 hx hZ hown (host := "") (Or.inl (hw _ (List.mem_of_getElem? (i := 30) rfl))) Via.refl e5 c8 (g := (mkF m 21 #[.val (.ref a1), .val (.int (0 : Int32))] [(.ref a1)])) rfl rfl (hb hby d11_21)
  refine own_go (st' := T9.setTop (mkF m 24 #[.val (.ref a1), .val (.int (0 : Int32))] [(.ref rl)])) (st9) ?_
  refine own_go (st' := T9.setTop (mkF m 25 #[.val (.ref a1), .val (.int (0 : Int32))] [(.int (0 : Int32)), (.ref rl)])) (fun _ k => XS.iloadN X9.here hx rfl (hb hby d11_24) rfl k) ?_
  refine own_go (st' := T9.setTop (mkF m 26 #[.val (.ref a1), .val (.int (0 : Int32))] [(.ref a1), (.int (0 : Int32)), (.ref rl)])) (fun _ k => XS.aloadN X9.here hx rfl (hb hby d11_25) rfl rfl k) ?_
  have c10 : Fld Z h2 a1 "com/example/greenwood/greenwood/Environment" "localCount" "I" (.int (1 : Int32)) := (pr3.other W2 (Or.inr (slot_ne (Or.inl (hw _ (List.mem_of_getElem? (i := 48) rfl))) (Or.inl (hw _ (List.mem_of_getElem? (i := 41) rfl))) (by decide) (t := .int) (t' := .int) (by decide) (by decide))))
  obtain ⟨T11, X11, e11, st11⟩ := getF X9 hx hZ hown (host := "") (Or.inl (hw _ (List.mem_of_getElem? (i := 47) rfl))) Via.refl e9 c10 (g := (mkF m 26 #[.val (.ref a1), .val (.int (0 : Int32))] [(.ref a1), (.int (0 : Int32)), (.ref rl)])) rfl rfl (hb hby d11_26)
  refine own_go (st' := T11.setTop (mkF m 29 #[.val (.ref a1), .val (.int (0 : Int32))] [(.int (1 : Int32)), (.int (0 : Int32)), (.ref rl)])) (st11) ?_
  refine own_go (st' := T11.setTop (mkF m 30 #[.val (.ref a1), .val (.int (0 : Int32))] [.null, (.int (1 : Int32)), (.int (0 : Int32)), (.ref rl)])) (fun _ k => XS.aconstNull X11.here hx rfl (hb hby d11_29) k) ?_
  have c13 : Arv Z h2 rl kl (.object "java/lang/Object") (16 : Int32) [.null, .null, .null, .null, .null, .null, .null, .null, .null, .null, .null, .null, .null, .null, .null, .null] .null := (pr6.other W2 (by first | assumption | exact Ne.symm (by assumption) | (apply Nat.ne_of_lt; omega) | (apply Nat.ne_of_gt; omega)))
  obtain ⟨_, _, ⟨T12, LC12, kC12, nC12⟩, -, X12, ⟨Lc12, hQ12, lq12, yq12, zq12⟩, st12⟩ := Jvm.LawKit.callS X11 hx (y := (⟨"java/util/Arrays", "fill", "([Ljava/lang/Object;IILjava/lang/Object;)V"⟩ : MethodName)) hown (mvT hZ (hw _ (List.mem_of_getElem? (i := 49) rfl))) (mvT hZ (hw _ (List.mem_of_getElem? (i := 50) rfl))) (mvT hZ (hw _ (List.mem_of_getElem? (i := 51) rfl))) (mvT hZ (hw _ (List.mem_of_getElem? (i := 52) rfl))) (by decide) (backOf (W := 0) (rm7_1 l Z a0 hw [] rl kl h2 n0 (by omega) c13 (by omega)) hZ (hw _ (List.mem_of_getElem? (i := 52) rfl)) (hw _ (List.mem_of_getElem? (i := 51) rfl)) (by decide) (by decide)) (g := (mkF m 30 #[.val (.ref a1), .val (.int (0 : Int32))] [.null, (.int (1 : Int32)), (.int (0 : Int32)), (.ref rl)])) rfl (by rw [hml]; rfl) (argsL := [(.ref rl), (.int (0 : Int32)), (.int (1 : Int32)), .null]) (rest := []) (lenOf pd_2 rfl) rfl (by show 2 * 0 + _ ≤ _; exact Nat.le_of_eq rfl) (hb hby d11_30) (fun _ _ => ⟨rfl, e11, (by decide : 0 + 0 ≤ _), (by decide : 0 + 0 ≤ _)⟩)
  dsimp only [Pt.U, Pt.locs, Pt.cells, Pt.slots] at X12 lq12 yq12 zq12 st12 hQ12
  subst lq12 yq12 zq12
  obtain ⟨h12, e12⟩ : ∃ z, T12.heap = z := ⟨_, rfl⟩
  rw [e12] at hQ12
  obtain ⟨rfl, Nq12, K12, g12_0⟩ := hQ12
  have sz12 : h2.size ≤ h12.size := K12.1
  have N12 := Fr.app N2 Nq12
  have lt12_1 : @LT.lt Nat _ rl h12.size := g12_0.lt
  refine own_go (st' := T12.setTop (mkF m 33 #[.val (.ref a1), .val (.int (0 : Int32))] [])) (fun t k => st12 t k) ?_
  refine own_go (st' := T12.setTop (mkF m 34 #[.val (.ref a1), .val (.int (0 : Int32))] [(.ref a1)])) (fun _ k => XS.aloadN X12.here hx rfl (hb hby d11_33) rfl rfl k) ?_
  refine own_go (st' := T12.setTop (mkF m 35 #[.val (.ref a1), .val (.int (0 : Int32))] [(.int (0 : Int32)), (.ref a1)])) (fun _ k => XS.iloadN X12.here hx rfl (hb hby d11_34) rfl k) ?_
  have c14 : Fld Z h12 a1 "com/example/greenwood/greenwood/Environment" "localCount" "I" (.int (1 : Int32)) := (c10.keep K12 (ninS (by first | assumption | exact Ne.symm (by assumption) | (apply Nat.ne_of_lt; omega) | (apply Nat.ne_of_gt; omega)) nin0))
  have c15 : Exa Z h12 a1 "com/example/greenwood/greenwood/Environment" := ((pr1.wr W2).keep K12)
  obtain ⟨T16, h16, X16, e16, W16, st16⟩ := putF X12 hx hZ hown (host := "") (Or.inl (hw _ (List.mem_of_getElem? (i := 47) rfl))) Via.refl e12 c14 c15 (Or.inl (hw _ (List.mem_of_getElem? (i := 48) rfl))) (hw _ (List.mem_of_getElem? (i := 2) rfl)) (ty := .int) (by decide) rfl rfl (g := (mkF m 35 #[.val (.ref a1), .val (.int (0 : Int32))] [(.int (0 : Int32)), (.ref a1)])) rfl rfl (hb hby d11_35)
  have sz16 : h16.size = h12.size := W16.size
  have N16 := Fr.snoc X16 N12 (by omega)
  have f16 : Fld Z h16 a1 "com/example/greenwood/greenwood/Environment" "localCount" "I" (.int (0 : Int32)) := c14.same W16
  refine own_go (st' := T16.setTop (mkF m 38 #[.val (.ref a1), .val (.int (0 : Int32))] [])) (st16) ?_
  obtain ⟨fs, hr, hrun, hended, hW, hsame⟩ := X16.leave (v := none) (fun _ => rfl)
  refine ⟨_, _, ?_, hP _ _ hrun hended ⟨_, _, rfl, ?_, ⟨_, rfl⟩, hW, hsame.mono (by decide) (by decide)⟩⟩
  · exact X16.returnOut hx Bd.returns (hb hby d11_38) hr
  · show Qrm11_2_1 Z a1 rl rs kl ks h0 n0 _ T16.heap _
    have c18 : Exa Z h16 a1 "com/example/greenwood/greenwood/Environment" := (c15.wr W16)
    have c19 : Fld Z h16 a1 "com/example/greenwood/greenwood/Environment" "openScopes" "I" (.int (1 : Int32)) := ((f2.keep K12 (ninS (by first | assumption | exact Ne.symm (by assumption) | (apply Nat.ne_of_lt; omega) | (apply Nat.ne_of_gt; omega)) nin0)).other W16 (Or.inr (slot_ne (Or.inl (hw _ (List.mem_of_getElem? (i := 41) rfl))) (Or.inl (hw _ (List.mem_of_getElem? (i := 48) rfl))) (by decide) (t := .int) (t' := .int) (by decide) (by decide))))
    have c20 : Fld Z h16 a1 "com/example/greenwood/greenwood/Environment" "locals" "[Ljava/lang/Object;" (.ref rl) := ((c8.keep K12 (ninS (by first | assumption | exact Ne.symm (by assumption) | (apply Nat.ne_of_lt; omega) | (apply Nat.ne_of_gt; omega)) nin0)).other W16 (Or.inr (slot_ne (Or.inl (hw _ (List.mem_of_getElem? (i := 31) rfl))) (Or.inl (hw _ (List.mem_of_getElem? (i := 48) rfl))) (by decide) (t := (.array (.object "java/lang/Object"))) (t' := .int) (by decide) (by decide))))
    have c21 : Fld Z h16 a1 "com/example/greenwood/greenwood/Environment" "scopeStarts" "[I" (.ref rs) := ((c3.keep K12 (ninS (by first | assumption | exact Ne.symm (by assumption) | (apply Nat.ne_of_lt; omega) | (apply Nat.ne_of_gt; omega)) nin0)).other W16 (Or.inr (slot_ne (Or.inl (hw _ (List.mem_of_getElem? (i := 34) rfl))) (Or.inl (hw _ (List.mem_of_getElem? (i := 48) rfl))) (by decide) (t := (.array .int)) (t' := .int) (by decide) (by decide))))
    have c22 : Arv Z h16 rl kl (.object "java/lang/Object") (16 : Int32) [.null, .null, .null, .null, .null, .null, .null, .null, .null, .null, .null, .null, .null, .null, .null, .null] .null := (g12_0.other W16 (by first | assumption | exact Ne.symm (by assumption) | (apply Nat.ne_of_lt; omega) | (apply Nat.ne_of_gt; omega)))
    rw [e16]
    exact ⟨rfl, N16, ((((Keep.refl h0 [a1, rl]).wr W2 (Or.inl (List.mem_of_getElem? (i := 0) rfl))).trans K12 (allS (P := fun x => x ∈ [a1, rl] ∨ h0.size ≤ x) (Or.inl (List.mem_of_getElem? (i := 1) rfl)) all0)).wr W16 (Or.inl (List.mem_of_getElem? (i := 0) rfl))), c18, c19, f16, c20, c21, c22⟩
theorem pd_3 : parseMethodDescriptor "()Z" = some ⟨[], some .boolean⟩ := by decide +kernel
theorem pn_0 : plainName "com/example/greenwood/greenwood/EnvironmentInScopePinLaw" = true := by first | (simp [plainName, overriddenIn]; done) | decide +kernel
theorem ef_rm0 (m : MethodId) (x0 : Int32) (x1 : Int32) (x2 : Int32) : entryFrame m #[(.int x0), (.int x1), (.int x2)] maxLocals = mkF m 0 #[.val (.int x0), .val (.int x1), .val (.int x2), .unset, .unset, .unset, .unset] [] := by first | (simp [entryFrame, mkF, argsToLocals, Value.category, maxLocals]; done) | rfl
def Qrm0 (Z : State) (xa : Int32) (xb : Int32) (xc : Int32) (h0 : Heap) (n0 : Nat) (v : Option Value) (h : Heap) (L : List Loc) : Prop := v = some (.int 1) ∧ Fr n0 L ∧ True
set_option maxRecDepth 65536 in
set_option maxHeartbeats 40000000 in
theorem rm0 (l : Launch) (Z : State) (a0 : Array Value) (hw : ∀ d ∈ tables_1, d.before a0 Z = true) (ws : List Jvm.Cond) (xa : Int32) (xb : Int32) (xc : Int32) (h0 : Heap) (n0 : Nat) (Z0 : n0 ≤ h0.size)  :
    MetFree l x (head1 (Jvm.Cond.code x code maxLocals ret :: ws) room_1) (fun a U => a = #[(.int xa), (.int xb), (.int xc)] ∧ Z.Warmed39 U.vm ∧ U.heap = h0) (fun _ _ _ _ _ => True) (fun _ U o U' => ∃ v L, o = .returned v ∧ Qrm0 Z xa xb xc h0 n0 v U'.heap L ∧ FrameEnd U o U' L 16 192) := by
  refine MetFree.of_bodySF (plainFor_of_name pn_0) hisR ?_
  intro p e s m args below meth c s₁ Bd hml0 hP0 hK
  obtain ⟨rfl, hZ, hh⟩ := hP0
  have hx := Bd.exec
  have hby := Bd.bytes
  have hml : c.maxLocals = 7 := hml0
  have hown : s.vm.findClass "com/example/greenwood/greenwood/EnvironmentInScopePinLaw" = some m.cls := findClass_of_methodNamed Bd.named
  have hnm := (name_of_methodNamed Bd.named Bd.method).1
  have X0 : Stand p l e room_1 s m #[(.int xa), (.int xb), (.int xc)] below meth c s₁ [] 0 0 := Stand.of_body Bd
  have e0 : s₁.heap = h0 := by rw [← hh, Bd.state]; rfl
  have N0 := Fr.nil n0
  suffices own_H : ∀ (P : State → Outcome → Prop), (∀ U o, U.status = .running → Ended U below o → (∃ v L, o = .returned v ∧ Qrm0 Z xa xb xc h0 n0 v U.heap L ∧ FrameEnd s o U L 16 192) → P U o) → own_Go p.tables e below P (s₁.setTop (mkF m 0 #[.val (.int xa), .val (.int xb), .val (.int xc), .unset, .unset, .unset, .unset] [])) from own_go (fun _ k => castTop (ef_rm0 m xa xb xc) k) (own_H _ (fun U o h1 h2 h3 => ⟨h1, h2, h3⟩))
  intro P hP
  refine own_go (st' := s₁.setTop (mkF m 1 #[.val (.int xa), .val (.int xb), .val (.int xc), .unset, .unset, .unset, .unset] [(.int xa)])) (fun _ k => XS.iloadN X0.here hx rfl (hb hby at_0) rfl k) ?_
  refine own_go (st' := s₁.setTop (mkF m 3 #[.val (.int xa), .val (.int xb), .val (.int xc), .unset, .unset, .unset, .unset] [(.int (2147483647 : Int32)), (.int xa)])) (X0.ldcInt hx hown (mvT hZ (hw _ (List.mem_of_getElem? (i := 0) rfl))) (g := (mkF m 1 #[.val (.int xa), .val (.int xb), .val (.int xc), .unset, .unset, .unset, .unset] [(.int xa)])) rfl (hb hby at_1)) ?_
  refine own_go (st' := s₁.setTop (mkF m 4 #[.val (.int xa), .val (.int xb), .val (.int xc), .unset, .unset, .unset, .unset] [(.int (xa &&& (2147483647 : Int32)))])) (fun _ k => XS.iand X0.here hx rfl (hb hby at_3) rfl k) ?_
  refine own_go (st' := s₁.setTop (mkF m 5 #[.val (.int xa), .val (.int xb), .val (.int xc), .unset, .unset, .unset, .unset] [(.int (3 : Int32)), (.int (xa &&& (2147483647 : Int32)))])) (fun _ k => XS.iconst X0.here hx rfl (hb hby at_4) k) ?_
  refine own_go (st' := s₁.setTop (mkF m 6 #[.val (.int xa), .val (.int xb), .val (.int xc), .unset, .unset, .unset, .unset] [(.int ((xa &&& (2147483647 : Int32)) % (3 : Int32)))])) (fun _ k => iremM X0 hx rfl (hb hby at_5) rfl (by decide) k) ?_
  rcases own_mod3 (xa &&& (2147483647 : Int32)) with hm_6 | hm_6 | hm_6 | hm_6
  · --
    rw [hm_6]
    refine own_go (st' := s₁.setTop (mkF m 7 #[.val (.int xa), .val (.int xb), .val (.int xc), .val (.int (0 : Int32)), .unset, .unset, .unset] [])) (fun _ k => XS.istoreN X0.here hx rfl (hb hby at_6) rfl (l' := #[.val (.int xa), .val (.int xb), .val (.int xc), .val (.int (0 : Int32)), .unset, .unset, .unset]) rfl k) ?_
    refine own_go (st' := s₁.setTop (mkF m 8 #[.val (.int xa), .val (.int xb), .val (.int xc), .val (.int (0 : Int32)), .unset, .unset, .unset] [(.int xb)])) (fun _ k => XS.iloadN X0.here hx rfl (hb hby at_7) rfl k) ?_
    refine own_go (st' := s₁.setTop (mkF m 10 #[.val (.int xa), .val (.int xb), .val (.int xc), .val (.int (0 : Int32)), .unset, .unset, .unset] [(.int (2147483647 : Int32)), (.int xb)])) (X0.ldcInt hx hown (mvT hZ (hw _ (List.mem_of_getElem? (i := 0) rfl))) (g := (mkF m 8 #[.val (.int xa), .val (.int xb), .val (.int xc), .val (.int (0 : Int32)), .unset, .unset, .unset] [(.int xb)])) rfl (hb hby at_8)) ?_
    refine own_go (st' := s₁.setTop (mkF m 11 #[.val (.int xa), .val (.int xb), .val (.int xc), .val (.int (0 : Int32)), .unset, .unset, .unset] [(.int (xb &&& (2147483647 : Int32)))])) (fun _ k => XS.iand X0.here hx rfl (hb hby at_10) rfl k) ?_
    refine own_go (st' := s₁.setTop (mkF m 12 #[.val (.int xa), .val (.int xb), .val (.int xc), .val (.int (0 : Int32)), .unset, .unset, .unset] [(.int (3 : Int32)), (.int (xb &&& (2147483647 : Int32)))])) (fun _ k => XS.iconst X0.here hx rfl (hb hby at_11) k) ?_
    refine own_go (st' := s₁.setTop (mkF m 13 #[.val (.int xa), .val (.int xb), .val (.int xc), .val (.int (0 : Int32)), .unset, .unset, .unset] [(.int ((xb &&& (2147483647 : Int32)) % (3 : Int32)))])) (fun _ k => iremM X0 hx rfl (hb hby at_12) rfl (by decide) k) ?_
    rcases own_mod3 (xb &&& (2147483647 : Int32)) with hm_13 | hm_13 | hm_13 | hm_13
    · --
      rw [hm_13]
      refine own_go (st' := s₁.setTop (mkF m 15 #[.val (.int xa), .val (.int xb), .val (.int xc), .val (.int (0 : Int32)), .val (.int (0 : Int32)), .unset, .unset] [])) (fun _ k => XS.istore X0.here hx rfl (hb hby at_13) rfl (l' := #[.val (.int xa), .val (.int xb), .val (.int xc), .val (.int (0 : Int32)), .val (.int (0 : Int32)), .unset, .unset]) rfl k) ?_
      refine own_go (st' := s₁.setTop (mkF m 17 #[.val (.int xa), .val (.int xb), .val (.int xc), .val (.int (0 : Int32)), .val (.int (0 : Int32)), .unset, .unset] [(.int (0 : Int32))])) (fun _ k => XS.iload X0.here hx rfl (hb hby at_15) rfl k) ?_
      refine own_go (st' := s₁.setTop (mkF m 18 #[.val (.int xa), .val (.int xb), .val (.int xc), .val (.int (0 : Int32)), .val (.int (0 : Int32)), .unset, .unset] [(.int (0 : Int32)), (.int (0 : Int32))])) (fun _ k => XS.iloadN X0.here hx rfl (hb hby at_17) rfl k) ?_
      have hc1 : ¬ ((0 : Int32) < (0 : Int32)) := by decide
      refine own_go (st' := s₁.setTop (mkF m 24 #[.val (.int xa), .val (.int xb), .val (.int xc), .val (.int (0 : Int32)), .val (.int (0 : Int32)), .unset, .unset] [])) (fun _ k => XS.icmpYes X0.here hx rfl (pc0 := 18) (pc' := 24) rfl (hb hby at_18) rfl (flt hc1).2.2.2 (by decide) (by decide) k) ?_
      obtain ⟨T2, h2, X2, e2, E2, A2, D2, -, st2⟩ := newO X0 hx hZ hown (hw _ (List.mem_of_getElem? (i := 1) rfl)) (hw _ (List.mem_of_getElem? (i := 2) rfl)) (hw _ (List.mem_of_getElem? (i := 3) rfl)) e0 (g := (mkF m 24 #[.val (.int xa), .val (.int xb), .val (.int xc), .val (.int (0 : Int32)), .val (.int (0 : Int32)), .unset, .unset] [])) rfl (hb hby at_24) (by decide) (by decide)
      obtain ⟨b2, g2⟩ : ∃ z, z = h0.size := ⟨_, rfl⟩
      rw [← g2] at A2 D2 st2
      have sz2 : h0.size ≤ h2.size := E2.1
      have lt2 : @LT.lt Nat _ b2 h2.size := A2.lt
      have f3 : Fld Z h2 b2 "com/example/greenwood/greenwood/Environment" "globals" "Ljava/util/Map;" .null := D2 (Or.inr (hw _ (List.mem_of_getElem? (i := 27) rfl))) (ty := (.object "java/util/Map")) (by decide)
      have f4 : Fld Z h2 b2 "com/example/greenwood/greenwood/Environment" "locals" "[Ljava/lang/Object;" .null := D2 (Or.inl (hw _ (List.mem_of_getElem? (i := 31) rfl))) (ty := (.array (.object "java/lang/Object"))) (by decide)
      have f5 : Fld Z h2 b2 "com/example/greenwood/greenwood/Environment" "scopeStarts" "[I" .null := D2 (Or.inl (hw _ (List.mem_of_getElem? (i := 34) rfl))) (ty := (.array .int)) (by decide)
      have f6 : Fld Z h2 b2 "com/example/greenwood/greenwood/Environment" "openScopes" "I" (.int (0 : Int32)) := D2 (Or.inl (hw _ (List.mem_of_getElem? (i := 41) rfl))) (ty := .int) (by decide)
      have f7 : Fld Z h2 b2 "com/example/greenwood/greenwood/Environment" "localCount" "I" (.int (0 : Int32)) := D2 (Or.inl (hw _ (List.mem_of_getElem? (i := 48) rfl))) (ty := .int) (by decide)
      refine own_go (st' := T2.setTop (mkF m 27 #[.val (.int xa), .val (.int xb), .val (.int xc), .val (.int (0 : Int32)), .val (.int (0 : Int32)), .unset, .unset] [(.ref b2)])) (st2) ?_
      refine own_go (st' := T2.setTop (mkF m 28 #[.val (.int xa), .val (.int xb), .val (.int xc), .val (.int (0 : Int32)), .val (.int (0 : Int32)), .unset, .unset] [(.ref b2), (.ref b2)])) (fun _ k => XS.dup X2.here hx rfl (hb hby at_27) rfl rfl k) ?_
      obtain ⟨_, _, ⟨T8, LC8, kC8, nC8⟩, -, X8, ⟨Lc8, hQ8, lq8, yq8, zq8⟩, st8⟩ := X2.specialBack hx (y := (⟨"com/example/greenwood/greenwood/Environment", "<init>", "()V"⟩ : MethodName)) rfl hown (mvT hZ (hw _ (List.mem_of_getElem? (i := 4) rfl))) (mvT hZ (hw _ (List.mem_of_getElem? (i := 5) rfl))) (mvT hZ (hw _ (List.mem_of_getElem? (i := 6) rfl))) (by decide) (backOf (W := 1) (rm1 l Z a0 hw [] b2 h2 n0 (by omega) A2 f3 f4 f5 f6 f7 (by omega)) hZ (hw _ (List.mem_of_getElem? (i := 6) rfl)) (hw _ (List.mem_of_getElem? (i := 3) rfl)) (by decide) (by decide)) (g := (mkF m 28 #[.val (.int xa), .val (.int xb), .val (.int xc), .val (.int (0 : Int32)), .val (.int (0 : Int32)), .unset, .unset] [(.ref b2), (.ref b2)])) rfl (by rw [hml]; rfl) (Steps.refl _) (a := b2) (argsL := []) (rest := [(.ref b2)]) (lenOf pd_0 rfl) rfl (by show 2 * 0 + _ ≤ _; exact Nat.le_of_eq rfl) (hb hby at_28) (fun _ _ => ⟨rfl, e2, (by decide : 1 + 3 ≤ _), (by decide : 5 + 40 ≤ _)⟩)
      dsimp only [Pt.U, Pt.locs, Pt.cells, Pt.slots] at X8 lq8 yq8 zq8 st8 hQ8
      subst lq8 yq8 zq8
      obtain ⟨h8, e8⟩ : ∃ z, T8.heap = z := ⟨_, rfl⟩
      rw [e8] at hQ8
      obtain ⟨rl_8, rs_8, kl_8, ks_8, rfl, Nq8, K8, g8_0, g8_1, g8_2, g8_3, g8_4, g8_5, g8_6, g8_7, g8_8, g8_9, g8_10⟩ := hQ8
      have sz8 : h2.size ≤ h8.size := K8.1
      have N8 := Fr.app N0 Nq8
      have lt8_1 : @LT.lt Nat _ b2 h8.size := g8_0.lt
      have lt8_2 : @LT.lt Nat _ rl_8 h8.size := g8_5.lt
      have lt8_3 : @LT.lt Nat _ rs_8 h8.size := g8_6.lt
      refine own_go (st' := T8.setTop (mkF m 31 #[.val (.int xa), .val (.int xb), .val (.int xc), .val (.int (0 : Int32)), .val (.int (0 : Int32)), .unset, .unset] [(.ref b2)])) (fun _ k => st8.trans k) ?_
      refine own_go (st' := T8.setTop (mkF m 33 #[.val (.int xa), .val (.int xb), .val (.int xc), .val (.int (0 : Int32)), .val (.int (0 : Int32)), .val (.ref b2), .unset] [])) (fun _ k => XS.astore X8.here hx rfl (hb hby at_31) rfl rfl (l' := #[.val (.int xa), .val (.int xb), .val (.int xc), .val (.int (0 : Int32)), .val (.int (0 : Int32)), .val (.ref b2), .unset]) rfl k) ?_
      refine own_go (st' := T8.setTop (mkF m 34 #[.val (.int xa), .val (.int xb), .val (.int xc), .val (.int (0 : Int32)), .val (.int (0 : Int32)), .val (.ref b2), .unset] [(.int (0 : Int32))])) (fun _ k => XS.iloadN X8.here hx rfl (hb hby at_33) rfl k) ?_
      refine own_go (st' := T8.setTop (mkF m 35 #[.val (.int xa), .val (.int xb), .val (.int xc), .val (.int (0 : Int32)), .val (.int (0 : Int32)), .val (.ref b2), .unset] [(.int (1 : Int32)), (.int (0 : Int32))])) (fun _ k => XS.iconst X8.here hx rfl (hb hby at_34) k) ?_
      have hc9 : (0 : Int32) < (1 : Int32) := by decide
      refine own_go (st' := T8.setTop (mkF m 43 #[.val (.int xa), .val (.int xb), .val (.int xc), .val (.int (0 : Int32)), .val (.int (0 : Int32)), .val (.ref b2), .unset] [])) (fun _ k => XS.icmpYes X8.here hx rfl (pc0 := 35) (pc' := 43) rfl (hb hby at_35) rfl (tlt hc9).1 (by decide) (by decide) k) ?_
      refine own_go (st' := T8.setTop (mkF m 44 #[.val (.int xa), .val (.int xb), .val (.int xc), .val (.int (0 : Int32)), .val (.int (0 : Int32)), .val (.ref b2), .unset] [(.int (0 : Int32))])) (fun _ k => XS.iloadN X8.here hx rfl (hb hby at_43) rfl k) ?_
      refine own_go (st' := T8.setTop (mkF m 45 #[.val (.int xa), .val (.int xb), .val (.int xc), .val (.int (0 : Int32)), .val (.int (0 : Int32)), .val (.ref b2), .unset] [(.int (2 : Int32)), (.int (0 : Int32))])) (fun _ k => XS.iconst X8.here hx rfl (hb hby at_44) k) ?_
      have hc10 : (0 : Int32) < (2 : Int32) := by decide
      refine own_go (st' := T8.setTop (mkF m 53 #[.val (.int xa), .val (.int xb), .val (.int xc), .val (.int (0 : Int32)), .val (.int (0 : Int32)), .val (.ref b2), .unset] [])) (fun _ k => XS.icmpYes X8.here hx rfl (pc0 := 45) (pc' := 53) rfl (hb hby at_45) rfl (tlt hc10).1 (by decide) (by decide) k) ?_
      refine own_go (st' := T8.setTop (mkF m 54 #[.val (.int xa), .val (.int xb), .val (.int xc), .val (.int (0 : Int32)), .val (.int (0 : Int32)), .val (.ref b2), .unset] [(.int (0 : Int32))])) (fun _ k => XS.iloadN X8.here hx rfl (hb hby at_53) rfl k) ?_
      refine own_go (st' := T8.setTop (mkF m 55 #[.val (.int xa), .val (.int xb), .val (.int xc), .val (.int (0 : Int32)), .val (.int (0 : Int32)), .val (.ref b2), .unset] [(.int (1 : Int32)), (.int (0 : Int32))])) (fun _ k => XS.iconst X8.here hx rfl (hb hby at_54) k) ?_
      have hc11 : (0 : Int32) < (1 : Int32) := by decide
      refine own_go (st' := T8.setTop (mkF m 69 #[.val (.int xa), .val (.int xb), .val (.int xc), .val (.int (0 : Int32)), .val (.int (0 : Int32)), .val (.ref b2), .unset] [])) (fun _ k => XS.icmpYes X8.here hx rfl (pc0 := 55) (pc' := 69) rfl (hb hby at_55) rfl (tlt hc11).1 (by decide) (by decide) k) ?_
      refine own_go (st' := T8.setTop (mkF m 71 #[.val (.int xa), .val (.int xb), .val (.int xc), .val (.int (0 : Int32)), .val (.int (0 : Int32)), .val (.ref b2), .unset] [(.ref b2)])) (fun _ k => XS.aload X8.here hx rfl (hb hby at_69) rfl rfl k) ?_
      obtain ⟨cq12, kq12, q12a, q12b, q12c⟩ := isOf hZ e8 g8_0
      obtain ⟨_, _, ⟨T12, LC12, kC12, nC12⟩, -, X12, ⟨Lc12, hQ12, lq12, yq12, zq12⟩, st12⟩ := X8.virtualBack hx (y := (⟨"com/example/greenwood/greenwood/Environment", "inScope", "()Z"⟩ : MethodName)) (z := (⟨"com/example/greenwood/greenwood/Environment", "inScope", "()Z"⟩ : MethodName)) hown (mvT hZ (hw _ (List.mem_of_getElem? (i := 35) rfl))) (mvT hZ (hw _ (List.mem_of_getElem? (i := 36) rfl))) (notFace_of_selects (args := #[]) (mvT hZ (hw _ (List.mem_of_getElem? (i := 38) rfl)))) (mvT hZ (hw _ (List.mem_of_getElem? (i := 38) rfl))) (mvT hZ (hw _ (List.mem_of_getElem? (i := 37) rfl))) (by decide) (backOf (W := 0) (rm5_0 l Z a0 hw [] b2 h8 n0 (by omega) g8_1) hZ (hw _ (List.mem_of_getElem? (i := 39) rfl)) (hw _ (List.mem_of_getElem? (i := 3) rfl)) (by decide) (by decide)) q12a q12c (g := (mkF m 71 #[.val (.int xa), .val (.int xb), .val (.int xc), .val (.int (0 : Int32)), .val (.int (0 : Int32)), .val (.ref b2), .unset] [(.ref b2)])) rfl (by rw [hml]; rfl) (Steps.refl _) (argsL := []) (rest := []) (lenOf pd_3 rfl) rfl (by show 2 * 0 + _ ≤ _; exact Nat.le_of_eq rfl) (hb hby at_71) (fun _ _ => ⟨rfl, e8, (by decide : 4 + 0 ≤ _), (by decide : 45 + 0 ≤ _)⟩)
      dsimp only [Pt.U, Pt.locs, Pt.cells, Pt.slots] at X12 lq12 yq12 zq12 st12 hQ12
      subst lq12 yq12 zq12
      obtain ⟨rfl, Nq12, eq12⟩ := hQ12
      have N12 := Fr.app N8 Nq12
      refine own_go (st' := T12.setTop (mkF m 74 #[.val (.int xa), .val (.int xb), .val (.int xc), .val (.int (0 : Int32)), .val (.int (0 : Int32)), .val (.ref b2), .unset] [(.int (0 : Int32))])) (fun _ k => st12.trans k) ?_
      refine own_go (st' := T12.setTop (mkF m 75 #[.val (.int xa), .val (.int xb), .val (.int xc), .val (.int (0 : Int32)), .val (.int (0 : Int32)), .val (.ref b2), .unset] [(.int (0 : Int32)), (.int (0 : Int32))])) (fun _ k => XS.iloadN X12.here hx rfl (hb hby at_74) rfl k) ?_
      have hc13 : ¬ ((0 : Int32) < (0 : Int32)) := by decide
      refine own_go (st' := T12.setTop (mkF m 82 #[.val (.int xa), .val (.int xb), .val (.int xc), .val (.int (0 : Int32)), .val (.int (0 : Int32)), .val (.ref b2), .unset] [(.int (0 : Int32))])) (fun _ k => XS.ifYes X12.here hx rfl (pc0 := 75) (pc' := 82) rfl (hb hby at_75) rfl ((if0 _ _).trans (flt hc13).2.2.2) (by decide) (by decide) k) ?_
      refine own_go (st' := T12.setTop (mkF m 83 #[.val (.int xa), .val (.int xb), .val (.int xc), .val (.int (0 : Int32)), .val (.int (0 : Int32)), .val (.ref b2), .unset] [(.int (0 : Int32)), (.int (0 : Int32))])) (fun _ k => XS.iconst X12.here hx rfl (hb hby at_82) k) ?_
      have hc14 : (0 : Int32) = (0 : Int32) := by decide
      refine own_go (st' := T12.setTop (mkF m 86 #[.val (.int xa), .val (.int xb), .val (.int xc), .val (.int (0 : Int32)), .val (.int (0 : Int32)), .val (.ref b2), .unset] [])) (fun _ k => XS.icmpNo X12.here hx rfl (hb hby at_83) rfl (teq hc14).2 k) ?_
      refine own_go (st' := T12.setTop (mkF m 87 #[.val (.int xa), .val (.int xb), .val (.int xc), .val (.int (0 : Int32)), .val (.int (0 : Int32)), .val (.ref b2), .unset] [(.int (1 : Int32))])) (fun _ k => XS.iconst X12.here hx rfl (hb hby at_86) k) ?_
      refine own_go (st' := T12.setTop (mkF m 91 #[.val (.int xa), .val (.int xb), .val (.int xc), .val (.int (0 : Int32)), .val (.int (0 : Int32)), .val (.ref b2), .unset] [(.int (1 : Int32))])) (fun _ k => XS.goto X12.here hx rfl (pc0 := 87) (pc' := 91) rfl (hb hby at_87) (by decide) (by decide) k) ?_
      refine own_go (st' := T12.setTop (mkF m 93 #[.val (.int xa), .val (.int xb), .val (.int xc), .val (.int (0 : Int32)), .val (.int (0 : Int32)), .val (.ref b2), .val (.int (1 : Int32))] [])) (fun _ k => XS.istore X12.here hx rfl (hb hby at_91) rfl (l' := #[.val (.int xa), .val (.int xb), .val (.int xc), .val (.int (0 : Int32)), .val (.int (0 : Int32)), .val (.ref b2), .val (.int (1 : Int32))]) rfl k) ?_
      refine own_go (st' := T12.setTop (mkF m 95 #[.val (.int xa), .val (.int xb), .val (.int xc), .val (.int (0 : Int32)), .val (.int (0 : Int32)), .val (.ref b2), .val (.int (1 : Int32))] [(.int (0 : Int32))])) (fun _ k => XS.iload X12.here hx rfl (hb hby at_93) rfl k) ?_
      refine own_go (st' := T12.setTop (mkF m 96 #[.val (.int xa), .val (.int xb), .val (.int xc), .val (.int (0 : Int32)), .val (.int (0 : Int32)), .val (.ref b2), .val (.int (1 : Int32))] [(.int (1 : Int32)), (.int (0 : Int32))])) (fun _ k => XS.iconst X12.here hx rfl (hb hby at_95) k) ?_
      have hc15 : (0 : Int32) < (1 : Int32) := by decide
      refine own_go (st' := T12.setTop (mkF m 104 #[.val (.int xa), .val (.int xb), .val (.int xc), .val (.int (0 : Int32)), .val (.int (0 : Int32)), .val (.ref b2), .val (.int (1 : Int32))] [])) (fun _ k => XS.icmpYes X12.here hx rfl (pc0 := 96) (pc' := 104) rfl (hb hby at_96) rfl (tlt hc15).1 (by decide) (by decide) k) ?_
      refine own_go (st' := T12.setTop (mkF m 106 #[.val (.int xa), .val (.int xb), .val (.int xc), .val (.int (0 : Int32)), .val (.int (0 : Int32)), .val (.ref b2), .val (.int (1 : Int32))] [(.int (0 : Int32))])) (fun _ k => XS.iload X12.here hx rfl (hb hby at_104) rfl k) ?_
      refine own_go (st' := T12.setTop (mkF m 107 #[.val (.int xa), .val (.int xb), .val (.int xc), .val (.int (0 : Int32)), .val (.int (0 : Int32)), .val (.ref b2), .val (.int (1 : Int32))] [(.int (2 : Int32)), (.int (0 : Int32))])) (fun _ k => XS.iconst X12.here hx rfl (hb hby at_106) k) ?_
      have hc16 : (0 : Int32) < (2 : Int32) := by decide
      refine own_go (st' := T12.setTop (mkF m 115 #[.val (.int xa), .val (.int xb), .val (.int xc), .val (.int (0 : Int32)), .val (.int (0 : Int32)), .val (.ref b2), .val (.int (1 : Int32))] [])) (fun _ k => XS.icmpYes X12.here hx rfl (pc0 := 107) (pc' := 115) rfl (hb hby at_107) rfl (tlt hc16).1 (by decide) (by decide) k) ?_
      refine own_go (st' := T12.setTop (mkF m 117 #[.val (.int xa), .val (.int xb), .val (.int xc), .val (.int (0 : Int32)), .val (.int (0 : Int32)), .val (.ref b2), .val (.int (1 : Int32))] [(.int (1 : Int32))])) (fun _ k => XS.iload X12.here hx rfl (hb hby at_115) rfl k) ?_
      have hc17 : ¬ ((1 : Int32) = (0 : Int32)) := by decide
      refine own_go (st' := T12.setTop (mkF m 120 #[.val (.int xa), .val (.int xb), .val (.int xc), .val (.int (0 : Int32)), .val (.int (0 : Int32)), .val (.ref b2), .val (.int (1 : Int32))] [])) (fun _ k => XS.ifNo X12.here hx rfl (hb hby at_117) rfl ((if0 _ _).trans (feq hc17).1) k) ?_
      refine own_go (st' := T12.setTop (mkF m 122 #[.val (.int xa), .val (.int xb), .val (.int xc), .val (.int (0 : Int32)), .val (.int (0 : Int32)), .val (.ref b2), .val (.int (1 : Int32))] [(.ref b2)])) (fun _ k => XS.aload X12.here hx rfl (hb hby at_120) rfl rfl k) ?_
      obtain ⟨cq18, kq18, q18a, q18b, q18c⟩ := isOf hZ eq12 g8_0
      obtain ⟨_, _, ⟨T18, LC18, kC18, nC18⟩, -, X18, ⟨Lc18, hQ18, lq18, yq18, zq18⟩, st18⟩ := X12.virtualBack hx (y := (⟨"com/example/greenwood/greenwood/Environment", "inScope", "()Z"⟩ : MethodName)) (z := (⟨"com/example/greenwood/greenwood/Environment", "inScope", "()Z"⟩ : MethodName)) hown (mvT hZ (hw _ (List.mem_of_getElem? (i := 35) rfl))) (mvT hZ (hw _ (List.mem_of_getElem? (i := 36) rfl))) (notFace_of_selects (args := #[]) (mvT hZ (hw _ (List.mem_of_getElem? (i := 38) rfl)))) (mvT hZ (hw _ (List.mem_of_getElem? (i := 38) rfl))) (mvT hZ (hw _ (List.mem_of_getElem? (i := 37) rfl))) (by decide) (backOf (W := 0) (rm5_0 l Z a0 hw [] b2 h8 n0 (by omega) g8_1) hZ (hw _ (List.mem_of_getElem? (i := 39) rfl)) (hw _ (List.mem_of_getElem? (i := 3) rfl)) (by decide) (by decide)) q18a q18c (g := (mkF m 122 #[.val (.int xa), .val (.int xb), .val (.int xc), .val (.int (0 : Int32)), .val (.int (0 : Int32)), .val (.ref b2), .val (.int (1 : Int32))] [(.ref b2)])) rfl (by rw [hml]; rfl) (Steps.refl _) (argsL := []) (rest := []) (lenOf pd_3 rfl) rfl (by show 2 * 0 + _ ≤ _; exact Nat.le_of_eq rfl) (hb hby at_122) (fun _ _ => ⟨rfl, eq12, (by decide : 4 + 0 ≤ _), (by decide : 45 + 0 ≤ _)⟩)
      dsimp only [Pt.U, Pt.locs, Pt.cells, Pt.slots] at X18 lq18 yq18 zq18 st18 hQ18
      subst lq18 yq18 zq18
      obtain ⟨rfl, Nq18, eq18⟩ := hQ18
      have N18 := Fr.app N12 Nq18
      refine own_go (st' := T18.setTop (mkF m 125 #[.val (.int xa), .val (.int xb), .val (.int xc), .val (.int (0 : Int32)), .val (.int (0 : Int32)), .val (.ref b2), .val (.int (1 : Int32))] [(.int (0 : Int32))])) (fun _ k => st18.trans k) ?_
      refine own_go (st' := T18.setTop (mkF m 126 #[.val (.int xa), .val (.int xb), .val (.int xc), .val (.int (0 : Int32)), .val (.int (0 : Int32)), .val (.ref b2), .val (.int (1 : Int32))] [(.int (0 : Int32)), (.int (0 : Int32))])) (fun _ k => XS.iloadN X18.here hx rfl (hb hby at_125) rfl k) ?_
      refine own_go (st' := T18.setTop (mkF m 128 #[.val (.int xa), .val (.int xb), .val (.int xc), .val (.int (0 : Int32)), .val (.int (0 : Int32)), .val (.ref b2), .val (.int (1 : Int32))] [(.int (0 : Int32)), (.int (0 : Int32)), (.int (0 : Int32))])) (fun _ k => XS.iload X18.here hx rfl (hb hby at_126) rfl k) ?_
      refine own_go (st' := T18.setTop (mkF m 129 #[.val (.int xa), .val (.int xb), .val (.int xc), .val (.int (0 : Int32)), .val (.int (0 : Int32)), .val (.ref b2), .val (.int (1 : Int32))] [(.int (0 : Int32)), (.int (0 : Int32))])) (fun _ k => XS.isub X18.here hx rfl (hb hby at_128) rfl (by rw [show ((0 : Int32) - (0 : Int32)) = (0 : Int32) by decide]; exact k)) ?_
      have hc19 : ¬ ((0 : Int32) < (0 : Int32)) := by decide
      refine own_go (st' := T18.setTop (mkF m 136 #[.val (.int xa), .val (.int xb), .val (.int xc), .val (.int (0 : Int32)), .val (.int (0 : Int32)), .val (.ref b2), .val (.int (1 : Int32))] [(.int (0 : Int32))])) (fun _ k => XS.ifYes X18.here hx rfl (pc0 := 129) (pc' := 136) rfl (hb hby at_129) rfl ((if0 _ _).trans (flt hc19).2.2.2) (by decide) (by decide) k) ?_
      refine own_go (st' := T18.setTop (mkF m 137 #[.val (.int xa), .val (.int xb), .val (.int xc), .val (.int (0 : Int32)), .val (.int (0 : Int32)), .val (.ref b2), .val (.int (1 : Int32))] [(.int (0 : Int32)), (.int (0 : Int32))])) (fun _ k => XS.iconst X18.here hx rfl (hb hby at_136) k) ?_
      have hc20 : (0 : Int32) = (0 : Int32) := by decide
      refine own_go (st' := T18.setTop (mkF m 140 #[.val (.int xa), .val (.int xb), .val (.int xc), .val (.int (0 : Int32)), .val (.int (0 : Int32)), .val (.ref b2), .val (.int (1 : Int32))] [])) (fun _ k => XS.icmpNo X18.here hx rfl (hb hby at_137) rfl (teq hc20).2 k) ?_
      refine own_go (st' := T18.setTop (mkF m 141 #[.val (.int xa), .val (.int xb), .val (.int xc), .val (.int (0 : Int32)), .val (.int (0 : Int32)), .val (.ref b2), .val (.int (1 : Int32))] [(.int (1 : Int32))])) (fun _ k => XS.iconst X18.here hx rfl (hb hby at_140) k) ?_
      refine own_go (st' := T18.setTop (mkF m 145 #[.val (.int xa), .val (.int xb), .val (.int xc), .val (.int (0 : Int32)), .val (.int (0 : Int32)), .val (.ref b2), .val (.int (1 : Int32))] [(.int (1 : Int32))])) (fun _ k => XS.goto X18.here hx rfl (pc0 := 141) (pc' := 145) rfl (hb hby at_141) (by decide) (by decide) k) ?_
      refine own_go (st' := T18.setTop (mkF m 147 #[.val (.int xa), .val (.int xb), .val (.int xc), .val (.int (0 : Int32)), .val (.int (0 : Int32)), .val (.ref b2), .val (.int (1 : Int32))] [])) (fun _ k => XS.istore X18.here hx rfl (hb hby at_145) rfl (l' := #[.val (.int xa), .val (.int xb), .val (.int xc), .val (.int (0 : Int32)), .val (.int (0 : Int32)), .val (.ref b2), .val (.int (1 : Int32))]) rfl k) ?_
      refine own_go (st' := T18.setTop (mkF m 148 #[.val (.int xa), .val (.int xb), .val (.int xc), .val (.int (0 : Int32)), .val (.int (0 : Int32)), .val (.ref b2), .val (.int (1 : Int32))] [(.int xc)])) (fun _ k => XS.iloadN X18.here hx rfl (hb hby at_147) rfl k) ?_
      refine own_go (st' := T18.setTop (mkF m 149 #[.val (.int xa), .val (.int xb), .val (.int xc), .val (.int (0 : Int32)), .val (.int (0 : Int32)), .val (.ref b2), .val (.int (1 : Int32))] [(.int (2 : Int32)), (.int xc)])) (fun _ k => XS.iconst X18.here hx rfl (hb hby at_148) k) ?_
      refine own_go (st' := T18.setTop (mkF m 150 #[.val (.int xa), .val (.int xb), .val (.int xc), .val (.int (0 : Int32)), .val (.int (0 : Int32)), .val (.ref b2), .val (.int (1 : Int32))] [(.int (xc &&& (2 : Int32)))])) (fun _ k => XS.iand X18.here hx rfl (hb hby at_149) rfl k) ?_
      by_cases hc21 : (xc &&& (2 : Int32)) = (0 : Int32)
      · --
        refine own_go (st' := T18.setTop (mkF m 178 #[.val (.int xa), .val (.int xb), .val (.int xc), .val (.int (0 : Int32)), .val (.int (0 : Int32)), .val (.ref b2), .val (.int (1 : Int32))] [])) (fun _ k => XS.ifYes X18.here hx rfl (pc0 := 150) (pc' := 178) rfl (hb hby at_150) rfl ((if0 _ _).trans (teq hc21).1) (by decide) (by decide) k) ?_
        refine own_go (st' := T18.setTop (mkF m 180 #[.val (.int xa), .val (.int xb), .val (.int xc), .val (.int (0 : Int32)), .val (.int (0 : Int32)), .val (.ref b2), .val (.int (1 : Int32))] [(.int (1 : Int32))])) (fun _ k => XS.iload X18.here hx rfl (hb hby at_178) rfl k) ?_
        obtain ⟨fs, hr, hrun, hended, hW, hsame⟩ := X18.leave (v := some (.int (1 : Int32))) (fun h => by rw [Bd.returns] at h; cases h)
        refine ⟨_, _, ?_, hP _ _ hrun hended ⟨_, _, rfl, ?_, ⟨_, rfl⟩, hW, hsame.mono (by decide) (by decide)⟩⟩
        · exact retN X18 hx (t := .boolean) Bd.returns (by simp) (hb hby at_180) hr
        · show Qrm0 Z xa xb xc h0 n0 _ T18.heap _
          rw [eq18]
          exact ⟨rfl, N18, trivial⟩
      · --
        refine own_go (st' := T18.setTop (mkF m 153 #[.val (.int xa), .val (.int xb), .val (.int xc), .val (.int (0 : Int32)), .val (.int (0 : Int32)), .val (.ref b2), .val (.int (1 : Int32))] [])) (fun _ k => XS.ifNo X18.here hx rfl (hb hby at_150) rfl ((if0 _ _).trans (feq hc21).1) k) ?_
        refine own_go (st' := T18.setTop (mkF m 155 #[.val (.int xa), .val (.int xb), .val (.int xc), .val (.int (0 : Int32)), .val (.int (0 : Int32)), .val (.ref b2), .val (.int (1 : Int32))] [(.ref b2)])) (fun _ k => XS.aload X18.here hx rfl (hb hby at_153) rfl rfl k) ?_
        obtain ⟨cq23, kq23, q23a, q23b, q23c⟩ := isOf hZ eq18 g8_0
        obtain ⟨_, _, ⟨T23, LC23, kC23, nC23⟩, -, X23, ⟨Lc23, hQ23, lq23, yq23, zq23⟩, st23⟩ := X18.virtualBack hx (y := (⟨"com/example/greenwood/greenwood/Environment", "closeScopes", "()V"⟩ : MethodName)) (z := (⟨"com/example/greenwood/greenwood/Environment", "closeScopes", "()V"⟩ : MethodName)) hown (mvT hZ (hw _ (List.mem_of_getElem? (i := 42) rfl))) (mvT hZ (hw _ (List.mem_of_getElem? (i := 43) rfl))) (notFace_of_selects (args := #[]) (mvT hZ (hw _ (List.mem_of_getElem? (i := 45) rfl)))) (mvT hZ (hw _ (List.mem_of_getElem? (i := 45) rfl))) (mvT hZ (hw _ (List.mem_of_getElem? (i := 44) rfl))) (by decide) (backOf (W := 0) (rm6_0 l Z a0 hw [] b2 (0 : Int32) rl_8 rs_8 kl_8 ks_8 h8 n0 (by omega) g8_0 g8_1 g8_2 g8_3 g8_4 g8_5 g8_6 (by omega) (by omega) (by omega) (by first | assumption | exact Ne.symm (by assumption) | (apply Nat.ne_of_lt; omega) | (apply Nat.ne_of_gt; omega)) (by first | assumption | exact Ne.symm (by assumption) | (apply Nat.ne_of_lt; omega) | (apply Nat.ne_of_gt; omega)) (by first | assumption | exact Ne.symm (by assumption) | (apply Nat.ne_of_lt; omega) | (apply Nat.ne_of_gt; omega))) hZ (hw _ (List.mem_of_getElem? (i := 46) rfl)) (hw _ (List.mem_of_getElem? (i := 3) rfl)) (by decide) (by decide)) q23a q23c (g := (mkF m 155 #[.val (.int xa), .val (.int xb), .val (.int xc), .val (.int (0 : Int32)), .val (.int (0 : Int32)), .val (.ref b2), .val (.int (1 : Int32))] [(.ref b2)])) rfl (by rw [hml]; rfl) (Steps.refl _) (argsL := []) (rest := []) (lenOf pd_0 rfl) rfl (by show 2 * 0 + _ ≤ _; exact Nat.le_of_eq rfl) (hb hby at_155) (fun _ _ => ⟨rfl, eq18, (by decide : 4 + 0 ≤ _), (by decide : 45 + 0 ≤ _)⟩)
        dsimp only [Pt.U, Pt.locs, Pt.cells, Pt.slots] at X23 lq23 yq23 zq23 st23 hQ23
        subst lq23 yq23 zq23
        obtain ⟨h23, e23⟩ : ∃ z, T23.heap = z := ⟨_, rfl⟩
        rw [e23] at hQ23
        obtain ⟨rfl, Nq23, K23, g23_0, g23_1, g23_2, g23_3, g23_4, g23_5⟩ := hQ23
        have sz23 : h8.size ≤ h23.size := K23.1
        have N23 := Fr.app N18 Nq23
        have lt23_1 : @LT.lt Nat _ b2 h23.size := g23_0.lt
        have lt23_2 : @LT.lt Nat _ rl_8 h23.size := g23_5.lt
        refine own_go (st' := T23.setTop (mkF m 158 #[.val (.int xa), .val (.int xb), .val (.int xc), .val (.int (0 : Int32)), .val (.int (0 : Int32)), .val (.ref b2), .val (.int (1 : Int32))] [])) (fun _ k => st23.trans k) ?_
        refine own_go (st' := T23.setTop (mkF m 160 #[.val (.int xa), .val (.int xb), .val (.int xc), .val (.int (0 : Int32)), .val (.int (0 : Int32)), .val (.ref b2), .val (.int (1 : Int32))] [(.int (1 : Int32))])) (fun _ k => XS.iload X23.here hx rfl (hb hby at_158) rfl k) ?_
        have hc24 : ¬ ((1 : Int32) = (0 : Int32)) := by decide
        refine own_go (st' := T23.setTop (mkF m 163 #[.val (.int xa), .val (.int xb), .val (.int xc), .val (.int (0 : Int32)), .val (.int (0 : Int32)), .val (.ref b2), .val (.int (1 : Int32))] [])) (fun _ k => XS.ifNo X23.here hx rfl (hb hby at_160) rfl ((if0 _ _).trans (feq hc24).1) k) ?_
        refine own_go (st' := T23.setTop (mkF m 165 #[.val (.int xa), .val (.int xb), .val (.int xc), .val (.int (0 : Int32)), .val (.int (0 : Int32)), .val (.ref b2), .val (.int (1 : Int32))] [(.ref b2)])) (fun _ k => XS.aload X23.here hx rfl (hb hby at_163) rfl rfl k) ?_
        obtain ⟨cq25, kq25, q25a, q25b, q25c⟩ := isOf hZ e23 g23_0
        obtain ⟨_, _, ⟨T25, LC25, kC25, nC25⟩, -, X25, ⟨Lc25, hQ25, lq25, yq25, zq25⟩, st25⟩ := X23.virtualBack hx (y := (⟨"com/example/greenwood/greenwood/Environment", "inScope", "()Z"⟩ : MethodName)) (z := (⟨"com/example/greenwood/greenwood/Environment", "inScope", "()Z"⟩ : MethodName)) hown (mvT hZ (hw _ (List.mem_of_getElem? (i := 35) rfl))) (mvT hZ (hw _ (List.mem_of_getElem? (i := 36) rfl))) (notFace_of_selects (args := #[]) (mvT hZ (hw _ (List.mem_of_getElem? (i := 38) rfl)))) (mvT hZ (hw _ (List.mem_of_getElem? (i := 38) rfl))) (mvT hZ (hw _ (List.mem_of_getElem? (i := 37) rfl))) (by decide) (backOf (W := 0) (rm5_0 l Z a0 hw [] b2 h23 n0 (by omega) g23_1) hZ (hw _ (List.mem_of_getElem? (i := 39) rfl)) (hw _ (List.mem_of_getElem? (i := 3) rfl)) (by decide) (by decide)) q25a q25c (g := (mkF m 165 #[.val (.int xa), .val (.int xb), .val (.int xc), .val (.int (0 : Int32)), .val (.int (0 : Int32)), .val (.ref b2), .val (.int (1 : Int32))] [(.ref b2)])) rfl (by rw [hml]; rfl) (Steps.refl _) (argsL := []) (rest := []) (lenOf pd_3 rfl) rfl (by show 2 * 0 + _ ≤ _; exact Nat.le_of_eq rfl) (hb hby at_165) (fun _ _ => ⟨rfl, e23, (by decide : 4 + 0 ≤ _), (by decide : 45 + 0 ≤ _)⟩)
        dsimp only [Pt.U, Pt.locs, Pt.cells, Pt.slots] at X25 lq25 yq25 zq25 st25 hQ25
        subst lq25 yq25 zq25
        obtain ⟨rfl, Nq25, eq25⟩ := hQ25
        have N25 := Fr.app N23 Nq25
        refine own_go (st' := T25.setTop (mkF m 168 #[.val (.int xa), .val (.int xb), .val (.int xc), .val (.int (0 : Int32)), .val (.int (0 : Int32)), .val (.ref b2), .val (.int (1 : Int32))] [(.int (0 : Int32))])) (fun _ k => st25.trans k) ?_
        have hc26 : (0 : Int32) = (0 : Int32) := by decide
        refine own_go (st' := T25.setTop (mkF m 171 #[.val (.int xa), .val (.int xb), .val (.int xc), .val (.int (0 : Int32)), .val (.int (0 : Int32)), .val (.ref b2), .val (.int (1 : Int32))] [])) (fun _ k => XS.ifNo X25.here hx rfl (hb hby at_168) rfl ((if0 _ _).trans (teq hc26).2) k) ?_
        refine own_go (st' := T25.setTop (mkF m 172 #[.val (.int xa), .val (.int xb), .val (.int xc), .val (.int (0 : Int32)), .val (.int (0 : Int32)), .val (.ref b2), .val (.int (1 : Int32))] [(.int (1 : Int32))])) (fun _ k => XS.iconst X25.here hx rfl (hb hby at_171) k) ?_
        refine own_go (st' := T25.setTop (mkF m 176 #[.val (.int xa), .val (.int xb), .val (.int xc), .val (.int (0 : Int32)), .val (.int (0 : Int32)), .val (.ref b2), .val (.int (1 : Int32))] [(.int (1 : Int32))])) (fun _ k => XS.goto X25.here hx rfl (pc0 := 172) (pc' := 176) rfl (hb hby at_172) (by decide) (by decide) k) ?_
        refine own_go (st' := T25.setTop (mkF m 178 #[.val (.int xa), .val (.int xb), .val (.int xc), .val (.int (0 : Int32)), .val (.int (0 : Int32)), .val (.ref b2), .val (.int (1 : Int32))] [])) (fun _ k => XS.istore X25.here hx rfl (hb hby at_176) rfl (l' := #[.val (.int xa), .val (.int xb), .val (.int xc), .val (.int (0 : Int32)), .val (.int (0 : Int32)), .val (.ref b2), .val (.int (1 : Int32))]) rfl k) ?_
        refine own_go (st' := T25.setTop (mkF m 180 #[.val (.int xa), .val (.int xb), .val (.int xc), .val (.int (0 : Int32)), .val (.int (0 : Int32)), .val (.ref b2), .val (.int (1 : Int32))] [(.int (1 : Int32))])) (fun _ k => XS.iload X25.here hx rfl (hb hby at_178) rfl k) ?_
        obtain ⟨fs, hr, hrun, hended, hW, hsame⟩ := X25.leave (v := some (.int (1 : Int32))) (fun h => by rw [Bd.returns] at h; cases h)
        refine ⟨_, _, ?_, hP _ _ hrun hended ⟨_, _, rfl, ?_, ⟨_, rfl⟩, hW, hsame.mono (by decide) (by decide)⟩⟩
        · exact retN X25 hx (t := .boolean) Bd.returns (by simp) (hb hby at_180) hr
        · show Qrm0 Z xa xb xc h0 n0 _ T25.heap _
          rw [eq25]
          exact ⟨rfl, N25, trivial⟩
    · --
      rw [hm_13]
      refine own_go (st' := s₁.setTop (mkF m 15 #[.val (.int xa), .val (.int xb), .val (.int xc), .val (.int (0 : Int32)), .val (.int (1 : Int32)), .unset, .unset] [])) (fun _ k => XS.istore X0.here hx rfl (hb hby at_13) rfl (l' := #[.val (.int xa), .val (.int xb), .val (.int xc), .val (.int (0 : Int32)), .val (.int (1 : Int32)), .unset, .unset]) rfl k) ?_
      refine own_go (st' := s₁.setTop (mkF m 17 #[.val (.int xa), .val (.int xb), .val (.int xc), .val (.int (0 : Int32)), .val (.int (1 : Int32)), .unset, .unset] [(.int (1 : Int32))])) (fun _ k => XS.iload X0.here hx rfl (hb hby at_15) rfl k) ?_
      refine own_go (st' := s₁.setTop (mkF m 18 #[.val (.int xa), .val (.int xb), .val (.int xc), .val (.int (0 : Int32)), .val (.int (1 : Int32)), .unset, .unset] [(.int (0 : Int32)), (.int (1 : Int32))])) (fun _ k => XS.iloadN X0.here hx rfl (hb hby at_17) rfl k) ?_
      have hc28 : (0 : Int32) < (1 : Int32) := by decide
      refine own_go (st' := s₁.setTop (mkF m 21 #[.val (.int xa), .val (.int xb), .val (.int xc), .val (.int (0 : Int32)), .val (.int (1 : Int32)), .unset, .unset] [])) (fun _ k => XS.icmpNo X0.here hx rfl (hb hby at_18) rfl (tlt hc28).2.2.2 k) ?_
      refine own_go (st' := s₁.setTop (mkF m 22 #[.val (.int xa), .val (.int xb), .val (.int xc), .val (.int (0 : Int32)), .val (.int (1 : Int32)), .unset, .unset] [(.int (0 : Int32))])) (fun _ k => XS.iloadN X0.here hx rfl (hb hby at_21) rfl k) ?_
      refine own_go (st' := s₁.setTop (mkF m 24 #[.val (.int xa), .val (.int xb), .val (.int xc), .val (.int (0 : Int32)), .val (.int (0 : Int32)), .unset, .unset] [])) (fun _ k => XS.istore X0.here hx rfl (hb hby at_22) rfl (l' := #[.val (.int xa), .val (.int xb), .val (.int xc), .val (.int (0 : Int32)), .val (.int (0 : Int32)), .unset, .unset]) rfl k) ?_
      obtain ⟨T29, h29, X29, e29, E29, A29, D29, -, st29⟩ := newO X0 hx hZ hown (hw _ (List.mem_of_getElem? (i := 1) rfl)) (hw _ (List.mem_of_getElem? (i := 2) rfl)) (hw _ (List.mem_of_getElem? (i := 3) rfl)) e0 (g := (mkF m 24 #[.val (.int xa), .val (.int xb), .val (.int xc), .val (.int (0 : Int32)), .val (.int (0 : Int32)), .unset, .unset] [])) rfl (hb hby at_24) (by decide) (by decide)
      obtain ⟨b29, g29⟩ : ∃ z, z = h0.size := ⟨_, rfl⟩
      rw [← g29] at A29 D29 st29
      have sz29 : h0.size ≤ h29.size := E29.1
      have lt29 : @LT.lt Nat _ b29 h29.size := A29.lt
      have f30 : Fld Z h29 b29 "com/example/greenwood/greenwood/Environment" "globals" "Ljava/util/Map;" .null := D29 (Or.inr (hw _ (List.mem_of_getElem? (i := 27) rfl))) (ty := (.object "java/util/Map")) (by decide)
      have f31 : Fld Z h29 b29 "com/example/greenwood/greenwood/Environment" "locals" "[Ljava/lang/Object;" .null := D29 (Or.inl (hw _ (List.mem_of_getElem? (i := 31) rfl))) (ty := (.array (.object "java/lang/Object"))) (by decide)
      have f32 : Fld Z h29 b29 "com/example/greenwood/greenwood/Environment" "scopeStarts" "[I" .null := D29 (Or.inl (hw _ (List.mem_of_getElem? (i := 34) rfl))) (ty := (.array .int)) (by decide)
      have f33 : Fld Z h29 b29 "com/example/greenwood/greenwood/Environment" "openScopes" "I" (.int (0 : Int32)) := D29 (Or.inl (hw _ (List.mem_of_getElem? (i := 41) rfl))) (ty := .int) (by decide)
      have f34 : Fld Z h29 b29 "com/example/greenwood/greenwood/Environment" "localCount" "I" (.int (0 : Int32)) := D29 (Or.inl (hw _ (List.mem_of_getElem? (i := 48) rfl))) (ty := .int) (by decide)
      refine own_go (st' := T29.setTop (mkF m 27 #[.val (.int xa), .val (.int xb), .val (.int xc), .val (.int (0 : Int32)), .val (.int (0 : Int32)), .unset, .unset] [(.ref b29)])) (st29) ?_
      refine own_go (st' := T29.setTop (mkF m 28 #[.val (.int xa), .val (.int xb), .val (.int xc), .val (.int (0 : Int32)), .val (.int (0 : Int32)), .unset, .unset] [(.ref b29), (.ref b29)])) (fun _ k => XS.dup X29.here hx rfl (hb hby at_27) rfl rfl k) ?_
      obtain ⟨_, _, ⟨T35, LC35, kC35, nC35⟩, -, X35, ⟨Lc35, hQ35, lq35, yq35, zq35⟩, st35⟩ := X29.specialBack hx (y := (⟨"com/example/greenwood/greenwood/Environment", "<init>", "()V"⟩ : MethodName)) rfl hown (mvT hZ (hw _ (List.mem_of_getElem? (i := 4) rfl))) (mvT hZ (hw _ (List.mem_of_getElem? (i := 5) rfl))) (mvT hZ (hw _ (List.mem_of_getElem? (i := 6) rfl))) (by decide) (backOf (W := 1) (rm1 l Z a0 hw [] b29 h29 n0 (by omega) A29 f30 f31 f32 f33 f34 (by omega)) hZ (hw _ (List.mem_of_getElem? (i := 6) rfl)) (hw _ (List.mem_of_getElem? (i := 3) rfl)) (by decide) (by decide)) (g := (mkF m 28 #[.val (.int xa), .val (.int xb), .val (.int xc), .val (.int (0 : Int32)), .val (.int (0 : Int32)), .unset, .unset] [(.ref b29), (.ref b29)])) rfl (by rw [hml]; rfl) (Steps.refl _) (a := b29) (argsL := []) (rest := [(.ref b29)]) (lenOf pd_0 rfl) rfl (by show 2 * 0 + _ ≤ _; exact Nat.le_of_eq rfl) (hb hby at_28) (fun _ _ => ⟨rfl, e29, (by decide : 1 + 3 ≤ _), (by decide : 5 + 40 ≤ _)⟩)
      dsimp only [Pt.U, Pt.locs, Pt.cells, Pt.slots] at X35 lq35 yq35 zq35 st35 hQ35
      subst lq35 yq35 zq35
      obtain ⟨h35, e35⟩ : ∃ z, T35.heap = z := ⟨_, rfl⟩
      rw [e35] at hQ35
      obtain ⟨rl_35, rs_35, kl_35, ks_35, rfl, Nq35, K35, g35_0, g35_1, g35_2, g35_3, g35_4, g35_5, g35_6, g35_7, g35_8, g35_9, g35_10⟩ := hQ35
      have sz35 : h29.size ≤ h35.size := K35.1
      have N35 := Fr.app N0 Nq35
      have lt35_1 : @LT.lt Nat _ b29 h35.size := g35_0.lt
      have lt35_2 : @LT.lt Nat _ rl_35 h35.size := g35_5.lt
      have lt35_3 : @LT.lt Nat _ rs_35 h35.size := g35_6.lt
      refine own_go (st' := T35.setTop (mkF m 31 #[.val (.int xa), .val (.int xb), .val (.int xc), .val (.int (0 : Int32)), .val (.int (0 : Int32)), .unset, .unset] [(.ref b29)])) (fun _ k => st35.trans k) ?_
      refine own_go (st' := T35.setTop (mkF m 33 #[.val (.int xa), .val (.int xb), .val (.int xc), .val (.int (0 : Int32)), .val (.int (0 : Int32)), .val (.ref b29), .unset] [])) (fun _ k => XS.astore X35.here hx rfl (hb hby at_31) rfl rfl (l' := #[.val (.int xa), .val (.int xb), .val (.int xc), .val (.int (0 : Int32)), .val (.int (0 : Int32)), .val (.ref b29), .unset]) rfl k) ?_
      refine own_go (st' := T35.setTop (mkF m 34 #[.val (.int xa), .val (.int xb), .val (.int xc), .val (.int (0 : Int32)), .val (.int (0 : Int32)), .val (.ref b29), .unset] [(.int (0 : Int32))])) (fun _ k => XS.iloadN X35.here hx rfl (hb hby at_33) rfl k) ?_
      refine own_go (st' := T35.setTop (mkF m 35 #[.val (.int xa), .val (.int xb), .val (.int xc), .val (.int (0 : Int32)), .val (.int (0 : Int32)), .val (.ref b29), .unset] [(.int (1 : Int32)), (.int (0 : Int32))])) (fun _ k => XS.iconst X35.here hx rfl (hb hby at_34) k) ?_
      have hc36 : (0 : Int32) < (1 : Int32) := by decide
      refine own_go (st' := T35.setTop (mkF m 43 #[.val (.int xa), .val (.int xb), .val (.int xc), .val (.int (0 : Int32)), .val (.int (0 : Int32)), .val (.ref b29), .unset] [])) (fun _ k => XS.icmpYes X35.here hx rfl (pc0 := 35) (pc' := 43) rfl (hb hby at_35) rfl (tlt hc36).1 (by decide) (by decide) k) ?_
      refine own_go (st' := T35.setTop (mkF m 44 #[.val (.int xa), .val (.int xb), .val (.int xc), .val (.int (0 : Int32)), .val (.int (0 : Int32)), .val (.ref b29), .unset] [(.int (0 : Int32))])) (fun _ k => XS.iloadN X35.here hx rfl (hb hby at_43) rfl k) ?_
      refine own_go (st' := T35.setTop (mkF m 45 #[.val (.int xa), .val (.int xb), .val (.int xc), .val (.int (0 : Int32)), .val (.int (0 : Int32)), .val (.ref b29), .unset] [(.int (2 : Int32)), (.int (0 : Int32))])) (fun _ k => XS.iconst X35.here hx rfl (hb hby at_44) k) ?_
      have hc37 : (0 : Int32) < (2 : Int32) := by decide
      refine own_go (st' := T35.setTop (mkF m 53 #[.val (.int xa), .val (.int xb), .val (.int xc), .val (.int (0 : Int32)), .val (.int (0 : Int32)), .val (.ref b29), .unset] [])) (fun _ k => XS.icmpYes X35.here hx rfl (pc0 := 45) (pc' := 53) rfl (hb hby at_45) rfl (tlt hc37).1 (by decide) (by decide) k) ?_
      refine own_go (st' := T35.setTop (mkF m 54 #[.val (.int xa), .val (.int xb), .val (.int xc), .val (.int (0 : Int32)), .val (.int (0 : Int32)), .val (.ref b29), .unset] [(.int (0 : Int32))])) (fun _ k => XS.iloadN X35.here hx rfl (hb hby at_53) rfl k) ?_
      refine own_go (st' := T35.setTop (mkF m 55 #[.val (.int xa), .val (.int xb), .val (.int xc), .val (.int (0 : Int32)), .val (.int (0 : Int32)), .val (.ref b29), .unset] [(.int (1 : Int32)), (.int (0 : Int32))])) (fun _ k => XS.iconst X35.here hx rfl (hb hby at_54) k) ?_
      have hc38 : (0 : Int32) < (1 : Int32) := by decide
      refine own_go (st' := T35.setTop (mkF m 69 #[.val (.int xa), .val (.int xb), .val (.int xc), .val (.int (0 : Int32)), .val (.int (0 : Int32)), .val (.ref b29), .unset] [])) (fun _ k => XS.icmpYes X35.here hx rfl (pc0 := 55) (pc' := 69) rfl (hb hby at_55) rfl (tlt hc38).1 (by decide) (by decide) k) ?_
      refine own_go (st' := T35.setTop (mkF m 71 #[.val (.int xa), .val (.int xb), .val (.int xc), .val (.int (0 : Int32)), .val (.int (0 : Int32)), .val (.ref b29), .unset] [(.ref b29)])) (fun _ k => XS.aload X35.here hx rfl (hb hby at_69) rfl rfl k) ?_
      obtain ⟨cq39, kq39, q39a, q39b, q39c⟩ := isOf hZ e35 g35_0
      obtain ⟨_, _, ⟨T39, LC39, kC39, nC39⟩, -, X39, ⟨Lc39, hQ39, lq39, yq39, zq39⟩, st39⟩ := X35.virtualBack hx (y := (⟨"com/example/greenwood/greenwood/Environment", "inScope", "()Z"⟩ : MethodName)) (z := (⟨"com/example/greenwood/greenwood/Environment", "inScope", "()Z"⟩ : MethodName)) hown (mvT hZ (hw _ (List.mem_of_getElem? (i := 35) rfl))) (mvT hZ (hw _ (List.mem_of_getElem? (i := 36) rfl))) (notFace_of_selects (args := #[]) (mvT hZ (hw _ (List.mem_of_getElem? (i := 38) rfl)))) (mvT hZ (hw _ (List.mem_of_getElem? (i := 38) rfl))) (mvT hZ (hw _ (List.mem_of_getElem? (i := 37) rfl))) (by decide) (backOf (W := 0) (rm5_0 l Z a0 hw [] b29 h35 n0 (by omega) g35_1) hZ (hw _ (List.mem_of_getElem? (i := 39) rfl)) (hw _ (List.mem_of_getElem? (i := 3) rfl)) (by decide) (by decide)) q39a q39c (g := (mkF m 71 #[.val (.int xa), .val (.int xb), .val (.int xc), .val (.int (0 : Int32)), .val (.int (0 : Int32)), .val (.ref b29), .unset] [(.ref b29)])) rfl (by rw [hml]; rfl) (Steps.refl _) (argsL := []) (rest := []) (lenOf pd_3 rfl) rfl (by show 2 * 0 + _ ≤ _; exact Nat.le_of_eq rfl) (hb hby at_71) (fun _ _ => ⟨rfl, e35, (by decide : 4 + 0 ≤ _), (by decide : 45 + 0 ≤ _)⟩)
      dsimp only [Pt.U, Pt.locs, Pt.cells, Pt.slots] at X39 lq39 yq39 zq39 st39 hQ39
      subst lq39 yq39 zq39
      obtain ⟨rfl, Nq39, eq39⟩ := hQ39
      have N39 := Fr.app N35 Nq39
      refine own_go (st' := T39.setTop (mkF m 74 #[.val (.int xa), .val (.int xb), .val (.int xc), .val (.int (0 : Int32)), .val (.int (0 : Int32)), .val (.ref b29), .unset] [(.int (0 : Int32))])) (fun _ k => st39.trans k) ?_
      refine own_go (st' := T39.setTop (mkF m 75 #[.val (.int xa), .val (.int xb), .val (.int xc), .val (.int (0 : Int32)), .val (.int (0 : Int32)), .val (.ref b29), .unset] [(.int (0 : Int32)), (.int (0 : Int32))])) (fun _ k => XS.iloadN X39.here hx rfl (hb hby at_74) rfl k) ?_
      have hc40 : ¬ ((0 : Int32) < (0 : Int32)) := by decide
      refine own_go (st' := T39.setTop (mkF m 82 #[.val (.int xa), .val (.int xb), .val (.int xc), .val (.int (0 : Int32)), .val (.int (0 : Int32)), .val (.ref b29), .unset] [(.int (0 : Int32))])) (fun _ k => XS.ifYes X39.here hx rfl (pc0 := 75) (pc' := 82) rfl (hb hby at_75) rfl ((if0 _ _).trans (flt hc40).2.2.2) (by decide) (by decide) k) ?_
      refine own_go (st' := T39.setTop (mkF m 83 #[.val (.int xa), .val (.int xb), .val (.int xc), .val (.int (0 : Int32)), .val (.int (0 : Int32)), .val (.ref b29), .unset] [(.int (0 : Int32)), (.int (0 : Int32))])) (fun _ k => XS.iconst X39.here hx rfl (hb hby at_82) k) ?_
      have hc41 : (0 : Int32) = (0 : Int32) := by decide
      refine own_go (st' := T39.setTop (mkF m 86 #[.val (.int xa), .val (.int xb), .val (.int xc), .val (.int (0 : Int32)), .val (.int (0 : Int32)), .val (.ref b29), .unset] [])) (fun _ k => XS.icmpNo X39.here hx rfl (hb hby at_83) rfl (teq hc41).2 k) ?_
      refine own_go (st' := T39.setTop (mkF m 87 #[.val (.int xa), .val (.int xb), .val (.int xc), .val (.int (0 : Int32)), .val (.int (0 : Int32)), .val (.ref b29), .unset] [(.int (1 : Int32))])) (fun _ k => XS.iconst X39.here hx rfl (hb hby at_86) k) ?_
      refine own_go (st' := T39.setTop (mkF m 91 #[.val (.int xa), .val (.int xb), .val (.int xc), .val (.int (0 : Int32)), .val (.int (0 : Int32)), .val (.ref b29), .unset] [(.int (1 : Int32))])) (fun _ k => XS.goto X39.here hx rfl (pc0 := 87) (pc' := 91) rfl (hb hby at_87) (by decide) (by decide) k) ?_
      refine own_go (st' := T39.setTop (mkF m 93 #[.val (.int xa), .val (.int xb), .val (.int xc), .val (.int (0 : Int32)), .val (.int (0 : Int32)), .val (.ref b29), .val (.int (1 : Int32))] [])) (fun _ k => XS.istore X39.here hx rfl (hb hby at_91) rfl (l' := #[.val (.int xa), .val (.int xb), .val (.int xc), .val (.int (0 : Int32)), .val (.int (0 : Int32)), .val (.ref b29), .val (.int (1 : Int32))]) rfl k) ?_
      refine own_go (st' := T39.setTop (mkF m 95 #[.val (.int xa), .val (.int xb), .val (.int xc), .val (.int (0 : Int32)), .val (.int (0 : Int32)), .val (.ref b29), .val (.int (1 : Int32))] [(.int (0 : Int32))])) (fun _ k => XS.iload X39.here hx rfl (hb hby at_93) rfl k) ?_
      refine own_go (st' := T39.setTop (mkF m 96 #[.val (.int xa), .val (.int xb), .val (.int xc), .val (.int (0 : Int32)), .val (.int (0 : Int32)), .val (.ref b29), .val (.int (1 : Int32))] [(.int (1 : Int32)), (.int (0 : Int32))])) (fun _ k => XS.iconst X39.here hx rfl (hb hby at_95) k) ?_
      have hc42 : (0 : Int32) < (1 : Int32) := by decide
      refine own_go (st' := T39.setTop (mkF m 104 #[.val (.int xa), .val (.int xb), .val (.int xc), .val (.int (0 : Int32)), .val (.int (0 : Int32)), .val (.ref b29), .val (.int (1 : Int32))] [])) (fun _ k => XS.icmpYes X39.here hx rfl (pc0 := 96) (pc' := 104) rfl (hb hby at_96) rfl (tlt hc42).1 (by decide) (by decide) k) ?_
      refine own_go (st' := T39.setTop (mkF m 106 #[.val (.int xa), .val (.int xb), .val (.int xc), .val (.int (0 : Int32)), .val (.int (0 : Int32)), .val (.ref b29), .val (.int (1 : Int32))] [(.int (0 : Int32))])) (fun _ k => XS.iload X39.here hx rfl (hb hby at_104) rfl k) ?_
      refine own_go (st' := T39.setTop (mkF m 107 #[.val (.int xa), .val (.int xb), .val (.int xc), .val (.int (0 : Int32)), .val (.int (0 : Int32)), .val (.ref b29), .val (.int (1 : Int32))] [(.int (2 : Int32)), (.int (0 : Int32))])) (fun _ k => XS.iconst X39.here hx rfl (hb hby at_106) k) ?_
      have hc43 : (0 : Int32) < (2 : Int32) := by decide
      refine own_go (st' := T39.setTop (mkF m 115 #[.val (.int xa), .val (.int xb), .val (.int xc), .val (.int (0 : Int32)), .val (.int (0 : Int32)), .val (.ref b29), .val (.int (1 : Int32))] [])) (fun _ k => XS.icmpYes X39.here hx rfl (pc0 := 107) (pc' := 115) rfl (hb hby at_107) rfl (tlt hc43).1 (by decide) (by decide) k) ?_
      refine own_go (st' := T39.setTop (mkF m 117 #[.val (.int xa), .val (.int xb), .val (.int xc), .val (.int (0 : Int32)), .val (.int (0 : Int32)), .val (.ref b29), .val (.int (1 : Int32))] [(.int (1 : Int32))])) (fun _ k => XS.iload X39.here hx rfl (hb hby at_115) rfl k) ?_
      have hc44 : ¬ ((1 : Int32) = (0 : Int32)) := by decide
      refine own_go (st' := T39.setTop (mkF m 120 #[.val (.int xa), .val (.int xb), .val (.int xc), .val (.int (0 : Int32)), .val (.int (0 : Int32)), .val (.ref b29), .val (.int (1 : Int32))] [])) (fun _ k => XS.ifNo X39.here hx rfl (hb hby at_117) rfl ((if0 _ _).trans (feq hc44).1) k) ?_
      refine own_go (st' := T39.setTop (mkF m 122 #[.val (.int xa), .val (.int xb), .val (.int xc), .val (.int (0 : Int32)), .val (.int (0 : Int32)), .val (.ref b29), .val (.int (1 : Int32))] [(.ref b29)])) (fun _ k => XS.aload X39.here hx rfl (hb hby at_120) rfl rfl k) ?_
      obtain ⟨cq45, kq45, q45a, q45b, q45c⟩ := isOf hZ eq39 g35_0
      obtain ⟨_, _, ⟨T45, LC45, kC45, nC45⟩, -, X45, ⟨Lc45, hQ45, lq45, yq45, zq45⟩, st45⟩ := X39.virtualBack hx (y := (⟨"com/example/greenwood/greenwood/Environment", "inScope", "()Z"⟩ : MethodName)) (z := (⟨"com/example/greenwood/greenwood/Environment", "inScope", "()Z"⟩ : MethodName)) hown (mvT hZ (hw _ (List.mem_of_getElem? (i := 35) rfl))) (mvT hZ (hw _ (List.mem_of_getElem? (i := 36) rfl))) (notFace_of_selects (args := #[]) (mvT hZ (hw _ (List.mem_of_getElem? (i := 38) rfl)))) (mvT hZ (hw _ (List.mem_of_getElem? (i := 38) rfl))) (mvT hZ (hw _ (List.mem_of_getElem? (i := 37) rfl))) (by decide) (backOf (W := 0) (rm5_0 l Z a0 hw [] b29 h35 n0 (by omega) g35_1) hZ (hw _ (List.mem_of_getElem? (i := 39) rfl)) (hw _ (List.mem_of_getElem? (i := 3) rfl)) (by decide) (by decide)) q45a q45c (g := (mkF m 122 #[.val (.int xa), .val (.int xb), .val (.int xc), .val (.int (0 : Int32)), .val (.int (0 : Int32)), .val (.ref b29), .val (.int (1 : Int32))] [(.ref b29)])) rfl (by rw [hml]; rfl) (Steps.refl _) (argsL := []) (rest := []) (lenOf pd_3 rfl) rfl (by show 2 * 0 + _ ≤ _; exact Nat.le_of_eq rfl) (hb hby at_122) (fun _ _ => ⟨rfl, eq39, (by decide : 4 + 0 ≤ _), (by decide : 45 + 0 ≤ _)⟩)
      dsimp only [Pt.U, Pt.locs, Pt.cells, Pt.slots] at X45 lq45 yq45 zq45 st45 hQ45
      subst lq45 yq45 zq45
      obtain ⟨rfl, Nq45, eq45⟩ := hQ45
      have N45 := Fr.app N39 Nq45
      refine own_go (st' := T45.setTop (mkF m 125 #[.val (.int xa), .val (.int xb), .val (.int xc), .val (.int (0 : Int32)), .val (.int (0 : Int32)), .val (.ref b29), .val (.int (1 : Int32))] [(.int (0 : Int32))])) (fun _ k => st45.trans k) ?_
      refine own_go (st' := T45.setTop (mkF m 126 #[.val (.int xa), .val (.int xb), .val (.int xc), .val (.int (0 : Int32)), .val (.int (0 : Int32)), .val (.ref b29), .val (.int (1 : Int32))] [(.int (0 : Int32)), (.int (0 : Int32))])) (fun _ k => XS.iloadN X45.here hx rfl (hb hby at_125) rfl k) ?_
      refine own_go (st' := T45.setTop (mkF m 128 #[.val (.int xa), .val (.int xb), .val (.int xc), .val (.int (0 : Int32)), .val (.int (0 : Int32)), .val (.ref b29), .val (.int (1 : Int32))] [(.int (0 : Int32)), (.int (0 : Int32)), (.int (0 : Int32))])) (fun _ k => XS.iload X45.here hx rfl (hb hby at_126) rfl k) ?_
      refine own_go (st' := T45.setTop (mkF m 129 #[.val (.int xa), .val (.int xb), .val (.int xc), .val (.int (0 : Int32)), .val (.int (0 : Int32)), .val (.ref b29), .val (.int (1 : Int32))] [(.int (0 : Int32)), (.int (0 : Int32))])) (fun _ k => XS.isub X45.here hx rfl (hb hby at_128) rfl (by rw [show ((0 : Int32) - (0 : Int32)) = (0 : Int32) by decide]; exact k)) ?_
      have hc46 : ¬ ((0 : Int32) < (0 : Int32)) := by decide
      refine own_go (st' := T45.setTop (mkF m 136 #[.val (.int xa), .val (.int xb), .val (.int xc), .val (.int (0 : Int32)), .val (.int (0 : Int32)), .val (.ref b29), .val (.int (1 : Int32))] [(.int (0 : Int32))])) (fun _ k => XS.ifYes X45.here hx rfl (pc0 := 129) (pc' := 136) rfl (hb hby at_129) rfl ((if0 _ _).trans (flt hc46).2.2.2) (by decide) (by decide) k) ?_
      refine own_go (st' := T45.setTop (mkF m 137 #[.val (.int xa), .val (.int xb), .val (.int xc), .val (.int (0 : Int32)), .val (.int (0 : Int32)), .val (.ref b29), .val (.int (1 : Int32))] [(.int (0 : Int32)), (.int (0 : Int32))])) (fun _ k => XS.iconst X45.here hx rfl (hb hby at_136) k) ?_
      have hc47 : (0 : Int32) = (0 : Int32) := by decide
      refine own_go (st' := T45.setTop (mkF m 140 #[.val (.int xa), .val (.int xb), .val (.int xc), .val (.int (0 : Int32)), .val (.int (0 : Int32)), .val (.ref b29), .val (.int (1 : Int32))] [])) (fun _ k => XS.icmpNo X45.here hx rfl (hb hby at_137) rfl (teq hc47).2 k) ?_
      refine own_go (st' := T45.setTop (mkF m 141 #[.val (.int xa), .val (.int xb), .val (.int xc), .val (.int (0 : Int32)), .val (.int (0 : Int32)), .val (.ref b29), .val (.int (1 : Int32))] [(.int (1 : Int32))])) (fun _ k => XS.iconst X45.here hx rfl (hb hby at_140) k) ?_
      refine own_go (st' := T45.setTop (mkF m 145 #[.val (.int xa), .val (.int xb), .val (.int xc), .val (.int (0 : Int32)), .val (.int (0 : Int32)), .val (.ref b29), .val (.int (1 : Int32))] [(.int (1 : Int32))])) (fun _ k => XS.goto X45.here hx rfl (pc0 := 141) (pc' := 145) rfl (hb hby at_141) (by decide) (by decide) k) ?_
      refine own_go (st' := T45.setTop (mkF m 147 #[.val (.int xa), .val (.int xb), .val (.int xc), .val (.int (0 : Int32)), .val (.int (0 : Int32)), .val (.ref b29), .val (.int (1 : Int32))] [])) (fun _ k => XS.istore X45.here hx rfl (hb hby at_145) rfl (l' := #[.val (.int xa), .val (.int xb), .val (.int xc), .val (.int (0 : Int32)), .val (.int (0 : Int32)), .val (.ref b29), .val (.int (1 : Int32))]) rfl k) ?_
      refine own_go (st' := T45.setTop (mkF m 148 #[.val (.int xa), .val (.int xb), .val (.int xc), .val (.int (0 : Int32)), .val (.int (0 : Int32)), .val (.ref b29), .val (.int (1 : Int32))] [(.int xc)])) (fun _ k => XS.iloadN X45.here hx rfl (hb hby at_147) rfl k) ?_
      refine own_go (st' := T45.setTop (mkF m 149 #[.val (.int xa), .val (.int xb), .val (.int xc), .val (.int (0 : Int32)), .val (.int (0 : Int32)), .val (.ref b29), .val (.int (1 : Int32))] [(.int (2 : Int32)), (.int xc)])) (fun _ k => XS.iconst X45.here hx rfl (hb hby at_148) k) ?_
      refine own_go (st' := T45.setTop (mkF m 150 #[.val (.int xa), .val (.int xb), .val (.int xc), .val (.int (0 : Int32)), .val (.int (0 : Int32)), .val (.ref b29), .val (.int (1 : Int32))] [(.int (xc &&& (2 : Int32)))])) (fun _ k => XS.iand X45.here hx rfl (hb hby at_149) rfl k) ?_
      by_cases hc48 : (xc &&& (2 : Int32)) = (0 : Int32)
      · --
        refine own_go (st' := T45.setTop (mkF m 178 #[.val (.int xa), .val (.int xb), .val (.int xc), .val (.int (0 : Int32)), .val (.int (0 : Int32)), .val (.ref b29), .val (.int (1 : Int32))] [])) (fun _ k => XS.ifYes X45.here hx rfl (pc0 := 150) (pc' := 178) rfl (hb hby at_150) rfl ((if0 _ _).trans (teq hc48).1) (by decide) (by decide) k) ?_
        refine own_go (st' := T45.setTop (mkF m 180 #[.val (.int xa), .val (.int xb), .val (.int xc), .val (.int (0 : Int32)), .val (.int (0 : Int32)), .val (.ref b29), .val (.int (1 : Int32))] [(.int (1 : Int32))])) (fun _ k => XS.iload X45.here hx rfl (hb hby at_178) rfl k) ?_
        obtain ⟨fs, hr, hrun, hended, hW, hsame⟩ := X45.leave (v := some (.int (1 : Int32))) (fun h => by rw [Bd.returns] at h; cases h)
        refine ⟨_, _, ?_, hP _ _ hrun hended ⟨_, _, rfl, ?_, ⟨_, rfl⟩, hW, hsame.mono (by decide) (by decide)⟩⟩
        · exact retN X45 hx (t := .boolean) Bd.returns (by simp) (hb hby at_180) hr
        · show Qrm0 Z xa xb xc h0 n0 _ T45.heap _
          rw [eq45]
          exact ⟨rfl, N45, trivial⟩
      · --
        refine own_go (st' := T45.setTop (mkF m 153 #[.val (.int xa), .val (.int xb), .val (.int xc), .val (.int (0 : Int32)), .val (.int (0 : Int32)), .val (.ref b29), .val (.int (1 : Int32))] [])) (fun _ k => XS.ifNo X45.here hx rfl (hb hby at_150) rfl ((if0 _ _).trans (feq hc48).1) k) ?_
        refine own_go (st' := T45.setTop (mkF m 155 #[.val (.int xa), .val (.int xb), .val (.int xc), .val (.int (0 : Int32)), .val (.int (0 : Int32)), .val (.ref b29), .val (.int (1 : Int32))] [(.ref b29)])) (fun _ k => XS.aload X45.here hx rfl (hb hby at_153) rfl rfl k) ?_
        obtain ⟨cq50, kq50, q50a, q50b, q50c⟩ := isOf hZ eq45 g35_0
        obtain ⟨_, _, ⟨T50, LC50, kC50, nC50⟩, -, X50, ⟨Lc50, hQ50, lq50, yq50, zq50⟩, st50⟩ := X45.virtualBack hx (y := (⟨"com/example/greenwood/greenwood/Environment", "closeScopes", "()V"⟩ : MethodName)) (z := (⟨"com/example/greenwood/greenwood/Environment", "closeScopes", "()V"⟩ : MethodName)) hown (mvT hZ (hw _ (List.mem_of_getElem? (i := 42) rfl))) (mvT hZ (hw _ (List.mem_of_getElem? (i := 43) rfl))) (notFace_of_selects (args := #[]) (mvT hZ (hw _ (List.mem_of_getElem? (i := 45) rfl)))) (mvT hZ (hw _ (List.mem_of_getElem? (i := 45) rfl))) (mvT hZ (hw _ (List.mem_of_getElem? (i := 44) rfl))) (by decide) (backOf (W := 0) (rm6_0 l Z a0 hw [] b29 (0 : Int32) rl_35 rs_35 kl_35 ks_35 h35 n0 (by omega) g35_0 g35_1 g35_2 g35_3 g35_4 g35_5 g35_6 (by omega) (by omega) (by omega) (by first | assumption | exact Ne.symm (by assumption) | (apply Nat.ne_of_lt; omega) | (apply Nat.ne_of_gt; omega)) (by first | assumption | exact Ne.symm (by assumption) | (apply Nat.ne_of_lt; omega) | (apply Nat.ne_of_gt; omega)) (by first | assumption | exact Ne.symm (by assumption) | (apply Nat.ne_of_lt; omega) | (apply Nat.ne_of_gt; omega))) hZ (hw _ (List.mem_of_getElem? (i := 46) rfl)) (hw _ (List.mem_of_getElem? (i := 3) rfl)) (by decide) (by decide)) q50a q50c (g := (mkF m 155 #[.val (.int xa), .val (.int xb), .val (.int xc), .val (.int (0 : Int32)), .val (.int (0 : Int32)), .val (.ref b29), .val (.int (1 : Int32))] [(.ref b29)])) rfl (by rw [hml]; rfl) (Steps.refl _) (argsL := []) (rest := []) (lenOf pd_0 rfl) rfl (by show 2 * 0 + _ ≤ _; exact Nat.le_of_eq rfl) (hb hby at_155) (fun _ _ => ⟨rfl, eq45, (by decide : 4 + 0 ≤ _), (by decide : 45 + 0 ≤ _)⟩)
        dsimp only [Pt.U, Pt.locs, Pt.cells, Pt.slots] at X50 lq50 yq50 zq50 st50 hQ50
        subst lq50 yq50 zq50
        obtain ⟨h50, e50⟩ : ∃ z, T50.heap = z := ⟨_, rfl⟩
        rw [e50] at hQ50
        obtain ⟨rfl, Nq50, K50, g50_0, g50_1, g50_2, g50_3, g50_4, g50_5⟩ := hQ50
        have sz50 : h35.size ≤ h50.size := K50.1
        have N50 := Fr.app N45 Nq50
        have lt50_1 : @LT.lt Nat _ b29 h50.size := g50_0.lt
        have lt50_2 : @LT.lt Nat _ rl_35 h50.size := g50_5.lt
        refine own_go (st' := T50.setTop (mkF m 158 #[.val (.int xa), .val (.int xb), .val (.int xc), .val (.int (0 : Int32)), .val (.int (0 : Int32)), .val (.ref b29), .val (.int (1 : Int32))] [])) (fun _ k => st50.trans k) ?_
        refine own_go (st' := T50.setTop (mkF m 160 #[.val (.int xa), .val (.int xb), .val (.int xc), .val (.int (0 : Int32)), .val (.int (0 : Int32)), .val (.ref b29), .val (.int (1 : Int32))] [(.int (1 : Int32))])) (fun _ k => XS.iload X50.here hx rfl (hb hby at_158) rfl k) ?_
        have hc51 : ¬ ((1 : Int32) = (0 : Int32)) := by decide
        refine own_go (st' := T50.setTop (mkF m 163 #[.val (.int xa), .val (.int xb), .val (.int xc), .val (.int (0 : Int32)), .val (.int (0 : Int32)), .val (.ref b29), .val (.int (1 : Int32))] [])) (fun _ k => XS.ifNo X50.here hx rfl (hb hby at_160) rfl ((if0 _ _).trans (feq hc51).1) k) ?_
        refine own_go (st' := T50.setTop (mkF m 165 #[.val (.int xa), .val (.int xb), .val (.int xc), .val (.int (0 : Int32)), .val (.int (0 : Int32)), .val (.ref b29), .val (.int (1 : Int32))] [(.ref b29)])) (fun _ k => XS.aload X50.here hx rfl (hb hby at_163) rfl rfl k) ?_
        obtain ⟨cq52, kq52, q52a, q52b, q52c⟩ := isOf hZ e50 g50_0
        obtain ⟨_, _, ⟨T52, LC52, kC52, nC52⟩, -, X52, ⟨Lc52, hQ52, lq52, yq52, zq52⟩, st52⟩ := X50.virtualBack hx (y := (⟨"com/example/greenwood/greenwood/Environment", "inScope", "()Z"⟩ : MethodName)) (z := (⟨"com/example/greenwood/greenwood/Environment", "inScope", "()Z"⟩ : MethodName)) hown (mvT hZ (hw _ (List.mem_of_getElem? (i := 35) rfl))) (mvT hZ (hw _ (List.mem_of_getElem? (i := 36) rfl))) (notFace_of_selects (args := #[]) (mvT hZ (hw _ (List.mem_of_getElem? (i := 38) rfl)))) (mvT hZ (hw _ (List.mem_of_getElem? (i := 38) rfl))) (mvT hZ (hw _ (List.mem_of_getElem? (i := 37) rfl))) (by decide) (backOf (W := 0) (rm5_0 l Z a0 hw [] b29 h50 n0 (by omega) g50_1) hZ (hw _ (List.mem_of_getElem? (i := 39) rfl)) (hw _ (List.mem_of_getElem? (i := 3) rfl)) (by decide) (by decide)) q52a q52c (g := (mkF m 165 #[.val (.int xa), .val (.int xb), .val (.int xc), .val (.int (0 : Int32)), .val (.int (0 : Int32)), .val (.ref b29), .val (.int (1 : Int32))] [(.ref b29)])) rfl (by rw [hml]; rfl) (Steps.refl _) (argsL := []) (rest := []) (lenOf pd_3 rfl) rfl (by show 2 * 0 + _ ≤ _; exact Nat.le_of_eq rfl) (hb hby at_165) (fun _ _ => ⟨rfl, e50, (by decide : 4 + 0 ≤ _), (by decide : 45 + 0 ≤ _)⟩)
        dsimp only [Pt.U, Pt.locs, Pt.cells, Pt.slots] at X52 lq52 yq52 zq52 st52 hQ52
        subst lq52 yq52 zq52
        obtain ⟨rfl, Nq52, eq52⟩ := hQ52
        have N52 := Fr.app N50 Nq52
        refine own_go (st' := T52.setTop (mkF m 168 #[.val (.int xa), .val (.int xb), .val (.int xc), .val (.int (0 : Int32)), .val (.int (0 : Int32)), .val (.ref b29), .val (.int (1 : Int32))] [(.int (0 : Int32))])) (fun _ k => st52.trans k) ?_
        have hc53 : (0 : Int32) = (0 : Int32) := by decide
        refine own_go (st' := T52.setTop (mkF m 171 #[.val (.int xa), .val (.int xb), .val (.int xc), .val (.int (0 : Int32)), .val (.int (0 : Int32)), .val (.ref b29), .val (.int (1 : Int32))] [])) (fun _ k => XS.ifNo X52.here hx rfl (hb hby at_168) rfl ((if0 _ _).trans (teq hc53).2) k) ?_
        refine own_go (st' := T52.setTop (mkF m 172 #[.val (.int xa), .val (.int xb), .val (.int xc), .val (.int (0 : Int32)), .val (.int (0 : Int32)), .val (.ref b29), .val (.int (1 : Int32))] [(.int (1 : Int32))])) (fun _ k => XS.iconst X52.here hx rfl (hb hby at_171) k) ?_
        refine own_go (st' := T52.setTop (mkF m 176 #[.val (.int xa), .val (.int xb), .val (.int xc), .val (.int (0 : Int32)), .val (.int (0 : Int32)), .val (.ref b29), .val (.int (1 : Int32))] [(.int (1 : Int32))])) (fun _ k => XS.goto X52.here hx rfl (pc0 := 172) (pc' := 176) rfl (hb hby at_172) (by decide) (by decide) k) ?_
        refine own_go (st' := T52.setTop (mkF m 178 #[.val (.int xa), .val (.int xb), .val (.int xc), .val (.int (0 : Int32)), .val (.int (0 : Int32)), .val (.ref b29), .val (.int (1 : Int32))] [])) (fun _ k => XS.istore X52.here hx rfl (hb hby at_176) rfl (l' := #[.val (.int xa), .val (.int xb), .val (.int xc), .val (.int (0 : Int32)), .val (.int (0 : Int32)), .val (.ref b29), .val (.int (1 : Int32))]) rfl k) ?_
        refine own_go (st' := T52.setTop (mkF m 180 #[.val (.int xa), .val (.int xb), .val (.int xc), .val (.int (0 : Int32)), .val (.int (0 : Int32)), .val (.ref b29), .val (.int (1 : Int32))] [(.int (1 : Int32))])) (fun _ k => XS.iload X52.here hx rfl (hb hby at_178) rfl k) ?_
        obtain ⟨fs, hr, hrun, hended, hW, hsame⟩ := X52.leave (v := some (.int (1 : Int32))) (fun h => by rw [Bd.returns] at h; cases h)
        refine ⟨_, _, ?_, hP _ _ hrun hended ⟨_, _, rfl, ?_, ⟨_, rfl⟩, hW, hsame.mono (by decide) (by decide)⟩⟩
        · exact retN X52 hx (t := .boolean) Bd.returns (by simp) (hb hby at_180) hr
        · show Qrm0 Z xa xb xc h0 n0 _ T52.heap _
          rw [eq52]
          exact ⟨rfl, N52, trivial⟩
    · --
      rw [hm_13]
      refine own_go (st' := s₁.setTop (mkF m 15 #[.val (.int xa), .val (.int xb), .val (.int xc), .val (.int (0 : Int32)), .val (.int (2 : Int32)), .unset, .unset] [])) (fun _ k => XS.istore X0.here hx rfl (hb hby at_13) rfl (l' := #[.val (.int xa), .val (.int xb), .val (.int xc), .val (.int (0 : Int32)), .val (.int (2 : Int32)), .unset, .unset]) rfl k) ?_
      refine own_go (st' := s₁.setTop (mkF m 17 #[.val (.int xa), .val (.int xb), .val (.int xc), .val (.int (0 : Int32)), .val (.int (2 : Int32)), .unset, .unset] [(.int (2 : Int32))])) (fun _ k => XS.iload X0.here hx rfl (hb hby at_15) rfl k) ?_
      refine own_go (st' := s₁.setTop (mkF m 18 #[.val (.int xa), .val (.int xb), .val (.int xc), .val (.int (0 : Int32)), .val (.int (2 : Int32)), .unset, .unset] [(.int (0 : Int32)), (.int (2 : Int32))])) (fun _ k => XS.iloadN X0.here hx rfl (hb hby at_17) rfl k) ?_
      have hc55 : (0 : Int32) < (2 : Int32) := by decide
      refine own_go (st' := s₁.setTop (mkF m 21 #[.val (.int xa), .val (.int xb), .val (.int xc), .val (.int (0 : Int32)), .val (.int (2 : Int32)), .unset, .unset] [])) (fun _ k => XS.icmpNo X0.here hx rfl (hb hby at_18) rfl (tlt hc55).2.2.2 k) ?_
      refine own_go (st' := s₁.setTop (mkF m 22 #[.val (.int xa), .val (.int xb), .val (.int xc), .val (.int (0 : Int32)), .val (.int (2 : Int32)), .unset, .unset] [(.int (0 : Int32))])) (fun _ k => XS.iloadN X0.here hx rfl (hb hby at_21) rfl k) ?_
      refine own_go (st' := s₁.setTop (mkF m 24 #[.val (.int xa), .val (.int xb), .val (.int xc), .val (.int (0 : Int32)), .val (.int (0 : Int32)), .unset, .unset] [])) (fun _ k => XS.istore X0.here hx rfl (hb hby at_22) rfl (l' := #[.val (.int xa), .val (.int xb), .val (.int xc), .val (.int (0 : Int32)), .val (.int (0 : Int32)), .unset, .unset]) rfl k) ?_
      obtain ⟨T56, h56, X56, e56, E56, A56, D56, -, st56⟩ := newO X0 hx hZ hown (hw _ (List.mem_of_getElem? (i := 1) rfl)) (hw _ (List.mem_of_getElem? (i := 2) rfl)) (hw _ (List.mem_of_getElem? (i := 3) rfl)) e0 (g := (mkF m 24 #[.val (.int xa), .val (.int xb), .val (.int xc), .val (.int (0 : Int32)), .val (.int (0 : Int32)), .unset, .unset] [])) rfl (hb hby at_24) (by decide) (by decide)
      obtain ⟨b56, g56⟩ : ∃ z, z = h0.size := ⟨_, rfl⟩
      rw [← g56] at A56 D56 st56
      have sz56 : h0.size ≤ h56.size := E56.1
      have lt56 : @LT.lt Nat _ b56 h56.size := A56.lt
      have f57 : Fld Z h56 b56 "com/example/greenwood/greenwood/Environment" "globals" "Ljava/util/Map;" .null := D56 (Or.inr (hw _ (List.mem_of_getElem? (i := 27) rfl))) (ty := (.object "java/util/Map")) (by decide)
      have f58 : Fld Z h56 b56 "com/example/greenwood/greenwood/Environment" "locals" "[Ljava/lang/Object;" .null := D56 (Or.inl (hw _ (List.mem_of_getElem? (i := 31) rfl))) (ty := (.array (.object "java/lang/Object"))) (by decide)
      have f59 : Fld Z h56 b56 "com/example/greenwood/greenwood/Environment" "scopeStarts" "[I" .null := D56 (Or.inl (hw _ (List.mem_of_getElem? (i := 34) rfl))) (ty := (.array .int)) (by decide)
      have f60 : Fld Z h56 b56 "com/example/greenwood/greenwood/Environment" "openScopes" "I" (.int (0 : Int32)) := D56 (Or.inl (hw _ (List.mem_of_getElem? (i := 41) rfl))) (ty := .int) (by decide)
      have f61 : Fld Z h56 b56 "com/example/greenwood/greenwood/Environment" "localCount" "I" (.int (0 : Int32)) := D56 (Or.inl (hw _ (List.mem_of_getElem? (i := 48) rfl))) (ty := .int) (by decide)
      refine own_go (st' := T56.setTop (mkF m 27 #[.val (.int xa), .val (.int xb), .val (.int xc), .val (.int (0 : Int32)), .val (.int (0 : Int32)), .unset, .unset] [(.ref b56)])) (st56) ?_
      refine own_go (st' := T56.setTop (mkF m 28 #[.val (.int xa), .val (.int xb), .val (.int xc), .val (.int (0 : Int32)), .val (.int (0 : Int32)), .unset, .unset] [(.ref b56), (.ref b56)])) (fun _ k => XS.dup X56.here hx rfl (hb hby at_27) rfl rfl k) ?_
      obtain ⟨_, _, ⟨T62, LC62, kC62, nC62⟩, -, X62, ⟨Lc62, hQ62, lq62, yq62, zq62⟩, st62⟩ := X56.specialBack hx (y := (⟨"com/example/greenwood/greenwood/Environment", "<init>", "()V"⟩ : MethodName)) rfl hown (mvT hZ (hw _ (List.mem_of_getElem? (i := 4) rfl))) (mvT hZ (hw _ (List.mem_of_getElem? (i := 5) rfl))) (mvT hZ (hw _ (List.mem_of_getElem? (i := 6) rfl))) (by decide) (backOf (W := 1) (rm1 l Z a0 hw [] b56 h56 n0 (by omega) A56 f57 f58 f59 f60 f61 (by omega)) hZ (hw _ (List.mem_of_getElem? (i := 6) rfl)) (hw _ (List.mem_of_getElem? (i := 3) rfl)) (by decide) (by decide)) (g := (mkF m 28 #[.val (.int xa), .val (.int xb), .val (.int xc), .val (.int (0 : Int32)), .val (.int (0 : Int32)), .unset, .unset] [(.ref b56), (.ref b56)])) rfl (by rw [hml]; rfl) (Steps.refl _) (a := b56) (argsL := []) (rest := [(.ref b56)]) (lenOf pd_0 rfl) rfl (by show 2 * 0 + _ ≤ _; exact Nat.le_of_eq rfl) (hb hby at_28) (fun _ _ => ⟨rfl, e56, (by decide : 1 + 3 ≤ _), (by decide : 5 + 40 ≤ _)⟩)
      dsimp only [Pt.U, Pt.locs, Pt.cells, Pt.slots] at X62 lq62 yq62 zq62 st62 hQ62
      subst lq62 yq62 zq62
      obtain ⟨h62, e62⟩ : ∃ z, T62.heap = z := ⟨_, rfl⟩
      rw [e62] at hQ62
      obtain ⟨rl_62, rs_62, kl_62, ks_62, rfl, Nq62, K62, g62_0, g62_1, g62_2, g62_3, g62_4, g62_5, g62_6, g62_7, g62_8, g62_9, g62_10⟩ := hQ62
      have sz62 : h56.size ≤ h62.size := K62.1
      have N62 := Fr.app N0 Nq62
      have lt62_1 : @LT.lt Nat _ b56 h62.size := g62_0.lt
      have lt62_2 : @LT.lt Nat _ rl_62 h62.size := g62_5.lt
      have lt62_3 : @LT.lt Nat _ rs_62 h62.size := g62_6.lt
      refine own_go (st' := T62.setTop (mkF m 31 #[.val (.int xa), .val (.int xb), .val (.int xc), .val (.int (0 : Int32)), .val (.int (0 : Int32)), .unset, .unset] [(.ref b56)])) (fun _ k => st62.trans k) ?_
      refine own_go (st' := T62.setTop (mkF m 33 #[.val (.int xa), .val (.int xb), .val (.int xc), .val (.int (0 : Int32)), .val (.int (0 : Int32)), .val (.ref b56), .unset] [])) (fun _ k => XS.astore X62.here hx rfl (hb hby at_31) rfl rfl (l' := #[.val (.int xa), .val (.int xb), .val (.int xc), .val (.int (0 : Int32)), .val (.int (0 : Int32)), .val (.ref b56), .unset]) rfl k) ?_
      refine own_go (st' := T62.setTop (mkF m 34 #[.val (.int xa), .val (.int xb), .val (.int xc), .val (.int (0 : Int32)), .val (.int (0 : Int32)), .val (.ref b56), .unset] [(.int (0 : Int32))])) (fun _ k => XS.iloadN X62.here hx rfl (hb hby at_33) rfl k) ?_
      refine own_go (st' := T62.setTop (mkF m 35 #[.val (.int xa), .val (.int xb), .val (.int xc), .val (.int (0 : Int32)), .val (.int (0 : Int32)), .val (.ref b56), .unset] [(.int (1 : Int32)), (.int (0 : Int32))])) (fun _ k => XS.iconst X62.here hx rfl (hb hby at_34) k) ?_
      have hc63 : (0 : Int32) < (1 : Int32) := by decide
      refine own_go (st' := T62.setTop (mkF m 43 #[.val (.int xa), .val (.int xb), .val (.int xc), .val (.int (0 : Int32)), .val (.int (0 : Int32)), .val (.ref b56), .unset] [])) (fun _ k => XS.icmpYes X62.here hx rfl (pc0 := 35) (pc' := 43) rfl (hb hby at_35) rfl (tlt hc63).1 (by decide) (by decide) k) ?_
      refine own_go (st' := T62.setTop (mkF m 44 #[.val (.int xa), .val (.int xb), .val (.int xc), .val (.int (0 : Int32)), .val (.int (0 : Int32)), .val (.ref b56), .unset] [(.int (0 : Int32))])) (fun _ k => XS.iloadN X62.here hx rfl (hb hby at_43) rfl k) ?_
      refine own_go (st' := T62.setTop (mkF m 45 #[.val (.int xa), .val (.int xb), .val (.int xc), .val (.int (0 : Int32)), .val (.int (0 : Int32)), .val (.ref b56), .unset] [(.int (2 : Int32)), (.int (0 : Int32))])) (fun _ k => XS.iconst X62.here hx rfl (hb hby at_44) k) ?_
      have hc64 : (0 : Int32) < (2 : Int32) := by decide
      refine own_go (st' := T62.setTop (mkF m 53 #[.val (.int xa), .val (.int xb), .val (.int xc), .val (.int (0 : Int32)), .val (.int (0 : Int32)), .val (.ref b56), .unset] [])) (fun _ k => XS.icmpYes X62.here hx rfl (pc0 := 45) (pc' := 53) rfl (hb hby at_45) rfl (tlt hc64).1 (by decide) (by decide) k) ?_
      refine own_go (st' := T62.setTop (mkF m 54 #[.val (.int xa), .val (.int xb), .val (.int xc), .val (.int (0 : Int32)), .val (.int (0 : Int32)), .val (.ref b56), .unset] [(.int (0 : Int32))])) (fun _ k => XS.iloadN X62.here hx rfl (hb hby at_53) rfl k) ?_
      refine own_go (st' := T62.setTop (mkF m 55 #[.val (.int xa), .val (.int xb), .val (.int xc), .val (.int (0 : Int32)), .val (.int (0 : Int32)), .val (.ref b56), .unset] [(.int (1 : Int32)), (.int (0 : Int32))])) (fun _ k => XS.iconst X62.here hx rfl (hb hby at_54) k) ?_
      have hc65 : (0 : Int32) < (1 : Int32) := by decide
      refine own_go (st' := T62.setTop (mkF m 69 #[.val (.int xa), .val (.int xb), .val (.int xc), .val (.int (0 : Int32)), .val (.int (0 : Int32)), .val (.ref b56), .unset] [])) (fun _ k => XS.icmpYes X62.here hx rfl (pc0 := 55) (pc' := 69) rfl (hb hby at_55) rfl (tlt hc65).1 (by decide) (by decide) k) ?_
      refine own_go (st' := T62.setTop (mkF m 71 #[.val (.int xa), .val (.int xb), .val (.int xc), .val (.int (0 : Int32)), .val (.int (0 : Int32)), .val (.ref b56), .unset] [(.ref b56)])) (fun _ k => XS.aload X62.here hx rfl (hb hby at_69) rfl rfl k) ?_
      obtain ⟨cq66, kq66, q66a, q66b, q66c⟩ := isOf hZ e62 g62_0
      obtain ⟨_, _, ⟨T66, LC66, kC66, nC66⟩, -, X66, ⟨Lc66, hQ66, lq66, yq66, zq66⟩, st66⟩ := X62.virtualBack hx (y := (⟨"com/example/greenwood/greenwood/Environment", "inScope", "()Z"⟩ : MethodName)) (z := (⟨"com/example/greenwood/greenwood/Environment", "inScope", "()Z"⟩ : MethodName)) hown (mvT hZ (hw _ (List.mem_of_getElem? (i := 35) rfl))) (mvT hZ (hw _ (List.mem_of_getElem? (i := 36) rfl))) (notFace_of_selects (args := #[]) (mvT hZ (hw _ (List.mem_of_getElem? (i := 38) rfl)))) (mvT hZ (hw _ (List.mem_of_getElem? (i := 38) rfl))) (mvT hZ (hw _ (List.mem_of_getElem? (i := 37) rfl))) (by decide) (backOf (W := 0) (rm5_0 l Z a0 hw [] b56 h62 n0 (by omega) g62_1) hZ (hw _ (List.mem_of_getElem? (i := 39) rfl)) (hw _ (List.mem_of_getElem? (i := 3) rfl)) (by decide) (by decide)) q66a q66c (g := (mkF m 71 #[.val (.int xa), .val (.int xb), .val (.int xc), .val (.int (0 : Int32)), .val (.int (0 : Int32)), .val (.ref b56), .unset] [(.ref b56)])) rfl (by rw [hml]; rfl) (Steps.refl _) (argsL := []) (rest := []) (lenOf pd_3 rfl) rfl (by show 2 * 0 + _ ≤ _; exact Nat.le_of_eq rfl) (hb hby at_71) (fun _ _ => ⟨rfl, e62, (by decide : 4 + 0 ≤ _), (by decide : 45 + 0 ≤ _)⟩)
      dsimp only [Pt.U, Pt.locs, Pt.cells, Pt.slots] at X66 lq66 yq66 zq66 st66 hQ66
      subst lq66 yq66 zq66
      obtain ⟨rfl, Nq66, eq66⟩ := hQ66
      have N66 := Fr.app N62 Nq66
      refine own_go (st' := T66.setTop (mkF m 74 #[.val (.int xa), .val (.int xb), .val (.int xc), .val (.int (0 : Int32)), .val (.int (0 : Int32)), .val (.ref b56), .unset] [(.int (0 : Int32))])) (fun _ k => st66.trans k) ?_
      refine own_go (st' := T66.setTop (mkF m 75 #[.val (.int xa), .val (.int xb), .val (.int xc), .val (.int (0 : Int32)), .val (.int (0 : Int32)), .val (.ref b56), .unset] [(.int (0 : Int32)), (.int (0 : Int32))])) (fun _ k => XS.iloadN X66.here hx rfl (hb hby at_74) rfl k) ?_
      have hc67 : ¬ ((0 : Int32) < (0 : Int32)) := by decide
      refine own_go (st' := T66.setTop (mkF m 82 #[.val (.int xa), .val (.int xb), .val (.int xc), .val (.int (0 : Int32)), .val (.int (0 : Int32)), .val (.ref b56), .unset] [(.int (0 : Int32))])) (fun _ k => XS.ifYes X66.here hx rfl (pc0 := 75) (pc' := 82) rfl (hb hby at_75) rfl ((if0 _ _).trans (flt hc67).2.2.2) (by decide) (by decide) k) ?_
      refine own_go (st' := T66.setTop (mkF m 83 #[.val (.int xa), .val (.int xb), .val (.int xc), .val (.int (0 : Int32)), .val (.int (0 : Int32)), .val (.ref b56), .unset] [(.int (0 : Int32)), (.int (0 : Int32))])) (fun _ k => XS.iconst X66.here hx rfl (hb hby at_82) k) ?_
      have hc68 : (0 : Int32) = (0 : Int32) := by decide
      refine own_go (st' := T66.setTop (mkF m 86 #[.val (.int xa), .val (.int xb), .val (.int xc), .val (.int (0 : Int32)), .val (.int (0 : Int32)), .val (.ref b56), .unset] [])) (fun _ k => XS.icmpNo X66.here hx rfl (hb hby at_83) rfl (teq hc68).2 k) ?_
      refine own_go (st' := T66.setTop (mkF m 87 #[.val (.int xa), .val (.int xb), .val (.int xc), .val (.int (0 : Int32)), .val (.int (0 : Int32)), .val (.ref b56), .unset] [(.int (1 : Int32))])) (fun _ k => XS.iconst X66.here hx rfl (hb hby at_86) k) ?_
      refine own_go (st' := T66.setTop (mkF m 91 #[.val (.int xa), .val (.int xb), .val (.int xc), .val (.int (0 : Int32)), .val (.int (0 : Int32)), .val (.ref b56), .unset] [(.int (1 : Int32))])) (fun _ k => XS.goto X66.here hx rfl (pc0 := 87) (pc' := 91) rfl (hb hby at_87) (by decide) (by decide) k) ?_
      refine own_go (st' := T66.setTop (mkF m 93 #[.val (.int xa), .val (.int xb), .val (.int xc), .val (.int (0 : Int32)), .val (.int (0 : Int32)), .val (.ref b56), .val (.int (1 : Int32))] [])) (fun _ k => XS.istore X66.here hx rfl (hb hby at_91) rfl (l' := #[.val (.int xa), .val (.int xb), .val (.int xc), .val (.int (0 : Int32)), .val (.int (0 : Int32)), .val (.ref b56), .val (.int (1 : Int32))]) rfl k) ?_
      refine own_go (st' := T66.setTop (mkF m 95 #[.val (.int xa), .val (.int xb), .val (.int xc), .val (.int (0 : Int32)), .val (.int (0 : Int32)), .val (.ref b56), .val (.int (1 : Int32))] [(.int (0 : Int32))])) (fun _ k => XS.iload X66.here hx rfl (hb hby at_93) rfl k) ?_
      refine own_go (st' := T66.setTop (mkF m 96 #[.val (.int xa), .val (.int xb), .val (.int xc), .val (.int (0 : Int32)), .val (.int (0 : Int32)), .val (.ref b56), .val (.int (1 : Int32))] [(.int (1 : Int32)), (.int (0 : Int32))])) (fun _ k => XS.iconst X66.here hx rfl (hb hby at_95) k) ?_
      have hc69 : (0 : Int32) < (1 : Int32) := by decide
      refine own_go (st' := T66.setTop (mkF m 104 #[.val (.int xa), .val (.int xb), .val (.int xc), .val (.int (0 : Int32)), .val (.int (0 : Int32)), .val (.ref b56), .val (.int (1 : Int32))] [])) (fun _ k => XS.icmpYes X66.here hx rfl (pc0 := 96) (pc' := 104) rfl (hb hby at_96) rfl (tlt hc69).1 (by decide) (by decide) k) ?_
      refine own_go (st' := T66.setTop (mkF m 106 #[.val (.int xa), .val (.int xb), .val (.int xc), .val (.int (0 : Int32)), .val (.int (0 : Int32)), .val (.ref b56), .val (.int (1 : Int32))] [(.int (0 : Int32))])) (fun _ k => XS.iload X66.here hx rfl (hb hby at_104) rfl k) ?_
      refine own_go (st' := T66.setTop (mkF m 107 #[.val (.int xa), .val (.int xb), .val (.int xc), .val (.int (0 : Int32)), .val (.int (0 : Int32)), .val (.ref b56), .val (.int (1 : Int32))] [(.int (2 : Int32)), (.int (0 : Int32))])) (fun _ k => XS.iconst X66.here hx rfl (hb hby at_106) k) ?_
      have hc70 : (0 : Int32) < (2 : Int32) := by decide
      refine own_go (st' := T66.setTop (mkF m 115 #[.val (.int xa), .val (.int xb), .val (.int xc), .val (.int (0 : Int32)), .val (.int (0 : Int32)), .val (.ref b56), .val (.int (1 : Int32))] [])) (fun _ k => XS.icmpYes X66.here hx rfl (pc0 := 107) (pc' := 115) rfl (hb hby at_107) rfl (tlt hc70).1 (by decide) (by decide) k) ?_
      refine own_go (st' := T66.setTop (mkF m 117 #[.val (.int xa), .val (.int xb), .val (.int xc), .val (.int (0 : Int32)), .val (.int (0 : Int32)), .val (.ref b56), .val (.int (1 : Int32))] [(.int (1 : Int32))])) (fun _ k => XS.iload X66.here hx rfl (hb hby at_115) rfl k) ?_
      have hc71 : ¬ ((1 : Int32) = (0 : Int32)) := by decide
      refine own_go (st' := T66.setTop (mkF m 120 #[.val (.int xa), .val (.int xb), .val (.int xc), .val (.int (0 : Int32)), .val (.int (0 : Int32)), .val (.ref b56), .val (.int (1 : Int32))] [])) (fun _ k => XS.ifNo X66.here hx rfl (hb hby at_117) rfl ((if0 _ _).trans (feq hc71).1) k) ?_
      refine own_go (st' := T66.setTop (mkF m 122 #[.val (.int xa), .val (.int xb), .val (.int xc), .val (.int (0 : Int32)), .val (.int (0 : Int32)), .val (.ref b56), .val (.int (1 : Int32))] [(.ref b56)])) (fun _ k => XS.aload X66.here hx rfl (hb hby at_120) rfl rfl k) ?_
      obtain ⟨cq72, kq72, q72a, q72b, q72c⟩ := isOf hZ eq66 g62_0
      obtain ⟨_, _, ⟨T72, LC72, kC72, nC72⟩, -, X72, ⟨Lc72, hQ72, lq72, yq72, zq72⟩, st72⟩ := X66.virtualBack hx (y := (⟨"com/example/greenwood/greenwood/Environment", "inScope", "()Z"⟩ : MethodName)) (z := (⟨"com/example/greenwood/greenwood/Environment", "inScope", "()Z"⟩ : MethodName)) hown (mvT hZ (hw _ (List.mem_of_getElem? (i := 35) rfl))) (mvT hZ (hw _ (List.mem_of_getElem? (i := 36) rfl))) (notFace_of_selects (args := #[]) (mvT hZ (hw _ (List.mem_of_getElem? (i := 38) rfl)))) (mvT hZ (hw _ (List.mem_of_getElem? (i := 38) rfl))) (mvT hZ (hw _ (List.mem_of_getElem? (i := 37) rfl))) (by decide) (backOf (W := 0) (rm5_0 l Z a0 hw [] b56 h62 n0 (by omega) g62_1) hZ (hw _ (List.mem_of_getElem? (i := 39) rfl)) (hw _ (List.mem_of_getElem? (i := 3) rfl)) (by decide) (by decide)) q72a q72c (g := (mkF m 122 #[.val (.int xa), .val (.int xb), .val (.int xc), .val (.int (0 : Int32)), .val (.int (0 : Int32)), .val (.ref b56), .val (.int (1 : Int32))] [(.ref b56)])) rfl (by rw [hml]; rfl) (Steps.refl _) (argsL := []) (rest := []) (lenOf pd_3 rfl) rfl (by show 2 * 0 + _ ≤ _; exact Nat.le_of_eq rfl) (hb hby at_122) (fun _ _ => ⟨rfl, eq66, (by decide : 4 + 0 ≤ _), (by decide : 45 + 0 ≤ _)⟩)
      dsimp only [Pt.U, Pt.locs, Pt.cells, Pt.slots] at X72 lq72 yq72 zq72 st72 hQ72
      subst lq72 yq72 zq72
      obtain ⟨rfl, Nq72, eq72⟩ := hQ72
      have N72 := Fr.app N66 Nq72
      refine own_go (st' := T72.setTop (mkF m 125 #[.val (.int xa), .val (.int xb), .val (.int xc), .val (.int (0 : Int32)), .val (.int (0 : Int32)), .val (.ref b56), .val (.int (1 : Int32))] [(.int (0 : Int32))])) (fun _ k => st72.trans k) ?_
      refine own_go (st' := T72.setTop (mkF m 126 #[.val (.int xa), .val (.int xb), .val (.int xc), .val (.int (0 : Int32)), .val (.int (0 : Int32)), .val (.ref b56), .val (.int (1 : Int32))] [(.int (0 : Int32)), (.int (0 : Int32))])) (fun _ k => XS.iloadN X72.here hx rfl (hb hby at_125) rfl k) ?_
      refine own_go (st' := T72.setTop (mkF m 128 #[.val (.int xa), .val (.int xb), .val (.int xc), .val (.int (0 : Int32)), .val (.int (0 : Int32)), .val (.ref b56), .val (.int (1 : Int32))] [(.int (0 : Int32)), (.int (0 : Int32)), (.int (0 : Int32))])) (fun _ k => XS.iload X72.here hx rfl (hb hby at_126) rfl k) ?_
      refine own_go (st' := T72.setTop (mkF m 129 #[.val (.int xa), .val (.int xb), .val (.int xc), .val (.int (0 : Int32)), .val (.int (0 : Int32)), .val (.ref b56), .val (.int (1 : Int32))] [(.int (0 : Int32)), (.int (0 : Int32))])) (fun _ k => XS.isub X72.here hx rfl (hb hby at_128) rfl (by rw [show ((0 : Int32) - (0 : Int32)) = (0 : Int32) by decide]; exact k)) ?_
      have hc73 : ¬ ((0 : Int32) < (0 : Int32)) := by decide
      refine own_go (st' := T72.setTop (mkF m 136 #[.val (.int xa), .val (.int xb), .val (.int xc), .val (.int (0 : Int32)), .val (.int (0 : Int32)), .val (.ref b56), .val (.int (1 : Int32))] [(.int (0 : Int32))])) (fun _ k => XS.ifYes X72.here hx rfl (pc0 := 129) (pc' := 136) rfl (hb hby at_129) rfl ((if0 _ _).trans (flt hc73).2.2.2) (by decide) (by decide) k) ?_
      refine own_go (st' := T72.setTop (mkF m 137 #[.val (.int xa), .val (.int xb), .val (.int xc), .val (.int (0 : Int32)), .val (.int (0 : Int32)), .val (.ref b56), .val (.int (1 : Int32))] [(.int (0 : Int32)), (.int (0 : Int32))])) (fun _ k => XS.iconst X72.here hx rfl (hb hby at_136) k) ?_
      have hc74 : (0 : Int32) = (0 : Int32) := by decide
      refine own_go (st' := T72.setTop (mkF m 140 #[.val (.int xa), .val (.int xb), .val (.int xc), .val (.int (0 : Int32)), .val (.int (0 : Int32)), .val (.ref b56), .val (.int (1 : Int32))] [])) (fun _ k => XS.icmpNo X72.here hx rfl (hb hby at_137) rfl (teq hc74).2 k) ?_
      refine own_go (st' := T72.setTop (mkF m 141 #[.val (.int xa), .val (.int xb), .val (.int xc), .val (.int (0 : Int32)), .val (.int (0 : Int32)), .val (.ref b56), .val (.int (1 : Int32))] [(.int (1 : Int32))])) (fun _ k => XS.iconst X72.here hx rfl (hb hby at_140) k) ?_
      refine own_go (st' := T72.setTop (mkF m 145 #[.val (.int xa), .val (.int xb), .val (.int xc), .val (.int (0 : Int32)), .val (.int (0 : Int32)), .val (.ref b56), .val (.int (1 : Int32))] [(.int (1 : Int32))])) (fun _ k => XS.goto X72.here hx rfl (pc0 := 141) (pc' := 145) rfl (hb hby at_141) (by decide) (by decide) k) ?_
      refine own_go (st' := T72.setTop (mkF m 147 #[.val (.int xa), .val (.int xb), .val (.int xc), .val (.int (0 : Int32)), .val (.int (0 : Int32)), .val (.ref b56), .val (.int (1 : Int32))] [])) (fun _ k => XS.istore X72.here hx rfl (hb hby at_145) rfl (l' := #[.val (.int xa), .val (.int xb), .val (.int xc), .val (.int (0 : Int32)), .val (.int (0 : Int32)), .val (.ref b56), .val (.int (1 : Int32))]) rfl k) ?_
      refine own_go (st' := T72.setTop (mkF m 148 #[.val (.int xa), .val (.int xb), .val (.int xc), .val (.int (0 : Int32)), .val (.int (0 : Int32)), .val (.ref b56), .val (.int (1 : Int32))] [(.int xc)])) (fun _ k => XS.iloadN X72.here hx rfl (hb hby at_147) rfl k) ?_
      refine own_go (st' := T72.setTop (mkF m 149 #[.val (.int xa), .val (.int xb), .val (.int xc), .val (.int (0 : Int32)), .val (.int (0 : Int32)), .val (.ref b56), .val (.int (1 : Int32))] [(.int (2 : Int32)), (.int xc)])) (fun _ k => XS.iconst X72.here hx rfl (hb hby at_148) k) ?_
      refine own_go (st' := T72.setTop (mkF m 150 #[.val (.int xa), .val (.int xb), .val (.int xc), .val (.int (0 : Int32)), .val (.int (0 : Int32)), .val (.ref b56), .val (.int (1 : Int32))] [(.int (xc &&& (2 : Int32)))])) (fun _ k => XS.iand X72.here hx rfl (hb hby at_149) rfl k) ?_
      by_cases hc75 : (xc &&& (2 : Int32)) = (0 : Int32)
      · --
        refine own_go (st' := T72.setTop (mkF m 178 #[.val (.int xa), .val (.int xb), .val (.int xc), .val (.int (0 : Int32)), .val (.int (0 : Int32)), .val (.ref b56), .val (.int (1 : Int32))] [])) (fun _ k => XS.ifYes X72.here hx rfl (pc0 := 150) (pc' := 178) rfl (hb hby at_150) rfl ((if0 _ _).trans (teq hc75).1) (by decide) (by decide) k) ?_
        refine own_go (st' := T72.setTop (mkF m 180 #[.val (.int xa), .val (.int xb), .val (.int xc), .val (.int (0 : Int32)), .val (.int (0 : Int32)), .val (.ref b56), .val (.int (1 : Int32))] [(.int (1 : Int32))])) (fun _ k => XS.iload X72.here hx rfl (hb hby at_178) rfl k) ?_
        obtain ⟨fs, hr, hrun, hended, hW, hsame⟩ := X72.leave (v := some (.int (1 : Int32))) (fun h => by rw [Bd.returns] at h; cases h)
        refine ⟨_, _, ?_, hP _ _ hrun hended ⟨_, _, rfl, ?_, ⟨_, rfl⟩, hW, hsame.mono (by decide) (by decide)⟩⟩
        · exact retN X72 hx (t := .boolean) Bd.returns (by simp) (hb hby at_180) hr
        · show Qrm0 Z xa xb xc h0 n0 _ T72.heap _
          rw [eq72]
          exact ⟨rfl, N72, trivial⟩
      · --
        refine own_go (st' := T72.setTop (mkF m 153 #[.val (.int xa), .val (.int xb), .val (.int xc), .val (.int (0 : Int32)), .val (.int (0 : Int32)), .val (.ref b56), .val (.int (1 : Int32))] [])) (fun _ k => XS.ifNo X72.here hx rfl (hb hby at_150) rfl ((if0 _ _).trans (feq hc75).1) k) ?_
        refine own_go (st' := T72.setTop (mkF m 155 #[.val (.int xa), .val (.int xb), .val (.int xc), .val (.int (0 : Int32)), .val (.int (0 : Int32)), .val (.ref b56), .val (.int (1 : Int32))] [(.ref b56)])) (fun _ k => XS.aload X72.here hx rfl (hb hby at_153) rfl rfl k) ?_
        obtain ⟨cq77, kq77, q77a, q77b, q77c⟩ := isOf hZ eq72 g62_0
        obtain ⟨_, _, ⟨T77, LC77, kC77, nC77⟩, -, X77, ⟨Lc77, hQ77, lq77, yq77, zq77⟩, st77⟩ := X72.virtualBack hx (y := (⟨"com/example/greenwood/greenwood/Environment", "closeScopes", "()V"⟩ : MethodName)) (z := (⟨"com/example/greenwood/greenwood/Environment", "closeScopes", "()V"⟩ : MethodName)) hown (mvT hZ (hw _ (List.mem_of_getElem? (i := 42) rfl))) (mvT hZ (hw _ (List.mem_of_getElem? (i := 43) rfl))) (notFace_of_selects (args := #[]) (mvT hZ (hw _ (List.mem_of_getElem? (i := 45) rfl)))) (mvT hZ (hw _ (List.mem_of_getElem? (i := 45) rfl))) (mvT hZ (hw _ (List.mem_of_getElem? (i := 44) rfl))) (by decide) (backOf (W := 0) (rm6_0 l Z a0 hw [] b56 (0 : Int32) rl_62 rs_62 kl_62 ks_62 h62 n0 (by omega) g62_0 g62_1 g62_2 g62_3 g62_4 g62_5 g62_6 (by omega) (by omega) (by omega) (by first | assumption | exact Ne.symm (by assumption) | (apply Nat.ne_of_lt; omega) | (apply Nat.ne_of_gt; omega)) (by first | assumption | exact Ne.symm (by assumption) | (apply Nat.ne_of_lt; omega) | (apply Nat.ne_of_gt; omega)) (by first | assumption | exact Ne.symm (by assumption) | (apply Nat.ne_of_lt; omega) | (apply Nat.ne_of_gt; omega))) hZ (hw _ (List.mem_of_getElem? (i := 46) rfl)) (hw _ (List.mem_of_getElem? (i := 3) rfl)) (by decide) (by decide)) q77a q77c (g := (mkF m 155 #[.val (.int xa), .val (.int xb), .val (.int xc), .val (.int (0 : Int32)), .val (.int (0 : Int32)), .val (.ref b56), .val (.int (1 : Int32))] [(.ref b56)])) rfl (by rw [hml]; rfl) (Steps.refl _) (argsL := []) (rest := []) (lenOf pd_0 rfl) rfl (by show 2 * 0 + _ ≤ _; exact Nat.le_of_eq rfl) (hb hby at_155) (fun _ _ => ⟨rfl, eq72, (by decide : 4 + 0 ≤ _), (by decide : 45 + 0 ≤ _)⟩)
        dsimp only [Pt.U, Pt.locs, Pt.cells, Pt.slots] at X77 lq77 yq77 zq77 st77 hQ77
        subst lq77 yq77 zq77
        obtain ⟨h77, e77⟩ : ∃ z, T77.heap = z := ⟨_, rfl⟩
        rw [e77] at hQ77
        obtain ⟨rfl, Nq77, K77, g77_0, g77_1, g77_2, g77_3, g77_4, g77_5⟩ := hQ77
        have sz77 : h62.size ≤ h77.size := K77.1
        have N77 := Fr.app N72 Nq77
        have lt77_1 : @LT.lt Nat _ b56 h77.size := g77_0.lt
        have lt77_2 : @LT.lt Nat _ rl_62 h77.size := g77_5.lt
        refine own_go (st' := T77.setTop (mkF m 158 #[.val (.int xa), .val (.int xb), .val (.int xc), .val (.int (0 : Int32)), .val (.int (0 : Int32)), .val (.ref b56), .val (.int (1 : Int32))] [])) (fun _ k => st77.trans k) ?_
        refine own_go (st' := T77.setTop (mkF m 160 #[.val (.int xa), .val (.int xb), .val (.int xc), .val (.int (0 : Int32)), .val (.int (0 : Int32)), .val (.ref b56), .val (.int (1 : Int32))] [(.int (1 : Int32))])) (fun _ k => XS.iload X77.here hx rfl (hb hby at_158) rfl k) ?_
        have hc78 : ¬ ((1 : Int32) = (0 : Int32)) := by decide
        refine own_go (st' := T77.setTop (mkF m 163 #[.val (.int xa), .val (.int xb), .val (.int xc), .val (.int (0 : Int32)), .val (.int (0 : Int32)), .val (.ref b56), .val (.int (1 : Int32))] [])) (fun _ k => XS.ifNo X77.here hx rfl (hb hby at_160) rfl ((if0 _ _).trans (feq hc78).1) k) ?_
        refine own_go (st' := T77.setTop (mkF m 165 #[.val (.int xa), .val (.int xb), .val (.int xc), .val (.int (0 : Int32)), .val (.int (0 : Int32)), .val (.ref b56), .val (.int (1 : Int32))] [(.ref b56)])) (fun _ k => XS.aload X77.here hx rfl (hb hby at_163) rfl rfl k) ?_
        obtain ⟨cq79, kq79, q79a, q79b, q79c⟩ := isOf hZ e77 g77_0
        obtain ⟨_, _, ⟨T79, LC79, kC79, nC79⟩, -, X79, ⟨Lc79, hQ79, lq79, yq79, zq79⟩, st79⟩ := X77.virtualBack hx (y := (⟨"com/example/greenwood/greenwood/Environment", "inScope", "()Z"⟩ : MethodName)) (z := (⟨"com/example/greenwood/greenwood/Environment", "inScope", "()Z"⟩ : MethodName)) hown (mvT hZ (hw _ (List.mem_of_getElem? (i := 35) rfl))) (mvT hZ (hw _ (List.mem_of_getElem? (i := 36) rfl))) (notFace_of_selects (args := #[]) (mvT hZ (hw _ (List.mem_of_getElem? (i := 38) rfl)))) (mvT hZ (hw _ (List.mem_of_getElem? (i := 38) rfl))) (mvT hZ (hw _ (List.mem_of_getElem? (i := 37) rfl))) (by decide) (backOf (W := 0) (rm5_0 l Z a0 hw [] b56 h77 n0 (by omega) g77_1) hZ (hw _ (List.mem_of_getElem? (i := 39) rfl)) (hw _ (List.mem_of_getElem? (i := 3) rfl)) (by decide) (by decide)) q79a q79c (g := (mkF m 165 #[.val (.int xa), .val (.int xb), .val (.int xc), .val (.int (0 : Int32)), .val (.int (0 : Int32)), .val (.ref b56), .val (.int (1 : Int32))] [(.ref b56)])) rfl (by rw [hml]; rfl) (Steps.refl _) (argsL := []) (rest := []) (lenOf pd_3 rfl) rfl (by show 2 * 0 + _ ≤ _; exact Nat.le_of_eq rfl) (hb hby at_165) (fun _ _ => ⟨rfl, e77, (by decide : 4 + 0 ≤ _), (by decide : 45 + 0 ≤ _)⟩)
        dsimp only [Pt.U, Pt.locs, Pt.cells, Pt.slots] at X79 lq79 yq79 zq79 st79 hQ79
        subst lq79 yq79 zq79
        obtain ⟨rfl, Nq79, eq79⟩ := hQ79
        have N79 := Fr.app N77 Nq79
        refine own_go (st' := T79.setTop (mkF m 168 #[.val (.int xa), .val (.int xb), .val (.int xc), .val (.int (0 : Int32)), .val (.int (0 : Int32)), .val (.ref b56), .val (.int (1 : Int32))] [(.int (0 : Int32))])) (fun _ k => st79.trans k) ?_
        have hc80 : (0 : Int32) = (0 : Int32) := by decide
        refine own_go (st' := T79.setTop (mkF m 171 #[.val (.int xa), .val (.int xb), .val (.int xc), .val (.int (0 : Int32)), .val (.int (0 : Int32)), .val (.ref b56), .val (.int (1 : Int32))] [])) (fun _ k => XS.ifNo X79.here hx rfl (hb hby at_168) rfl ((if0 _ _).trans (teq hc80).2) k) ?_
        refine own_go (st' := T79.setTop (mkF m 172 #[.val (.int xa), .val (.int xb), .val (.int xc), .val (.int (0 : Int32)), .val (.int (0 : Int32)), .val (.ref b56), .val (.int (1 : Int32))] [(.int (1 : Int32))])) (fun _ k => XS.iconst X79.here hx rfl (hb hby at_171) k) ?_
        refine own_go (st' := T79.setTop (mkF m 176 #[.val (.int xa), .val (.int xb), .val (.int xc), .val (.int (0 : Int32)), .val (.int (0 : Int32)), .val (.ref b56), .val (.int (1 : Int32))] [(.int (1 : Int32))])) (fun _ k => XS.goto X79.here hx rfl (pc0 := 172) (pc' := 176) rfl (hb hby at_172) (by decide) (by decide) k) ?_
        refine own_go (st' := T79.setTop (mkF m 178 #[.val (.int xa), .val (.int xb), .val (.int xc), .val (.int (0 : Int32)), .val (.int (0 : Int32)), .val (.ref b56), .val (.int (1 : Int32))] [])) (fun _ k => XS.istore X79.here hx rfl (hb hby at_176) rfl (l' := #[.val (.int xa), .val (.int xb), .val (.int xc), .val (.int (0 : Int32)), .val (.int (0 : Int32)), .val (.ref b56), .val (.int (1 : Int32))]) rfl k) ?_
        refine own_go (st' := T79.setTop (mkF m 180 #[.val (.int xa), .val (.int xb), .val (.int xc), .val (.int (0 : Int32)), .val (.int (0 : Int32)), .val (.ref b56), .val (.int (1 : Int32))] [(.int (1 : Int32))])) (fun _ k => XS.iload X79.here hx rfl (hb hby at_178) rfl k) ?_
        obtain ⟨fs, hr, hrun, hended, hW, hsame⟩ := X79.leave (v := some (.int (1 : Int32))) (fun h => by rw [Bd.returns] at h; cases h)
        refine ⟨_, _, ?_, hP _ _ hrun hended ⟨_, _, rfl, ?_, ⟨_, rfl⟩, hW, hsame.mono (by decide) (by decide)⟩⟩
        · exact retN X79 hx (t := .boolean) Bd.returns (by simp) (hb hby at_180) hr
        · show Qrm0 Z xa xb xc h0 n0 _ T79.heap _
          rw [eq79]
          exact ⟨rfl, N79, trivial⟩
    · --
      exact absurd hm_13 (own_pos xb)
  · --
    rw [hm_6]
    refine own_go (st' := s₁.setTop (mkF m 7 #[.val (.int xa), .val (.int xb), .val (.int xc), .val (.int (1 : Int32)), .unset, .unset, .unset] [])) (fun _ k => XS.istoreN X0.here hx rfl (hb hby at_6) rfl (l' := #[.val (.int xa), .val (.int xb), .val (.int xc), .val (.int (1 : Int32)), .unset, .unset, .unset]) rfl k) ?_
    refine own_go (st' := s₁.setTop (mkF m 8 #[.val (.int xa), .val (.int xb), .val (.int xc), .val (.int (1 : Int32)), .unset, .unset, .unset] [(.int xb)])) (fun _ k => XS.iloadN X0.here hx rfl (hb hby at_7) rfl k) ?_
    refine own_go (st' := s₁.setTop (mkF m 10 #[.val (.int xa), .val (.int xb), .val (.int xc), .val (.int (1 : Int32)), .unset, .unset, .unset] [(.int (2147483647 : Int32)), (.int xb)])) (X0.ldcInt hx hown (mvT hZ (hw _ (List.mem_of_getElem? (i := 0) rfl))) (g := (mkF m 8 #[.val (.int xa), .val (.int xb), .val (.int xc), .val (.int (1 : Int32)), .unset, .unset, .unset] [(.int xb)])) rfl (hb hby at_8)) ?_
    refine own_go (st' := s₁.setTop (mkF m 11 #[.val (.int xa), .val (.int xb), .val (.int xc), .val (.int (1 : Int32)), .unset, .unset, .unset] [(.int (xb &&& (2147483647 : Int32)))])) (fun _ k => XS.iand X0.here hx rfl (hb hby at_10) rfl k) ?_
    refine own_go (st' := s₁.setTop (mkF m 12 #[.val (.int xa), .val (.int xb), .val (.int xc), .val (.int (1 : Int32)), .unset, .unset, .unset] [(.int (3 : Int32)), (.int (xb &&& (2147483647 : Int32)))])) (fun _ k => XS.iconst X0.here hx rfl (hb hby at_11) k) ?_
    refine own_go (st' := s₁.setTop (mkF m 13 #[.val (.int xa), .val (.int xb), .val (.int xc), .val (.int (1 : Int32)), .unset, .unset, .unset] [(.int ((xb &&& (2147483647 : Int32)) % (3 : Int32)))])) (fun _ k => iremM X0 hx rfl (hb hby at_12) rfl (by decide) k) ?_
    rcases own_mod3 (xb &&& (2147483647 : Int32)) with hm_13 | hm_13 | hm_13 | hm_13
    · --
      rw [hm_13]
      refine own_go (st' := s₁.setTop (mkF m 15 #[.val (.int xa), .val (.int xb), .val (.int xc), .val (.int (1 : Int32)), .val (.int (0 : Int32)), .unset, .unset] [])) (fun _ k => XS.istore X0.here hx rfl (hb hby at_13) rfl (l' := #[.val (.int xa), .val (.int xb), .val (.int xc), .val (.int (1 : Int32)), .val (.int (0 : Int32)), .unset, .unset]) rfl k) ?_
      refine own_go (st' := s₁.setTop (mkF m 17 #[.val (.int xa), .val (.int xb), .val (.int xc), .val (.int (1 : Int32)), .val (.int (0 : Int32)), .unset, .unset] [(.int (0 : Int32))])) (fun _ k => XS.iload X0.here hx rfl (hb hby at_15) rfl k) ?_
      refine own_go (st' := s₁.setTop (mkF m 18 #[.val (.int xa), .val (.int xb), .val (.int xc), .val (.int (1 : Int32)), .val (.int (0 : Int32)), .unset, .unset] [(.int (1 : Int32)), (.int (0 : Int32))])) (fun _ k => XS.iloadN X0.here hx rfl (hb hby at_17) rfl k) ?_
      have hc82 : ¬ ((1 : Int32) < (0 : Int32)) := by decide
      refine own_go (st' := s₁.setTop (mkF m 24 #[.val (.int xa), .val (.int xb), .val (.int xc), .val (.int (1 : Int32)), .val (.int (0 : Int32)), .unset, .unset] [])) (fun _ k => XS.icmpYes X0.here hx rfl (pc0 := 18) (pc' := 24) rfl (hb hby at_18) rfl (flt hc82).2.2.2 (by decide) (by decide) k) ?_
      obtain ⟨T83, h83, X83, e83, E83, A83, D83, -, st83⟩ := newO X0 hx hZ hown (hw _ (List.mem_of_getElem? (i := 1) rfl)) (hw _ (List.mem_of_getElem? (i := 2) rfl)) (hw _ (List.mem_of_getElem? (i := 3) rfl)) e0 (g := (mkF m 24 #[.val (.int xa), .val (.int xb), .val (.int xc), .val (.int (1 : Int32)), .val (.int (0 : Int32)), .unset, .unset] [])) rfl (hb hby at_24) (by decide) (by decide)
      obtain ⟨b83, g83⟩ : ∃ z, z = h0.size := ⟨_, rfl⟩
      rw [← g83] at A83 D83 st83
      have sz83 : h0.size ≤ h83.size := E83.1
      have lt83 : @LT.lt Nat _ b83 h83.size := A83.lt
      have f84 : Fld Z h83 b83 "com/example/greenwood/greenwood/Environment" "globals" "Ljava/util/Map;" .null := D83 (Or.inr (hw _ (List.mem_of_getElem? (i := 27) rfl))) (ty := (.object "java/util/Map")) (by decide)
      have f85 : Fld Z h83 b83 "com/example/greenwood/greenwood/Environment" "locals" "[Ljava/lang/Object;" .null := D83 (Or.inl (hw _ (List.mem_of_getElem? (i := 31) rfl))) (ty := (.array (.object "java/lang/Object"))) (by decide)
      have f86 : Fld Z h83 b83 "com/example/greenwood/greenwood/Environment" "scopeStarts" "[I" .null := D83 (Or.inl (hw _ (List.mem_of_getElem? (i := 34) rfl))) (ty := (.array .int)) (by decide)
      have f87 : Fld Z h83 b83 "com/example/greenwood/greenwood/Environment" "openScopes" "I" (.int (0 : Int32)) := D83 (Or.inl (hw _ (List.mem_of_getElem? (i := 41) rfl))) (ty := .int) (by decide)
      have f88 : Fld Z h83 b83 "com/example/greenwood/greenwood/Environment" "localCount" "I" (.int (0 : Int32)) := D83 (Or.inl (hw _ (List.mem_of_getElem? (i := 48) rfl))) (ty := .int) (by decide)
      refine own_go (st' := T83.setTop (mkF m 27 #[.val (.int xa), .val (.int xb), .val (.int xc), .val (.int (1 : Int32)), .val (.int (0 : Int32)), .unset, .unset] [(.ref b83)])) (st83) ?_
      refine own_go (st' := T83.setTop (mkF m 28 #[.val (.int xa), .val (.int xb), .val (.int xc), .val (.int (1 : Int32)), .val (.int (0 : Int32)), .unset, .unset] [(.ref b83), (.ref b83)])) (fun _ k => XS.dup X83.here hx rfl (hb hby at_27) rfl rfl k) ?_
      obtain ⟨_, _, ⟨T89, LC89, kC89, nC89⟩, -, X89, ⟨Lc89, hQ89, lq89, yq89, zq89⟩, st89⟩ := X83.specialBack hx (y := (⟨"com/example/greenwood/greenwood/Environment", "<init>", "()V"⟩ : MethodName)) rfl hown (mvT hZ (hw _ (List.mem_of_getElem? (i := 4) rfl))) (mvT hZ (hw _ (List.mem_of_getElem? (i := 5) rfl))) (mvT hZ (hw _ (List.mem_of_getElem? (i := 6) rfl))) (by decide) (backOf (W := 1) (rm1 l Z a0 hw [] b83 h83 n0 (by omega) A83 f84 f85 f86 f87 f88 (by omega)) hZ (hw _ (List.mem_of_getElem? (i := 6) rfl)) (hw _ (List.mem_of_getElem? (i := 3) rfl)) (by decide) (by decide)) (g := (mkF m 28 #[.val (.int xa), .val (.int xb), .val (.int xc), .val (.int (1 : Int32)), .val (.int (0 : Int32)), .unset, .unset] [(.ref b83), (.ref b83)])) rfl (by rw [hml]; rfl) (Steps.refl _) (a := b83) (argsL := []) (rest := [(.ref b83)]) (lenOf pd_0 rfl) rfl (by show 2 * 0 + _ ≤ _; exact Nat.le_of_eq rfl) (hb hby at_28) (fun _ _ => ⟨rfl, e83, (by decide : 1 + 3 ≤ _), (by decide : 5 + 40 ≤ _)⟩)
      dsimp only [Pt.U, Pt.locs, Pt.cells, Pt.slots] at X89 lq89 yq89 zq89 st89 hQ89
      subst lq89 yq89 zq89
      obtain ⟨h89, e89⟩ : ∃ z, T89.heap = z := ⟨_, rfl⟩
      rw [e89] at hQ89
      obtain ⟨rl_89, rs_89, kl_89, ks_89, rfl, Nq89, K89, g89_0, g89_1, g89_2, g89_3, g89_4, g89_5, g89_6, g89_7, g89_8, g89_9, g89_10⟩ := hQ89
      have sz89 : h83.size ≤ h89.size := K89.1
      have N89 := Fr.app N0 Nq89
      have lt89_1 : @LT.lt Nat _ b83 h89.size := g89_0.lt
      have lt89_2 : @LT.lt Nat _ rl_89 h89.size := g89_5.lt
      have lt89_3 : @LT.lt Nat _ rs_89 h89.size := g89_6.lt
      refine own_go (st' := T89.setTop (mkF m 31 #[.val (.int xa), .val (.int xb), .val (.int xc), .val (.int (1 : Int32)), .val (.int (0 : Int32)), .unset, .unset] [(.ref b83)])) (fun _ k => st89.trans k) ?_
      refine own_go (st' := T89.setTop (mkF m 33 #[.val (.int xa), .val (.int xb), .val (.int xc), .val (.int (1 : Int32)), .val (.int (0 : Int32)), .val (.ref b83), .unset] [])) (fun _ k => XS.astore X89.here hx rfl (hb hby at_31) rfl rfl (l' := #[.val (.int xa), .val (.int xb), .val (.int xc), .val (.int (1 : Int32)), .val (.int (0 : Int32)), .val (.ref b83), .unset]) rfl k) ?_
      refine own_go (st' := T89.setTop (mkF m 34 #[.val (.int xa), .val (.int xb), .val (.int xc), .val (.int (1 : Int32)), .val (.int (0 : Int32)), .val (.ref b83), .unset] [(.int (1 : Int32))])) (fun _ k => XS.iloadN X89.here hx rfl (hb hby at_33) rfl k) ?_
      refine own_go (st' := T89.setTop (mkF m 35 #[.val (.int xa), .val (.int xb), .val (.int xc), .val (.int (1 : Int32)), .val (.int (0 : Int32)), .val (.ref b83), .unset] [(.int (1 : Int32)), (.int (1 : Int32))])) (fun _ k => XS.iconst X89.here hx rfl (hb hby at_34) k) ?_
      have hc90 : ¬ ((1 : Int32) < (1 : Int32)) := by decide
      refine own_go (st' := T89.setTop (mkF m 38 #[.val (.int xa), .val (.int xb), .val (.int xc), .val (.int (1 : Int32)), .val (.int (0 : Int32)), .val (.ref b83), .unset] [])) (fun _ k => XS.icmpNo X89.here hx rfl (hb hby at_35) rfl (flt hc90).1 k) ?_
      refine own_go (st' := T89.setTop (mkF m 40 #[.val (.int xa), .val (.int xb), .val (.int xc), .val (.int (1 : Int32)), .val (.int (0 : Int32)), .val (.ref b83), .unset] [(.ref b83)])) (fun _ k => XS.aload X89.here hx rfl (hb hby at_38) rfl rfl k) ?_
      obtain ⟨cq91, kq91, q91a, q91b, q91c⟩ := isOf hZ e89 g89_0
      obtain ⟨_, _, ⟨T91, LC91, kC91, nC91⟩, -, X91, ⟨Lc91, hQ91, lq91, yq91, zq91⟩, st91⟩ := X89.virtualBack hx (y := (⟨"com/example/greenwood/greenwood/Environment", "openScope", "()V"⟩ : MethodName)) (z := (⟨"com/example/greenwood/greenwood/Environment", "openScope", "()V"⟩ : MethodName)) hown (mvT hZ (hw _ (List.mem_of_getElem? (i := 56) rfl))) (mvT hZ (hw _ (List.mem_of_getElem? (i := 57) rfl))) (notFace_of_selects (args := #[]) (mvT hZ (hw _ (List.mem_of_getElem? (i := 59) rfl)))) (mvT hZ (hw _ (List.mem_of_getElem? (i := 59) rfl))) (mvT hZ (hw _ (List.mem_of_getElem? (i := 58) rfl))) (by decide) (backOf (W := 0) (rm9_0 l Z a0 hw [] b83 rl_89 rs_89 kl_89 ks_89 h89 n0 (by omega) g89_0 g89_1 g89_2 g89_3 g89_4 g89_5 g89_6 (by omega) (by omega) (by omega) (by first | assumption | exact Ne.symm (by assumption) | (apply Nat.ne_of_lt; omega) | (apply Nat.ne_of_gt; omega)) (by first | assumption | exact Ne.symm (by assumption) | (apply Nat.ne_of_lt; omega) | (apply Nat.ne_of_gt; omega)) (by first | assumption | exact Ne.symm (by assumption) | (apply Nat.ne_of_lt; omega) | (apply Nat.ne_of_gt; omega))) hZ (hw _ (List.mem_of_getElem? (i := 60) rfl)) (hw _ (List.mem_of_getElem? (i := 3) rfl)) (by decide) (by decide)) q91a q91c (g := (mkF m 40 #[.val (.int xa), .val (.int xb), .val (.int xc), .val (.int (1 : Int32)), .val (.int (0 : Int32)), .val (.ref b83), .unset] [(.ref b83)])) rfl (by rw [hml]; rfl) (Steps.refl _) (argsL := []) (rest := []) (lenOf pd_0 rfl) rfl (by show 2 * 0 + _ ≤ _; exact Nat.le_of_eq rfl) (hb hby at_40) (fun _ _ => ⟨rfl, e89, (by decide : 4 + 0 ≤ _), (by decide : 45 + 0 ≤ _)⟩)
      dsimp only [Pt.U, Pt.locs, Pt.cells, Pt.slots] at X91 lq91 yq91 zq91 st91 hQ91
      subst lq91 yq91 zq91
      obtain ⟨h91, e91⟩ : ∃ z, T91.heap = z := ⟨_, rfl⟩
      rw [e91] at hQ91
      obtain ⟨rfl, Nq91, K91, g91_0, g91_1, g91_2, g91_3, g91_4, g91_5⟩ := hQ91
      have sz91 : h89.size ≤ h91.size := K91.1
      have N91 := Fr.app N89 Nq91
      have lt91_1 : @LT.lt Nat _ b83 h91.size := g91_0.lt
      have lt91_2 : @LT.lt Nat _ rs_89 h91.size := g91_5.lt
      refine own_go (st' := T91.setTop (mkF m 43 #[.val (.int xa), .val (.int xb), .val (.int xc), .val (.int (1 : Int32)), .val (.int (0 : Int32)), .val (.ref b83), .unset] [])) (fun _ k => st91.trans k) ?_
      refine own_go (st' := T91.setTop (mkF m 44 #[.val (.int xa), .val (.int xb), .val (.int xc), .val (.int (1 : Int32)), .val (.int (0 : Int32)), .val (.ref b83), .unset] [(.int (1 : Int32))])) (fun _ k => XS.iloadN X91.here hx rfl (hb hby at_43) rfl k) ?_
      refine own_go (st' := T91.setTop (mkF m 45 #[.val (.int xa), .val (.int xb), .val (.int xc), .val (.int (1 : Int32)), .val (.int (0 : Int32)), .val (.ref b83), .unset] [(.int (2 : Int32)), (.int (1 : Int32))])) (fun _ k => XS.iconst X91.here hx rfl (hb hby at_44) k) ?_
      have hc92 : (1 : Int32) < (2 : Int32) := by decide
      refine own_go (st' := T91.setTop (mkF m 53 #[.val (.int xa), .val (.int xb), .val (.int xc), .val (.int (1 : Int32)), .val (.int (0 : Int32)), .val (.ref b83), .unset] [])) (fun _ k => XS.icmpYes X91.here hx rfl (pc0 := 45) (pc' := 53) rfl (hb hby at_45) rfl (tlt hc92).1 (by decide) (by decide) k) ?_
      refine own_go (st' := T91.setTop (mkF m 54 #[.val (.int xa), .val (.int xb), .val (.int xc), .val (.int (1 : Int32)), .val (.int (0 : Int32)), .val (.ref b83), .unset] [(.int (1 : Int32))])) (fun _ k => XS.iloadN X91.here hx rfl (hb hby at_53) rfl k) ?_
      refine own_go (st' := T91.setTop (mkF m 55 #[.val (.int xa), .val (.int xb), .val (.int xc), .val (.int (1 : Int32)), .val (.int (0 : Int32)), .val (.ref b83), .unset] [(.int (1 : Int32)), (.int (1 : Int32))])) (fun _ k => XS.iconst X91.here hx rfl (hb hby at_54) k) ?_
      have hc93 : ¬ ((1 : Int32) < (1 : Int32)) := by decide
      refine own_go (st' := T91.setTop (mkF m 58 #[.val (.int xa), .val (.int xb), .val (.int xc), .val (.int (1 : Int32)), .val (.int (0 : Int32)), .val (.ref b83), .unset] [])) (fun _ k => XS.icmpNo X91.here hx rfl (hb hby at_55) rfl (flt hc93).1 k) ?_
      refine own_go (st' := T91.setTop (mkF m 59 #[.val (.int xa), .val (.int xb), .val (.int xc), .val (.int (1 : Int32)), .val (.int (0 : Int32)), .val (.ref b83), .unset] [(.int xc)])) (fun _ k => XS.iloadN X91.here hx rfl (hb hby at_58) rfl k) ?_
      refine own_go (st' := T91.setTop (mkF m 60 #[.val (.int xa), .val (.int xb), .val (.int xc), .val (.int (1 : Int32)), .val (.int (0 : Int32)), .val (.ref b83), .unset] [(.int (1 : Int32)), (.int xc)])) (fun _ k => XS.iconst X91.here hx rfl (hb hby at_59) k) ?_
      refine own_go (st' := T91.setTop (mkF m 61 #[.val (.int xa), .val (.int xb), .val (.int xc), .val (.int (1 : Int32)), .val (.int (0 : Int32)), .val (.ref b83), .unset] [(.int (xc &&& (1 : Int32)))])) (fun _ k => XS.iand X91.here hx rfl (hb hby at_60) rfl k) ?_
      by_cases hc94 : (xc &&& (1 : Int32)) = (0 : Int32)
      · --
        refine own_go (st' := T91.setTop (mkF m 69 #[.val (.int xa), .val (.int xb), .val (.int xc), .val (.int (1 : Int32)), .val (.int (0 : Int32)), .val (.ref b83), .unset] [])) (fun _ k => XS.ifYes X91.here hx rfl (pc0 := 61) (pc' := 69) rfl (hb hby at_61) rfl ((if0 _ _).trans (teq hc94).1) (by decide) (by decide) k) ?_
        refine own_go (st' := T91.setTop (mkF m 71 #[.val (.int xa), .val (.int xb), .val (.int xc), .val (.int (1 : Int32)), .val (.int (0 : Int32)), .val (.ref b83), .unset] [(.ref b83)])) (fun _ k => XS.aload X91.here hx rfl (hb hby at_69) rfl rfl k) ?_
        obtain ⟨cq95, kq95, q95a, q95b, q95c⟩ := isOf hZ e91 g91_0
        obtain ⟨_, _, ⟨T95, LC95, kC95, nC95⟩, -, X95, ⟨Lc95, hQ95, lq95, yq95, zq95⟩, st95⟩ := X91.virtualBack hx (y := (⟨"com/example/greenwood/greenwood/Environment", "inScope", "()Z"⟩ : MethodName)) (z := (⟨"com/example/greenwood/greenwood/Environment", "inScope", "()Z"⟩ : MethodName)) hown (mvT hZ (hw _ (List.mem_of_getElem? (i := 35) rfl))) (mvT hZ (hw _ (List.mem_of_getElem? (i := 36) rfl))) (notFace_of_selects (args := #[]) (mvT hZ (hw _ (List.mem_of_getElem? (i := 38) rfl)))) (mvT hZ (hw _ (List.mem_of_getElem? (i := 38) rfl))) (mvT hZ (hw _ (List.mem_of_getElem? (i := 37) rfl))) (by decide) (backOf (W := 0) (rm5_1 l Z a0 hw [] b83 h91 n0 (by omega) g91_1) hZ (hw _ (List.mem_of_getElem? (i := 39) rfl)) (hw _ (List.mem_of_getElem? (i := 3) rfl)) (by decide) (by decide)) q95a q95c (g := (mkF m 71 #[.val (.int xa), .val (.int xb), .val (.int xc), .val (.int (1 : Int32)), .val (.int (0 : Int32)), .val (.ref b83), .unset] [(.ref b83)])) rfl (by rw [hml]; rfl) (Steps.refl _) (argsL := []) (rest := []) (lenOf pd_3 rfl) rfl (by show 2 * 0 + _ ≤ _; exact Nat.le_of_eq rfl) (hb hby at_71) (fun _ _ => ⟨rfl, e91, (by decide : 4 + 0 ≤ _), (by decide : 45 + 0 ≤ _)⟩)
        dsimp only [Pt.U, Pt.locs, Pt.cells, Pt.slots] at X95 lq95 yq95 zq95 st95 hQ95
        subst lq95 yq95 zq95
        obtain ⟨rfl, Nq95, eq95⟩ := hQ95
        have N95 := Fr.app N91 Nq95
        refine own_go (st' := T95.setTop (mkF m 74 #[.val (.int xa), .val (.int xb), .val (.int xc), .val (.int (1 : Int32)), .val (.int (0 : Int32)), .val (.ref b83), .unset] [(.int (1 : Int32))])) (fun _ k => st95.trans k) ?_
        refine own_go (st' := T95.setTop (mkF m 75 #[.val (.int xa), .val (.int xb), .val (.int xc), .val (.int (1 : Int32)), .val (.int (0 : Int32)), .val (.ref b83), .unset] [(.int (1 : Int32)), (.int (1 : Int32))])) (fun _ k => XS.iloadN X95.here hx rfl (hb hby at_74) rfl k) ?_
        have hc96 : (0 : Int32) < (1 : Int32) := by decide
        refine own_go (st' := T95.setTop (mkF m 78 #[.val (.int xa), .val (.int xb), .val (.int xc), .val (.int (1 : Int32)), .val (.int (0 : Int32)), .val (.ref b83), .unset] [(.int (1 : Int32))])) (fun _ k => XS.ifNo X95.here hx rfl (hb hby at_75) rfl ((if0 _ _).trans (tlt hc96).2.2.2) k) ?_
        refine own_go (st' := T95.setTop (mkF m 79 #[.val (.int xa), .val (.int xb), .val (.int xc), .val (.int (1 : Int32)), .val (.int (0 : Int32)), .val (.ref b83), .unset] [(.int (1 : Int32)), (.int (1 : Int32))])) (fun _ k => XS.iconst X95.here hx rfl (hb hby at_78) k) ?_
        refine own_go (st' := T95.setTop (mkF m 83 #[.val (.int xa), .val (.int xb), .val (.int xc), .val (.int (1 : Int32)), .val (.int (0 : Int32)), .val (.ref b83), .unset] [(.int (1 : Int32)), (.int (1 : Int32))])) (fun _ k => XS.goto X95.here hx rfl (pc0 := 79) (pc' := 83) rfl (hb hby at_79) (by decide) (by decide) k) ?_
        have hc97 : (1 : Int32) = (1 : Int32) := by decide
        refine own_go (st' := T95.setTop (mkF m 86 #[.val (.int xa), .val (.int xb), .val (.int xc), .val (.int (1 : Int32)), .val (.int (0 : Int32)), .val (.ref b83), .unset] [])) (fun _ k => XS.icmpNo X95.here hx rfl (hb hby at_83) rfl (teq hc97).2 k) ?_
        refine own_go (st' := T95.setTop (mkF m 87 #[.val (.int xa), .val (.int xb), .val (.int xc), .val (.int (1 : Int32)), .val (.int (0 : Int32)), .val (.ref b83), .unset] [(.int (1 : Int32))])) (fun _ k => XS.iconst X95.here hx rfl (hb hby at_86) k) ?_
        refine own_go (st' := T95.setTop (mkF m 91 #[.val (.int xa), .val (.int xb), .val (.int xc), .val (.int (1 : Int32)), .val (.int (0 : Int32)), .val (.ref b83), .unset] [(.int (1 : Int32))])) (fun _ k => XS.goto X95.here hx rfl (pc0 := 87) (pc' := 91) rfl (hb hby at_87) (by decide) (by decide) k) ?_
        refine own_go (st' := T95.setTop (mkF m 93 #[.val (.int xa), .val (.int xb), .val (.int xc), .val (.int (1 : Int32)), .val (.int (0 : Int32)), .val (.ref b83), .val (.int (1 : Int32))] [])) (fun _ k => XS.istore X95.here hx rfl (hb hby at_91) rfl (l' := #[.val (.int xa), .val (.int xb), .val (.int xc), .val (.int (1 : Int32)), .val (.int (0 : Int32)), .val (.ref b83), .val (.int (1 : Int32))]) rfl k) ?_
        refine own_go (st' := T95.setTop (mkF m 95 #[.val (.int xa), .val (.int xb), .val (.int xc), .val (.int (1 : Int32)), .val (.int (0 : Int32)), .val (.ref b83), .val (.int (1 : Int32))] [(.int (0 : Int32))])) (fun _ k => XS.iload X95.here hx rfl (hb hby at_93) rfl k) ?_
        refine own_go (st' := T95.setTop (mkF m 96 #[.val (.int xa), .val (.int xb), .val (.int xc), .val (.int (1 : Int32)), .val (.int (0 : Int32)), .val (.ref b83), .val (.int (1 : Int32))] [(.int (1 : Int32)), (.int (0 : Int32))])) (fun _ k => XS.iconst X95.here hx rfl (hb hby at_95) k) ?_
        have hc98 : (0 : Int32) < (1 : Int32) := by decide
        refine own_go (st' := T95.setTop (mkF m 104 #[.val (.int xa), .val (.int xb), .val (.int xc), .val (.int (1 : Int32)), .val (.int (0 : Int32)), .val (.ref b83), .val (.int (1 : Int32))] [])) (fun _ k => XS.icmpYes X95.here hx rfl (pc0 := 96) (pc' := 104) rfl (hb hby at_96) rfl (tlt hc98).1 (by decide) (by decide) k) ?_
        refine own_go (st' := T95.setTop (mkF m 106 #[.val (.int xa), .val (.int xb), .val (.int xc), .val (.int (1 : Int32)), .val (.int (0 : Int32)), .val (.ref b83), .val (.int (1 : Int32))] [(.int (0 : Int32))])) (fun _ k => XS.iload X95.here hx rfl (hb hby at_104) rfl k) ?_
        refine own_go (st' := T95.setTop (mkF m 107 #[.val (.int xa), .val (.int xb), .val (.int xc), .val (.int (1 : Int32)), .val (.int (0 : Int32)), .val (.ref b83), .val (.int (1 : Int32))] [(.int (2 : Int32)), (.int (0 : Int32))])) (fun _ k => XS.iconst X95.here hx rfl (hb hby at_106) k) ?_
        have hc99 : (0 : Int32) < (2 : Int32) := by decide
        refine own_go (st' := T95.setTop (mkF m 115 #[.val (.int xa), .val (.int xb), .val (.int xc), .val (.int (1 : Int32)), .val (.int (0 : Int32)), .val (.ref b83), .val (.int (1 : Int32))] [])) (fun _ k => XS.icmpYes X95.here hx rfl (pc0 := 107) (pc' := 115) rfl (hb hby at_107) rfl (tlt hc99).1 (by decide) (by decide) k) ?_
        refine own_go (st' := T95.setTop (mkF m 117 #[.val (.int xa), .val (.int xb), .val (.int xc), .val (.int (1 : Int32)), .val (.int (0 : Int32)), .val (.ref b83), .val (.int (1 : Int32))] [(.int (1 : Int32))])) (fun _ k => XS.iload X95.here hx rfl (hb hby at_115) rfl k) ?_
        have hc100 : ¬ ((1 : Int32) = (0 : Int32)) := by decide
        refine own_go (st' := T95.setTop (mkF m 120 #[.val (.int xa), .val (.int xb), .val (.int xc), .val (.int (1 : Int32)), .val (.int (0 : Int32)), .val (.ref b83), .val (.int (1 : Int32))] [])) (fun _ k => XS.ifNo X95.here hx rfl (hb hby at_117) rfl ((if0 _ _).trans (feq hc100).1) k) ?_
        refine own_go (st' := T95.setTop (mkF m 122 #[.val (.int xa), .val (.int xb), .val (.int xc), .val (.int (1 : Int32)), .val (.int (0 : Int32)), .val (.ref b83), .val (.int (1 : Int32))] [(.ref b83)])) (fun _ k => XS.aload X95.here hx rfl (hb hby at_120) rfl rfl k) ?_
        obtain ⟨cq101, kq101, q101a, q101b, q101c⟩ := isOf hZ eq95 g91_0
        obtain ⟨_, _, ⟨T101, LC101, kC101, nC101⟩, -, X101, ⟨Lc101, hQ101, lq101, yq101, zq101⟩, st101⟩ := X95.virtualBack hx (y := (⟨"com/example/greenwood/greenwood/Environment", "inScope", "()Z"⟩ : MethodName)) (z := (⟨"com/example/greenwood/greenwood/Environment", "inScope", "()Z"⟩ : MethodName)) hown (mvT hZ (hw _ (List.mem_of_getElem? (i := 35) rfl))) (mvT hZ (hw _ (List.mem_of_getElem? (i := 36) rfl))) (notFace_of_selects (args := #[]) (mvT hZ (hw _ (List.mem_of_getElem? (i := 38) rfl)))) (mvT hZ (hw _ (List.mem_of_getElem? (i := 38) rfl))) (mvT hZ (hw _ (List.mem_of_getElem? (i := 37) rfl))) (by decide) (backOf (W := 0) (rm5_1 l Z a0 hw [] b83 h91 n0 (by omega) g91_1) hZ (hw _ (List.mem_of_getElem? (i := 39) rfl)) (hw _ (List.mem_of_getElem? (i := 3) rfl)) (by decide) (by decide)) q101a q101c (g := (mkF m 122 #[.val (.int xa), .val (.int xb), .val (.int xc), .val (.int (1 : Int32)), .val (.int (0 : Int32)), .val (.ref b83), .val (.int (1 : Int32))] [(.ref b83)])) rfl (by rw [hml]; rfl) (Steps.refl _) (argsL := []) (rest := []) (lenOf pd_3 rfl) rfl (by show 2 * 0 + _ ≤ _; exact Nat.le_of_eq rfl) (hb hby at_122) (fun _ _ => ⟨rfl, eq95, (by decide : 4 + 0 ≤ _), (by decide : 45 + 0 ≤ _)⟩)
        dsimp only [Pt.U, Pt.locs, Pt.cells, Pt.slots] at X101 lq101 yq101 zq101 st101 hQ101
        subst lq101 yq101 zq101
        obtain ⟨rfl, Nq101, eq101⟩ := hQ101
        have N101 := Fr.app N95 Nq101
        refine own_go (st' := T101.setTop (mkF m 125 #[.val (.int xa), .val (.int xb), .val (.int xc), .val (.int (1 : Int32)), .val (.int (0 : Int32)), .val (.ref b83), .val (.int (1 : Int32))] [(.int (1 : Int32))])) (fun _ k => st101.trans k) ?_
        refine own_go (st' := T101.setTop (mkF m 126 #[.val (.int xa), .val (.int xb), .val (.int xc), .val (.int (1 : Int32)), .val (.int (0 : Int32)), .val (.ref b83), .val (.int (1 : Int32))] [(.int (1 : Int32)), (.int (1 : Int32))])) (fun _ k => XS.iloadN X101.here hx rfl (hb hby at_125) rfl k) ?_
        refine own_go (st' := T101.setTop (mkF m 128 #[.val (.int xa), .val (.int xb), .val (.int xc), .val (.int (1 : Int32)), .val (.int (0 : Int32)), .val (.ref b83), .val (.int (1 : Int32))] [(.int (0 : Int32)), (.int (1 : Int32)), (.int (1 : Int32))])) (fun _ k => XS.iload X101.here hx rfl (hb hby at_126) rfl k) ?_
        refine own_go (st' := T101.setTop (mkF m 129 #[.val (.int xa), .val (.int xb), .val (.int xc), .val (.int (1 : Int32)), .val (.int (0 : Int32)), .val (.ref b83), .val (.int (1 : Int32))] [(.int (1 : Int32)), (.int (1 : Int32))])) (fun _ k => XS.isub X101.here hx rfl (hb hby at_128) rfl (by rw [show ((1 : Int32) - (0 : Int32)) = (1 : Int32) by decide]; exact k)) ?_
        have hc102 : (0 : Int32) < (1 : Int32) := by decide
        refine own_go (st' := T101.setTop (mkF m 132 #[.val (.int xa), .val (.int xb), .val (.int xc), .val (.int (1 : Int32)), .val (.int (0 : Int32)), .val (.ref b83), .val (.int (1 : Int32))] [(.int (1 : Int32))])) (fun _ k => XS.ifNo X101.here hx rfl (hb hby at_129) rfl ((if0 _ _).trans (tlt hc102).2.2.2) k) ?_
        refine own_go (st' := T101.setTop (mkF m 133 #[.val (.int xa), .val (.int xb), .val (.int xc), .val (.int (1 : Int32)), .val (.int (0 : Int32)), .val (.ref b83), .val (.int (1 : Int32))] [(.int (1 : Int32)), (.int (1 : Int32))])) (fun _ k => XS.iconst X101.here hx rfl (hb hby at_132) k) ?_
        refine own_go (st' := T101.setTop (mkF m 137 #[.val (.int xa), .val (.int xb), .val (.int xc), .val (.int (1 : Int32)), .val (.int (0 : Int32)), .val (.ref b83), .val (.int (1 : Int32))] [(.int (1 : Int32)), (.int (1 : Int32))])) (fun _ k => XS.goto X101.here hx rfl (pc0 := 133) (pc' := 137) rfl (hb hby at_133) (by decide) (by decide) k) ?_
        have hc103 : (1 : Int32) = (1 : Int32) := by decide
        refine own_go (st' := T101.setTop (mkF m 140 #[.val (.int xa), .val (.int xb), .val (.int xc), .val (.int (1 : Int32)), .val (.int (0 : Int32)), .val (.ref b83), .val (.int (1 : Int32))] [])) (fun _ k => XS.icmpNo X101.here hx rfl (hb hby at_137) rfl (teq hc103).2 k) ?_
        refine own_go (st' := T101.setTop (mkF m 141 #[.val (.int xa), .val (.int xb), .val (.int xc), .val (.int (1 : Int32)), .val (.int (0 : Int32)), .val (.ref b83), .val (.int (1 : Int32))] [(.int (1 : Int32))])) (fun _ k => XS.iconst X101.here hx rfl (hb hby at_140) k) ?_
        refine own_go (st' := T101.setTop (mkF m 145 #[.val (.int xa), .val (.int xb), .val (.int xc), .val (.int (1 : Int32)), .val (.int (0 : Int32)), .val (.ref b83), .val (.int (1 : Int32))] [(.int (1 : Int32))])) (fun _ k => XS.goto X101.here hx rfl (pc0 := 141) (pc' := 145) rfl (hb hby at_141) (by decide) (by decide) k) ?_
        refine own_go (st' := T101.setTop (mkF m 147 #[.val (.int xa), .val (.int xb), .val (.int xc), .val (.int (1 : Int32)), .val (.int (0 : Int32)), .val (.ref b83), .val (.int (1 : Int32))] [])) (fun _ k => XS.istore X101.here hx rfl (hb hby at_145) rfl (l' := #[.val (.int xa), .val (.int xb), .val (.int xc), .val (.int (1 : Int32)), .val (.int (0 : Int32)), .val (.ref b83), .val (.int (1 : Int32))]) rfl k) ?_
        refine own_go (st' := T101.setTop (mkF m 148 #[.val (.int xa), .val (.int xb), .val (.int xc), .val (.int (1 : Int32)), .val (.int (0 : Int32)), .val (.ref b83), .val (.int (1 : Int32))] [(.int xc)])) (fun _ k => XS.iloadN X101.here hx rfl (hb hby at_147) rfl k) ?_
        refine own_go (st' := T101.setTop (mkF m 149 #[.val (.int xa), .val (.int xb), .val (.int xc), .val (.int (1 : Int32)), .val (.int (0 : Int32)), .val (.ref b83), .val (.int (1 : Int32))] [(.int (2 : Int32)), (.int xc)])) (fun _ k => XS.iconst X101.here hx rfl (hb hby at_148) k) ?_
        refine own_go (st' := T101.setTop (mkF m 150 #[.val (.int xa), .val (.int xb), .val (.int xc), .val (.int (1 : Int32)), .val (.int (0 : Int32)), .val (.ref b83), .val (.int (1 : Int32))] [(.int (xc &&& (2 : Int32)))])) (fun _ k => XS.iand X101.here hx rfl (hb hby at_149) rfl k) ?_
        by_cases hc104 : (xc &&& (2 : Int32)) = (0 : Int32)
        · --
          refine own_go (st' := T101.setTop (mkF m 178 #[.val (.int xa), .val (.int xb), .val (.int xc), .val (.int (1 : Int32)), .val (.int (0 : Int32)), .val (.ref b83), .val (.int (1 : Int32))] [])) (fun _ k => XS.ifYes X101.here hx rfl (pc0 := 150) (pc' := 178) rfl (hb hby at_150) rfl ((if0 _ _).trans (teq hc104).1) (by decide) (by decide) k) ?_
          refine own_go (st' := T101.setTop (mkF m 180 #[.val (.int xa), .val (.int xb), .val (.int xc), .val (.int (1 : Int32)), .val (.int (0 : Int32)), .val (.ref b83), .val (.int (1 : Int32))] [(.int (1 : Int32))])) (fun _ k => XS.iload X101.here hx rfl (hb hby at_178) rfl k) ?_
          obtain ⟨fs, hr, hrun, hended, hW, hsame⟩ := X101.leave (v := some (.int (1 : Int32))) (fun h => by rw [Bd.returns] at h; cases h)
          refine ⟨_, _, ?_, hP _ _ hrun hended ⟨_, _, rfl, ?_, ⟨_, rfl⟩, hW, hsame.mono (by decide) (by decide)⟩⟩
          · exact retN X101 hx (t := .boolean) Bd.returns (by simp) (hb hby at_180) hr
          · show Qrm0 Z xa xb xc h0 n0 _ T101.heap _
            rw [eq101]
            exact ⟨rfl, N101, trivial⟩
        · --
          refine own_go (st' := T101.setTop (mkF m 153 #[.val (.int xa), .val (.int xb), .val (.int xc), .val (.int (1 : Int32)), .val (.int (0 : Int32)), .val (.ref b83), .val (.int (1 : Int32))] [])) (fun _ k => XS.ifNo X101.here hx rfl (hb hby at_150) rfl ((if0 _ _).trans (feq hc104).1) k) ?_
          refine own_go (st' := T101.setTop (mkF m 155 #[.val (.int xa), .val (.int xb), .val (.int xc), .val (.int (1 : Int32)), .val (.int (0 : Int32)), .val (.ref b83), .val (.int (1 : Int32))] [(.ref b83)])) (fun _ k => XS.aload X101.here hx rfl (hb hby at_153) rfl rfl k) ?_
          have c107 : Arv Z h91 rl_89 kl_89 (.object "java/lang/Object") (16 : Int32) [.null, .null, .null, .null, .null, .null, .null, .null, .null, .null, .null, .null, .null, .null, .null, .null] .null := (g89_5.keep K91 (ninS (by first | assumption | exact Ne.symm (by assumption) | (apply Nat.ne_of_lt; omega) | (apply Nat.ne_of_gt; omega)) (ninS (by first | assumption | exact Ne.symm (by assumption) | (apply Nat.ne_of_lt; omega) | (apply Nat.ne_of_gt; omega)) nin0)))
          obtain ⟨cq106, kq106, q106a, q106b, q106c⟩ := isOf hZ eq101 g91_0
          obtain ⟨_, _, ⟨T106, LC106, kC106, nC106⟩, -, X106, ⟨Lc106, hQ106, lq106, yq106, zq106⟩, st106⟩ := X101.virtualBack hx (y := (⟨"com/example/greenwood/greenwood/Environment", "closeScopes", "()V"⟩ : MethodName)) (z := (⟨"com/example/greenwood/greenwood/Environment", "closeScopes", "()V"⟩ : MethodName)) hown (mvT hZ (hw _ (List.mem_of_getElem? (i := 42) rfl))) (mvT hZ (hw _ (List.mem_of_getElem? (i := 43) rfl))) (notFace_of_selects (args := #[]) (mvT hZ (hw _ (List.mem_of_getElem? (i := 45) rfl)))) (mvT hZ (hw _ (List.mem_of_getElem? (i := 45) rfl))) (mvT hZ (hw _ (List.mem_of_getElem? (i := 44) rfl))) (by decide) (backOf (W := 0) (rm6_0 l Z a0 hw [] b83 (1 : Int32) rl_89 rs_89 kl_89 ks_89 h91 n0 (by omega) g91_0 g91_1 g91_2 g91_3 g91_4 c107 g91_5 (by omega) (by omega) (by omega) (by first | assumption | exact Ne.symm (by assumption) | (apply Nat.ne_of_lt; omega) | (apply Nat.ne_of_gt; omega)) (by first | assumption | exact Ne.symm (by assumption) | (apply Nat.ne_of_lt; omega) | (apply Nat.ne_of_gt; omega)) (by first | assumption | exact Ne.symm (by assumption) | (apply Nat.ne_of_lt; omega) | (apply Nat.ne_of_gt; omega))) hZ (hw _ (List.mem_of_getElem? (i := 46) rfl)) (hw _ (List.mem_of_getElem? (i := 3) rfl)) (by decide) (by decide)) q106a q106c (g := (mkF m 155 #[.val (.int xa), .val (.int xb), .val (.int xc), .val (.int (1 : Int32)), .val (.int (0 : Int32)), .val (.ref b83), .val (.int (1 : Int32))] [(.ref b83)])) rfl (by rw [hml]; rfl) (Steps.refl _) (argsL := []) (rest := []) (lenOf pd_0 rfl) rfl (by show 2 * 0 + _ ≤ _; exact Nat.le_of_eq rfl) (hb hby at_155) (fun _ _ => ⟨rfl, eq101, (by decide : 4 + 0 ≤ _), (by decide : 45 + 0 ≤ _)⟩)
          dsimp only [Pt.U, Pt.locs, Pt.cells, Pt.slots] at X106 lq106 yq106 zq106 st106 hQ106
          subst lq106 yq106 zq106
          obtain ⟨h106, e106⟩ : ∃ z, T106.heap = z := ⟨_, rfl⟩
          rw [e106] at hQ106
          obtain ⟨rfl, Nq106, K106, g106_0, g106_1, g106_2, g106_3, g106_4, g106_5⟩ := hQ106
          have sz106 : h91.size ≤ h106.size := K106.1
          have N106 := Fr.app N101 Nq106
          have lt106_1 : @LT.lt Nat _ b83 h106.size := g106_0.lt
          have lt106_2 : @LT.lt Nat _ rl_89 h106.size := g106_5.lt
          refine own_go (st' := T106.setTop (mkF m 158 #[.val (.int xa), .val (.int xb), .val (.int xc), .val (.int (1 : Int32)), .val (.int (0 : Int32)), .val (.ref b83), .val (.int (1 : Int32))] [])) (fun _ k => st106.trans k) ?_
          refine own_go (st' := T106.setTop (mkF m 160 #[.val (.int xa), .val (.int xb), .val (.int xc), .val (.int (1 : Int32)), .val (.int (0 : Int32)), .val (.ref b83), .val (.int (1 : Int32))] [(.int (1 : Int32))])) (fun _ k => XS.iload X106.here hx rfl (hb hby at_158) rfl k) ?_
          have hc108 : ¬ ((1 : Int32) = (0 : Int32)) := by decide
          refine own_go (st' := T106.setTop (mkF m 163 #[.val (.int xa), .val (.int xb), .val (.int xc), .val (.int (1 : Int32)), .val (.int (0 : Int32)), .val (.ref b83), .val (.int (1 : Int32))] [])) (fun _ k => XS.ifNo X106.here hx rfl (hb hby at_160) rfl ((if0 _ _).trans (feq hc108).1) k) ?_
          refine own_go (st' := T106.setTop (mkF m 165 #[.val (.int xa), .val (.int xb), .val (.int xc), .val (.int (1 : Int32)), .val (.int (0 : Int32)), .val (.ref b83), .val (.int (1 : Int32))] [(.ref b83)])) (fun _ k => XS.aload X106.here hx rfl (hb hby at_163) rfl rfl k) ?_
          obtain ⟨cq109, kq109, q109a, q109b, q109c⟩ := isOf hZ e106 g106_0
          obtain ⟨_, _, ⟨T109, LC109, kC109, nC109⟩, -, X109, ⟨Lc109, hQ109, lq109, yq109, zq109⟩, st109⟩ := X106.virtualBack hx (y := (⟨"com/example/greenwood/greenwood/Environment", "inScope", "()Z"⟩ : MethodName)) (z := (⟨"com/example/greenwood/greenwood/Environment", "inScope", "()Z"⟩ : MethodName)) hown (mvT hZ (hw _ (List.mem_of_getElem? (i := 35) rfl))) (mvT hZ (hw _ (List.mem_of_getElem? (i := 36) rfl))) (notFace_of_selects (args := #[]) (mvT hZ (hw _ (List.mem_of_getElem? (i := 38) rfl)))) (mvT hZ (hw _ (List.mem_of_getElem? (i := 38) rfl))) (mvT hZ (hw _ (List.mem_of_getElem? (i := 37) rfl))) (by decide) (backOf (W := 0) (rm5_0 l Z a0 hw [] b83 h106 n0 (by omega) g106_1) hZ (hw _ (List.mem_of_getElem? (i := 39) rfl)) (hw _ (List.mem_of_getElem? (i := 3) rfl)) (by decide) (by decide)) q109a q109c (g := (mkF m 165 #[.val (.int xa), .val (.int xb), .val (.int xc), .val (.int (1 : Int32)), .val (.int (0 : Int32)), .val (.ref b83), .val (.int (1 : Int32))] [(.ref b83)])) rfl (by rw [hml]; rfl) (Steps.refl _) (argsL := []) (rest := []) (lenOf pd_3 rfl) rfl (by show 2 * 0 + _ ≤ _; exact Nat.le_of_eq rfl) (hb hby at_165) (fun _ _ => ⟨rfl, e106, (by decide : 4 + 0 ≤ _), (by decide : 45 + 0 ≤ _)⟩)
          dsimp only [Pt.U, Pt.locs, Pt.cells, Pt.slots] at X109 lq109 yq109 zq109 st109 hQ109
          subst lq109 yq109 zq109
          obtain ⟨rfl, Nq109, eq109⟩ := hQ109
          have N109 := Fr.app N106 Nq109
          refine own_go (st' := T109.setTop (mkF m 168 #[.val (.int xa), .val (.int xb), .val (.int xc), .val (.int (1 : Int32)), .val (.int (0 : Int32)), .val (.ref b83), .val (.int (1 : Int32))] [(.int (0 : Int32))])) (fun _ k => st109.trans k) ?_
          have hc110 : (0 : Int32) = (0 : Int32) := by decide
          refine own_go (st' := T109.setTop (mkF m 171 #[.val (.int xa), .val (.int xb), .val (.int xc), .val (.int (1 : Int32)), .val (.int (0 : Int32)), .val (.ref b83), .val (.int (1 : Int32))] [])) (fun _ k => XS.ifNo X109.here hx rfl (hb hby at_168) rfl ((if0 _ _).trans (teq hc110).2) k) ?_
          refine own_go (st' := T109.setTop (mkF m 172 #[.val (.int xa), .val (.int xb), .val (.int xc), .val (.int (1 : Int32)), .val (.int (0 : Int32)), .val (.ref b83), .val (.int (1 : Int32))] [(.int (1 : Int32))])) (fun _ k => XS.iconst X109.here hx rfl (hb hby at_171) k) ?_
          refine own_go (st' := T109.setTop (mkF m 176 #[.val (.int xa), .val (.int xb), .val (.int xc), .val (.int (1 : Int32)), .val (.int (0 : Int32)), .val (.ref b83), .val (.int (1 : Int32))] [(.int (1 : Int32))])) (fun _ k => XS.goto X109.here hx rfl (pc0 := 172) (pc' := 176) rfl (hb hby at_172) (by decide) (by decide) k) ?_
          refine own_go (st' := T109.setTop (mkF m 178 #[.val (.int xa), .val (.int xb), .val (.int xc), .val (.int (1 : Int32)), .val (.int (0 : Int32)), .val (.ref b83), .val (.int (1 : Int32))] [])) (fun _ k => XS.istore X109.here hx rfl (hb hby at_176) rfl (l' := #[.val (.int xa), .val (.int xb), .val (.int xc), .val (.int (1 : Int32)), .val (.int (0 : Int32)), .val (.ref b83), .val (.int (1 : Int32))]) rfl k) ?_
          refine own_go (st' := T109.setTop (mkF m 180 #[.val (.int xa), .val (.int xb), .val (.int xc), .val (.int (1 : Int32)), .val (.int (0 : Int32)), .val (.ref b83), .val (.int (1 : Int32))] [(.int (1 : Int32))])) (fun _ k => XS.iload X109.here hx rfl (hb hby at_178) rfl k) ?_
          obtain ⟨fs, hr, hrun, hended, hW, hsame⟩ := X109.leave (v := some (.int (1 : Int32))) (fun h => by rw [Bd.returns] at h; cases h)
          refine ⟨_, _, ?_, hP _ _ hrun hended ⟨_, _, rfl, ?_, ⟨_, rfl⟩, hW, hsame.mono (by decide) (by decide)⟩⟩
          · exact retN X109 hx (t := .boolean) Bd.returns (by simp) (hb hby at_180) hr
          · show Qrm0 Z xa xb xc h0 n0 _ T109.heap _
            rw [eq109]
            exact ⟨rfl, N109, trivial⟩
      · --
        refine own_go (st' := T91.setTop (mkF m 64 #[.val (.int xa), .val (.int xb), .val (.int xc), .val (.int (1 : Int32)), .val (.int (0 : Int32)), .val (.ref b83), .unset] [])) (fun _ k => XS.ifNo X91.here hx rfl (hb hby at_61) rfl ((if0 _ _).trans (feq hc94).1) k) ?_
        refine own_go (st' := T91.setTop (mkF m 66 #[.val (.int xa), .val (.int xb), .val (.int xc), .val (.int (1 : Int32)), .val (.int (0 : Int32)), .val (.ref b83), .unset] [(.ref b83)])) (fun _ k => XS.aload X91.here hx rfl (hb hby at_64) rfl rfl k) ?_
        have c113 : Arv Z h91 rl_89 kl_89 (.object "java/lang/Object") (16 : Int32) [.null, .null, .null, .null, .null, .null, .null, .null, .null, .null, .null, .null, .null, .null, .null, .null] .null := (g89_5.keep K91 (ninS (by first | assumption | exact Ne.symm (by assumption) | (apply Nat.ne_of_lt; omega) | (apply Nat.ne_of_gt; omega)) (ninS (by first | assumption | exact Ne.symm (by assumption) | (apply Nat.ne_of_lt; omega) | (apply Nat.ne_of_gt; omega)) nin0)))
        obtain ⟨cq112, kq112, q112a, q112b, q112c⟩ := isOf hZ e91 g91_0
        obtain ⟨_, _, ⟨T112, LC112, kC112, nC112⟩, -, X112, ⟨Lc112, hQ112, lq112, yq112, zq112⟩, st112⟩ := X91.virtualBack hx (y := (⟨"com/example/greenwood/greenwood/Environment", "declare", "()V"⟩ : MethodName)) (z := (⟨"com/example/greenwood/greenwood/Environment", "declare", "()V"⟩ : MethodName)) hown (mvT hZ (hw _ (List.mem_of_getElem? (i := 61) rfl))) (mvT hZ (hw _ (List.mem_of_getElem? (i := 62) rfl))) (notFace_of_selects (args := #[]) (mvT hZ (hw _ (List.mem_of_getElem? (i := 64) rfl)))) (mvT hZ (hw _ (List.mem_of_getElem? (i := 64) rfl))) (mvT hZ (hw _ (List.mem_of_getElem? (i := 63) rfl))) (by decide) (backOf (W := 0) (rm10_1 l Z a0 hw [] b83 rl_89 rs_89 kl_89 ks_89 h91 n0 (by omega) g91_0 g91_1 g91_2 g91_3 g91_4 c113 g91_5 (by omega) (by omega) (by omega) (by first | assumption | exact Ne.symm (by assumption) | (apply Nat.ne_of_lt; omega) | (apply Nat.ne_of_gt; omega)) (by first | assumption | exact Ne.symm (by assumption) | (apply Nat.ne_of_lt; omega) | (apply Nat.ne_of_gt; omega)) (by first | assumption | exact Ne.symm (by assumption) | (apply Nat.ne_of_lt; omega) | (apply Nat.ne_of_gt; omega))) hZ (hw _ (List.mem_of_getElem? (i := 65) rfl)) (hw _ (List.mem_of_getElem? (i := 3) rfl)) (by decide) (by decide)) q112a q112c (g := (mkF m 66 #[.val (.int xa), .val (.int xb), .val (.int xc), .val (.int (1 : Int32)), .val (.int (0 : Int32)), .val (.ref b83), .unset] [(.ref b83)])) rfl (by rw [hml]; rfl) (Steps.refl _) (argsL := []) (rest := []) (lenOf pd_0 rfl) rfl (by show 2 * 0 + _ ≤ _; exact Nat.le_of_eq rfl) (hb hby at_66) (fun _ _ => ⟨rfl, e91, (by decide : 4 + 0 ≤ _), (by decide : 45 + 0 ≤ _)⟩)
        dsimp only [Pt.U, Pt.locs, Pt.cells, Pt.slots] at X112 lq112 yq112 zq112 st112 hQ112
        subst lq112 yq112 zq112
        obtain ⟨h112, e112⟩ : ∃ z, T112.heap = z := ⟨_, rfl⟩
        rw [e112] at hQ112
        obtain ⟨rfl, Nq112, K112, g112_0, g112_1, g112_2, g112_3, g112_4⟩ := hQ112
        have sz112 : h91.size ≤ h112.size := K112.1
        have N112 := Fr.app N91 Nq112
        have lt112_1 : @LT.lt Nat _ b83 h112.size := g112_0.lt
        refine own_go (st' := T112.setTop (mkF m 69 #[.val (.int xa), .val (.int xb), .val (.int xc), .val (.int (1 : Int32)), .val (.int (0 : Int32)), .val (.ref b83), .unset] [])) (fun _ k => st112.trans k) ?_
        refine own_go (st' := T112.setTop (mkF m 71 #[.val (.int xa), .val (.int xb), .val (.int xc), .val (.int (1 : Int32)), .val (.int (0 : Int32)), .val (.ref b83), .unset] [(.ref b83)])) (fun _ k => XS.aload X112.here hx rfl (hb hby at_69) rfl rfl k) ?_
        obtain ⟨cq114, kq114, q114a, q114b, q114c⟩ := isOf hZ e112 g112_0
        obtain ⟨_, _, ⟨T114, LC114, kC114, nC114⟩, -, X114, ⟨Lc114, hQ114, lq114, yq114, zq114⟩, st114⟩ := X112.virtualBack hx (y := (⟨"com/example/greenwood/greenwood/Environment", "inScope", "()Z"⟩ : MethodName)) (z := (⟨"com/example/greenwood/greenwood/Environment", "inScope", "()Z"⟩ : MethodName)) hown (mvT hZ (hw _ (List.mem_of_getElem? (i := 35) rfl))) (mvT hZ (hw _ (List.mem_of_getElem? (i := 36) rfl))) (notFace_of_selects (args := #[]) (mvT hZ (hw _ (List.mem_of_getElem? (i := 38) rfl)))) (mvT hZ (hw _ (List.mem_of_getElem? (i := 38) rfl))) (mvT hZ (hw _ (List.mem_of_getElem? (i := 37) rfl))) (by decide) (backOf (W := 0) (rm5_1 l Z a0 hw [] b83 h112 n0 (by omega) g112_1) hZ (hw _ (List.mem_of_getElem? (i := 39) rfl)) (hw _ (List.mem_of_getElem? (i := 3) rfl)) (by decide) (by decide)) q114a q114c (g := (mkF m 71 #[.val (.int xa), .val (.int xb), .val (.int xc), .val (.int (1 : Int32)), .val (.int (0 : Int32)), .val (.ref b83), .unset] [(.ref b83)])) rfl (by rw [hml]; rfl) (Steps.refl _) (argsL := []) (rest := []) (lenOf pd_3 rfl) rfl (by show 2 * 0 + _ ≤ _; exact Nat.le_of_eq rfl) (hb hby at_71) (fun _ _ => ⟨rfl, e112, (by decide : 4 + 0 ≤ _), (by decide : 45 + 0 ≤ _)⟩)
        dsimp only [Pt.U, Pt.locs, Pt.cells, Pt.slots] at X114 lq114 yq114 zq114 st114 hQ114
        subst lq114 yq114 zq114
        obtain ⟨rfl, Nq114, eq114⟩ := hQ114
        have N114 := Fr.app N112 Nq114
        refine own_go (st' := T114.setTop (mkF m 74 #[.val (.int xa), .val (.int xb), .val (.int xc), .val (.int (1 : Int32)), .val (.int (0 : Int32)), .val (.ref b83), .unset] [(.int (1 : Int32))])) (fun _ k => st114.trans k) ?_
        refine own_go (st' := T114.setTop (mkF m 75 #[.val (.int xa), .val (.int xb), .val (.int xc), .val (.int (1 : Int32)), .val (.int (0 : Int32)), .val (.ref b83), .unset] [(.int (1 : Int32)), (.int (1 : Int32))])) (fun _ k => XS.iloadN X114.here hx rfl (hb hby at_74) rfl k) ?_
        have hc115 : (0 : Int32) < (1 : Int32) := by decide
        refine own_go (st' := T114.setTop (mkF m 78 #[.val (.int xa), .val (.int xb), .val (.int xc), .val (.int (1 : Int32)), .val (.int (0 : Int32)), .val (.ref b83), .unset] [(.int (1 : Int32))])) (fun _ k => XS.ifNo X114.here hx rfl (hb hby at_75) rfl ((if0 _ _).trans (tlt hc115).2.2.2) k) ?_
        refine own_go (st' := T114.setTop (mkF m 79 #[.val (.int xa), .val (.int xb), .val (.int xc), .val (.int (1 : Int32)), .val (.int (0 : Int32)), .val (.ref b83), .unset] [(.int (1 : Int32)), (.int (1 : Int32))])) (fun _ k => XS.iconst X114.here hx rfl (hb hby at_78) k) ?_
        refine own_go (st' := T114.setTop (mkF m 83 #[.val (.int xa), .val (.int xb), .val (.int xc), .val (.int (1 : Int32)), .val (.int (0 : Int32)), .val (.ref b83), .unset] [(.int (1 : Int32)), (.int (1 : Int32))])) (fun _ k => XS.goto X114.here hx rfl (pc0 := 79) (pc' := 83) rfl (hb hby at_79) (by decide) (by decide) k) ?_
        have hc116 : (1 : Int32) = (1 : Int32) := by decide
        refine own_go (st' := T114.setTop (mkF m 86 #[.val (.int xa), .val (.int xb), .val (.int xc), .val (.int (1 : Int32)), .val (.int (0 : Int32)), .val (.ref b83), .unset] [])) (fun _ k => XS.icmpNo X114.here hx rfl (hb hby at_83) rfl (teq hc116).2 k) ?_
        refine own_go (st' := T114.setTop (mkF m 87 #[.val (.int xa), .val (.int xb), .val (.int xc), .val (.int (1 : Int32)), .val (.int (0 : Int32)), .val (.ref b83), .unset] [(.int (1 : Int32))])) (fun _ k => XS.iconst X114.here hx rfl (hb hby at_86) k) ?_
        refine own_go (st' := T114.setTop (mkF m 91 #[.val (.int xa), .val (.int xb), .val (.int xc), .val (.int (1 : Int32)), .val (.int (0 : Int32)), .val (.ref b83), .unset] [(.int (1 : Int32))])) (fun _ k => XS.goto X114.here hx rfl (pc0 := 87) (pc' := 91) rfl (hb hby at_87) (by decide) (by decide) k) ?_
        refine own_go (st' := T114.setTop (mkF m 93 #[.val (.int xa), .val (.int xb), .val (.int xc), .val (.int (1 : Int32)), .val (.int (0 : Int32)), .val (.ref b83), .val (.int (1 : Int32))] [])) (fun _ k => XS.istore X114.here hx rfl (hb hby at_91) rfl (l' := #[.val (.int xa), .val (.int xb), .val (.int xc), .val (.int (1 : Int32)), .val (.int (0 : Int32)), .val (.ref b83), .val (.int (1 : Int32))]) rfl k) ?_
        refine own_go (st' := T114.setTop (mkF m 95 #[.val (.int xa), .val (.int xb), .val (.int xc), .val (.int (1 : Int32)), .val (.int (0 : Int32)), .val (.ref b83), .val (.int (1 : Int32))] [(.int (0 : Int32))])) (fun _ k => XS.iload X114.here hx rfl (hb hby at_93) rfl k) ?_
        refine own_go (st' := T114.setTop (mkF m 96 #[.val (.int xa), .val (.int xb), .val (.int xc), .val (.int (1 : Int32)), .val (.int (0 : Int32)), .val (.ref b83), .val (.int (1 : Int32))] [(.int (1 : Int32)), (.int (0 : Int32))])) (fun _ k => XS.iconst X114.here hx rfl (hb hby at_95) k) ?_
        have hc117 : (0 : Int32) < (1 : Int32) := by decide
        refine own_go (st' := T114.setTop (mkF m 104 #[.val (.int xa), .val (.int xb), .val (.int xc), .val (.int (1 : Int32)), .val (.int (0 : Int32)), .val (.ref b83), .val (.int (1 : Int32))] [])) (fun _ k => XS.icmpYes X114.here hx rfl (pc0 := 96) (pc' := 104) rfl (hb hby at_96) rfl (tlt hc117).1 (by decide) (by decide) k) ?_
        refine own_go (st' := T114.setTop (mkF m 106 #[.val (.int xa), .val (.int xb), .val (.int xc), .val (.int (1 : Int32)), .val (.int (0 : Int32)), .val (.ref b83), .val (.int (1 : Int32))] [(.int (0 : Int32))])) (fun _ k => XS.iload X114.here hx rfl (hb hby at_104) rfl k) ?_
        refine own_go (st' := T114.setTop (mkF m 107 #[.val (.int xa), .val (.int xb), .val (.int xc), .val (.int (1 : Int32)), .val (.int (0 : Int32)), .val (.ref b83), .val (.int (1 : Int32))] [(.int (2 : Int32)), (.int (0 : Int32))])) (fun _ k => XS.iconst X114.here hx rfl (hb hby at_106) k) ?_
        have hc118 : (0 : Int32) < (2 : Int32) := by decide
        refine own_go (st' := T114.setTop (mkF m 115 #[.val (.int xa), .val (.int xb), .val (.int xc), .val (.int (1 : Int32)), .val (.int (0 : Int32)), .val (.ref b83), .val (.int (1 : Int32))] [])) (fun _ k => XS.icmpYes X114.here hx rfl (pc0 := 107) (pc' := 115) rfl (hb hby at_107) rfl (tlt hc118).1 (by decide) (by decide) k) ?_
        refine own_go (st' := T114.setTop (mkF m 117 #[.val (.int xa), .val (.int xb), .val (.int xc), .val (.int (1 : Int32)), .val (.int (0 : Int32)), .val (.ref b83), .val (.int (1 : Int32))] [(.int (1 : Int32))])) (fun _ k => XS.iload X114.here hx rfl (hb hby at_115) rfl k) ?_
        have hc119 : ¬ ((1 : Int32) = (0 : Int32)) := by decide
        refine own_go (st' := T114.setTop (mkF m 120 #[.val (.int xa), .val (.int xb), .val (.int xc), .val (.int (1 : Int32)), .val (.int (0 : Int32)), .val (.ref b83), .val (.int (1 : Int32))] [])) (fun _ k => XS.ifNo X114.here hx rfl (hb hby at_117) rfl ((if0 _ _).trans (feq hc119).1) k) ?_
        refine own_go (st' := T114.setTop (mkF m 122 #[.val (.int xa), .val (.int xb), .val (.int xc), .val (.int (1 : Int32)), .val (.int (0 : Int32)), .val (.ref b83), .val (.int (1 : Int32))] [(.ref b83)])) (fun _ k => XS.aload X114.here hx rfl (hb hby at_120) rfl rfl k) ?_
        obtain ⟨cq120, kq120, q120a, q120b, q120c⟩ := isOf hZ eq114 g112_0
        obtain ⟨_, _, ⟨T120, LC120, kC120, nC120⟩, -, X120, ⟨Lc120, hQ120, lq120, yq120, zq120⟩, st120⟩ := X114.virtualBack hx (y := (⟨"com/example/greenwood/greenwood/Environment", "inScope", "()Z"⟩ : MethodName)) (z := (⟨"com/example/greenwood/greenwood/Environment", "inScope", "()Z"⟩ : MethodName)) hown (mvT hZ (hw _ (List.mem_of_getElem? (i := 35) rfl))) (mvT hZ (hw _ (List.mem_of_getElem? (i := 36) rfl))) (notFace_of_selects (args := #[]) (mvT hZ (hw _ (List.mem_of_getElem? (i := 38) rfl)))) (mvT hZ (hw _ (List.mem_of_getElem? (i := 38) rfl))) (mvT hZ (hw _ (List.mem_of_getElem? (i := 37) rfl))) (by decide) (backOf (W := 0) (rm5_1 l Z a0 hw [] b83 h112 n0 (by omega) g112_1) hZ (hw _ (List.mem_of_getElem? (i := 39) rfl)) (hw _ (List.mem_of_getElem? (i := 3) rfl)) (by decide) (by decide)) q120a q120c (g := (mkF m 122 #[.val (.int xa), .val (.int xb), .val (.int xc), .val (.int (1 : Int32)), .val (.int (0 : Int32)), .val (.ref b83), .val (.int (1 : Int32))] [(.ref b83)])) rfl (by rw [hml]; rfl) (Steps.refl _) (argsL := []) (rest := []) (lenOf pd_3 rfl) rfl (by show 2 * 0 + _ ≤ _; exact Nat.le_of_eq rfl) (hb hby at_122) (fun _ _ => ⟨rfl, eq114, (by decide : 4 + 0 ≤ _), (by decide : 45 + 0 ≤ _)⟩)
        dsimp only [Pt.U, Pt.locs, Pt.cells, Pt.slots] at X120 lq120 yq120 zq120 st120 hQ120
        subst lq120 yq120 zq120
        obtain ⟨rfl, Nq120, eq120⟩ := hQ120
        have N120 := Fr.app N114 Nq120
        refine own_go (st' := T120.setTop (mkF m 125 #[.val (.int xa), .val (.int xb), .val (.int xc), .val (.int (1 : Int32)), .val (.int (0 : Int32)), .val (.ref b83), .val (.int (1 : Int32))] [(.int (1 : Int32))])) (fun _ k => st120.trans k) ?_
        refine own_go (st' := T120.setTop (mkF m 126 #[.val (.int xa), .val (.int xb), .val (.int xc), .val (.int (1 : Int32)), .val (.int (0 : Int32)), .val (.ref b83), .val (.int (1 : Int32))] [(.int (1 : Int32)), (.int (1 : Int32))])) (fun _ k => XS.iloadN X120.here hx rfl (hb hby at_125) rfl k) ?_
        refine own_go (st' := T120.setTop (mkF m 128 #[.val (.int xa), .val (.int xb), .val (.int xc), .val (.int (1 : Int32)), .val (.int (0 : Int32)), .val (.ref b83), .val (.int (1 : Int32))] [(.int (0 : Int32)), (.int (1 : Int32)), (.int (1 : Int32))])) (fun _ k => XS.iload X120.here hx rfl (hb hby at_126) rfl k) ?_
        refine own_go (st' := T120.setTop (mkF m 129 #[.val (.int xa), .val (.int xb), .val (.int xc), .val (.int (1 : Int32)), .val (.int (0 : Int32)), .val (.ref b83), .val (.int (1 : Int32))] [(.int (1 : Int32)), (.int (1 : Int32))])) (fun _ k => XS.isub X120.here hx rfl (hb hby at_128) rfl (by rw [show ((1 : Int32) - (0 : Int32)) = (1 : Int32) by decide]; exact k)) ?_
        have hc121 : (0 : Int32) < (1 : Int32) := by decide
        refine own_go (st' := T120.setTop (mkF m 132 #[.val (.int xa), .val (.int xb), .val (.int xc), .val (.int (1 : Int32)), .val (.int (0 : Int32)), .val (.ref b83), .val (.int (1 : Int32))] [(.int (1 : Int32))])) (fun _ k => XS.ifNo X120.here hx rfl (hb hby at_129) rfl ((if0 _ _).trans (tlt hc121).2.2.2) k) ?_
        refine own_go (st' := T120.setTop (mkF m 133 #[.val (.int xa), .val (.int xb), .val (.int xc), .val (.int (1 : Int32)), .val (.int (0 : Int32)), .val (.ref b83), .val (.int (1 : Int32))] [(.int (1 : Int32)), (.int (1 : Int32))])) (fun _ k => XS.iconst X120.here hx rfl (hb hby at_132) k) ?_
        refine own_go (st' := T120.setTop (mkF m 137 #[.val (.int xa), .val (.int xb), .val (.int xc), .val (.int (1 : Int32)), .val (.int (0 : Int32)), .val (.ref b83), .val (.int (1 : Int32))] [(.int (1 : Int32)), (.int (1 : Int32))])) (fun _ k => XS.goto X120.here hx rfl (pc0 := 133) (pc' := 137) rfl (hb hby at_133) (by decide) (by decide) k) ?_
        have hc122 : (1 : Int32) = (1 : Int32) := by decide
        refine own_go (st' := T120.setTop (mkF m 140 #[.val (.int xa), .val (.int xb), .val (.int xc), .val (.int (1 : Int32)), .val (.int (0 : Int32)), .val (.ref b83), .val (.int (1 : Int32))] [])) (fun _ k => XS.icmpNo X120.here hx rfl (hb hby at_137) rfl (teq hc122).2 k) ?_
        refine own_go (st' := T120.setTop (mkF m 141 #[.val (.int xa), .val (.int xb), .val (.int xc), .val (.int (1 : Int32)), .val (.int (0 : Int32)), .val (.ref b83), .val (.int (1 : Int32))] [(.int (1 : Int32))])) (fun _ k => XS.iconst X120.here hx rfl (hb hby at_140) k) ?_
        refine own_go (st' := T120.setTop (mkF m 145 #[.val (.int xa), .val (.int xb), .val (.int xc), .val (.int (1 : Int32)), .val (.int (0 : Int32)), .val (.ref b83), .val (.int (1 : Int32))] [(.int (1 : Int32))])) (fun _ k => XS.goto X120.here hx rfl (pc0 := 141) (pc' := 145) rfl (hb hby at_141) (by decide) (by decide) k) ?_
        refine own_go (st' := T120.setTop (mkF m 147 #[.val (.int xa), .val (.int xb), .val (.int xc), .val (.int (1 : Int32)), .val (.int (0 : Int32)), .val (.ref b83), .val (.int (1 : Int32))] [])) (fun _ k => XS.istore X120.here hx rfl (hb hby at_145) rfl (l' := #[.val (.int xa), .val (.int xb), .val (.int xc), .val (.int (1 : Int32)), .val (.int (0 : Int32)), .val (.ref b83), .val (.int (1 : Int32))]) rfl k) ?_
        refine own_go (st' := T120.setTop (mkF m 148 #[.val (.int xa), .val (.int xb), .val (.int xc), .val (.int (1 : Int32)), .val (.int (0 : Int32)), .val (.ref b83), .val (.int (1 : Int32))] [(.int xc)])) (fun _ k => XS.iloadN X120.here hx rfl (hb hby at_147) rfl k) ?_
        refine own_go (st' := T120.setTop (mkF m 149 #[.val (.int xa), .val (.int xb), .val (.int xc), .val (.int (1 : Int32)), .val (.int (0 : Int32)), .val (.ref b83), .val (.int (1 : Int32))] [(.int (2 : Int32)), (.int xc)])) (fun _ k => XS.iconst X120.here hx rfl (hb hby at_148) k) ?_
        refine own_go (st' := T120.setTop (mkF m 150 #[.val (.int xa), .val (.int xb), .val (.int xc), .val (.int (1 : Int32)), .val (.int (0 : Int32)), .val (.ref b83), .val (.int (1 : Int32))] [(.int (xc &&& (2 : Int32)))])) (fun _ k => XS.iand X120.here hx rfl (hb hby at_149) rfl k) ?_
        by_cases hc123 : (xc &&& (2 : Int32)) = (0 : Int32)
        · --
          refine own_go (st' := T120.setTop (mkF m 178 #[.val (.int xa), .val (.int xb), .val (.int xc), .val (.int (1 : Int32)), .val (.int (0 : Int32)), .val (.ref b83), .val (.int (1 : Int32))] [])) (fun _ k => XS.ifYes X120.here hx rfl (pc0 := 150) (pc' := 178) rfl (hb hby at_150) rfl ((if0 _ _).trans (teq hc123).1) (by decide) (by decide) k) ?_
          refine own_go (st' := T120.setTop (mkF m 180 #[.val (.int xa), .val (.int xb), .val (.int xc), .val (.int (1 : Int32)), .val (.int (0 : Int32)), .val (.ref b83), .val (.int (1 : Int32))] [(.int (1 : Int32))])) (fun _ k => XS.iload X120.here hx rfl (hb hby at_178) rfl k) ?_
          obtain ⟨fs, hr, hrun, hended, hW, hsame⟩ := X120.leave (v := some (.int (1 : Int32))) (fun h => by rw [Bd.returns] at h; cases h)
          refine ⟨_, _, ?_, hP _ _ hrun hended ⟨_, _, rfl, ?_, ⟨_, rfl⟩, hW, hsame.mono (by decide) (by decide)⟩⟩
          · exact retN X120 hx (t := .boolean) Bd.returns (by simp) (hb hby at_180) hr
          · show Qrm0 Z xa xb xc h0 n0 _ T120.heap _
            rw [eq120]
            exact ⟨rfl, N120, trivial⟩
        · --
          refine own_go (st' := T120.setTop (mkF m 153 #[.val (.int xa), .val (.int xb), .val (.int xc), .val (.int (1 : Int32)), .val (.int (0 : Int32)), .val (.ref b83), .val (.int (1 : Int32))] [])) (fun _ k => XS.ifNo X120.here hx rfl (hb hby at_150) rfl ((if0 _ _).trans (feq hc123).1) k) ?_
          refine own_go (st' := T120.setTop (mkF m 155 #[.val (.int xa), .val (.int xb), .val (.int xc), .val (.int (1 : Int32)), .val (.int (0 : Int32)), .val (.ref b83), .val (.int (1 : Int32))] [(.ref b83)])) (fun _ k => XS.aload X120.here hx rfl (hb hby at_153) rfl rfl k) ?_
          have c126 : Arv Z h112 rl_89 kl_89 (.object "java/lang/Object") (16 : Int32) [.null, .null, .null, .null, .null, .null, .null, .null, .null, .null, .null, .null, .null, .null, .null, .null] .null := (c113.keep K112 (ninS (by first | assumption | exact Ne.symm (by assumption) | (apply Nat.ne_of_lt; omega) | (apply Nat.ne_of_gt; omega)) nin0))
          have c127 : Arv Z h112 rs_89 ks_89 .int (16 : Int32) [(.int (0 : Int32)), (.int (0 : Int32)), (.int (0 : Int32)), (.int (0 : Int32)), (.int (0 : Int32)), (.int (0 : Int32)), (.int (0 : Int32)), (.int (0 : Int32)), (.int (0 : Int32)), (.int (0 : Int32)), (.int (0 : Int32)), (.int (0 : Int32)), (.int (0 : Int32)), (.int (0 : Int32)), (.int (0 : Int32)), (.int (0 : Int32))] (.int (0 : Int32)) := (g91_5.keep K112 (ninS (by first | assumption | exact Ne.symm (by assumption) | (apply Nat.ne_of_lt; omega) | (apply Nat.ne_of_gt; omega)) nin0))
          obtain ⟨cq125, kq125, q125a, q125b, q125c⟩ := isOf hZ eq120 g112_0
          obtain ⟨_, _, ⟨T125, LC125, kC125, nC125⟩, -, X125, ⟨Lc125, hQ125, lq125, yq125, zq125⟩, st125⟩ := X120.virtualBack hx (y := (⟨"com/example/greenwood/greenwood/Environment", "closeScopes", "()V"⟩ : MethodName)) (z := (⟨"com/example/greenwood/greenwood/Environment", "closeScopes", "()V"⟩ : MethodName)) hown (mvT hZ (hw _ (List.mem_of_getElem? (i := 42) rfl))) (mvT hZ (hw _ (List.mem_of_getElem? (i := 43) rfl))) (notFace_of_selects (args := #[]) (mvT hZ (hw _ (List.mem_of_getElem? (i := 45) rfl)))) (mvT hZ (hw _ (List.mem_of_getElem? (i := 45) rfl))) (mvT hZ (hw _ (List.mem_of_getElem? (i := 44) rfl))) (by decide) (backOf (W := 0) (rm6_1 l Z a0 hw [] b83 (1 : Int32) rl_89 rs_89 kl_89 ks_89 h112 n0 (by omega) g112_0 g112_1 g112_2 g112_3 g112_4 c126 c127 (by omega) (by omega) (by omega) (by first | assumption | exact Ne.symm (by assumption) | (apply Nat.ne_of_lt; omega) | (apply Nat.ne_of_gt; omega)) (by first | assumption | exact Ne.symm (by assumption) | (apply Nat.ne_of_lt; omega) | (apply Nat.ne_of_gt; omega)) (by first | assumption | exact Ne.symm (by assumption) | (apply Nat.ne_of_lt; omega) | (apply Nat.ne_of_gt; omega))) hZ (hw _ (List.mem_of_getElem? (i := 46) rfl)) (hw _ (List.mem_of_getElem? (i := 3) rfl)) (by decide) (by decide)) q125a q125c (g := (mkF m 155 #[.val (.int xa), .val (.int xb), .val (.int xc), .val (.int (1 : Int32)), .val (.int (0 : Int32)), .val (.ref b83), .val (.int (1 : Int32))] [(.ref b83)])) rfl (by rw [hml]; rfl) (Steps.refl _) (argsL := []) (rest := []) (lenOf pd_0 rfl) rfl (by show 2 * 0 + _ ≤ _; exact Nat.le_of_eq rfl) (hb hby at_155) (fun _ _ => ⟨rfl, eq120, (by decide : 4 + 0 ≤ _), (by decide : 45 + 0 ≤ _)⟩)
          dsimp only [Pt.U, Pt.locs, Pt.cells, Pt.slots] at X125 lq125 yq125 zq125 st125 hQ125
          subst lq125 yq125 zq125
          obtain ⟨h125, e125⟩ : ∃ z, T125.heap = z := ⟨_, rfl⟩
          rw [e125] at hQ125
          obtain ⟨rfl, Nq125, K125, g125_0, g125_1, g125_2, g125_3, g125_4, g125_5⟩ := hQ125
          have sz125 : h112.size ≤ h125.size := K125.1
          have N125 := Fr.app N120 Nq125
          have lt125_1 : @LT.lt Nat _ b83 h125.size := g125_0.lt
          have lt125_2 : @LT.lt Nat _ rl_89 h125.size := g125_5.lt
          refine own_go (st' := T125.setTop (mkF m 158 #[.val (.int xa), .val (.int xb), .val (.int xc), .val (.int (1 : Int32)), .val (.int (0 : Int32)), .val (.ref b83), .val (.int (1 : Int32))] [])) (fun _ k => st125.trans k) ?_
          refine own_go (st' := T125.setTop (mkF m 160 #[.val (.int xa), .val (.int xb), .val (.int xc), .val (.int (1 : Int32)), .val (.int (0 : Int32)), .val (.ref b83), .val (.int (1 : Int32))] [(.int (1 : Int32))])) (fun _ k => XS.iload X125.here hx rfl (hb hby at_158) rfl k) ?_
          have hc128 : ¬ ((1 : Int32) = (0 : Int32)) := by decide
          refine own_go (st' := T125.setTop (mkF m 163 #[.val (.int xa), .val (.int xb), .val (.int xc), .val (.int (1 : Int32)), .val (.int (0 : Int32)), .val (.ref b83), .val (.int (1 : Int32))] [])) (fun _ k => XS.ifNo X125.here hx rfl (hb hby at_160) rfl ((if0 _ _).trans (feq hc128).1) k) ?_
          refine own_go (st' := T125.setTop (mkF m 165 #[.val (.int xa), .val (.int xb), .val (.int xc), .val (.int (1 : Int32)), .val (.int (0 : Int32)), .val (.ref b83), .val (.int (1 : Int32))] [(.ref b83)])) (fun _ k => XS.aload X125.here hx rfl (hb hby at_163) rfl rfl k) ?_
          obtain ⟨cq129, kq129, q129a, q129b, q129c⟩ := isOf hZ e125 g125_0
          obtain ⟨_, _, ⟨T129, LC129, kC129, nC129⟩, -, X129, ⟨Lc129, hQ129, lq129, yq129, zq129⟩, st129⟩ := X125.virtualBack hx (y := (⟨"com/example/greenwood/greenwood/Environment", "inScope", "()Z"⟩ : MethodName)) (z := (⟨"com/example/greenwood/greenwood/Environment", "inScope", "()Z"⟩ : MethodName)) hown (mvT hZ (hw _ (List.mem_of_getElem? (i := 35) rfl))) (mvT hZ (hw _ (List.mem_of_getElem? (i := 36) rfl))) (notFace_of_selects (args := #[]) (mvT hZ (hw _ (List.mem_of_getElem? (i := 38) rfl)))) (mvT hZ (hw _ (List.mem_of_getElem? (i := 38) rfl))) (mvT hZ (hw _ (List.mem_of_getElem? (i := 37) rfl))) (by decide) (backOf (W := 0) (rm5_0 l Z a0 hw [] b83 h125 n0 (by omega) g125_1) hZ (hw _ (List.mem_of_getElem? (i := 39) rfl)) (hw _ (List.mem_of_getElem? (i := 3) rfl)) (by decide) (by decide)) q129a q129c (g := (mkF m 165 #[.val (.int xa), .val (.int xb), .val (.int xc), .val (.int (1 : Int32)), .val (.int (0 : Int32)), .val (.ref b83), .val (.int (1 : Int32))] [(.ref b83)])) rfl (by rw [hml]; rfl) (Steps.refl _) (argsL := []) (rest := []) (lenOf pd_3 rfl) rfl (by show 2 * 0 + _ ≤ _; exact Nat.le_of_eq rfl) (hb hby at_165) (fun _ _ => ⟨rfl, e125, (by decide : 4 + 0 ≤ _), (by decide : 45 + 0 ≤ _)⟩)
          dsimp only [Pt.U, Pt.locs, Pt.cells, Pt.slots] at X129 lq129 yq129 zq129 st129 hQ129
          subst lq129 yq129 zq129
          obtain ⟨rfl, Nq129, eq129⟩ := hQ129
          have N129 := Fr.app N125 Nq129
          refine own_go (st' := T129.setTop (mkF m 168 #[.val (.int xa), .val (.int xb), .val (.int xc), .val (.int (1 : Int32)), .val (.int (0 : Int32)), .val (.ref b83), .val (.int (1 : Int32))] [(.int (0 : Int32))])) (fun _ k => st129.trans k) ?_
          have hc130 : (0 : Int32) = (0 : Int32) := by decide
          refine own_go (st' := T129.setTop (mkF m 171 #[.val (.int xa), .val (.int xb), .val (.int xc), .val (.int (1 : Int32)), .val (.int (0 : Int32)), .val (.ref b83), .val (.int (1 : Int32))] [])) (fun _ k => XS.ifNo X129.here hx rfl (hb hby at_168) rfl ((if0 _ _).trans (teq hc130).2) k) ?_
          refine own_go (st' := T129.setTop (mkF m 172 #[.val (.int xa), .val (.int xb), .val (.int xc), .val (.int (1 : Int32)), .val (.int (0 : Int32)), .val (.ref b83), .val (.int (1 : Int32))] [(.int (1 : Int32))])) (fun _ k => XS.iconst X129.here hx rfl (hb hby at_171) k) ?_
          refine own_go (st' := T129.setTop (mkF m 176 #[.val (.int xa), .val (.int xb), .val (.int xc), .val (.int (1 : Int32)), .val (.int (0 : Int32)), .val (.ref b83), .val (.int (1 : Int32))] [(.int (1 : Int32))])) (fun _ k => XS.goto X129.here hx rfl (pc0 := 172) (pc' := 176) rfl (hb hby at_172) (by decide) (by decide) k) ?_
          refine own_go (st' := T129.setTop (mkF m 178 #[.val (.int xa), .val (.int xb), .val (.int xc), .val (.int (1 : Int32)), .val (.int (0 : Int32)), .val (.ref b83), .val (.int (1 : Int32))] [])) (fun _ k => XS.istore X129.here hx rfl (hb hby at_176) rfl (l' := #[.val (.int xa), .val (.int xb), .val (.int xc), .val (.int (1 : Int32)), .val (.int (0 : Int32)), .val (.ref b83), .val (.int (1 : Int32))]) rfl k) ?_
          refine own_go (st' := T129.setTop (mkF m 180 #[.val (.int xa), .val (.int xb), .val (.int xc), .val (.int (1 : Int32)), .val (.int (0 : Int32)), .val (.ref b83), .val (.int (1 : Int32))] [(.int (1 : Int32))])) (fun _ k => XS.iload X129.here hx rfl (hb hby at_178) rfl k) ?_
          obtain ⟨fs, hr, hrun, hended, hW, hsame⟩ := X129.leave (v := some (.int (1 : Int32))) (fun h => by rw [Bd.returns] at h; cases h)
          refine ⟨_, _, ?_, hP _ _ hrun hended ⟨_, _, rfl, ?_, ⟨_, rfl⟩, hW, hsame.mono (by decide) (by decide)⟩⟩
          · exact retN X129 hx (t := .boolean) Bd.returns (by simp) (hb hby at_180) hr
          · show Qrm0 Z xa xb xc h0 n0 _ T129.heap _
            rw [eq129]
            exact ⟨rfl, N129, trivial⟩
    · --
      rw [hm_13]
      refine own_go (st' := s₁.setTop (mkF m 15 #[.val (.int xa), .val (.int xb), .val (.int xc), .val (.int (1 : Int32)), .val (.int (1 : Int32)), .unset, .unset] [])) (fun _ k => XS.istore X0.here hx rfl (hb hby at_13) rfl (l' := #[.val (.int xa), .val (.int xb), .val (.int xc), .val (.int (1 : Int32)), .val (.int (1 : Int32)), .unset, .unset]) rfl k) ?_
      refine own_go (st' := s₁.setTop (mkF m 17 #[.val (.int xa), .val (.int xb), .val (.int xc), .val (.int (1 : Int32)), .val (.int (1 : Int32)), .unset, .unset] [(.int (1 : Int32))])) (fun _ k => XS.iload X0.here hx rfl (hb hby at_15) rfl k) ?_
      refine own_go (st' := s₁.setTop (mkF m 18 #[.val (.int xa), .val (.int xb), .val (.int xc), .val (.int (1 : Int32)), .val (.int (1 : Int32)), .unset, .unset] [(.int (1 : Int32)), (.int (1 : Int32))])) (fun _ k => XS.iloadN X0.here hx rfl (hb hby at_17) rfl k) ?_
      have hc132 : ¬ ((1 : Int32) < (1 : Int32)) := by decide
      refine own_go (st' := s₁.setTop (mkF m 24 #[.val (.int xa), .val (.int xb), .val (.int xc), .val (.int (1 : Int32)), .val (.int (1 : Int32)), .unset, .unset] [])) (fun _ k => XS.icmpYes X0.here hx rfl (pc0 := 18) (pc' := 24) rfl (hb hby at_18) rfl (flt hc132).2.2.2 (by decide) (by decide) k) ?_
      obtain ⟨T133, h133, X133, e133, E133, A133, D133, -, st133⟩ := newO X0 hx hZ hown (hw _ (List.mem_of_getElem? (i := 1) rfl)) (hw _ (List.mem_of_getElem? (i := 2) rfl)) (hw _ (List.mem_of_getElem? (i := 3) rfl)) e0 (g := (mkF m 24 #[.val (.int xa), .val (.int xb), .val (.int xc), .val (.int (1 : Int32)), .val (.int (1 : Int32)), .unset, .unset] [])) rfl (hb hby at_24) (by decide) (by decide)
      obtain ⟨b133, g133⟩ : ∃ z, z = h0.size := ⟨_, rfl⟩
      rw [← g133] at A133 D133 st133
      have sz133 : h0.size ≤ h133.size := E133.1
      have lt133 : @LT.lt Nat _ b133 h133.size := A133.lt
      have f134 : Fld Z h133 b133 "com/example/greenwood/greenwood/Environment" "globals" "Ljava/util/Map;" .null := D133 (Or.inr (hw _ (List.mem_of_getElem? (i := 27) rfl))) (ty := (.object "java/util/Map")) (by decide)
      have f135 : Fld Z h133 b133 "com/example/greenwood/greenwood/Environment" "locals" "[Ljava/lang/Object;" .null := D133 (Or.inl (hw _ (List.mem_of_getElem? (i := 31) rfl))) (ty := (.array (.object "java/lang/Object"))) (by decide)
      have f136 : Fld Z h133 b133 "com/example/greenwood/greenwood/Environment" "scopeStarts" "[I" .null := D133 (Or.inl (hw _ (List.mem_of_getElem? (i := 34) rfl))) (ty := (.array .int)) (by decide)
      have f137 : Fld Z h133 b133 "com/example/greenwood/greenwood/Environment" "openScopes" "I" (.int (0 : Int32)) := D133 (Or.inl (hw _ (List.mem_of_getElem? (i := 41) rfl))) (ty := .int) (by decide)
      have f138 : Fld Z h133 b133 "com/example/greenwood/greenwood/Environment" "localCount" "I" (.int (0 : Int32)) := D133 (Or.inl (hw _ (List.mem_of_getElem? (i := 48) rfl))) (ty := .int) (by decide)
      refine own_go (st' := T133.setTop (mkF m 27 #[.val (.int xa), .val (.int xb), .val (.int xc), .val (.int (1 : Int32)), .val (.int (1 : Int32)), .unset, .unset] [(.ref b133)])) (st133) ?_
      refine own_go (st' := T133.setTop (mkF m 28 #[.val (.int xa), .val (.int xb), .val (.int xc), .val (.int (1 : Int32)), .val (.int (1 : Int32)), .unset, .unset] [(.ref b133), (.ref b133)])) (fun _ k => XS.dup X133.here hx rfl (hb hby at_27) rfl rfl k) ?_
      obtain ⟨_, _, ⟨T139, LC139, kC139, nC139⟩, -, X139, ⟨Lc139, hQ139, lq139, yq139, zq139⟩, st139⟩ := X133.specialBack hx (y := (⟨"com/example/greenwood/greenwood/Environment", "<init>", "()V"⟩ : MethodName)) rfl hown (mvT hZ (hw _ (List.mem_of_getElem? (i := 4) rfl))) (mvT hZ (hw _ (List.mem_of_getElem? (i := 5) rfl))) (mvT hZ (hw _ (List.mem_of_getElem? (i := 6) rfl))) (by decide) (backOf (W := 1) (rm1 l Z a0 hw [] b133 h133 n0 (by omega) A133 f134 f135 f136 f137 f138 (by omega)) hZ (hw _ (List.mem_of_getElem? (i := 6) rfl)) (hw _ (List.mem_of_getElem? (i := 3) rfl)) (by decide) (by decide)) (g := (mkF m 28 #[.val (.int xa), .val (.int xb), .val (.int xc), .val (.int (1 : Int32)), .val (.int (1 : Int32)), .unset, .unset] [(.ref b133), (.ref b133)])) rfl (by rw [hml]; rfl) (Steps.refl _) (a := b133) (argsL := []) (rest := [(.ref b133)]) (lenOf pd_0 rfl) rfl (by show 2 * 0 + _ ≤ _; exact Nat.le_of_eq rfl) (hb hby at_28) (fun _ _ => ⟨rfl, e133, (by decide : 1 + 3 ≤ _), (by decide : 5 + 40 ≤ _)⟩)
      dsimp only [Pt.U, Pt.locs, Pt.cells, Pt.slots] at X139 lq139 yq139 zq139 st139 hQ139
      subst lq139 yq139 zq139
      obtain ⟨h139, e139⟩ : ∃ z, T139.heap = z := ⟨_, rfl⟩
      rw [e139] at hQ139
      obtain ⟨rl_139, rs_139, kl_139, ks_139, rfl, Nq139, K139, g139_0, g139_1, g139_2, g139_3, g139_4, g139_5, g139_6, g139_7, g139_8, g139_9, g139_10⟩ := hQ139
      have sz139 : h133.size ≤ h139.size := K139.1
      have N139 := Fr.app N0 Nq139
      have lt139_1 : @LT.lt Nat _ b133 h139.size := g139_0.lt
      have lt139_2 : @LT.lt Nat _ rl_139 h139.size := g139_5.lt
      have lt139_3 : @LT.lt Nat _ rs_139 h139.size := g139_6.lt
      refine own_go (st' := T139.setTop (mkF m 31 #[.val (.int xa), .val (.int xb), .val (.int xc), .val (.int (1 : Int32)), .val (.int (1 : Int32)), .unset, .unset] [(.ref b133)])) (fun _ k => st139.trans k) ?_
      refine own_go (st' := T139.setTop (mkF m 33 #[.val (.int xa), .val (.int xb), .val (.int xc), .val (.int (1 : Int32)), .val (.int (1 : Int32)), .val (.ref b133), .unset] [])) (fun _ k => XS.astore X139.here hx rfl (hb hby at_31) rfl rfl (l' := #[.val (.int xa), .val (.int xb), .val (.int xc), .val (.int (1 : Int32)), .val (.int (1 : Int32)), .val (.ref b133), .unset]) rfl k) ?_
      refine own_go (st' := T139.setTop (mkF m 34 #[.val (.int xa), .val (.int xb), .val (.int xc), .val (.int (1 : Int32)), .val (.int (1 : Int32)), .val (.ref b133), .unset] [(.int (1 : Int32))])) (fun _ k => XS.iloadN X139.here hx rfl (hb hby at_33) rfl k) ?_
      refine own_go (st' := T139.setTop (mkF m 35 #[.val (.int xa), .val (.int xb), .val (.int xc), .val (.int (1 : Int32)), .val (.int (1 : Int32)), .val (.ref b133), .unset] [(.int (1 : Int32)), (.int (1 : Int32))])) (fun _ k => XS.iconst X139.here hx rfl (hb hby at_34) k) ?_
      have hc140 : ¬ ((1 : Int32) < (1 : Int32)) := by decide
      refine own_go (st' := T139.setTop (mkF m 38 #[.val (.int xa), .val (.int xb), .val (.int xc), .val (.int (1 : Int32)), .val (.int (1 : Int32)), .val (.ref b133), .unset] [])) (fun _ k => XS.icmpNo X139.here hx rfl (hb hby at_35) rfl (flt hc140).1 k) ?_
      refine own_go (st' := T139.setTop (mkF m 40 #[.val (.int xa), .val (.int xb), .val (.int xc), .val (.int (1 : Int32)), .val (.int (1 : Int32)), .val (.ref b133), .unset] [(.ref b133)])) (fun _ k => XS.aload X139.here hx rfl (hb hby at_38) rfl rfl k) ?_
      obtain ⟨cq141, kq141, q141a, q141b, q141c⟩ := isOf hZ e139 g139_0
      obtain ⟨_, _, ⟨T141, LC141, kC141, nC141⟩, -, X141, ⟨Lc141, hQ141, lq141, yq141, zq141⟩, st141⟩ := X139.virtualBack hx (y := (⟨"com/example/greenwood/greenwood/Environment", "openScope", "()V"⟩ : MethodName)) (z := (⟨"com/example/greenwood/greenwood/Environment", "openScope", "()V"⟩ : MethodName)) hown (mvT hZ (hw _ (List.mem_of_getElem? (i := 56) rfl))) (mvT hZ (hw _ (List.mem_of_getElem? (i := 57) rfl))) (notFace_of_selects (args := #[]) (mvT hZ (hw _ (List.mem_of_getElem? (i := 59) rfl)))) (mvT hZ (hw _ (List.mem_of_getElem? (i := 59) rfl))) (mvT hZ (hw _ (List.mem_of_getElem? (i := 58) rfl))) (by decide) (backOf (W := 0) (rm9_0 l Z a0 hw [] b133 rl_139 rs_139 kl_139 ks_139 h139 n0 (by omega) g139_0 g139_1 g139_2 g139_3 g139_4 g139_5 g139_6 (by omega) (by omega) (by omega) (by first | assumption | exact Ne.symm (by assumption) | (apply Nat.ne_of_lt; omega) | (apply Nat.ne_of_gt; omega)) (by first | assumption | exact Ne.symm (by assumption) | (apply Nat.ne_of_lt; omega) | (apply Nat.ne_of_gt; omega)) (by first | assumption | exact Ne.symm (by assumption) | (apply Nat.ne_of_lt; omega) | (apply Nat.ne_of_gt; omega))) hZ (hw _ (List.mem_of_getElem? (i := 60) rfl)) (hw _ (List.mem_of_getElem? (i := 3) rfl)) (by decide) (by decide)) q141a q141c (g := (mkF m 40 #[.val (.int xa), .val (.int xb), .val (.int xc), .val (.int (1 : Int32)), .val (.int (1 : Int32)), .val (.ref b133), .unset] [(.ref b133)])) rfl (by rw [hml]; rfl) (Steps.refl _) (argsL := []) (rest := []) (lenOf pd_0 rfl) rfl (by show 2 * 0 + _ ≤ _; exact Nat.le_of_eq rfl) (hb hby at_40) (fun _ _ => ⟨rfl, e139, (by decide : 4 + 0 ≤ _), (by decide : 45 + 0 ≤ _)⟩)
      dsimp only [Pt.U, Pt.locs, Pt.cells, Pt.slots] at X141 lq141 yq141 zq141 st141 hQ141
      subst lq141 yq141 zq141
      obtain ⟨h141, e141⟩ : ∃ z, T141.heap = z := ⟨_, rfl⟩
      rw [e141] at hQ141
      obtain ⟨rfl, Nq141, K141, g141_0, g141_1, g141_2, g141_3, g141_4, g141_5⟩ := hQ141
      have sz141 : h139.size ≤ h141.size := K141.1
      have N141 := Fr.app N139 Nq141
      have lt141_1 : @LT.lt Nat _ b133 h141.size := g141_0.lt
      have lt141_2 : @LT.lt Nat _ rs_139 h141.size := g141_5.lt
      refine own_go (st' := T141.setTop (mkF m 43 #[.val (.int xa), .val (.int xb), .val (.int xc), .val (.int (1 : Int32)), .val (.int (1 : Int32)), .val (.ref b133), .unset] [])) (fun _ k => st141.trans k) ?_
      refine own_go (st' := T141.setTop (mkF m 44 #[.val (.int xa), .val (.int xb), .val (.int xc), .val (.int (1 : Int32)), .val (.int (1 : Int32)), .val (.ref b133), .unset] [(.int (1 : Int32))])) (fun _ k => XS.iloadN X141.here hx rfl (hb hby at_43) rfl k) ?_
      refine own_go (st' := T141.setTop (mkF m 45 #[.val (.int xa), .val (.int xb), .val (.int xc), .val (.int (1 : Int32)), .val (.int (1 : Int32)), .val (.ref b133), .unset] [(.int (2 : Int32)), (.int (1 : Int32))])) (fun _ k => XS.iconst X141.here hx rfl (hb hby at_44) k) ?_
      have hc142 : (1 : Int32) < (2 : Int32) := by decide
      refine own_go (st' := T141.setTop (mkF m 53 #[.val (.int xa), .val (.int xb), .val (.int xc), .val (.int (1 : Int32)), .val (.int (1 : Int32)), .val (.ref b133), .unset] [])) (fun _ k => XS.icmpYes X141.here hx rfl (pc0 := 45) (pc' := 53) rfl (hb hby at_45) rfl (tlt hc142).1 (by decide) (by decide) k) ?_
      refine own_go (st' := T141.setTop (mkF m 54 #[.val (.int xa), .val (.int xb), .val (.int xc), .val (.int (1 : Int32)), .val (.int (1 : Int32)), .val (.ref b133), .unset] [(.int (1 : Int32))])) (fun _ k => XS.iloadN X141.here hx rfl (hb hby at_53) rfl k) ?_
      refine own_go (st' := T141.setTop (mkF m 55 #[.val (.int xa), .val (.int xb), .val (.int xc), .val (.int (1 : Int32)), .val (.int (1 : Int32)), .val (.ref b133), .unset] [(.int (1 : Int32)), (.int (1 : Int32))])) (fun _ k => XS.iconst X141.here hx rfl (hb hby at_54) k) ?_
      have hc143 : ¬ ((1 : Int32) < (1 : Int32)) := by decide
      refine own_go (st' := T141.setTop (mkF m 58 #[.val (.int xa), .val (.int xb), .val (.int xc), .val (.int (1 : Int32)), .val (.int (1 : Int32)), .val (.ref b133), .unset] [])) (fun _ k => XS.icmpNo X141.here hx rfl (hb hby at_55) rfl (flt hc143).1 k) ?_
      refine own_go (st' := T141.setTop (mkF m 59 #[.val (.int xa), .val (.int xb), .val (.int xc), .val (.int (1 : Int32)), .val (.int (1 : Int32)), .val (.ref b133), .unset] [(.int xc)])) (fun _ k => XS.iloadN X141.here hx rfl (hb hby at_58) rfl k) ?_
      refine own_go (st' := T141.setTop (mkF m 60 #[.val (.int xa), .val (.int xb), .val (.int xc), .val (.int (1 : Int32)), .val (.int (1 : Int32)), .val (.ref b133), .unset] [(.int (1 : Int32)), (.int xc)])) (fun _ k => XS.iconst X141.here hx rfl (hb hby at_59) k) ?_
      refine own_go (st' := T141.setTop (mkF m 61 #[.val (.int xa), .val (.int xb), .val (.int xc), .val (.int (1 : Int32)), .val (.int (1 : Int32)), .val (.ref b133), .unset] [(.int (xc &&& (1 : Int32)))])) (fun _ k => XS.iand X141.here hx rfl (hb hby at_60) rfl k) ?_
      by_cases hc144 : (xc &&& (1 : Int32)) = (0 : Int32)
      · --
        refine own_go (st' := T141.setTop (mkF m 69 #[.val (.int xa), .val (.int xb), .val (.int xc), .val (.int (1 : Int32)), .val (.int (1 : Int32)), .val (.ref b133), .unset] [])) (fun _ k => XS.ifYes X141.here hx rfl (pc0 := 61) (pc' := 69) rfl (hb hby at_61) rfl ((if0 _ _).trans (teq hc144).1) (by decide) (by decide) k) ?_
        refine own_go (st' := T141.setTop (mkF m 71 #[.val (.int xa), .val (.int xb), .val (.int xc), .val (.int (1 : Int32)), .val (.int (1 : Int32)), .val (.ref b133), .unset] [(.ref b133)])) (fun _ k => XS.aload X141.here hx rfl (hb hby at_69) rfl rfl k) ?_
        obtain ⟨cq145, kq145, q145a, q145b, q145c⟩ := isOf hZ e141 g141_0
        obtain ⟨_, _, ⟨T145, LC145, kC145, nC145⟩, -, X145, ⟨Lc145, hQ145, lq145, yq145, zq145⟩, st145⟩ := X141.virtualBack hx (y := (⟨"com/example/greenwood/greenwood/Environment", "inScope", "()Z"⟩ : MethodName)) (z := (⟨"com/example/greenwood/greenwood/Environment", "inScope", "()Z"⟩ : MethodName)) hown (mvT hZ (hw _ (List.mem_of_getElem? (i := 35) rfl))) (mvT hZ (hw _ (List.mem_of_getElem? (i := 36) rfl))) (notFace_of_selects (args := #[]) (mvT hZ (hw _ (List.mem_of_getElem? (i := 38) rfl)))) (mvT hZ (hw _ (List.mem_of_getElem? (i := 38) rfl))) (mvT hZ (hw _ (List.mem_of_getElem? (i := 37) rfl))) (by decide) (backOf (W := 0) (rm5_1 l Z a0 hw [] b133 h141 n0 (by omega) g141_1) hZ (hw _ (List.mem_of_getElem? (i := 39) rfl)) (hw _ (List.mem_of_getElem? (i := 3) rfl)) (by decide) (by decide)) q145a q145c (g := (mkF m 71 #[.val (.int xa), .val (.int xb), .val (.int xc), .val (.int (1 : Int32)), .val (.int (1 : Int32)), .val (.ref b133), .unset] [(.ref b133)])) rfl (by rw [hml]; rfl) (Steps.refl _) (argsL := []) (rest := []) (lenOf pd_3 rfl) rfl (by show 2 * 0 + _ ≤ _; exact Nat.le_of_eq rfl) (hb hby at_71) (fun _ _ => ⟨rfl, e141, (by decide : 4 + 0 ≤ _), (by decide : 45 + 0 ≤ _)⟩)
        dsimp only [Pt.U, Pt.locs, Pt.cells, Pt.slots] at X145 lq145 yq145 zq145 st145 hQ145
        subst lq145 yq145 zq145
        obtain ⟨rfl, Nq145, eq145⟩ := hQ145
        have N145 := Fr.app N141 Nq145
        refine own_go (st' := T145.setTop (mkF m 74 #[.val (.int xa), .val (.int xb), .val (.int xc), .val (.int (1 : Int32)), .val (.int (1 : Int32)), .val (.ref b133), .unset] [(.int (1 : Int32))])) (fun _ k => st145.trans k) ?_
        refine own_go (st' := T145.setTop (mkF m 75 #[.val (.int xa), .val (.int xb), .val (.int xc), .val (.int (1 : Int32)), .val (.int (1 : Int32)), .val (.ref b133), .unset] [(.int (1 : Int32)), (.int (1 : Int32))])) (fun _ k => XS.iloadN X145.here hx rfl (hb hby at_74) rfl k) ?_
        have hc146 : (0 : Int32) < (1 : Int32) := by decide
        refine own_go (st' := T145.setTop (mkF m 78 #[.val (.int xa), .val (.int xb), .val (.int xc), .val (.int (1 : Int32)), .val (.int (1 : Int32)), .val (.ref b133), .unset] [(.int (1 : Int32))])) (fun _ k => XS.ifNo X145.here hx rfl (hb hby at_75) rfl ((if0 _ _).trans (tlt hc146).2.2.2) k) ?_
        refine own_go (st' := T145.setTop (mkF m 79 #[.val (.int xa), .val (.int xb), .val (.int xc), .val (.int (1 : Int32)), .val (.int (1 : Int32)), .val (.ref b133), .unset] [(.int (1 : Int32)), (.int (1 : Int32))])) (fun _ k => XS.iconst X145.here hx rfl (hb hby at_78) k) ?_
        refine own_go (st' := T145.setTop (mkF m 83 #[.val (.int xa), .val (.int xb), .val (.int xc), .val (.int (1 : Int32)), .val (.int (1 : Int32)), .val (.ref b133), .unset] [(.int (1 : Int32)), (.int (1 : Int32))])) (fun _ k => XS.goto X145.here hx rfl (pc0 := 79) (pc' := 83) rfl (hb hby at_79) (by decide) (by decide) k) ?_
        have hc147 : (1 : Int32) = (1 : Int32) := by decide
        refine own_go (st' := T145.setTop (mkF m 86 #[.val (.int xa), .val (.int xb), .val (.int xc), .val (.int (1 : Int32)), .val (.int (1 : Int32)), .val (.ref b133), .unset] [])) (fun _ k => XS.icmpNo X145.here hx rfl (hb hby at_83) rfl (teq hc147).2 k) ?_
        refine own_go (st' := T145.setTop (mkF m 87 #[.val (.int xa), .val (.int xb), .val (.int xc), .val (.int (1 : Int32)), .val (.int (1 : Int32)), .val (.ref b133), .unset] [(.int (1 : Int32))])) (fun _ k => XS.iconst X145.here hx rfl (hb hby at_86) k) ?_
        refine own_go (st' := T145.setTop (mkF m 91 #[.val (.int xa), .val (.int xb), .val (.int xc), .val (.int (1 : Int32)), .val (.int (1 : Int32)), .val (.ref b133), .unset] [(.int (1 : Int32))])) (fun _ k => XS.goto X145.here hx rfl (pc0 := 87) (pc' := 91) rfl (hb hby at_87) (by decide) (by decide) k) ?_
        refine own_go (st' := T145.setTop (mkF m 93 #[.val (.int xa), .val (.int xb), .val (.int xc), .val (.int (1 : Int32)), .val (.int (1 : Int32)), .val (.ref b133), .val (.int (1 : Int32))] [])) (fun _ k => XS.istore X145.here hx rfl (hb hby at_91) rfl (l' := #[.val (.int xa), .val (.int xb), .val (.int xc), .val (.int (1 : Int32)), .val (.int (1 : Int32)), .val (.ref b133), .val (.int (1 : Int32))]) rfl k) ?_
        refine own_go (st' := T145.setTop (mkF m 95 #[.val (.int xa), .val (.int xb), .val (.int xc), .val (.int (1 : Int32)), .val (.int (1 : Int32)), .val (.ref b133), .val (.int (1 : Int32))] [(.int (1 : Int32))])) (fun _ k => XS.iload X145.here hx rfl (hb hby at_93) rfl k) ?_
        refine own_go (st' := T145.setTop (mkF m 96 #[.val (.int xa), .val (.int xb), .val (.int xc), .val (.int (1 : Int32)), .val (.int (1 : Int32)), .val (.ref b133), .val (.int (1 : Int32))] [(.int (1 : Int32)), (.int (1 : Int32))])) (fun _ k => XS.iconst X145.here hx rfl (hb hby at_95) k) ?_
        have hc148 : ¬ ((1 : Int32) < (1 : Int32)) := by decide
        refine own_go (st' := T145.setTop (mkF m 99 #[.val (.int xa), .val (.int xb), .val (.int xc), .val (.int (1 : Int32)), .val (.int (1 : Int32)), .val (.ref b133), .val (.int (1 : Int32))] [])) (fun _ k => XS.icmpNo X145.here hx rfl (hb hby at_96) rfl (flt hc148).1 k) ?_
        refine own_go (st' := T145.setTop (mkF m 101 #[.val (.int xa), .val (.int xb), .val (.int xc), .val (.int (1 : Int32)), .val (.int (1 : Int32)), .val (.ref b133), .val (.int (1 : Int32))] [(.ref b133)])) (fun _ k => XS.aload X145.here hx rfl (hb hby at_99) rfl rfl k) ?_
        have c150 : Arv Z h141 rl_139 kl_139 (.object "java/lang/Object") (16 : Int32) [.null, .null, .null, .null, .null, .null, .null, .null, .null, .null, .null, .null, .null, .null, .null, .null] .null := (g139_5.keep K141 (ninS (by first | assumption | exact Ne.symm (by assumption) | (apply Nat.ne_of_lt; omega) | (apply Nat.ne_of_gt; omega)) (ninS (by first | assumption | exact Ne.symm (by assumption) | (apply Nat.ne_of_lt; omega) | (apply Nat.ne_of_gt; omega)) nin0)))
        obtain ⟨cq149, kq149, q149a, q149b, q149c⟩ := isOf hZ eq145 g141_0
        obtain ⟨_, _, ⟨T149, LC149, kC149, nC149⟩, -, X149, ⟨Lc149, hQ149, lq149, yq149, zq149⟩, st149⟩ := X145.virtualBack hx (y := (⟨"com/example/greenwood/greenwood/Environment", "closeScope", "()V"⟩ : MethodName)) (z := (⟨"com/example/greenwood/greenwood/Environment", "closeScope", "()V"⟩ : MethodName)) hown (mvT hZ (hw _ (List.mem_of_getElem? (i := 66) rfl))) (mvT hZ (hw _ (List.mem_of_getElem? (i := 67) rfl))) (notFace_of_selects (args := #[]) (mvT hZ (hw _ (List.mem_of_getElem? (i := 69) rfl)))) (mvT hZ (hw _ (List.mem_of_getElem? (i := 69) rfl))) (mvT hZ (hw _ (List.mem_of_getElem? (i := 68) rfl))) (by decide) (backOf (W := 0) (rm11_1_0 l Z a0 hw [] b133 rl_139 rs_139 kl_139 ks_139 h141 n0 (by omega) g141_0 g141_1 g141_2 g141_3 g141_4 c150 g141_5 (by omega) (by omega) (by omega) (by first | assumption | exact Ne.symm (by assumption) | (apply Nat.ne_of_lt; omega) | (apply Nat.ne_of_gt; omega)) (by first | assumption | exact Ne.symm (by assumption) | (apply Nat.ne_of_lt; omega) | (apply Nat.ne_of_gt; omega)) (by first | assumption | exact Ne.symm (by assumption) | (apply Nat.ne_of_lt; omega) | (apply Nat.ne_of_gt; omega))) hZ (hw _ (List.mem_of_getElem? (i := 70) rfl)) (hw _ (List.mem_of_getElem? (i := 3) rfl)) (by decide) (by decide)) q149a q149c (g := (mkF m 101 #[.val (.int xa), .val (.int xb), .val (.int xc), .val (.int (1 : Int32)), .val (.int (1 : Int32)), .val (.ref b133), .val (.int (1 : Int32))] [(.ref b133)])) rfl (by rw [hml]; rfl) (Steps.refl _) (argsL := []) (rest := []) (lenOf pd_0 rfl) rfl (by show 2 * 0 + _ ≤ _; exact Nat.le_of_eq rfl) (hb hby at_101) (fun _ _ => ⟨rfl, eq145, (by decide : 4 + 0 ≤ _), (by decide : 45 + 0 ≤ _)⟩)
        dsimp only [Pt.U, Pt.locs, Pt.cells, Pt.slots] at X149 lq149 yq149 zq149 st149 hQ149
        subst lq149 yq149 zq149
        obtain ⟨h149, e149⟩ : ∃ z, T149.heap = z := ⟨_, rfl⟩
        rw [e149] at hQ149
        obtain ⟨rfl, Nq149, K149, g149_0, g149_1, g149_2, g149_3, g149_4, g149_5⟩ := hQ149
        have sz149 : h141.size ≤ h149.size := K149.1
        have N149 := Fr.app N145 Nq149
        have lt149_1 : @LT.lt Nat _ b133 h149.size := g149_0.lt
        have lt149_2 : @LT.lt Nat _ rl_139 h149.size := g149_5.lt
        refine own_go (st' := T149.setTop (mkF m 104 #[.val (.int xa), .val (.int xb), .val (.int xc), .val (.int (1 : Int32)), .val (.int (1 : Int32)), .val (.ref b133), .val (.int (1 : Int32))] [])) (fun _ k => st149.trans k) ?_
        refine own_go (st' := T149.setTop (mkF m 106 #[.val (.int xa), .val (.int xb), .val (.int xc), .val (.int (1 : Int32)), .val (.int (1 : Int32)), .val (.ref b133), .val (.int (1 : Int32))] [(.int (1 : Int32))])) (fun _ k => XS.iload X149.here hx rfl (hb hby at_104) rfl k) ?_
        refine own_go (st' := T149.setTop (mkF m 107 #[.val (.int xa), .val (.int xb), .val (.int xc), .val (.int (1 : Int32)), .val (.int (1 : Int32)), .val (.ref b133), .val (.int (1 : Int32))] [(.int (2 : Int32)), (.int (1 : Int32))])) (fun _ k => XS.iconst X149.here hx rfl (hb hby at_106) k) ?_
        have hc151 : (1 : Int32) < (2 : Int32) := by decide
        refine own_go (st' := T149.setTop (mkF m 115 #[.val (.int xa), .val (.int xb), .val (.int xc), .val (.int (1 : Int32)), .val (.int (1 : Int32)), .val (.ref b133), .val (.int (1 : Int32))] [])) (fun _ k => XS.icmpYes X149.here hx rfl (pc0 := 107) (pc' := 115) rfl (hb hby at_107) rfl (tlt hc151).1 (by decide) (by decide) k) ?_
        refine own_go (st' := T149.setTop (mkF m 117 #[.val (.int xa), .val (.int xb), .val (.int xc), .val (.int (1 : Int32)), .val (.int (1 : Int32)), .val (.ref b133), .val (.int (1 : Int32))] [(.int (1 : Int32))])) (fun _ k => XS.iload X149.here hx rfl (hb hby at_115) rfl k) ?_
        have hc152 : ¬ ((1 : Int32) = (0 : Int32)) := by decide
        refine own_go (st' := T149.setTop (mkF m 120 #[.val (.int xa), .val (.int xb), .val (.int xc), .val (.int (1 : Int32)), .val (.int (1 : Int32)), .val (.ref b133), .val (.int (1 : Int32))] [])) (fun _ k => XS.ifNo X149.here hx rfl (hb hby at_117) rfl ((if0 _ _).trans (feq hc152).1) k) ?_
        refine own_go (st' := T149.setTop (mkF m 122 #[.val (.int xa), .val (.int xb), .val (.int xc), .val (.int (1 : Int32)), .val (.int (1 : Int32)), .val (.ref b133), .val (.int (1 : Int32))] [(.ref b133)])) (fun _ k => XS.aload X149.here hx rfl (hb hby at_120) rfl rfl k) ?_
        obtain ⟨cq153, kq153, q153a, q153b, q153c⟩ := isOf hZ e149 g149_0
        obtain ⟨_, _, ⟨T153, LC153, kC153, nC153⟩, -, X153, ⟨Lc153, hQ153, lq153, yq153, zq153⟩, st153⟩ := X149.virtualBack hx (y := (⟨"com/example/greenwood/greenwood/Environment", "inScope", "()Z"⟩ : MethodName)) (z := (⟨"com/example/greenwood/greenwood/Environment", "inScope", "()Z"⟩ : MethodName)) hown (mvT hZ (hw _ (List.mem_of_getElem? (i := 35) rfl))) (mvT hZ (hw _ (List.mem_of_getElem? (i := 36) rfl))) (notFace_of_selects (args := #[]) (mvT hZ (hw _ (List.mem_of_getElem? (i := 38) rfl)))) (mvT hZ (hw _ (List.mem_of_getElem? (i := 38) rfl))) (mvT hZ (hw _ (List.mem_of_getElem? (i := 37) rfl))) (by decide) (backOf (W := 0) (rm5_0 l Z a0 hw [] b133 h149 n0 (by omega) g149_1) hZ (hw _ (List.mem_of_getElem? (i := 39) rfl)) (hw _ (List.mem_of_getElem? (i := 3) rfl)) (by decide) (by decide)) q153a q153c (g := (mkF m 122 #[.val (.int xa), .val (.int xb), .val (.int xc), .val (.int (1 : Int32)), .val (.int (1 : Int32)), .val (.ref b133), .val (.int (1 : Int32))] [(.ref b133)])) rfl (by rw [hml]; rfl) (Steps.refl _) (argsL := []) (rest := []) (lenOf pd_3 rfl) rfl (by show 2 * 0 + _ ≤ _; exact Nat.le_of_eq rfl) (hb hby at_122) (fun _ _ => ⟨rfl, e149, (by decide : 4 + 0 ≤ _), (by decide : 45 + 0 ≤ _)⟩)
        dsimp only [Pt.U, Pt.locs, Pt.cells, Pt.slots] at X153 lq153 yq153 zq153 st153 hQ153
        subst lq153 yq153 zq153
        obtain ⟨rfl, Nq153, eq153⟩ := hQ153
        have N153 := Fr.app N149 Nq153
        refine own_go (st' := T153.setTop (mkF m 125 #[.val (.int xa), .val (.int xb), .val (.int xc), .val (.int (1 : Int32)), .val (.int (1 : Int32)), .val (.ref b133), .val (.int (1 : Int32))] [(.int (0 : Int32))])) (fun _ k => st153.trans k) ?_
        refine own_go (st' := T153.setTop (mkF m 126 #[.val (.int xa), .val (.int xb), .val (.int xc), .val (.int (1 : Int32)), .val (.int (1 : Int32)), .val (.ref b133), .val (.int (1 : Int32))] [(.int (1 : Int32)), (.int (0 : Int32))])) (fun _ k => XS.iloadN X153.here hx rfl (hb hby at_125) rfl k) ?_
        refine own_go (st' := T153.setTop (mkF m 128 #[.val (.int xa), .val (.int xb), .val (.int xc), .val (.int (1 : Int32)), .val (.int (1 : Int32)), .val (.ref b133), .val (.int (1 : Int32))] [(.int (1 : Int32)), (.int (1 : Int32)), (.int (0 : Int32))])) (fun _ k => XS.iload X153.here hx rfl (hb hby at_126) rfl k) ?_
        refine own_go (st' := T153.setTop (mkF m 129 #[.val (.int xa), .val (.int xb), .val (.int xc), .val (.int (1 : Int32)), .val (.int (1 : Int32)), .val (.ref b133), .val (.int (1 : Int32))] [(.int (0 : Int32)), (.int (0 : Int32))])) (fun _ k => XS.isub X153.here hx rfl (hb hby at_128) rfl (by rw [show ((1 : Int32) - (1 : Int32)) = (0 : Int32) by decide]; exact k)) ?_
        have hc154 : ¬ ((0 : Int32) < (0 : Int32)) := by decide
        refine own_go (st' := T153.setTop (mkF m 136 #[.val (.int xa), .val (.int xb), .val (.int xc), .val (.int (1 : Int32)), .val (.int (1 : Int32)), .val (.ref b133), .val (.int (1 : Int32))] [(.int (0 : Int32))])) (fun _ k => XS.ifYes X153.here hx rfl (pc0 := 129) (pc' := 136) rfl (hb hby at_129) rfl ((if0 _ _).trans (flt hc154).2.2.2) (by decide) (by decide) k) ?_
        refine own_go (st' := T153.setTop (mkF m 137 #[.val (.int xa), .val (.int xb), .val (.int xc), .val (.int (1 : Int32)), .val (.int (1 : Int32)), .val (.ref b133), .val (.int (1 : Int32))] [(.int (0 : Int32)), (.int (0 : Int32))])) (fun _ k => XS.iconst X153.here hx rfl (hb hby at_136) k) ?_
        have hc155 : (0 : Int32) = (0 : Int32) := by decide
        refine own_go (st' := T153.setTop (mkF m 140 #[.val (.int xa), .val (.int xb), .val (.int xc), .val (.int (1 : Int32)), .val (.int (1 : Int32)), .val (.ref b133), .val (.int (1 : Int32))] [])) (fun _ k => XS.icmpNo X153.here hx rfl (hb hby at_137) rfl (teq hc155).2 k) ?_
        refine own_go (st' := T153.setTop (mkF m 141 #[.val (.int xa), .val (.int xb), .val (.int xc), .val (.int (1 : Int32)), .val (.int (1 : Int32)), .val (.ref b133), .val (.int (1 : Int32))] [(.int (1 : Int32))])) (fun _ k => XS.iconst X153.here hx rfl (hb hby at_140) k) ?_
        refine own_go (st' := T153.setTop (mkF m 145 #[.val (.int xa), .val (.int xb), .val (.int xc), .val (.int (1 : Int32)), .val (.int (1 : Int32)), .val (.ref b133), .val (.int (1 : Int32))] [(.int (1 : Int32))])) (fun _ k => XS.goto X153.here hx rfl (pc0 := 141) (pc' := 145) rfl (hb hby at_141) (by decide) (by decide) k) ?_
        refine own_go (st' := T153.setTop (mkF m 147 #[.val (.int xa), .val (.int xb), .val (.int xc), .val (.int (1 : Int32)), .val (.int (1 : Int32)), .val (.ref b133), .val (.int (1 : Int32))] [])) (fun _ k => XS.istore X153.here hx rfl (hb hby at_145) rfl (l' := #[.val (.int xa), .val (.int xb), .val (.int xc), .val (.int (1 : Int32)), .val (.int (1 : Int32)), .val (.ref b133), .val (.int (1 : Int32))]) rfl k) ?_
        refine own_go (st' := T153.setTop (mkF m 148 #[.val (.int xa), .val (.int xb), .val (.int xc), .val (.int (1 : Int32)), .val (.int (1 : Int32)), .val (.ref b133), .val (.int (1 : Int32))] [(.int xc)])) (fun _ k => XS.iloadN X153.here hx rfl (hb hby at_147) rfl k) ?_
        refine own_go (st' := T153.setTop (mkF m 149 #[.val (.int xa), .val (.int xb), .val (.int xc), .val (.int (1 : Int32)), .val (.int (1 : Int32)), .val (.ref b133), .val (.int (1 : Int32))] [(.int (2 : Int32)), (.int xc)])) (fun _ k => XS.iconst X153.here hx rfl (hb hby at_148) k) ?_
        refine own_go (st' := T153.setTop (mkF m 150 #[.val (.int xa), .val (.int xb), .val (.int xc), .val (.int (1 : Int32)), .val (.int (1 : Int32)), .val (.ref b133), .val (.int (1 : Int32))] [(.int (xc &&& (2 : Int32)))])) (fun _ k => XS.iand X153.here hx rfl (hb hby at_149) rfl k) ?_
        by_cases hc156 : (xc &&& (2 : Int32)) = (0 : Int32)
        · --
          refine own_go (st' := T153.setTop (mkF m 178 #[.val (.int xa), .val (.int xb), .val (.int xc), .val (.int (1 : Int32)), .val (.int (1 : Int32)), .val (.ref b133), .val (.int (1 : Int32))] [])) (fun _ k => XS.ifYes X153.here hx rfl (pc0 := 150) (pc' := 178) rfl (hb hby at_150) rfl ((if0 _ _).trans (teq hc156).1) (by decide) (by decide) k) ?_
          refine own_go (st' := T153.setTop (mkF m 180 #[.val (.int xa), .val (.int xb), .val (.int xc), .val (.int (1 : Int32)), .val (.int (1 : Int32)), .val (.ref b133), .val (.int (1 : Int32))] [(.int (1 : Int32))])) (fun _ k => XS.iload X153.here hx rfl (hb hby at_178) rfl k) ?_
          obtain ⟨fs, hr, hrun, hended, hW, hsame⟩ := X153.leave (v := some (.int (1 : Int32))) (fun h => by rw [Bd.returns] at h; cases h)
          refine ⟨_, _, ?_, hP _ _ hrun hended ⟨_, _, rfl, ?_, ⟨_, rfl⟩, hW, hsame.mono (by decide) (by decide)⟩⟩
          · exact retN X153 hx (t := .boolean) Bd.returns (by simp) (hb hby at_180) hr
          · show Qrm0 Z xa xb xc h0 n0 _ T153.heap _
            rw [eq153]
            exact ⟨rfl, N153, trivial⟩
        · --
          refine own_go (st' := T153.setTop (mkF m 153 #[.val (.int xa), .val (.int xb), .val (.int xc), .val (.int (1 : Int32)), .val (.int (1 : Int32)), .val (.ref b133), .val (.int (1 : Int32))] [])) (fun _ k => XS.ifNo X153.here hx rfl (hb hby at_150) rfl ((if0 _ _).trans (feq hc156).1) k) ?_
          refine own_go (st' := T153.setTop (mkF m 155 #[.val (.int xa), .val (.int xb), .val (.int xc), .val (.int (1 : Int32)), .val (.int (1 : Int32)), .val (.ref b133), .val (.int (1 : Int32))] [(.ref b133)])) (fun _ k => XS.aload X153.here hx rfl (hb hby at_153) rfl rfl k) ?_
          have c159 : Arv Z h149 rs_139 ks_139 .int (16 : Int32) [(.int (0 : Int32)), (.int (0 : Int32)), (.int (0 : Int32)), (.int (0 : Int32)), (.int (0 : Int32)), (.int (0 : Int32)), (.int (0 : Int32)), (.int (0 : Int32)), (.int (0 : Int32)), (.int (0 : Int32)), (.int (0 : Int32)), (.int (0 : Int32)), (.int (0 : Int32)), (.int (0 : Int32)), (.int (0 : Int32)), (.int (0 : Int32))] (.int (0 : Int32)) := (g141_5.keep K149 (ninS (by first | assumption | exact Ne.symm (by assumption) | (apply Nat.ne_of_lt; omega) | (apply Nat.ne_of_gt; omega)) (ninS (by first | assumption | exact Ne.symm (by assumption) | (apply Nat.ne_of_lt; omega) | (apply Nat.ne_of_gt; omega)) nin0)))
          obtain ⟨cq158, kq158, q158a, q158b, q158c⟩ := isOf hZ eq153 g149_0
          obtain ⟨_, _, ⟨T158, LC158, kC158, nC158⟩, -, X158, ⟨Lc158, hQ158, lq158, yq158, zq158⟩, st158⟩ := X153.virtualBack hx (y := (⟨"com/example/greenwood/greenwood/Environment", "closeScopes", "()V"⟩ : MethodName)) (z := (⟨"com/example/greenwood/greenwood/Environment", "closeScopes", "()V"⟩ : MethodName)) hown (mvT hZ (hw _ (List.mem_of_getElem? (i := 42) rfl))) (mvT hZ (hw _ (List.mem_of_getElem? (i := 43) rfl))) (notFace_of_selects (args := #[]) (mvT hZ (hw _ (List.mem_of_getElem? (i := 45) rfl)))) (mvT hZ (hw _ (List.mem_of_getElem? (i := 45) rfl))) (mvT hZ (hw _ (List.mem_of_getElem? (i := 44) rfl))) (by decide) (backOf (W := 0) (rm6_0 l Z a0 hw [] b133 (0 : Int32) rl_139 rs_139 kl_139 ks_139 h149 n0 (by omega) g149_0 g149_1 g149_2 g149_3 g149_4 g149_5 c159 (by omega) (by omega) (by omega) (by first | assumption | exact Ne.symm (by assumption) | (apply Nat.ne_of_lt; omega) | (apply Nat.ne_of_gt; omega)) (by first | assumption | exact Ne.symm (by assumption) | (apply Nat.ne_of_lt; omega) | (apply Nat.ne_of_gt; omega)) (by first | assumption | exact Ne.symm (by assumption) | (apply Nat.ne_of_lt; omega) | (apply Nat.ne_of_gt; omega))) hZ (hw _ (List.mem_of_getElem? (i := 46) rfl)) (hw _ (List.mem_of_getElem? (i := 3) rfl)) (by decide) (by decide)) q158a q158c (g := (mkF m 155 #[.val (.int xa), .val (.int xb), .val (.int xc), .val (.int (1 : Int32)), .val (.int (1 : Int32)), .val (.ref b133), .val (.int (1 : Int32))] [(.ref b133)])) rfl (by rw [hml]; rfl) (Steps.refl _) (argsL := []) (rest := []) (lenOf pd_0 rfl) rfl (by show 2 * 0 + _ ≤ _; exact Nat.le_of_eq rfl) (hb hby at_155) (fun _ _ => ⟨rfl, eq153, (by decide : 4 + 0 ≤ _), (by decide : 45 + 0 ≤ _)⟩)
          dsimp only [Pt.U, Pt.locs, Pt.cells, Pt.slots] at X158 lq158 yq158 zq158 st158 hQ158
          subst lq158 yq158 zq158
          obtain ⟨h158, e158⟩ : ∃ z, T158.heap = z := ⟨_, rfl⟩
          rw [e158] at hQ158
          obtain ⟨rfl, Nq158, K158, g158_0, g158_1, g158_2, g158_3, g158_4, g158_5⟩ := hQ158
          have sz158 : h149.size ≤ h158.size := K158.1
          have N158 := Fr.app N153 Nq158
          have lt158_1 : @LT.lt Nat _ b133 h158.size := g158_0.lt
          have lt158_2 : @LT.lt Nat _ rl_139 h158.size := g158_5.lt
          refine own_go (st' := T158.setTop (mkF m 158 #[.val (.int xa), .val (.int xb), .val (.int xc), .val (.int (1 : Int32)), .val (.int (1 : Int32)), .val (.ref b133), .val (.int (1 : Int32))] [])) (fun _ k => st158.trans k) ?_
          refine own_go (st' := T158.setTop (mkF m 160 #[.val (.int xa), .val (.int xb), .val (.int xc), .val (.int (1 : Int32)), .val (.int (1 : Int32)), .val (.ref b133), .val (.int (1 : Int32))] [(.int (1 : Int32))])) (fun _ k => XS.iload X158.here hx rfl (hb hby at_158) rfl k) ?_
          have hc160 : ¬ ((1 : Int32) = (0 : Int32)) := by decide
          refine own_go (st' := T158.setTop (mkF m 163 #[.val (.int xa), .val (.int xb), .val (.int xc), .val (.int (1 : Int32)), .val (.int (1 : Int32)), .val (.ref b133), .val (.int (1 : Int32))] [])) (fun _ k => XS.ifNo X158.here hx rfl (hb hby at_160) rfl ((if0 _ _).trans (feq hc160).1) k) ?_
          refine own_go (st' := T158.setTop (mkF m 165 #[.val (.int xa), .val (.int xb), .val (.int xc), .val (.int (1 : Int32)), .val (.int (1 : Int32)), .val (.ref b133), .val (.int (1 : Int32))] [(.ref b133)])) (fun _ k => XS.aload X158.here hx rfl (hb hby at_163) rfl rfl k) ?_
          obtain ⟨cq161, kq161, q161a, q161b, q161c⟩ := isOf hZ e158 g158_0
          obtain ⟨_, _, ⟨T161, LC161, kC161, nC161⟩, -, X161, ⟨Lc161, hQ161, lq161, yq161, zq161⟩, st161⟩ := X158.virtualBack hx (y := (⟨"com/example/greenwood/greenwood/Environment", "inScope", "()Z"⟩ : MethodName)) (z := (⟨"com/example/greenwood/greenwood/Environment", "inScope", "()Z"⟩ : MethodName)) hown (mvT hZ (hw _ (List.mem_of_getElem? (i := 35) rfl))) (mvT hZ (hw _ (List.mem_of_getElem? (i := 36) rfl))) (notFace_of_selects (args := #[]) (mvT hZ (hw _ (List.mem_of_getElem? (i := 38) rfl)))) (mvT hZ (hw _ (List.mem_of_getElem? (i := 38) rfl))) (mvT hZ (hw _ (List.mem_of_getElem? (i := 37) rfl))) (by decide) (backOf (W := 0) (rm5_0 l Z a0 hw [] b133 h158 n0 (by omega) g158_1) hZ (hw _ (List.mem_of_getElem? (i := 39) rfl)) (hw _ (List.mem_of_getElem? (i := 3) rfl)) (by decide) (by decide)) q161a q161c (g := (mkF m 165 #[.val (.int xa), .val (.int xb), .val (.int xc), .val (.int (1 : Int32)), .val (.int (1 : Int32)), .val (.ref b133), .val (.int (1 : Int32))] [(.ref b133)])) rfl (by rw [hml]; rfl) (Steps.refl _) (argsL := []) (rest := []) (lenOf pd_3 rfl) rfl (by show 2 * 0 + _ ≤ _; exact Nat.le_of_eq rfl) (hb hby at_165) (fun _ _ => ⟨rfl, e158, (by decide : 4 + 0 ≤ _), (by decide : 45 + 0 ≤ _)⟩)
          dsimp only [Pt.U, Pt.locs, Pt.cells, Pt.slots] at X161 lq161 yq161 zq161 st161 hQ161
          subst lq161 yq161 zq161
          obtain ⟨rfl, Nq161, eq161⟩ := hQ161
          have N161 := Fr.app N158 Nq161
          refine own_go (st' := T161.setTop (mkF m 168 #[.val (.int xa), .val (.int xb), .val (.int xc), .val (.int (1 : Int32)), .val (.int (1 : Int32)), .val (.ref b133), .val (.int (1 : Int32))] [(.int (0 : Int32))])) (fun _ k => st161.trans k) ?_
          have hc162 : (0 : Int32) = (0 : Int32) := by decide
          refine own_go (st' := T161.setTop (mkF m 171 #[.val (.int xa), .val (.int xb), .val (.int xc), .val (.int (1 : Int32)), .val (.int (1 : Int32)), .val (.ref b133), .val (.int (1 : Int32))] [])) (fun _ k => XS.ifNo X161.here hx rfl (hb hby at_168) rfl ((if0 _ _).trans (teq hc162).2) k) ?_
          refine own_go (st' := T161.setTop (mkF m 172 #[.val (.int xa), .val (.int xb), .val (.int xc), .val (.int (1 : Int32)), .val (.int (1 : Int32)), .val (.ref b133), .val (.int (1 : Int32))] [(.int (1 : Int32))])) (fun _ k => XS.iconst X161.here hx rfl (hb hby at_171) k) ?_
          refine own_go (st' := T161.setTop (mkF m 176 #[.val (.int xa), .val (.int xb), .val (.int xc), .val (.int (1 : Int32)), .val (.int (1 : Int32)), .val (.ref b133), .val (.int (1 : Int32))] [(.int (1 : Int32))])) (fun _ k => XS.goto X161.here hx rfl (pc0 := 172) (pc' := 176) rfl (hb hby at_172) (by decide) (by decide) k) ?_
          refine own_go (st' := T161.setTop (mkF m 178 #[.val (.int xa), .val (.int xb), .val (.int xc), .val (.int (1 : Int32)), .val (.int (1 : Int32)), .val (.ref b133), .val (.int (1 : Int32))] [])) (fun _ k => XS.istore X161.here hx rfl (hb hby at_176) rfl (l' := #[.val (.int xa), .val (.int xb), .val (.int xc), .val (.int (1 : Int32)), .val (.int (1 : Int32)), .val (.ref b133), .val (.int (1 : Int32))]) rfl k) ?_
          refine own_go (st' := T161.setTop (mkF m 180 #[.val (.int xa), .val (.int xb), .val (.int xc), .val (.int (1 : Int32)), .val (.int (1 : Int32)), .val (.ref b133), .val (.int (1 : Int32))] [(.int (1 : Int32))])) (fun _ k => XS.iload X161.here hx rfl (hb hby at_178) rfl k) ?_
          obtain ⟨fs, hr, hrun, hended, hW, hsame⟩ := X161.leave (v := some (.int (1 : Int32))) (fun h => by rw [Bd.returns] at h; cases h)
          refine ⟨_, _, ?_, hP _ _ hrun hended ⟨_, _, rfl, ?_, ⟨_, rfl⟩, hW, hsame.mono (by decide) (by decide)⟩⟩
          · exact retN X161 hx (t := .boolean) Bd.returns (by simp) (hb hby at_180) hr
          · show Qrm0 Z xa xb xc h0 n0 _ T161.heap _
            rw [eq161]
            exact ⟨rfl, N161, trivial⟩
      · --
        refine own_go (st' := T141.setTop (mkF m 64 #[.val (.int xa), .val (.int xb), .val (.int xc), .val (.int (1 : Int32)), .val (.int (1 : Int32)), .val (.ref b133), .unset] [])) (fun _ k => XS.ifNo X141.here hx rfl (hb hby at_61) rfl ((if0 _ _).trans (feq hc144).1) k) ?_
        refine own_go (st' := T141.setTop (mkF m 66 #[.val (.int xa), .val (.int xb), .val (.int xc), .val (.int (1 : Int32)), .val (.int (1 : Int32)), .val (.ref b133), .unset] [(.ref b133)])) (fun _ k => XS.aload X141.here hx rfl (hb hby at_64) rfl rfl k) ?_
        have c165 : Arv Z h141 rl_139 kl_139 (.object "java/lang/Object") (16 : Int32) [.null, .null, .null, .null, .null, .null, .null, .null, .null, .null, .null, .null, .null, .null, .null, .null] .null := (g139_5.keep K141 (ninS (by first | assumption | exact Ne.symm (by assumption) | (apply Nat.ne_of_lt; omega) | (apply Nat.ne_of_gt; omega)) (ninS (by first | assumption | exact Ne.symm (by assumption) | (apply Nat.ne_of_lt; omega) | (apply Nat.ne_of_gt; omega)) nin0)))
        obtain ⟨cq164, kq164, q164a, q164b, q164c⟩ := isOf hZ e141 g141_0
        obtain ⟨_, _, ⟨T164, LC164, kC164, nC164⟩, -, X164, ⟨Lc164, hQ164, lq164, yq164, zq164⟩, st164⟩ := X141.virtualBack hx (y := (⟨"com/example/greenwood/greenwood/Environment", "declare", "()V"⟩ : MethodName)) (z := (⟨"com/example/greenwood/greenwood/Environment", "declare", "()V"⟩ : MethodName)) hown (mvT hZ (hw _ (List.mem_of_getElem? (i := 61) rfl))) (mvT hZ (hw _ (List.mem_of_getElem? (i := 62) rfl))) (notFace_of_selects (args := #[]) (mvT hZ (hw _ (List.mem_of_getElem? (i := 64) rfl)))) (mvT hZ (hw _ (List.mem_of_getElem? (i := 64) rfl))) (mvT hZ (hw _ (List.mem_of_getElem? (i := 63) rfl))) (by decide) (backOf (W := 0) (rm10_1 l Z a0 hw [] b133 rl_139 rs_139 kl_139 ks_139 h141 n0 (by omega) g141_0 g141_1 g141_2 g141_3 g141_4 c165 g141_5 (by omega) (by omega) (by omega) (by first | assumption | exact Ne.symm (by assumption) | (apply Nat.ne_of_lt; omega) | (apply Nat.ne_of_gt; omega)) (by first | assumption | exact Ne.symm (by assumption) | (apply Nat.ne_of_lt; omega) | (apply Nat.ne_of_gt; omega)) (by first | assumption | exact Ne.symm (by assumption) | (apply Nat.ne_of_lt; omega) | (apply Nat.ne_of_gt; omega))) hZ (hw _ (List.mem_of_getElem? (i := 65) rfl)) (hw _ (List.mem_of_getElem? (i := 3) rfl)) (by decide) (by decide)) q164a q164c (g := (mkF m 66 #[.val (.int xa), .val (.int xb), .val (.int xc), .val (.int (1 : Int32)), .val (.int (1 : Int32)), .val (.ref b133), .unset] [(.ref b133)])) rfl (by rw [hml]; rfl) (Steps.refl _) (argsL := []) (rest := []) (lenOf pd_0 rfl) rfl (by show 2 * 0 + _ ≤ _; exact Nat.le_of_eq rfl) (hb hby at_66) (fun _ _ => ⟨rfl, e141, (by decide : 4 + 0 ≤ _), (by decide : 45 + 0 ≤ _)⟩)
        dsimp only [Pt.U, Pt.locs, Pt.cells, Pt.slots] at X164 lq164 yq164 zq164 st164 hQ164
        subst lq164 yq164 zq164
        obtain ⟨h164, e164⟩ : ∃ z, T164.heap = z := ⟨_, rfl⟩
        rw [e164] at hQ164
        obtain ⟨rfl, Nq164, K164, g164_0, g164_1, g164_2, g164_3, g164_4⟩ := hQ164
        have sz164 : h141.size ≤ h164.size := K164.1
        have N164 := Fr.app N141 Nq164
        have lt164_1 : @LT.lt Nat _ b133 h164.size := g164_0.lt
        refine own_go (st' := T164.setTop (mkF m 69 #[.val (.int xa), .val (.int xb), .val (.int xc), .val (.int (1 : Int32)), .val (.int (1 : Int32)), .val (.ref b133), .unset] [])) (fun _ k => st164.trans k) ?_
        refine own_go (st' := T164.setTop (mkF m 71 #[.val (.int xa), .val (.int xb), .val (.int xc), .val (.int (1 : Int32)), .val (.int (1 : Int32)), .val (.ref b133), .unset] [(.ref b133)])) (fun _ k => XS.aload X164.here hx rfl (hb hby at_69) rfl rfl k) ?_
        obtain ⟨cq166, kq166, q166a, q166b, q166c⟩ := isOf hZ e164 g164_0
        obtain ⟨_, _, ⟨T166, LC166, kC166, nC166⟩, -, X166, ⟨Lc166, hQ166, lq166, yq166, zq166⟩, st166⟩ := X164.virtualBack hx (y := (⟨"com/example/greenwood/greenwood/Environment", "inScope", "()Z"⟩ : MethodName)) (z := (⟨"com/example/greenwood/greenwood/Environment", "inScope", "()Z"⟩ : MethodName)) hown (mvT hZ (hw _ (List.mem_of_getElem? (i := 35) rfl))) (mvT hZ (hw _ (List.mem_of_getElem? (i := 36) rfl))) (notFace_of_selects (args := #[]) (mvT hZ (hw _ (List.mem_of_getElem? (i := 38) rfl)))) (mvT hZ (hw _ (List.mem_of_getElem? (i := 38) rfl))) (mvT hZ (hw _ (List.mem_of_getElem? (i := 37) rfl))) (by decide) (backOf (W := 0) (rm5_1 l Z a0 hw [] b133 h164 n0 (by omega) g164_1) hZ (hw _ (List.mem_of_getElem? (i := 39) rfl)) (hw _ (List.mem_of_getElem? (i := 3) rfl)) (by decide) (by decide)) q166a q166c (g := (mkF m 71 #[.val (.int xa), .val (.int xb), .val (.int xc), .val (.int (1 : Int32)), .val (.int (1 : Int32)), .val (.ref b133), .unset] [(.ref b133)])) rfl (by rw [hml]; rfl) (Steps.refl _) (argsL := []) (rest := []) (lenOf pd_3 rfl) rfl (by show 2 * 0 + _ ≤ _; exact Nat.le_of_eq rfl) (hb hby at_71) (fun _ _ => ⟨rfl, e164, (by decide : 4 + 0 ≤ _), (by decide : 45 + 0 ≤ _)⟩)
        dsimp only [Pt.U, Pt.locs, Pt.cells, Pt.slots] at X166 lq166 yq166 zq166 st166 hQ166
        subst lq166 yq166 zq166
        obtain ⟨rfl, Nq166, eq166⟩ := hQ166
        have N166 := Fr.app N164 Nq166
        refine own_go (st' := T166.setTop (mkF m 74 #[.val (.int xa), .val (.int xb), .val (.int xc), .val (.int (1 : Int32)), .val (.int (1 : Int32)), .val (.ref b133), .unset] [(.int (1 : Int32))])) (fun _ k => st166.trans k) ?_
        refine own_go (st' := T166.setTop (mkF m 75 #[.val (.int xa), .val (.int xb), .val (.int xc), .val (.int (1 : Int32)), .val (.int (1 : Int32)), .val (.ref b133), .unset] [(.int (1 : Int32)), (.int (1 : Int32))])) (fun _ k => XS.iloadN X166.here hx rfl (hb hby at_74) rfl k) ?_
        have hc167 : (0 : Int32) < (1 : Int32) := by decide
        refine own_go (st' := T166.setTop (mkF m 78 #[.val (.int xa), .val (.int xb), .val (.int xc), .val (.int (1 : Int32)), .val (.int (1 : Int32)), .val (.ref b133), .unset] [(.int (1 : Int32))])) (fun _ k => XS.ifNo X166.here hx rfl (hb hby at_75) rfl ((if0 _ _).trans (tlt hc167).2.2.2) k) ?_
        refine own_go (st' := T166.setTop (mkF m 79 #[.val (.int xa), .val (.int xb), .val (.int xc), .val (.int (1 : Int32)), .val (.int (1 : Int32)), .val (.ref b133), .unset] [(.int (1 : Int32)), (.int (1 : Int32))])) (fun _ k => XS.iconst X166.here hx rfl (hb hby at_78) k) ?_
        refine own_go (st' := T166.setTop (mkF m 83 #[.val (.int xa), .val (.int xb), .val (.int xc), .val (.int (1 : Int32)), .val (.int (1 : Int32)), .val (.ref b133), .unset] [(.int (1 : Int32)), (.int (1 : Int32))])) (fun _ k => XS.goto X166.here hx rfl (pc0 := 79) (pc' := 83) rfl (hb hby at_79) (by decide) (by decide) k) ?_
        have hc168 : (1 : Int32) = (1 : Int32) := by decide
        refine own_go (st' := T166.setTop (mkF m 86 #[.val (.int xa), .val (.int xb), .val (.int xc), .val (.int (1 : Int32)), .val (.int (1 : Int32)), .val (.ref b133), .unset] [])) (fun _ k => XS.icmpNo X166.here hx rfl (hb hby at_83) rfl (teq hc168).2 k) ?_
        refine own_go (st' := T166.setTop (mkF m 87 #[.val (.int xa), .val (.int xb), .val (.int xc), .val (.int (1 : Int32)), .val (.int (1 : Int32)), .val (.ref b133), .unset] [(.int (1 : Int32))])) (fun _ k => XS.iconst X166.here hx rfl (hb hby at_86) k) ?_
        refine own_go (st' := T166.setTop (mkF m 91 #[.val (.int xa), .val (.int xb), .val (.int xc), .val (.int (1 : Int32)), .val (.int (1 : Int32)), .val (.ref b133), .unset] [(.int (1 : Int32))])) (fun _ k => XS.goto X166.here hx rfl (pc0 := 87) (pc' := 91) rfl (hb hby at_87) (by decide) (by decide) k) ?_
        refine own_go (st' := T166.setTop (mkF m 93 #[.val (.int xa), .val (.int xb), .val (.int xc), .val (.int (1 : Int32)), .val (.int (1 : Int32)), .val (.ref b133), .val (.int (1 : Int32))] [])) (fun _ k => XS.istore X166.here hx rfl (hb hby at_91) rfl (l' := #[.val (.int xa), .val (.int xb), .val (.int xc), .val (.int (1 : Int32)), .val (.int (1 : Int32)), .val (.ref b133), .val (.int (1 : Int32))]) rfl k) ?_
        refine own_go (st' := T166.setTop (mkF m 95 #[.val (.int xa), .val (.int xb), .val (.int xc), .val (.int (1 : Int32)), .val (.int (1 : Int32)), .val (.ref b133), .val (.int (1 : Int32))] [(.int (1 : Int32))])) (fun _ k => XS.iload X166.here hx rfl (hb hby at_93) rfl k) ?_
        refine own_go (st' := T166.setTop (mkF m 96 #[.val (.int xa), .val (.int xb), .val (.int xc), .val (.int (1 : Int32)), .val (.int (1 : Int32)), .val (.ref b133), .val (.int (1 : Int32))] [(.int (1 : Int32)), (.int (1 : Int32))])) (fun _ k => XS.iconst X166.here hx rfl (hb hby at_95) k) ?_
        have hc169 : ¬ ((1 : Int32) < (1 : Int32)) := by decide
        refine own_go (st' := T166.setTop (mkF m 99 #[.val (.int xa), .val (.int xb), .val (.int xc), .val (.int (1 : Int32)), .val (.int (1 : Int32)), .val (.ref b133), .val (.int (1 : Int32))] [])) (fun _ k => XS.icmpNo X166.here hx rfl (hb hby at_96) rfl (flt hc169).1 k) ?_
        refine own_go (st' := T166.setTop (mkF m 101 #[.val (.int xa), .val (.int xb), .val (.int xc), .val (.int (1 : Int32)), .val (.int (1 : Int32)), .val (.ref b133), .val (.int (1 : Int32))] [(.ref b133)])) (fun _ k => XS.aload X166.here hx rfl (hb hby at_99) rfl rfl k) ?_
        have c171 : Arv Z h164 rl_139 kl_139 (.object "java/lang/Object") (16 : Int32) [.null, .null, .null, .null, .null, .null, .null, .null, .null, .null, .null, .null, .null, .null, .null, .null] .null := (c165.keep K164 (ninS (by first | assumption | exact Ne.symm (by assumption) | (apply Nat.ne_of_lt; omega) | (apply Nat.ne_of_gt; omega)) nin0))
        have c172 : Arv Z h164 rs_139 ks_139 .int (16 : Int32) [(.int (0 : Int32)), (.int (0 : Int32)), (.int (0 : Int32)), (.int (0 : Int32)), (.int (0 : Int32)), (.int (0 : Int32)), (.int (0 : Int32)), (.int (0 : Int32)), (.int (0 : Int32)), (.int (0 : Int32)), (.int (0 : Int32)), (.int (0 : Int32)), (.int (0 : Int32)), (.int (0 : Int32)), (.int (0 : Int32)), (.int (0 : Int32))] (.int (0 : Int32)) := (g141_5.keep K164 (ninS (by first | assumption | exact Ne.symm (by assumption) | (apply Nat.ne_of_lt; omega) | (apply Nat.ne_of_gt; omega)) nin0))
        obtain ⟨cq170, kq170, q170a, q170b, q170c⟩ := isOf hZ eq166 g164_0
        obtain ⟨_, _, ⟨T170, LC170, kC170, nC170⟩, -, X170, ⟨Lc170, hQ170, lq170, yq170, zq170⟩, st170⟩ := X166.virtualBack hx (y := (⟨"com/example/greenwood/greenwood/Environment", "closeScope", "()V"⟩ : MethodName)) (z := (⟨"com/example/greenwood/greenwood/Environment", "closeScope", "()V"⟩ : MethodName)) hown (mvT hZ (hw _ (List.mem_of_getElem? (i := 66) rfl))) (mvT hZ (hw _ (List.mem_of_getElem? (i := 67) rfl))) (notFace_of_selects (args := #[]) (mvT hZ (hw _ (List.mem_of_getElem? (i := 69) rfl)))) (mvT hZ (hw _ (List.mem_of_getElem? (i := 69) rfl))) (mvT hZ (hw _ (List.mem_of_getElem? (i := 68) rfl))) (by decide) (backOf (W := 0) (rm11_1_1 l Z a0 hw [] b133 rl_139 rs_139 kl_139 ks_139 h164 n0 (by omega) g164_0 g164_1 g164_2 g164_3 g164_4 c171 c172 (by omega) (by omega) (by omega) (by first | assumption | exact Ne.symm (by assumption) | (apply Nat.ne_of_lt; omega) | (apply Nat.ne_of_gt; omega)) (by first | assumption | exact Ne.symm (by assumption) | (apply Nat.ne_of_lt; omega) | (apply Nat.ne_of_gt; omega)) (by first | assumption | exact Ne.symm (by assumption) | (apply Nat.ne_of_lt; omega) | (apply Nat.ne_of_gt; omega))) hZ (hw _ (List.mem_of_getElem? (i := 70) rfl)) (hw _ (List.mem_of_getElem? (i := 3) rfl)) (by decide) (by decide)) q170a q170c (g := (mkF m 101 #[.val (.int xa), .val (.int xb), .val (.int xc), .val (.int (1 : Int32)), .val (.int (1 : Int32)), .val (.ref b133), .val (.int (1 : Int32))] [(.ref b133)])) rfl (by rw [hml]; rfl) (Steps.refl _) (argsL := []) (rest := []) (lenOf pd_0 rfl) rfl (by show 2 * 0 + _ ≤ _; exact Nat.le_of_eq rfl) (hb hby at_101) (fun _ _ => ⟨rfl, eq166, (by decide : 4 + 0 ≤ _), (by decide : 45 + 0 ≤ _)⟩)
        dsimp only [Pt.U, Pt.locs, Pt.cells, Pt.slots] at X170 lq170 yq170 zq170 st170 hQ170
        subst lq170 yq170 zq170
        obtain ⟨h170, e170⟩ : ∃ z, T170.heap = z := ⟨_, rfl⟩
        rw [e170] at hQ170
        obtain ⟨rfl, Nq170, K170, g170_0, g170_1, g170_2, g170_3, g170_4, g170_5⟩ := hQ170
        have sz170 : h164.size ≤ h170.size := K170.1
        have N170 := Fr.app N166 Nq170
        have lt170_1 : @LT.lt Nat _ b133 h170.size := g170_0.lt
        have lt170_2 : @LT.lt Nat _ rl_139 h170.size := g170_5.lt
        refine own_go (st' := T170.setTop (mkF m 104 #[.val (.int xa), .val (.int xb), .val (.int xc), .val (.int (1 : Int32)), .val (.int (1 : Int32)), .val (.ref b133), .val (.int (1 : Int32))] [])) (fun _ k => st170.trans k) ?_
        refine own_go (st' := T170.setTop (mkF m 106 #[.val (.int xa), .val (.int xb), .val (.int xc), .val (.int (1 : Int32)), .val (.int (1 : Int32)), .val (.ref b133), .val (.int (1 : Int32))] [(.int (1 : Int32))])) (fun _ k => XS.iload X170.here hx rfl (hb hby at_104) rfl k) ?_
        refine own_go (st' := T170.setTop (mkF m 107 #[.val (.int xa), .val (.int xb), .val (.int xc), .val (.int (1 : Int32)), .val (.int (1 : Int32)), .val (.ref b133), .val (.int (1 : Int32))] [(.int (2 : Int32)), (.int (1 : Int32))])) (fun _ k => XS.iconst X170.here hx rfl (hb hby at_106) k) ?_
        have hc173 : (1 : Int32) < (2 : Int32) := by decide
        refine own_go (st' := T170.setTop (mkF m 115 #[.val (.int xa), .val (.int xb), .val (.int xc), .val (.int (1 : Int32)), .val (.int (1 : Int32)), .val (.ref b133), .val (.int (1 : Int32))] [])) (fun _ k => XS.icmpYes X170.here hx rfl (pc0 := 107) (pc' := 115) rfl (hb hby at_107) rfl (tlt hc173).1 (by decide) (by decide) k) ?_
        refine own_go (st' := T170.setTop (mkF m 117 #[.val (.int xa), .val (.int xb), .val (.int xc), .val (.int (1 : Int32)), .val (.int (1 : Int32)), .val (.ref b133), .val (.int (1 : Int32))] [(.int (1 : Int32))])) (fun _ k => XS.iload X170.here hx rfl (hb hby at_115) rfl k) ?_
        have hc174 : ¬ ((1 : Int32) = (0 : Int32)) := by decide
        refine own_go (st' := T170.setTop (mkF m 120 #[.val (.int xa), .val (.int xb), .val (.int xc), .val (.int (1 : Int32)), .val (.int (1 : Int32)), .val (.ref b133), .val (.int (1 : Int32))] [])) (fun _ k => XS.ifNo X170.here hx rfl (hb hby at_117) rfl ((if0 _ _).trans (feq hc174).1) k) ?_
        refine own_go (st' := T170.setTop (mkF m 122 #[.val (.int xa), .val (.int xb), .val (.int xc), .val (.int (1 : Int32)), .val (.int (1 : Int32)), .val (.ref b133), .val (.int (1 : Int32))] [(.ref b133)])) (fun _ k => XS.aload X170.here hx rfl (hb hby at_120) rfl rfl k) ?_
        obtain ⟨cq175, kq175, q175a, q175b, q175c⟩ := isOf hZ e170 g170_0
        obtain ⟨_, _, ⟨T175, LC175, kC175, nC175⟩, -, X175, ⟨Lc175, hQ175, lq175, yq175, zq175⟩, st175⟩ := X170.virtualBack hx (y := (⟨"com/example/greenwood/greenwood/Environment", "inScope", "()Z"⟩ : MethodName)) (z := (⟨"com/example/greenwood/greenwood/Environment", "inScope", "()Z"⟩ : MethodName)) hown (mvT hZ (hw _ (List.mem_of_getElem? (i := 35) rfl))) (mvT hZ (hw _ (List.mem_of_getElem? (i := 36) rfl))) (notFace_of_selects (args := #[]) (mvT hZ (hw _ (List.mem_of_getElem? (i := 38) rfl)))) (mvT hZ (hw _ (List.mem_of_getElem? (i := 38) rfl))) (mvT hZ (hw _ (List.mem_of_getElem? (i := 37) rfl))) (by decide) (backOf (W := 0) (rm5_0 l Z a0 hw [] b133 h170 n0 (by omega) g170_1) hZ (hw _ (List.mem_of_getElem? (i := 39) rfl)) (hw _ (List.mem_of_getElem? (i := 3) rfl)) (by decide) (by decide)) q175a q175c (g := (mkF m 122 #[.val (.int xa), .val (.int xb), .val (.int xc), .val (.int (1 : Int32)), .val (.int (1 : Int32)), .val (.ref b133), .val (.int (1 : Int32))] [(.ref b133)])) rfl (by rw [hml]; rfl) (Steps.refl _) (argsL := []) (rest := []) (lenOf pd_3 rfl) rfl (by show 2 * 0 + _ ≤ _; exact Nat.le_of_eq rfl) (hb hby at_122) (fun _ _ => ⟨rfl, e170, (by decide : 4 + 0 ≤ _), (by decide : 45 + 0 ≤ _)⟩)
        dsimp only [Pt.U, Pt.locs, Pt.cells, Pt.slots] at X175 lq175 yq175 zq175 st175 hQ175
        subst lq175 yq175 zq175
        obtain ⟨rfl, Nq175, eq175⟩ := hQ175
        have N175 := Fr.app N170 Nq175
        refine own_go (st' := T175.setTop (mkF m 125 #[.val (.int xa), .val (.int xb), .val (.int xc), .val (.int (1 : Int32)), .val (.int (1 : Int32)), .val (.ref b133), .val (.int (1 : Int32))] [(.int (0 : Int32))])) (fun _ k => st175.trans k) ?_
        refine own_go (st' := T175.setTop (mkF m 126 #[.val (.int xa), .val (.int xb), .val (.int xc), .val (.int (1 : Int32)), .val (.int (1 : Int32)), .val (.ref b133), .val (.int (1 : Int32))] [(.int (1 : Int32)), (.int (0 : Int32))])) (fun _ k => XS.iloadN X175.here hx rfl (hb hby at_125) rfl k) ?_
        refine own_go (st' := T175.setTop (mkF m 128 #[.val (.int xa), .val (.int xb), .val (.int xc), .val (.int (1 : Int32)), .val (.int (1 : Int32)), .val (.ref b133), .val (.int (1 : Int32))] [(.int (1 : Int32)), (.int (1 : Int32)), (.int (0 : Int32))])) (fun _ k => XS.iload X175.here hx rfl (hb hby at_126) rfl k) ?_
        refine own_go (st' := T175.setTop (mkF m 129 #[.val (.int xa), .val (.int xb), .val (.int xc), .val (.int (1 : Int32)), .val (.int (1 : Int32)), .val (.ref b133), .val (.int (1 : Int32))] [(.int (0 : Int32)), (.int (0 : Int32))])) (fun _ k => XS.isub X175.here hx rfl (hb hby at_128) rfl (by rw [show ((1 : Int32) - (1 : Int32)) = (0 : Int32) by decide]; exact k)) ?_
        have hc176 : ¬ ((0 : Int32) < (0 : Int32)) := by decide
        refine own_go (st' := T175.setTop (mkF m 136 #[.val (.int xa), .val (.int xb), .val (.int xc), .val (.int (1 : Int32)), .val (.int (1 : Int32)), .val (.ref b133), .val (.int (1 : Int32))] [(.int (0 : Int32))])) (fun _ k => XS.ifYes X175.here hx rfl (pc0 := 129) (pc' := 136) rfl (hb hby at_129) rfl ((if0 _ _).trans (flt hc176).2.2.2) (by decide) (by decide) k) ?_
        refine own_go (st' := T175.setTop (mkF m 137 #[.val (.int xa), .val (.int xb), .val (.int xc), .val (.int (1 : Int32)), .val (.int (1 : Int32)), .val (.ref b133), .val (.int (1 : Int32))] [(.int (0 : Int32)), (.int (0 : Int32))])) (fun _ k => XS.iconst X175.here hx rfl (hb hby at_136) k) ?_
        have hc177 : (0 : Int32) = (0 : Int32) := by decide
        refine own_go (st' := T175.setTop (mkF m 140 #[.val (.int xa), .val (.int xb), .val (.int xc), .val (.int (1 : Int32)), .val (.int (1 : Int32)), .val (.ref b133), .val (.int (1 : Int32))] [])) (fun _ k => XS.icmpNo X175.here hx rfl (hb hby at_137) rfl (teq hc177).2 k) ?_
        refine own_go (st' := T175.setTop (mkF m 141 #[.val (.int xa), .val (.int xb), .val (.int xc), .val (.int (1 : Int32)), .val (.int (1 : Int32)), .val (.ref b133), .val (.int (1 : Int32))] [(.int (1 : Int32))])) (fun _ k => XS.iconst X175.here hx rfl (hb hby at_140) k) ?_
        refine own_go (st' := T175.setTop (mkF m 145 #[.val (.int xa), .val (.int xb), .val (.int xc), .val (.int (1 : Int32)), .val (.int (1 : Int32)), .val (.ref b133), .val (.int (1 : Int32))] [(.int (1 : Int32))])) (fun _ k => XS.goto X175.here hx rfl (pc0 := 141) (pc' := 145) rfl (hb hby at_141) (by decide) (by decide) k) ?_
        refine own_go (st' := T175.setTop (mkF m 147 #[.val (.int xa), .val (.int xb), .val (.int xc), .val (.int (1 : Int32)), .val (.int (1 : Int32)), .val (.ref b133), .val (.int (1 : Int32))] [])) (fun _ k => XS.istore X175.here hx rfl (hb hby at_145) rfl (l' := #[.val (.int xa), .val (.int xb), .val (.int xc), .val (.int (1 : Int32)), .val (.int (1 : Int32)), .val (.ref b133), .val (.int (1 : Int32))]) rfl k) ?_
        refine own_go (st' := T175.setTop (mkF m 148 #[.val (.int xa), .val (.int xb), .val (.int xc), .val (.int (1 : Int32)), .val (.int (1 : Int32)), .val (.ref b133), .val (.int (1 : Int32))] [(.int xc)])) (fun _ k => XS.iloadN X175.here hx rfl (hb hby at_147) rfl k) ?_
        refine own_go (st' := T175.setTop (mkF m 149 #[.val (.int xa), .val (.int xb), .val (.int xc), .val (.int (1 : Int32)), .val (.int (1 : Int32)), .val (.ref b133), .val (.int (1 : Int32))] [(.int (2 : Int32)), (.int xc)])) (fun _ k => XS.iconst X175.here hx rfl (hb hby at_148) k) ?_
        refine own_go (st' := T175.setTop (mkF m 150 #[.val (.int xa), .val (.int xb), .val (.int xc), .val (.int (1 : Int32)), .val (.int (1 : Int32)), .val (.ref b133), .val (.int (1 : Int32))] [(.int (xc &&& (2 : Int32)))])) (fun _ k => XS.iand X175.here hx rfl (hb hby at_149) rfl k) ?_
        by_cases hc178 : (xc &&& (2 : Int32)) = (0 : Int32)
        · --
          refine own_go (st' := T175.setTop (mkF m 178 #[.val (.int xa), .val (.int xb), .val (.int xc), .val (.int (1 : Int32)), .val (.int (1 : Int32)), .val (.ref b133), .val (.int (1 : Int32))] [])) (fun _ k => XS.ifYes X175.here hx rfl (pc0 := 150) (pc' := 178) rfl (hb hby at_150) rfl ((if0 _ _).trans (teq hc178).1) (by decide) (by decide) k) ?_
          refine own_go (st' := T175.setTop (mkF m 180 #[.val (.int xa), .val (.int xb), .val (.int xc), .val (.int (1 : Int32)), .val (.int (1 : Int32)), .val (.ref b133), .val (.int (1 : Int32))] [(.int (1 : Int32))])) (fun _ k => XS.iload X175.here hx rfl (hb hby at_178) rfl k) ?_
          obtain ⟨fs, hr, hrun, hended, hW, hsame⟩ := X175.leave (v := some (.int (1 : Int32))) (fun h => by rw [Bd.returns] at h; cases h)
          refine ⟨_, _, ?_, hP _ _ hrun hended ⟨_, _, rfl, ?_, ⟨_, rfl⟩, hW, hsame.mono (by decide) (by decide)⟩⟩
          · exact retN X175 hx (t := .boolean) Bd.returns (by simp) (hb hby at_180) hr
          · show Qrm0 Z xa xb xc h0 n0 _ T175.heap _
            rw [eq175]
            exact ⟨rfl, N175, trivial⟩
        · --
          refine own_go (st' := T175.setTop (mkF m 153 #[.val (.int xa), .val (.int xb), .val (.int xc), .val (.int (1 : Int32)), .val (.int (1 : Int32)), .val (.ref b133), .val (.int (1 : Int32))] [])) (fun _ k => XS.ifNo X175.here hx rfl (hb hby at_150) rfl ((if0 _ _).trans (feq hc178).1) k) ?_
          refine own_go (st' := T175.setTop (mkF m 155 #[.val (.int xa), .val (.int xb), .val (.int xc), .val (.int (1 : Int32)), .val (.int (1 : Int32)), .val (.ref b133), .val (.int (1 : Int32))] [(.ref b133)])) (fun _ k => XS.aload X175.here hx rfl (hb hby at_153) rfl rfl k) ?_
          have c181 : Arv Z h170 rs_139 ks_139 .int (16 : Int32) [(.int (0 : Int32)), (.int (0 : Int32)), (.int (0 : Int32)), (.int (0 : Int32)), (.int (0 : Int32)), (.int (0 : Int32)), (.int (0 : Int32)), (.int (0 : Int32)), (.int (0 : Int32)), (.int (0 : Int32)), (.int (0 : Int32)), (.int (0 : Int32)), (.int (0 : Int32)), (.int (0 : Int32)), (.int (0 : Int32)), (.int (0 : Int32))] (.int (0 : Int32)) := (c172.keep K170 (ninS (by first | assumption | exact Ne.symm (by assumption) | (apply Nat.ne_of_lt; omega) | (apply Nat.ne_of_gt; omega)) (ninS (by first | assumption | exact Ne.symm (by assumption) | (apply Nat.ne_of_lt; omega) | (apply Nat.ne_of_gt; omega)) nin0)))
          obtain ⟨cq180, kq180, q180a, q180b, q180c⟩ := isOf hZ eq175 g170_0
          obtain ⟨_, _, ⟨T180, LC180, kC180, nC180⟩, -, X180, ⟨Lc180, hQ180, lq180, yq180, zq180⟩, st180⟩ := X175.virtualBack hx (y := (⟨"com/example/greenwood/greenwood/Environment", "closeScopes", "()V"⟩ : MethodName)) (z := (⟨"com/example/greenwood/greenwood/Environment", "closeScopes", "()V"⟩ : MethodName)) hown (mvT hZ (hw _ (List.mem_of_getElem? (i := 42) rfl))) (mvT hZ (hw _ (List.mem_of_getElem? (i := 43) rfl))) (notFace_of_selects (args := #[]) (mvT hZ (hw _ (List.mem_of_getElem? (i := 45) rfl)))) (mvT hZ (hw _ (List.mem_of_getElem? (i := 45) rfl))) (mvT hZ (hw _ (List.mem_of_getElem? (i := 44) rfl))) (by decide) (backOf (W := 0) (rm6_0 l Z a0 hw [] b133 (0 : Int32) rl_139 rs_139 kl_139 ks_139 h170 n0 (by omega) g170_0 g170_1 g170_2 g170_3 g170_4 g170_5 c181 (by omega) (by omega) (by omega) (by first | assumption | exact Ne.symm (by assumption) | (apply Nat.ne_of_lt; omega) | (apply Nat.ne_of_gt; omega)) (by first | assumption | exact Ne.symm (by assumption) | (apply Nat.ne_of_lt; omega) | (apply Nat.ne_of_gt; omega)) (by first | assumption | exact Ne.symm (by assumption) | (apply Nat.ne_of_lt; omega) | (apply Nat.ne_of_gt; omega))) hZ (hw _ (List.mem_of_getElem? (i := 46) rfl)) (hw _ (List.mem_of_getElem? (i := 3) rfl)) (by decide) (by decide)) q180a q180c (g := (mkF m 155 #[.val (.int xa), .val (.int xb), .val (.int xc), .val (.int (1 : Int32)), .val (.int (1 : Int32)), .val (.ref b133), .val (.int (1 : Int32))] [(.ref b133)])) rfl (by rw [hml]; rfl) (Steps.refl _) (argsL := []) (rest := []) (lenOf pd_0 rfl) rfl (by show 2 * 0 + _ ≤ _; exact Nat.le_of_eq rfl) (hb hby at_155) (fun _ _ => ⟨rfl, eq175, (by decide : 4 + 0 ≤ _), (by decide : 45 + 0 ≤ _)⟩)
          dsimp only [Pt.U, Pt.locs, Pt.cells, Pt.slots] at X180 lq180 yq180 zq180 st180 hQ180
          subst lq180 yq180 zq180
          obtain ⟨h180, e180⟩ : ∃ z, T180.heap = z := ⟨_, rfl⟩
          rw [e180] at hQ180
          obtain ⟨rfl, Nq180, K180, g180_0, g180_1, g180_2, g180_3, g180_4, g180_5⟩ := hQ180
          have sz180 : h170.size ≤ h180.size := K180.1
          have N180 := Fr.app N175 Nq180
          have lt180_1 : @LT.lt Nat _ b133 h180.size := g180_0.lt
          have lt180_2 : @LT.lt Nat _ rl_139 h180.size := g180_5.lt
          refine own_go (st' := T180.setTop (mkF m 158 #[.val (.int xa), .val (.int xb), .val (.int xc), .val (.int (1 : Int32)), .val (.int (1 : Int32)), .val (.ref b133), .val (.int (1 : Int32))] [])) (fun _ k => st180.trans k) ?_
          refine own_go (st' := T180.setTop (mkF m 160 #[.val (.int xa), .val (.int xb), .val (.int xc), .val (.int (1 : Int32)), .val (.int (1 : Int32)), .val (.ref b133), .val (.int (1 : Int32))] [(.int (1 : Int32))])) (fun _ k => XS.iload X180.here hx rfl (hb hby at_158) rfl k) ?_
          have hc182 : ¬ ((1 : Int32) = (0 : Int32)) := by decide
          refine own_go (st' := T180.setTop (mkF m 163 #[.val (.int xa), .val (.int xb), .val (.int xc), .val (.int (1 : Int32)), .val (.int (1 : Int32)), .val (.ref b133), .val (.int (1 : Int32))] [])) (fun _ k => XS.ifNo X180.here hx rfl (hb hby at_160) rfl ((if0 _ _).trans (feq hc182).1) k) ?_
          refine own_go (st' := T180.setTop (mkF m 165 #[.val (.int xa), .val (.int xb), .val (.int xc), .val (.int (1 : Int32)), .val (.int (1 : Int32)), .val (.ref b133), .val (.int (1 : Int32))] [(.ref b133)])) (fun _ k => XS.aload X180.here hx rfl (hb hby at_163) rfl rfl k) ?_
          obtain ⟨cq183, kq183, q183a, q183b, q183c⟩ := isOf hZ e180 g180_0
          obtain ⟨_, _, ⟨T183, LC183, kC183, nC183⟩, -, X183, ⟨Lc183, hQ183, lq183, yq183, zq183⟩, st183⟩ := X180.virtualBack hx (y := (⟨"com/example/greenwood/greenwood/Environment", "inScope", "()Z"⟩ : MethodName)) (z := (⟨"com/example/greenwood/greenwood/Environment", "inScope", "()Z"⟩ : MethodName)) hown (mvT hZ (hw _ (List.mem_of_getElem? (i := 35) rfl))) (mvT hZ (hw _ (List.mem_of_getElem? (i := 36) rfl))) (notFace_of_selects (args := #[]) (mvT hZ (hw _ (List.mem_of_getElem? (i := 38) rfl)))) (mvT hZ (hw _ (List.mem_of_getElem? (i := 38) rfl))) (mvT hZ (hw _ (List.mem_of_getElem? (i := 37) rfl))) (by decide) (backOf (W := 0) (rm5_0 l Z a0 hw [] b133 h180 n0 (by omega) g180_1) hZ (hw _ (List.mem_of_getElem? (i := 39) rfl)) (hw _ (List.mem_of_getElem? (i := 3) rfl)) (by decide) (by decide)) q183a q183c (g := (mkF m 165 #[.val (.int xa), .val (.int xb), .val (.int xc), .val (.int (1 : Int32)), .val (.int (1 : Int32)), .val (.ref b133), .val (.int (1 : Int32))] [(.ref b133)])) rfl (by rw [hml]; rfl) (Steps.refl _) (argsL := []) (rest := []) (lenOf pd_3 rfl) rfl (by show 2 * 0 + _ ≤ _; exact Nat.le_of_eq rfl) (hb hby at_165) (fun _ _ => ⟨rfl, e180, (by decide : 4 + 0 ≤ _), (by decide : 45 + 0 ≤ _)⟩)
          dsimp only [Pt.U, Pt.locs, Pt.cells, Pt.slots] at X183 lq183 yq183 zq183 st183 hQ183
          subst lq183 yq183 zq183
          obtain ⟨rfl, Nq183, eq183⟩ := hQ183
          have N183 := Fr.app N180 Nq183
          refine own_go (st' := T183.setTop (mkF m 168 #[.val (.int xa), .val (.int xb), .val (.int xc), .val (.int (1 : Int32)), .val (.int (1 : Int32)), .val (.ref b133), .val (.int (1 : Int32))] [(.int (0 : Int32))])) (fun _ k => st183.trans k) ?_
          have hc184 : (0 : Int32) = (0 : Int32) := by decide
          refine own_go (st' := T183.setTop (mkF m 171 #[.val (.int xa), .val (.int xb), .val (.int xc), .val (.int (1 : Int32)), .val (.int (1 : Int32)), .val (.ref b133), .val (.int (1 : Int32))] [])) (fun _ k => XS.ifNo X183.here hx rfl (hb hby at_168) rfl ((if0 _ _).trans (teq hc184).2) k) ?_
          refine own_go (st' := T183.setTop (mkF m 172 #[.val (.int xa), .val (.int xb), .val (.int xc), .val (.int (1 : Int32)), .val (.int (1 : Int32)), .val (.ref b133), .val (.int (1 : Int32))] [(.int (1 : Int32))])) (fun _ k => XS.iconst X183.here hx rfl (hb hby at_171) k) ?_
          refine own_go (st' := T183.setTop (mkF m 176 #[.val (.int xa), .val (.int xb), .val (.int xc), .val (.int (1 : Int32)), .val (.int (1 : Int32)), .val (.ref b133), .val (.int (1 : Int32))] [(.int (1 : Int32))])) (fun _ k => XS.goto X183.here hx rfl (pc0 := 172) (pc' := 176) rfl (hb hby at_172) (by decide) (by decide) k) ?_
          refine own_go (st' := T183.setTop (mkF m 178 #[.val (.int xa), .val (.int xb), .val (.int xc), .val (.int (1 : Int32)), .val (.int (1 : Int32)), .val (.ref b133), .val (.int (1 : Int32))] [])) (fun _ k => XS.istore X183.here hx rfl (hb hby at_176) rfl (l' := #[.val (.int xa), .val (.int xb), .val (.int xc), .val (.int (1 : Int32)), .val (.int (1 : Int32)), .val (.ref b133), .val (.int (1 : Int32))]) rfl k) ?_
          refine own_go (st' := T183.setTop (mkF m 180 #[.val (.int xa), .val (.int xb), .val (.int xc), .val (.int (1 : Int32)), .val (.int (1 : Int32)), .val (.ref b133), .val (.int (1 : Int32))] [(.int (1 : Int32))])) (fun _ k => XS.iload X183.here hx rfl (hb hby at_178) rfl k) ?_
          obtain ⟨fs, hr, hrun, hended, hW, hsame⟩ := X183.leave (v := some (.int (1 : Int32))) (fun h => by rw [Bd.returns] at h; cases h)
          refine ⟨_, _, ?_, hP _ _ hrun hended ⟨_, _, rfl, ?_, ⟨_, rfl⟩, hW, hsame.mono (by decide) (by decide)⟩⟩
          · exact retN X183 hx (t := .boolean) Bd.returns (by simp) (hb hby at_180) hr
          · show Qrm0 Z xa xb xc h0 n0 _ T183.heap _
            rw [eq183]
            exact ⟨rfl, N183, trivial⟩
    · --
      rw [hm_13]
      refine own_go (st' := s₁.setTop (mkF m 15 #[.val (.int xa), .val (.int xb), .val (.int xc), .val (.int (1 : Int32)), .val (.int (2 : Int32)), .unset, .unset] [])) (fun _ k => XS.istore X0.here hx rfl (hb hby at_13) rfl (l' := #[.val (.int xa), .val (.int xb), .val (.int xc), .val (.int (1 : Int32)), .val (.int (2 : Int32)), .unset, .unset]) rfl k) ?_
      refine own_go (st' := s₁.setTop (mkF m 17 #[.val (.int xa), .val (.int xb), .val (.int xc), .val (.int (1 : Int32)), .val (.int (2 : Int32)), .unset, .unset] [(.int (2 : Int32))])) (fun _ k => XS.iload X0.here hx rfl (hb hby at_15) rfl k) ?_
      refine own_go (st' := s₁.setTop (mkF m 18 #[.val (.int xa), .val (.int xb), .val (.int xc), .val (.int (1 : Int32)), .val (.int (2 : Int32)), .unset, .unset] [(.int (1 : Int32)), (.int (2 : Int32))])) (fun _ k => XS.iloadN X0.here hx rfl (hb hby at_17) rfl k) ?_
      have hc186 : (1 : Int32) < (2 : Int32) := by decide
      refine own_go (st' := s₁.setTop (mkF m 21 #[.val (.int xa), .val (.int xb), .val (.int xc), .val (.int (1 : Int32)), .val (.int (2 : Int32)), .unset, .unset] [])) (fun _ k => XS.icmpNo X0.here hx rfl (hb hby at_18) rfl (tlt hc186).2.2.2 k) ?_
      refine own_go (st' := s₁.setTop (mkF m 22 #[.val (.int xa), .val (.int xb), .val (.int xc), .val (.int (1 : Int32)), .val (.int (2 : Int32)), .unset, .unset] [(.int (1 : Int32))])) (fun _ k => XS.iloadN X0.here hx rfl (hb hby at_21) rfl k) ?_
      refine own_go (st' := s₁.setTop (mkF m 24 #[.val (.int xa), .val (.int xb), .val (.int xc), .val (.int (1 : Int32)), .val (.int (1 : Int32)), .unset, .unset] [])) (fun _ k => XS.istore X0.here hx rfl (hb hby at_22) rfl (l' := #[.val (.int xa), .val (.int xb), .val (.int xc), .val (.int (1 : Int32)), .val (.int (1 : Int32)), .unset, .unset]) rfl k) ?_
      obtain ⟨T187, h187, X187, e187, E187, A187, D187, -, st187⟩ := newO X0 hx hZ hown (hw _ (List.mem_of_getElem? (i := 1) rfl)) (hw _ (List.mem_of_getElem? (i := 2) rfl)) (hw _ (List.mem_of_getElem? (i := 3) rfl)) e0 (g := (mkF m 24 #[.val (.int xa), .val (.int xb), .val (.int xc), .val (.int (1 : Int32)), .val (.int (1 : Int32)), .unset, .unset] [])) rfl (hb hby at_24) (by decide) (by decide)
      obtain ⟨b187, g187⟩ : ∃ z, z = h0.size := ⟨_, rfl⟩
      rw [← g187] at A187 D187 st187
      have sz187 : h0.size ≤ h187.size := E187.1
      have lt187 : @LT.lt Nat _ b187 h187.size := A187.lt
      have f188 : Fld Z h187 b187 "com/example/greenwood/greenwood/Environment" "globals" "Ljava/util/Map;" .null := D187 (Or.inr (hw _ (List.mem_of_getElem? (i := 27) rfl))) (ty := (.object "java/util/Map")) (by decide)
      have f189 : Fld Z h187 b187 "com/example/greenwood/greenwood/Environment" "locals" "[Ljava/lang/Object;" .null := D187 (Or.inl (hw _ (List.mem_of_getElem? (i := 31) rfl))) (ty := (.array (.object "java/lang/Object"))) (by decide)
      have f190 : Fld Z h187 b187 "com/example/greenwood/greenwood/Environment" "scopeStarts" "[I" .null := D187 (Or.inl (hw _ (List.mem_of_getElem? (i := 34) rfl))) (ty := (.array .int)) (by decide)
      have f191 : Fld Z h187 b187 "com/example/greenwood/greenwood/Environment" "openScopes" "I" (.int (0 : Int32)) := D187 (Or.inl (hw _ (List.mem_of_getElem? (i := 41) rfl))) (ty := .int) (by decide)
      have f192 : Fld Z h187 b187 "com/example/greenwood/greenwood/Environment" "localCount" "I" (.int (0 : Int32)) := D187 (Or.inl (hw _ (List.mem_of_getElem? (i := 48) rfl))) (ty := .int) (by decide)
      refine own_go (st' := T187.setTop (mkF m 27 #[.val (.int xa), .val (.int xb), .val (.int xc), .val (.int (1 : Int32)), .val (.int (1 : Int32)), .unset, .unset] [(.ref b187)])) (st187) ?_
      refine own_go (st' := T187.setTop (mkF m 28 #[.val (.int xa), .val (.int xb), .val (.int xc), .val (.int (1 : Int32)), .val (.int (1 : Int32)), .unset, .unset] [(.ref b187), (.ref b187)])) (fun _ k => XS.dup X187.here hx rfl (hb hby at_27) rfl rfl k) ?_
      obtain ⟨_, _, ⟨T193, LC193, kC193, nC193⟩, -, X193, ⟨Lc193, hQ193, lq193, yq193, zq193⟩, st193⟩ := X187.specialBack hx (y := (⟨"com/example/greenwood/greenwood/Environment", "<init>", "()V"⟩ : MethodName)) rfl hown (mvT hZ (hw _ (List.mem_of_getElem? (i := 4) rfl))) (mvT hZ (hw _ (List.mem_of_getElem? (i := 5) rfl))) (mvT hZ (hw _ (List.mem_of_getElem? (i := 6) rfl))) (by decide) (backOf (W := 1) (rm1 l Z a0 hw [] b187 h187 n0 (by omega) A187 f188 f189 f190 f191 f192 (by omega)) hZ (hw _ (List.mem_of_getElem? (i := 6) rfl)) (hw _ (List.mem_of_getElem? (i := 3) rfl)) (by decide) (by decide)) (g := (mkF m 28 #[.val (.int xa), .val (.int xb), .val (.int xc), .val (.int (1 : Int32)), .val (.int (1 : Int32)), .unset, .unset] [(.ref b187), (.ref b187)])) rfl (by rw [hml]; rfl) (Steps.refl _) (a := b187) (argsL := []) (rest := [(.ref b187)]) (lenOf pd_0 rfl) rfl (by show 2 * 0 + _ ≤ _; exact Nat.le_of_eq rfl) (hb hby at_28) (fun _ _ => ⟨rfl, e187, (by decide : 1 + 3 ≤ _), (by decide : 5 + 40 ≤ _)⟩)
      dsimp only [Pt.U, Pt.locs, Pt.cells, Pt.slots] at X193 lq193 yq193 zq193 st193 hQ193
      subst lq193 yq193 zq193
      obtain ⟨h193, e193⟩ : ∃ z, T193.heap = z := ⟨_, rfl⟩
      rw [e193] at hQ193
      obtain ⟨rl_193, rs_193, kl_193, ks_193, rfl, Nq193, K193, g193_0, g193_1, g193_2, g193_3, g193_4, g193_5, g193_6, g193_7, g193_8, g193_9, g193_10⟩ := hQ193
      have sz193 : h187.size ≤ h193.size := K193.1
      have N193 := Fr.app N0 Nq193
      have lt193_1 : @LT.lt Nat _ b187 h193.size := g193_0.lt
      have lt193_2 : @LT.lt Nat _ rl_193 h193.size := g193_5.lt
      have lt193_3 : @LT.lt Nat _ rs_193 h193.size := g193_6.lt
      refine own_go (st' := T193.setTop (mkF m 31 #[.val (.int xa), .val (.int xb), .val (.int xc), .val (.int (1 : Int32)), .val (.int (1 : Int32)), .unset, .unset] [(.ref b187)])) (fun _ k => st193.trans k) ?_
      refine own_go (st' := T193.setTop (mkF m 33 #[.val (.int xa), .val (.int xb), .val (.int xc), .val (.int (1 : Int32)), .val (.int (1 : Int32)), .val (.ref b187), .unset] [])) (fun _ k => XS.astore X193.here hx rfl (hb hby at_31) rfl rfl (l' := #[.val (.int xa), .val (.int xb), .val (.int xc), .val (.int (1 : Int32)), .val (.int (1 : Int32)), .val (.ref b187), .unset]) rfl k) ?_
      refine own_go (st' := T193.setTop (mkF m 34 #[.val (.int xa), .val (.int xb), .val (.int xc), .val (.int (1 : Int32)), .val (.int (1 : Int32)), .val (.ref b187), .unset] [(.int (1 : Int32))])) (fun _ k => XS.iloadN X193.here hx rfl (hb hby at_33) rfl k) ?_
      refine own_go (st' := T193.setTop (mkF m 35 #[.val (.int xa), .val (.int xb), .val (.int xc), .val (.int (1 : Int32)), .val (.int (1 : Int32)), .val (.ref b187), .unset] [(.int (1 : Int32)), (.int (1 : Int32))])) (fun _ k => XS.iconst X193.here hx rfl (hb hby at_34) k) ?_
      have hc194 : ¬ ((1 : Int32) < (1 : Int32)) := by decide
      refine own_go (st' := T193.setTop (mkF m 38 #[.val (.int xa), .val (.int xb), .val (.int xc), .val (.int (1 : Int32)), .val (.int (1 : Int32)), .val (.ref b187), .unset] [])) (fun _ k => XS.icmpNo X193.here hx rfl (hb hby at_35) rfl (flt hc194).1 k) ?_
      refine own_go (st' := T193.setTop (mkF m 40 #[.val (.int xa), .val (.int xb), .val (.int xc), .val (.int (1 : Int32)), .val (.int (1 : Int32)), .val (.ref b187), .unset] [(.ref b187)])) (fun _ k => XS.aload X193.here hx rfl (hb hby at_38) rfl rfl k) ?_
      obtain ⟨cq195, kq195, q195a, q195b, q195c⟩ := isOf hZ e193 g193_0
      obtain ⟨_, _, ⟨T195, LC195, kC195, nC195⟩, -, X195, ⟨Lc195, hQ195, lq195, yq195, zq195⟩, st195⟩ := X193.virtualBack hx (y := (⟨"com/example/greenwood/greenwood/Environment", "openScope", "()V"⟩ : MethodName)) (z := (⟨"com/example/greenwood/greenwood/Environment", "openScope", "()V"⟩ : MethodName)) hown (mvT hZ (hw _ (List.mem_of_getElem? (i := 56) rfl))) (mvT hZ (hw _ (List.mem_of_getElem? (i := 57) rfl))) (notFace_of_selects (args := #[]) (mvT hZ (hw _ (List.mem_of_getElem? (i := 59) rfl)))) (mvT hZ (hw _ (List.mem_of_getElem? (i := 59) rfl))) (mvT hZ (hw _ (List.mem_of_getElem? (i := 58) rfl))) (by decide) (backOf (W := 0) (rm9_0 l Z a0 hw [] b187 rl_193 rs_193 kl_193 ks_193 h193 n0 (by omega) g193_0 g193_1 g193_2 g193_3 g193_4 g193_5 g193_6 (by omega) (by omega) (by omega) (by first | assumption | exact Ne.symm (by assumption) | (apply Nat.ne_of_lt; omega) | (apply Nat.ne_of_gt; omega)) (by first | assumption | exact Ne.symm (by assumption) | (apply Nat.ne_of_lt; omega) | (apply Nat.ne_of_gt; omega)) (by first | assumption | exact Ne.symm (by assumption) | (apply Nat.ne_of_lt; omega) | (apply Nat.ne_of_gt; omega))) hZ (hw _ (List.mem_of_getElem? (i := 60) rfl)) (hw _ (List.mem_of_getElem? (i := 3) rfl)) (by decide) (by decide)) q195a q195c (g := (mkF m 40 #[.val (.int xa), .val (.int xb), .val (.int xc), .val (.int (1 : Int32)), .val (.int (1 : Int32)), .val (.ref b187), .unset] [(.ref b187)])) rfl (by rw [hml]; rfl) (Steps.refl _) (argsL := []) (rest := []) (lenOf pd_0 rfl) rfl (by show 2 * 0 + _ ≤ _; exact Nat.le_of_eq rfl) (hb hby at_40) (fun _ _ => ⟨rfl, e193, (by decide : 4 + 0 ≤ _), (by decide : 45 + 0 ≤ _)⟩)
      dsimp only [Pt.U, Pt.locs, Pt.cells, Pt.slots] at X195 lq195 yq195 zq195 st195 hQ195
      subst lq195 yq195 zq195
      obtain ⟨h195, e195⟩ : ∃ z, T195.heap = z := ⟨_, rfl⟩
      rw [e195] at hQ195
      obtain ⟨rfl, Nq195, K195, g195_0, g195_1, g195_2, g195_3, g195_4, g195_5⟩ := hQ195
      have sz195 : h193.size ≤ h195.size := K195.1
      have N195 := Fr.app N193 Nq195
      have lt195_1 : @LT.lt Nat _ b187 h195.size := g195_0.lt
      have lt195_2 : @LT.lt Nat _ rs_193 h195.size := g195_5.lt
      refine own_go (st' := T195.setTop (mkF m 43 #[.val (.int xa), .val (.int xb), .val (.int xc), .val (.int (1 : Int32)), .val (.int (1 : Int32)), .val (.ref b187), .unset] [])) (fun _ k => st195.trans k) ?_
      refine own_go (st' := T195.setTop (mkF m 44 #[.val (.int xa), .val (.int xb), .val (.int xc), .val (.int (1 : Int32)), .val (.int (1 : Int32)), .val (.ref b187), .unset] [(.int (1 : Int32))])) (fun _ k => XS.iloadN X195.here hx rfl (hb hby at_43) rfl k) ?_
      refine own_go (st' := T195.setTop (mkF m 45 #[.val (.int xa), .val (.int xb), .val (.int xc), .val (.int (1 : Int32)), .val (.int (1 : Int32)), .val (.ref b187), .unset] [(.int (2 : Int32)), (.int (1 : Int32))])) (fun _ k => XS.iconst X195.here hx rfl (hb hby at_44) k) ?_
      have hc196 : (1 : Int32) < (2 : Int32) := by decide
      refine own_go (st' := T195.setTop (mkF m 53 #[.val (.int xa), .val (.int xb), .val (.int xc), .val (.int (1 : Int32)), .val (.int (1 : Int32)), .val (.ref b187), .unset] [])) (fun _ k => XS.icmpYes X195.here hx rfl (pc0 := 45) (pc' := 53) rfl (hb hby at_45) rfl (tlt hc196).1 (by decide) (by decide) k) ?_
      refine own_go (st' := T195.setTop (mkF m 54 #[.val (.int xa), .val (.int xb), .val (.int xc), .val (.int (1 : Int32)), .val (.int (1 : Int32)), .val (.ref b187), .unset] [(.int (1 : Int32))])) (fun _ k => XS.iloadN X195.here hx rfl (hb hby at_53) rfl k) ?_
      refine own_go (st' := T195.setTop (mkF m 55 #[.val (.int xa), .val (.int xb), .val (.int xc), .val (.int (1 : Int32)), .val (.int (1 : Int32)), .val (.ref b187), .unset] [(.int (1 : Int32)), (.int (1 : Int32))])) (fun _ k => XS.iconst X195.here hx rfl (hb hby at_54) k) ?_
      have hc197 : ¬ ((1 : Int32) < (1 : Int32)) := by decide
      refine own_go (st' := T195.setTop (mkF m 58 #[.val (.int xa), .val (.int xb), .val (.int xc), .val (.int (1 : Int32)), .val (.int (1 : Int32)), .val (.ref b187), .unset] [])) (fun _ k => XS.icmpNo X195.here hx rfl (hb hby at_55) rfl (flt hc197).1 k) ?_
      refine own_go (st' := T195.setTop (mkF m 59 #[.val (.int xa), .val (.int xb), .val (.int xc), .val (.int (1 : Int32)), .val (.int (1 : Int32)), .val (.ref b187), .unset] [(.int xc)])) (fun _ k => XS.iloadN X195.here hx rfl (hb hby at_58) rfl k) ?_
      refine own_go (st' := T195.setTop (mkF m 60 #[.val (.int xa), .val (.int xb), .val (.int xc), .val (.int (1 : Int32)), .val (.int (1 : Int32)), .val (.ref b187), .unset] [(.int (1 : Int32)), (.int xc)])) (fun _ k => XS.iconst X195.here hx rfl (hb hby at_59) k) ?_
      refine own_go (st' := T195.setTop (mkF m 61 #[.val (.int xa), .val (.int xb), .val (.int xc), .val (.int (1 : Int32)), .val (.int (1 : Int32)), .val (.ref b187), .unset] [(.int (xc &&& (1 : Int32)))])) (fun _ k => XS.iand X195.here hx rfl (hb hby at_60) rfl k) ?_
      by_cases hc198 : (xc &&& (1 : Int32)) = (0 : Int32)
      · --
        refine own_go (st' := T195.setTop (mkF m 69 #[.val (.int xa), .val (.int xb), .val (.int xc), .val (.int (1 : Int32)), .val (.int (1 : Int32)), .val (.ref b187), .unset] [])) (fun _ k => XS.ifYes X195.here hx rfl (pc0 := 61) (pc' := 69) rfl (hb hby at_61) rfl ((if0 _ _).trans (teq hc198).1) (by decide) (by decide) k) ?_
        refine own_go (st' := T195.setTop (mkF m 71 #[.val (.int xa), .val (.int xb), .val (.int xc), .val (.int (1 : Int32)), .val (.int (1 : Int32)), .val (.ref b187), .unset] [(.ref b187)])) (fun _ k => XS.aload X195.here hx rfl (hb hby at_69) rfl rfl k) ?_
        obtain ⟨cq199, kq199, q199a, q199b, q199c⟩ := isOf hZ e195 g195_0
        obtain ⟨_, _, ⟨T199, LC199, kC199, nC199⟩, -, X199, ⟨Lc199, hQ199, lq199, yq199, zq199⟩, st199⟩ := X195.virtualBack hx (y := (⟨"com/example/greenwood/greenwood/Environment", "inScope", "()Z"⟩ : MethodName)) (z := (⟨"com/example/greenwood/greenwood/Environment", "inScope", "()Z"⟩ : MethodName)) hown (mvT hZ (hw _ (List.mem_of_getElem? (i := 35) rfl))) (mvT hZ (hw _ (List.mem_of_getElem? (i := 36) rfl))) (notFace_of_selects (args := #[]) (mvT hZ (hw _ (List.mem_of_getElem? (i := 38) rfl)))) (mvT hZ (hw _ (List.mem_of_getElem? (i := 38) rfl))) (mvT hZ (hw _ (List.mem_of_getElem? (i := 37) rfl))) (by decide) (backOf (W := 0) (rm5_1 l Z a0 hw [] b187 h195 n0 (by omega) g195_1) hZ (hw _ (List.mem_of_getElem? (i := 39) rfl)) (hw _ (List.mem_of_getElem? (i := 3) rfl)) (by decide) (by decide)) q199a q199c (g := (mkF m 71 #[.val (.int xa), .val (.int xb), .val (.int xc), .val (.int (1 : Int32)), .val (.int (1 : Int32)), .val (.ref b187), .unset] [(.ref b187)])) rfl (by rw [hml]; rfl) (Steps.refl _) (argsL := []) (rest := []) (lenOf pd_3 rfl) rfl (by show 2 * 0 + _ ≤ _; exact Nat.le_of_eq rfl) (hb hby at_71) (fun _ _ => ⟨rfl, e195, (by decide : 4 + 0 ≤ _), (by decide : 45 + 0 ≤ _)⟩)
        dsimp only [Pt.U, Pt.locs, Pt.cells, Pt.slots] at X199 lq199 yq199 zq199 st199 hQ199
        subst lq199 yq199 zq199
        obtain ⟨rfl, Nq199, eq199⟩ := hQ199
        have N199 := Fr.app N195 Nq199
        refine own_go (st' := T199.setTop (mkF m 74 #[.val (.int xa), .val (.int xb), .val (.int xc), .val (.int (1 : Int32)), .val (.int (1 : Int32)), .val (.ref b187), .unset] [(.int (1 : Int32))])) (fun _ k => st199.trans k) ?_
        refine own_go (st' := T199.setTop (mkF m 75 #[.val (.int xa), .val (.int xb), .val (.int xc), .val (.int (1 : Int32)), .val (.int (1 : Int32)), .val (.ref b187), .unset] [(.int (1 : Int32)), (.int (1 : Int32))])) (fun _ k => XS.iloadN X199.here hx rfl (hb hby at_74) rfl k) ?_
        have hc200 : (0 : Int32) < (1 : Int32) := by decide
        refine own_go (st' := T199.setTop (mkF m 78 #[.val (.int xa), .val (.int xb), .val (.int xc), .val (.int (1 : Int32)), .val (.int (1 : Int32)), .val (.ref b187), .unset] [(.int (1 : Int32))])) (fun _ k => XS.ifNo X199.here hx rfl (hb hby at_75) rfl ((if0 _ _).trans (tlt hc200).2.2.2) k) ?_
        refine own_go (st' := T199.setTop (mkF m 79 #[.val (.int xa), .val (.int xb), .val (.int xc), .val (.int (1 : Int32)), .val (.int (1 : Int32)), .val (.ref b187), .unset] [(.int (1 : Int32)), (.int (1 : Int32))])) (fun _ k => XS.iconst X199.here hx rfl (hb hby at_78) k) ?_
        refine own_go (st' := T199.setTop (mkF m 83 #[.val (.int xa), .val (.int xb), .val (.int xc), .val (.int (1 : Int32)), .val (.int (1 : Int32)), .val (.ref b187), .unset] [(.int (1 : Int32)), (.int (1 : Int32))])) (fun _ k => XS.goto X199.here hx rfl (pc0 := 79) (pc' := 83) rfl (hb hby at_79) (by decide) (by decide) k) ?_
        have hc201 : (1 : Int32) = (1 : Int32) := by decide
        refine own_go (st' := T199.setTop (mkF m 86 #[.val (.int xa), .val (.int xb), .val (.int xc), .val (.int (1 : Int32)), .val (.int (1 : Int32)), .val (.ref b187), .unset] [])) (fun _ k => XS.icmpNo X199.here hx rfl (hb hby at_83) rfl (teq hc201).2 k) ?_
        refine own_go (st' := T199.setTop (mkF m 87 #[.val (.int xa), .val (.int xb), .val (.int xc), .val (.int (1 : Int32)), .val (.int (1 : Int32)), .val (.ref b187), .unset] [(.int (1 : Int32))])) (fun _ k => XS.iconst X199.here hx rfl (hb hby at_86) k) ?_
        refine own_go (st' := T199.setTop (mkF m 91 #[.val (.int xa), .val (.int xb), .val (.int xc), .val (.int (1 : Int32)), .val (.int (1 : Int32)), .val (.ref b187), .unset] [(.int (1 : Int32))])) (fun _ k => XS.goto X199.here hx rfl (pc0 := 87) (pc' := 91) rfl (hb hby at_87) (by decide) (by decide) k) ?_
        refine own_go (st' := T199.setTop (mkF m 93 #[.val (.int xa), .val (.int xb), .val (.int xc), .val (.int (1 : Int32)), .val (.int (1 : Int32)), .val (.ref b187), .val (.int (1 : Int32))] [])) (fun _ k => XS.istore X199.here hx rfl (hb hby at_91) rfl (l' := #[.val (.int xa), .val (.int xb), .val (.int xc), .val (.int (1 : Int32)), .val (.int (1 : Int32)), .val (.ref b187), .val (.int (1 : Int32))]) rfl k) ?_
        refine own_go (st' := T199.setTop (mkF m 95 #[.val (.int xa), .val (.int xb), .val (.int xc), .val (.int (1 : Int32)), .val (.int (1 : Int32)), .val (.ref b187), .val (.int (1 : Int32))] [(.int (1 : Int32))])) (fun _ k => XS.iload X199.here hx rfl (hb hby at_93) rfl k) ?_
        refine own_go (st' := T199.setTop (mkF m 96 #[.val (.int xa), .val (.int xb), .val (.int xc), .val (.int (1 : Int32)), .val (.int (1 : Int32)), .val (.ref b187), .val (.int (1 : Int32))] [(.int (1 : Int32)), (.int (1 : Int32))])) (fun _ k => XS.iconst X199.here hx rfl (hb hby at_95) k) ?_
        have hc202 : ¬ ((1 : Int32) < (1 : Int32)) := by decide
        refine own_go (st' := T199.setTop (mkF m 99 #[.val (.int xa), .val (.int xb), .val (.int xc), .val (.int (1 : Int32)), .val (.int (1 : Int32)), .val (.ref b187), .val (.int (1 : Int32))] [])) (fun _ k => XS.icmpNo X199.here hx rfl (hb hby at_96) rfl (flt hc202).1 k) ?_
        refine own_go (st' := T199.setTop (mkF m 101 #[.val (.int xa), .val (.int xb), .val (.int xc), .val (.int (1 : Int32)), .val (.int (1 : Int32)), .val (.ref b187), .val (.int (1 : Int32))] [(.ref b187)])) (fun _ k => XS.aload X199.here hx rfl (hb hby at_99) rfl rfl k) ?_
        have c204 : Arv Z h195 rl_193 kl_193 (.object "java/lang/Object") (16 : Int32) [.null, .null, .null, .null, .null, .null, .null, .null, .null, .null, .null, .null, .null, .null, .null, .null] .null := (g193_5.keep K195 (ninS (by first | assumption | exact Ne.symm (by assumption) | (apply Nat.ne_of_lt; omega) | (apply Nat.ne_of_gt; omega)) (ninS (by first | assumption | exact Ne.symm (by assumption) | (apply Nat.ne_of_lt; omega) | (apply Nat.ne_of_gt; omega)) nin0)))
        obtain ⟨cq203, kq203, q203a, q203b, q203c⟩ := isOf hZ eq199 g195_0
        obtain ⟨_, _, ⟨T203, LC203, kC203, nC203⟩, -, X203, ⟨Lc203, hQ203, lq203, yq203, zq203⟩, st203⟩ := X199.virtualBack hx (y := (⟨"com/example/greenwood/greenwood/Environment", "closeScope", "()V"⟩ : MethodName)) (z := (⟨"com/example/greenwood/greenwood/Environment", "closeScope", "()V"⟩ : MethodName)) hown (mvT hZ (hw _ (List.mem_of_getElem? (i := 66) rfl))) (mvT hZ (hw _ (List.mem_of_getElem? (i := 67) rfl))) (notFace_of_selects (args := #[]) (mvT hZ (hw _ (List.mem_of_getElem? (i := 69) rfl)))) (mvT hZ (hw _ (List.mem_of_getElem? (i := 69) rfl))) (mvT hZ (hw _ (List.mem_of_getElem? (i := 68) rfl))) (by decide) (backOf (W := 0) (rm11_1_0 l Z a0 hw [] b187 rl_193 rs_193 kl_193 ks_193 h195 n0 (by omega) g195_0 g195_1 g195_2 g195_3 g195_4 c204 g195_5 (by omega) (by omega) (by omega) (by first | assumption | exact Ne.symm (by assumption) | (apply Nat.ne_of_lt; omega) | (apply Nat.ne_of_gt; omega)) (by first | assumption | exact Ne.symm (by assumption) | (apply Nat.ne_of_lt; omega) | (apply Nat.ne_of_gt; omega)) (by first | assumption | exact Ne.symm (by assumption) | (apply Nat.ne_of_lt; omega) | (apply Nat.ne_of_gt; omega))) hZ (hw _ (List.mem_of_getElem? (i := 70) rfl)) (hw _ (List.mem_of_getElem? (i := 3) rfl)) (by decide) (by decide)) q203a q203c (g := (mkF m 101 #[.val (.int xa), .val (.int xb), .val (.int xc), .val (.int (1 : Int32)), .val (.int (1 : Int32)), .val (.ref b187), .val (.int (1 : Int32))] [(.ref b187)])) rfl (by rw [hml]; rfl) (Steps.refl _) (argsL := []) (rest := []) (lenOf pd_0 rfl) rfl (by show 2 * 0 + _ ≤ _; exact Nat.le_of_eq rfl) (hb hby at_101) (fun _ _ => ⟨rfl, eq199, (by decide : 4 + 0 ≤ _), (by decide : 45 + 0 ≤ _)⟩)
        dsimp only [Pt.U, Pt.locs, Pt.cells, Pt.slots] at X203 lq203 yq203 zq203 st203 hQ203
        subst lq203 yq203 zq203
        obtain ⟨h203, e203⟩ : ∃ z, T203.heap = z := ⟨_, rfl⟩
        rw [e203] at hQ203
        obtain ⟨rfl, Nq203, K203, g203_0, g203_1, g203_2, g203_3, g203_4, g203_5⟩ := hQ203
        have sz203 : h195.size ≤ h203.size := K203.1
        have N203 := Fr.app N199 Nq203
        have lt203_1 : @LT.lt Nat _ b187 h203.size := g203_0.lt
        have lt203_2 : @LT.lt Nat _ rl_193 h203.size := g203_5.lt
        refine own_go (st' := T203.setTop (mkF m 104 #[.val (.int xa), .val (.int xb), .val (.int xc), .val (.int (1 : Int32)), .val (.int (1 : Int32)), .val (.ref b187), .val (.int (1 : Int32))] [])) (fun _ k => st203.trans k) ?_
        refine own_go (st' := T203.setTop (mkF m 106 #[.val (.int xa), .val (.int xb), .val (.int xc), .val (.int (1 : Int32)), .val (.int (1 : Int32)), .val (.ref b187), .val (.int (1 : Int32))] [(.int (1 : Int32))])) (fun _ k => XS.iload X203.here hx rfl (hb hby at_104) rfl k) ?_
        refine own_go (st' := T203.setTop (mkF m 107 #[.val (.int xa), .val (.int xb), .val (.int xc), .val (.int (1 : Int32)), .val (.int (1 : Int32)), .val (.ref b187), .val (.int (1 : Int32))] [(.int (2 : Int32)), (.int (1 : Int32))])) (fun _ k => XS.iconst X203.here hx rfl (hb hby at_106) k) ?_
        have hc205 : (1 : Int32) < (2 : Int32) := by decide
        refine own_go (st' := T203.setTop (mkF m 115 #[.val (.int xa), .val (.int xb), .val (.int xc), .val (.int (1 : Int32)), .val (.int (1 : Int32)), .val (.ref b187), .val (.int (1 : Int32))] [])) (fun _ k => XS.icmpYes X203.here hx rfl (pc0 := 107) (pc' := 115) rfl (hb hby at_107) rfl (tlt hc205).1 (by decide) (by decide) k) ?_
        refine own_go (st' := T203.setTop (mkF m 117 #[.val (.int xa), .val (.int xb), .val (.int xc), .val (.int (1 : Int32)), .val (.int (1 : Int32)), .val (.ref b187), .val (.int (1 : Int32))] [(.int (1 : Int32))])) (fun _ k => XS.iload X203.here hx rfl (hb hby at_115) rfl k) ?_
        have hc206 : ¬ ((1 : Int32) = (0 : Int32)) := by decide
        refine own_go (st' := T203.setTop (mkF m 120 #[.val (.int xa), .val (.int xb), .val (.int xc), .val (.int (1 : Int32)), .val (.int (1 : Int32)), .val (.ref b187), .val (.int (1 : Int32))] [])) (fun _ k => XS.ifNo X203.here hx rfl (hb hby at_117) rfl ((if0 _ _).trans (feq hc206).1) k) ?_
        refine own_go (st' := T203.setTop (mkF m 122 #[.val (.int xa), .val (.int xb), .val (.int xc), .val (.int (1 : Int32)), .val (.int (1 : Int32)), .val (.ref b187), .val (.int (1 : Int32))] [(.ref b187)])) (fun _ k => XS.aload X203.here hx rfl (hb hby at_120) rfl rfl k) ?_
        obtain ⟨cq207, kq207, q207a, q207b, q207c⟩ := isOf hZ e203 g203_0
        obtain ⟨_, _, ⟨T207, LC207, kC207, nC207⟩, -, X207, ⟨Lc207, hQ207, lq207, yq207, zq207⟩, st207⟩ := X203.virtualBack hx (y := (⟨"com/example/greenwood/greenwood/Environment", "inScope", "()Z"⟩ : MethodName)) (z := (⟨"com/example/greenwood/greenwood/Environment", "inScope", "()Z"⟩ : MethodName)) hown (mvT hZ (hw _ (List.mem_of_getElem? (i := 35) rfl))) (mvT hZ (hw _ (List.mem_of_getElem? (i := 36) rfl))) (notFace_of_selects (args := #[]) (mvT hZ (hw _ (List.mem_of_getElem? (i := 38) rfl)))) (mvT hZ (hw _ (List.mem_of_getElem? (i := 38) rfl))) (mvT hZ (hw _ (List.mem_of_getElem? (i := 37) rfl))) (by decide) (backOf (W := 0) (rm5_0 l Z a0 hw [] b187 h203 n0 (by omega) g203_1) hZ (hw _ (List.mem_of_getElem? (i := 39) rfl)) (hw _ (List.mem_of_getElem? (i := 3) rfl)) (by decide) (by decide)) q207a q207c (g := (mkF m 122 #[.val (.int xa), .val (.int xb), .val (.int xc), .val (.int (1 : Int32)), .val (.int (1 : Int32)), .val (.ref b187), .val (.int (1 : Int32))] [(.ref b187)])) rfl (by rw [hml]; rfl) (Steps.refl _) (argsL := []) (rest := []) (lenOf pd_3 rfl) rfl (by show 2 * 0 + _ ≤ _; exact Nat.le_of_eq rfl) (hb hby at_122) (fun _ _ => ⟨rfl, e203, (by decide : 4 + 0 ≤ _), (by decide : 45 + 0 ≤ _)⟩)
        dsimp only [Pt.U, Pt.locs, Pt.cells, Pt.slots] at X207 lq207 yq207 zq207 st207 hQ207
        subst lq207 yq207 zq207
        obtain ⟨rfl, Nq207, eq207⟩ := hQ207
        have N207 := Fr.app N203 Nq207
        refine own_go (st' := T207.setTop (mkF m 125 #[.val (.int xa), .val (.int xb), .val (.int xc), .val (.int (1 : Int32)), .val (.int (1 : Int32)), .val (.ref b187), .val (.int (1 : Int32))] [(.int (0 : Int32))])) (fun _ k => st207.trans k) ?_
        refine own_go (st' := T207.setTop (mkF m 126 #[.val (.int xa), .val (.int xb), .val (.int xc), .val (.int (1 : Int32)), .val (.int (1 : Int32)), .val (.ref b187), .val (.int (1 : Int32))] [(.int (1 : Int32)), (.int (0 : Int32))])) (fun _ k => XS.iloadN X207.here hx rfl (hb hby at_125) rfl k) ?_
        refine own_go (st' := T207.setTop (mkF m 128 #[.val (.int xa), .val (.int xb), .val (.int xc), .val (.int (1 : Int32)), .val (.int (1 : Int32)), .val (.ref b187), .val (.int (1 : Int32))] [(.int (1 : Int32)), (.int (1 : Int32)), (.int (0 : Int32))])) (fun _ k => XS.iload X207.here hx rfl (hb hby at_126) rfl k) ?_
        refine own_go (st' := T207.setTop (mkF m 129 #[.val (.int xa), .val (.int xb), .val (.int xc), .val (.int (1 : Int32)), .val (.int (1 : Int32)), .val (.ref b187), .val (.int (1 : Int32))] [(.int (0 : Int32)), (.int (0 : Int32))])) (fun _ k => XS.isub X207.here hx rfl (hb hby at_128) rfl (by rw [show ((1 : Int32) - (1 : Int32)) = (0 : Int32) by decide]; exact k)) ?_
        have hc208 : ¬ ((0 : Int32) < (0 : Int32)) := by decide
        refine own_go (st' := T207.setTop (mkF m 136 #[.val (.int xa), .val (.int xb), .val (.int xc), .val (.int (1 : Int32)), .val (.int (1 : Int32)), .val (.ref b187), .val (.int (1 : Int32))] [(.int (0 : Int32))])) (fun _ k => XS.ifYes X207.here hx rfl (pc0 := 129) (pc' := 136) rfl (hb hby at_129) rfl ((if0 _ _).trans (flt hc208).2.2.2) (by decide) (by decide) k) ?_
        refine own_go (st' := T207.setTop (mkF m 137 #[.val (.int xa), .val (.int xb), .val (.int xc), .val (.int (1 : Int32)), .val (.int (1 : Int32)), .val (.ref b187), .val (.int (1 : Int32))] [(.int (0 : Int32)), (.int (0 : Int32))])) (fun _ k => XS.iconst X207.here hx rfl (hb hby at_136) k) ?_
        have hc209 : (0 : Int32) = (0 : Int32) := by decide
        refine own_go (st' := T207.setTop (mkF m 140 #[.val (.int xa), .val (.int xb), .val (.int xc), .val (.int (1 : Int32)), .val (.int (1 : Int32)), .val (.ref b187), .val (.int (1 : Int32))] [])) (fun _ k => XS.icmpNo X207.here hx rfl (hb hby at_137) rfl (teq hc209).2 k) ?_
        refine own_go (st' := T207.setTop (mkF m 141 #[.val (.int xa), .val (.int xb), .val (.int xc), .val (.int (1 : Int32)), .val (.int (1 : Int32)), .val (.ref b187), .val (.int (1 : Int32))] [(.int (1 : Int32))])) (fun _ k => XS.iconst X207.here hx rfl (hb hby at_140) k) ?_
        refine own_go (st' := T207.setTop (mkF m 145 #[.val (.int xa), .val (.int xb), .val (.int xc), .val (.int (1 : Int32)), .val (.int (1 : Int32)), .val (.ref b187), .val (.int (1 : Int32))] [(.int (1 : Int32))])) (fun _ k => XS.goto X207.here hx rfl (pc0 := 141) (pc' := 145) rfl (hb hby at_141) (by decide) (by decide) k) ?_
        refine own_go (st' := T207.setTop (mkF m 147 #[.val (.int xa), .val (.int xb), .val (.int xc), .val (.int (1 : Int32)), .val (.int (1 : Int32)), .val (.ref b187), .val (.int (1 : Int32))] [])) (fun _ k => XS.istore X207.here hx rfl (hb hby at_145) rfl (l' := #[.val (.int xa), .val (.int xb), .val (.int xc), .val (.int (1 : Int32)), .val (.int (1 : Int32)), .val (.ref b187), .val (.int (1 : Int32))]) rfl k) ?_
        refine own_go (st' := T207.setTop (mkF m 148 #[.val (.int xa), .val (.int xb), .val (.int xc), .val (.int (1 : Int32)), .val (.int (1 : Int32)), .val (.ref b187), .val (.int (1 : Int32))] [(.int xc)])) (fun _ k => XS.iloadN X207.here hx rfl (hb hby at_147) rfl k) ?_
        refine own_go (st' := T207.setTop (mkF m 149 #[.val (.int xa), .val (.int xb), .val (.int xc), .val (.int (1 : Int32)), .val (.int (1 : Int32)), .val (.ref b187), .val (.int (1 : Int32))] [(.int (2 : Int32)), (.int xc)])) (fun _ k => XS.iconst X207.here hx rfl (hb hby at_148) k) ?_
        refine own_go (st' := T207.setTop (mkF m 150 #[.val (.int xa), .val (.int xb), .val (.int xc), .val (.int (1 : Int32)), .val (.int (1 : Int32)), .val (.ref b187), .val (.int (1 : Int32))] [(.int (xc &&& (2 : Int32)))])) (fun _ k => XS.iand X207.here hx rfl (hb hby at_149) rfl k) ?_
        by_cases hc210 : (xc &&& (2 : Int32)) = (0 : Int32)
        · --
          refine own_go (st' := T207.setTop (mkF m 178 #[.val (.int xa), .val (.int xb), .val (.int xc), .val (.int (1 : Int32)), .val (.int (1 : Int32)), .val (.ref b187), .val (.int (1 : Int32))] [])) (fun _ k => XS.ifYes X207.here hx rfl (pc0 := 150) (pc' := 178) rfl (hb hby at_150) rfl ((if0 _ _).trans (teq hc210).1) (by decide) (by decide) k) ?_
          refine own_go (st' := T207.setTop (mkF m 180 #[.val (.int xa), .val (.int xb), .val (.int xc), .val (.int (1 : Int32)), .val (.int (1 : Int32)), .val (.ref b187), .val (.int (1 : Int32))] [(.int (1 : Int32))])) (fun _ k => XS.iload X207.here hx rfl (hb hby at_178) rfl k) ?_
          obtain ⟨fs, hr, hrun, hended, hW, hsame⟩ := X207.leave (v := some (.int (1 : Int32))) (fun h => by rw [Bd.returns] at h; cases h)
          refine ⟨_, _, ?_, hP _ _ hrun hended ⟨_, _, rfl, ?_, ⟨_, rfl⟩, hW, hsame.mono (by decide) (by decide)⟩⟩
          · exact retN X207 hx (t := .boolean) Bd.returns (by simp) (hb hby at_180) hr
          · show Qrm0 Z xa xb xc h0 n0 _ T207.heap _
            rw [eq207]
            exact ⟨rfl, N207, trivial⟩
        · --
          refine own_go (st' := T207.setTop (mkF m 153 #[.val (.int xa), .val (.int xb), .val (.int xc), .val (.int (1 : Int32)), .val (.int (1 : Int32)), .val (.ref b187), .val (.int (1 : Int32))] [])) (fun _ k => XS.ifNo X207.here hx rfl (hb hby at_150) rfl ((if0 _ _).trans (feq hc210).1) k) ?_
          refine own_go (st' := T207.setTop (mkF m 155 #[.val (.int xa), .val (.int xb), .val (.int xc), .val (.int (1 : Int32)), .val (.int (1 : Int32)), .val (.ref b187), .val (.int (1 : Int32))] [(.ref b187)])) (fun _ k => XS.aload X207.here hx rfl (hb hby at_153) rfl rfl k) ?_
          have c213 : Arv Z h203 rs_193 ks_193 .int (16 : Int32) [(.int (0 : Int32)), (.int (0 : Int32)), (.int (0 : Int32)), (.int (0 : Int32)), (.int (0 : Int32)), (.int (0 : Int32)), (.int (0 : Int32)), (.int (0 : Int32)), (.int (0 : Int32)), (.int (0 : Int32)), (.int (0 : Int32)), (.int (0 : Int32)), (.int (0 : Int32)), (.int (0 : Int32)), (.int (0 : Int32)), (.int (0 : Int32))] (.int (0 : Int32)) := (g195_5.keep K203 (ninS (by first | assumption | exact Ne.symm (by assumption) | (apply Nat.ne_of_lt; omega) | (apply Nat.ne_of_gt; omega)) (ninS (by first | assumption | exact Ne.symm (by assumption) | (apply Nat.ne_of_lt; omega) | (apply Nat.ne_of_gt; omega)) nin0)))
          obtain ⟨cq212, kq212, q212a, q212b, q212c⟩ := isOf hZ eq207 g203_0
          obtain ⟨_, _, ⟨T212, LC212, kC212, nC212⟩, -, X212, ⟨Lc212, hQ212, lq212, yq212, zq212⟩, st212⟩ := X207.virtualBack hx (y := (⟨"com/example/greenwood/greenwood/Environment", "closeScopes", "()V"⟩ : MethodName)) (z := (⟨"com/example/greenwood/greenwood/Environment", "closeScopes", "()V"⟩ : MethodName)) hown (mvT hZ (hw _ (List.mem_of_getElem? (i := 42) rfl))) (mvT hZ (hw _ (List.mem_of_getElem? (i := 43) rfl))) (notFace_of_selects (args := #[]) (mvT hZ (hw _ (List.mem_of_getElem? (i := 45) rfl)))) (mvT hZ (hw _ (List.mem_of_getElem? (i := 45) rfl))) (mvT hZ (hw _ (List.mem_of_getElem? (i := 44) rfl))) (by decide) (backOf (W := 0) (rm6_0 l Z a0 hw [] b187 (0 : Int32) rl_193 rs_193 kl_193 ks_193 h203 n0 (by omega) g203_0 g203_1 g203_2 g203_3 g203_4 g203_5 c213 (by omega) (by omega) (by omega) (by first | assumption | exact Ne.symm (by assumption) | (apply Nat.ne_of_lt; omega) | (apply Nat.ne_of_gt; omega)) (by first | assumption | exact Ne.symm (by assumption) | (apply Nat.ne_of_lt; omega) | (apply Nat.ne_of_gt; omega)) (by first | assumption | exact Ne.symm (by assumption) | (apply Nat.ne_of_lt; omega) | (apply Nat.ne_of_gt; omega))) hZ (hw _ (List.mem_of_getElem? (i := 46) rfl)) (hw _ (List.mem_of_getElem? (i := 3) rfl)) (by decide) (by decide)) q212a q212c (g := (mkF m 155 #[.val (.int xa), .val (.int xb), .val (.int xc), .val (.int (1 : Int32)), .val (.int (1 : Int32)), .val (.ref b187), .val (.int (1 : Int32))] [(.ref b187)])) rfl (by rw [hml]; rfl) (Steps.refl _) (argsL := []) (rest := []) (lenOf pd_0 rfl) rfl (by show 2 * 0 + _ ≤ _; exact Nat.le_of_eq rfl) (hb hby at_155) (fun _ _ => ⟨rfl, eq207, (by decide : 4 + 0 ≤ _), (by decide : 45 + 0 ≤ _)⟩)
          dsimp only [Pt.U, Pt.locs, Pt.cells, Pt.slots] at X212 lq212 yq212 zq212 st212 hQ212
          subst lq212 yq212 zq212
          obtain ⟨h212, e212⟩ : ∃ z, T212.heap = z := ⟨_, rfl⟩
          rw [e212] at hQ212
          obtain ⟨rfl, Nq212, K212, g212_0, g212_1, g212_2, g212_3, g212_4, g212_5⟩ := hQ212
          have sz212 : h203.size ≤ h212.size := K212.1
          have N212 := Fr.app N207 Nq212
          have lt212_1 : @LT.lt Nat _ b187 h212.size := g212_0.lt
          have lt212_2 : @LT.lt Nat _ rl_193 h212.size := g212_5.lt
          refine own_go (st' := T212.setTop (mkF m 158 #[.val (.int xa), .val (.int xb), .val (.int xc), .val (.int (1 : Int32)), .val (.int (1 : Int32)), .val (.ref b187), .val (.int (1 : Int32))] [])) (fun _ k => st212.trans k) ?_
          refine own_go (st' := T212.setTop (mkF m 160 #[.val (.int xa), .val (.int xb), .val (.int xc), .val (.int (1 : Int32)), .val (.int (1 : Int32)), .val (.ref b187), .val (.int (1 : Int32))] [(.int (1 : Int32))])) (fun _ k => XS.iload X212.here hx rfl (hb hby at_158) rfl k) ?_
          have hc214 : ¬ ((1 : Int32) = (0 : Int32)) := by decide
          refine own_go (st' := T212.setTop (mkF m 163 #[.val (.int xa), .val (.int xb), .val (.int xc), .val (.int (1 : Int32)), .val (.int (1 : Int32)), .val (.ref b187), .val (.int (1 : Int32))] [])) (fun _ k => XS.ifNo X212.here hx rfl (hb hby at_160) rfl ((if0 _ _).trans (feq hc214).1) k) ?_
          refine own_go (st' := T212.setTop (mkF m 165 #[.val (.int xa), .val (.int xb), .val (.int xc), .val (.int (1 : Int32)), .val (.int (1 : Int32)), .val (.ref b187), .val (.int (1 : Int32))] [(.ref b187)])) (fun _ k => XS.aload X212.here hx rfl (hb hby at_163) rfl rfl k) ?_
          obtain ⟨cq215, kq215, q215a, q215b, q215c⟩ := isOf hZ e212 g212_0
          obtain ⟨_, _, ⟨T215, LC215, kC215, nC215⟩, -, X215, ⟨Lc215, hQ215, lq215, yq215, zq215⟩, st215⟩ := X212.virtualBack hx (y := (⟨"com/example/greenwood/greenwood/Environment", "inScope", "()Z"⟩ : MethodName)) (z := (⟨"com/example/greenwood/greenwood/Environment", "inScope", "()Z"⟩ : MethodName)) hown (mvT hZ (hw _ (List.mem_of_getElem? (i := 35) rfl))) (mvT hZ (hw _ (List.mem_of_getElem? (i := 36) rfl))) (notFace_of_selects (args := #[]) (mvT hZ (hw _ (List.mem_of_getElem? (i := 38) rfl)))) (mvT hZ (hw _ (List.mem_of_getElem? (i := 38) rfl))) (mvT hZ (hw _ (List.mem_of_getElem? (i := 37) rfl))) (by decide) (backOf (W := 0) (rm5_0 l Z a0 hw [] b187 h212 n0 (by omega) g212_1) hZ (hw _ (List.mem_of_getElem? (i := 39) rfl)) (hw _ (List.mem_of_getElem? (i := 3) rfl)) (by decide) (by decide)) q215a q215c (g := (mkF m 165 #[.val (.int xa), .val (.int xb), .val (.int xc), .val (.int (1 : Int32)), .val (.int (1 : Int32)), .val (.ref b187), .val (.int (1 : Int32))] [(.ref b187)])) rfl (by rw [hml]; rfl) (Steps.refl _) (argsL := []) (rest := []) (lenOf pd_3 rfl) rfl (by show 2 * 0 + _ ≤ _; exact Nat.le_of_eq rfl) (hb hby at_165) (fun _ _ => ⟨rfl, e212, (by decide : 4 + 0 ≤ _), (by decide : 45 + 0 ≤ _)⟩)
          dsimp only [Pt.U, Pt.locs, Pt.cells, Pt.slots] at X215 lq215 yq215 zq215 st215 hQ215
          subst lq215 yq215 zq215
          obtain ⟨rfl, Nq215, eq215⟩ := hQ215
          have N215 := Fr.app N212 Nq215
          refine own_go (st' := T215.setTop (mkF m 168 #[.val (.int xa), .val (.int xb), .val (.int xc), .val (.int (1 : Int32)), .val (.int (1 : Int32)), .val (.ref b187), .val (.int (1 : Int32))] [(.int (0 : Int32))])) (fun _ k => st215.trans k) ?_
          have hc216 : (0 : Int32) = (0 : Int32) := by decide
          refine own_go (st' := T215.setTop (mkF m 171 #[.val (.int xa), .val (.int xb), .val (.int xc), .val (.int (1 : Int32)), .val (.int (1 : Int32)), .val (.ref b187), .val (.int (1 : Int32))] [])) (fun _ k => XS.ifNo X215.here hx rfl (hb hby at_168) rfl ((if0 _ _).trans (teq hc216).2) k) ?_
          refine own_go (st' := T215.setTop (mkF m 172 #[.val (.int xa), .val (.int xb), .val (.int xc), .val (.int (1 : Int32)), .val (.int (1 : Int32)), .val (.ref b187), .val (.int (1 : Int32))] [(.int (1 : Int32))])) (fun _ k => XS.iconst X215.here hx rfl (hb hby at_171) k) ?_
          refine own_go (st' := T215.setTop (mkF m 176 #[.val (.int xa), .val (.int xb), .val (.int xc), .val (.int (1 : Int32)), .val (.int (1 : Int32)), .val (.ref b187), .val (.int (1 : Int32))] [(.int (1 : Int32))])) (fun _ k => XS.goto X215.here hx rfl (pc0 := 172) (pc' := 176) rfl (hb hby at_172) (by decide) (by decide) k) ?_
          refine own_go (st' := T215.setTop (mkF m 178 #[.val (.int xa), .val (.int xb), .val (.int xc), .val (.int (1 : Int32)), .val (.int (1 : Int32)), .val (.ref b187), .val (.int (1 : Int32))] [])) (fun _ k => XS.istore X215.here hx rfl (hb hby at_176) rfl (l' := #[.val (.int xa), .val (.int xb), .val (.int xc), .val (.int (1 : Int32)), .val (.int (1 : Int32)), .val (.ref b187), .val (.int (1 : Int32))]) rfl k) ?_
          refine own_go (st' := T215.setTop (mkF m 180 #[.val (.int xa), .val (.int xb), .val (.int xc), .val (.int (1 : Int32)), .val (.int (1 : Int32)), .val (.ref b187), .val (.int (1 : Int32))] [(.int (1 : Int32))])) (fun _ k => XS.iload X215.here hx rfl (hb hby at_178) rfl k) ?_
          obtain ⟨fs, hr, hrun, hended, hW, hsame⟩ := X215.leave (v := some (.int (1 : Int32))) (fun h => by rw [Bd.returns] at h; cases h)
          refine ⟨_, _, ?_, hP _ _ hrun hended ⟨_, _, rfl, ?_, ⟨_, rfl⟩, hW, hsame.mono (by decide) (by decide)⟩⟩
          · exact retN X215 hx (t := .boolean) Bd.returns (by simp) (hb hby at_180) hr
          · show Qrm0 Z xa xb xc h0 n0 _ T215.heap _
            rw [eq215]
            exact ⟨rfl, N215, trivial⟩
      · --
        refine own_go (st' := T195.setTop (mkF m 64 #[.val (.int xa), .val (.int xb), .val (.int xc), .val (.int (1 : Int32)), .val (.int (1 : Int32)), .val (.ref b187), .unset] [])) (fun _ k => XS.ifNo X195.here hx rfl (hb hby at_61) rfl ((if0 _ _).trans (feq hc198).1) k) ?_
        refine own_go (st' := T195.setTop (mkF m 66 #[.val (.int xa), .val (.int xb), .val (.int xc), .val (.int (1 : Int32)), .val (.int (1 : Int32)), .val (.ref b187), .unset] [(.ref b187)])) (fun _ k => XS.aload X195.here hx rfl (hb hby at_64) rfl rfl k) ?_
        have c219 : Arv Z h195 rl_193 kl_193 (.object "java/lang/Object") (16 : Int32) [.null, .null, .null, .null, .null, .null, .null, .null, .null, .null, .null, .null, .null, .null, .null, .null] .null := (g193_5.keep K195 (ninS (by first | assumption | exact Ne.symm (by assumption) | (apply Nat.ne_of_lt; omega) | (apply Nat.ne_of_gt; omega)) (ninS (by first | assumption | exact Ne.symm (by assumption) | (apply Nat.ne_of_lt; omega) | (apply Nat.ne_of_gt; omega)) nin0)))
        obtain ⟨cq218, kq218, q218a, q218b, q218c⟩ := isOf hZ e195 g195_0
        obtain ⟨_, _, ⟨T218, LC218, kC218, nC218⟩, -, X218, ⟨Lc218, hQ218, lq218, yq218, zq218⟩, st218⟩ := X195.virtualBack hx (y := (⟨"com/example/greenwood/greenwood/Environment", "declare", "()V"⟩ : MethodName)) (z := (⟨"com/example/greenwood/greenwood/Environment", "declare", "()V"⟩ : MethodName)) hown (mvT hZ (hw _ (List.mem_of_getElem? (i := 61) rfl))) (mvT hZ (hw _ (List.mem_of_getElem? (i := 62) rfl))) (notFace_of_selects (args := #[]) (mvT hZ (hw _ (List.mem_of_getElem? (i := 64) rfl)))) (mvT hZ (hw _ (List.mem_of_getElem? (i := 64) rfl))) (mvT hZ (hw _ (List.mem_of_getElem? (i := 63) rfl))) (by decide) (backOf (W := 0) (rm10_1 l Z a0 hw [] b187 rl_193 rs_193 kl_193 ks_193 h195 n0 (by omega) g195_0 g195_1 g195_2 g195_3 g195_4 c219 g195_5 (by omega) (by omega) (by omega) (by first | assumption | exact Ne.symm (by assumption) | (apply Nat.ne_of_lt; omega) | (apply Nat.ne_of_gt; omega)) (by first | assumption | exact Ne.symm (by assumption) | (apply Nat.ne_of_lt; omega) | (apply Nat.ne_of_gt; omega)) (by first | assumption | exact Ne.symm (by assumption) | (apply Nat.ne_of_lt; omega) | (apply Nat.ne_of_gt; omega))) hZ (hw _ (List.mem_of_getElem? (i := 65) rfl)) (hw _ (List.mem_of_getElem? (i := 3) rfl)) (by decide) (by decide)) q218a q218c (g := (mkF m 66 #[.val (.int xa), .val (.int xb), .val (.int xc), .val (.int (1 : Int32)), .val (.int (1 : Int32)), .val (.ref b187), .unset] [(.ref b187)])) rfl (by rw [hml]; rfl) (Steps.refl _) (argsL := []) (rest := []) (lenOf pd_0 rfl) rfl (by show 2 * 0 + _ ≤ _; exact Nat.le_of_eq rfl) (hb hby at_66) (fun _ _ => ⟨rfl, e195, (by decide : 4 + 0 ≤ _), (by decide : 45 + 0 ≤ _)⟩)
        dsimp only [Pt.U, Pt.locs, Pt.cells, Pt.slots] at X218 lq218 yq218 zq218 st218 hQ218
        subst lq218 yq218 zq218
        obtain ⟨h218, e218⟩ : ∃ z, T218.heap = z := ⟨_, rfl⟩
        rw [e218] at hQ218
        obtain ⟨rfl, Nq218, K218, g218_0, g218_1, g218_2, g218_3, g218_4⟩ := hQ218
        have sz218 : h195.size ≤ h218.size := K218.1
        have N218 := Fr.app N195 Nq218
        have lt218_1 : @LT.lt Nat _ b187 h218.size := g218_0.lt
        refine own_go (st' := T218.setTop (mkF m 69 #[.val (.int xa), .val (.int xb), .val (.int xc), .val (.int (1 : Int32)), .val (.int (1 : Int32)), .val (.ref b187), .unset] [])) (fun _ k => st218.trans k) ?_
        refine own_go (st' := T218.setTop (mkF m 71 #[.val (.int xa), .val (.int xb), .val (.int xc), .val (.int (1 : Int32)), .val (.int (1 : Int32)), .val (.ref b187), .unset] [(.ref b187)])) (fun _ k => XS.aload X218.here hx rfl (hb hby at_69) rfl rfl k) ?_
        obtain ⟨cq220, kq220, q220a, q220b, q220c⟩ := isOf hZ e218 g218_0
        obtain ⟨_, _, ⟨T220, LC220, kC220, nC220⟩, -, X220, ⟨Lc220, hQ220, lq220, yq220, zq220⟩, st220⟩ := X218.virtualBack hx (y := (⟨"com/example/greenwood/greenwood/Environment", "inScope", "()Z"⟩ : MethodName)) (z := (⟨"com/example/greenwood/greenwood/Environment", "inScope", "()Z"⟩ : MethodName)) hown (mvT hZ (hw _ (List.mem_of_getElem? (i := 35) rfl))) (mvT hZ (hw _ (List.mem_of_getElem? (i := 36) rfl))) (notFace_of_selects (args := #[]) (mvT hZ (hw _ (List.mem_of_getElem? (i := 38) rfl)))) (mvT hZ (hw _ (List.mem_of_getElem? (i := 38) rfl))) (mvT hZ (hw _ (List.mem_of_getElem? (i := 37) rfl))) (by decide) (backOf (W := 0) (rm5_1 l Z a0 hw [] b187 h218 n0 (by omega) g218_1) hZ (hw _ (List.mem_of_getElem? (i := 39) rfl)) (hw _ (List.mem_of_getElem? (i := 3) rfl)) (by decide) (by decide)) q220a q220c (g := (mkF m 71 #[.val (.int xa), .val (.int xb), .val (.int xc), .val (.int (1 : Int32)), .val (.int (1 : Int32)), .val (.ref b187), .unset] [(.ref b187)])) rfl (by rw [hml]; rfl) (Steps.refl _) (argsL := []) (rest := []) (lenOf pd_3 rfl) rfl (by show 2 * 0 + _ ≤ _; exact Nat.le_of_eq rfl) (hb hby at_71) (fun _ _ => ⟨rfl, e218, (by decide : 4 + 0 ≤ _), (by decide : 45 + 0 ≤ _)⟩)
        dsimp only [Pt.U, Pt.locs, Pt.cells, Pt.slots] at X220 lq220 yq220 zq220 st220 hQ220
        subst lq220 yq220 zq220
        obtain ⟨rfl, Nq220, eq220⟩ := hQ220
        have N220 := Fr.app N218 Nq220
        refine own_go (st' := T220.setTop (mkF m 74 #[.val (.int xa), .val (.int xb), .val (.int xc), .val (.int (1 : Int32)), .val (.int (1 : Int32)), .val (.ref b187), .unset] [(.int (1 : Int32))])) (fun _ k => st220.trans k) ?_
        refine own_go (st' := T220.setTop (mkF m 75 #[.val (.int xa), .val (.int xb), .val (.int xc), .val (.int (1 : Int32)), .val (.int (1 : Int32)), .val (.ref b187), .unset] [(.int (1 : Int32)), (.int (1 : Int32))])) (fun _ k => XS.iloadN X220.here hx rfl (hb hby at_74) rfl k) ?_
        have hc221 : (0 : Int32) < (1 : Int32) := by decide
        refine own_go (st' := T220.setTop (mkF m 78 #[.val (.int xa), .val (.int xb), .val (.int xc), .val (.int (1 : Int32)), .val (.int (1 : Int32)), .val (.ref b187), .unset] [(.int (1 : Int32))])) (fun _ k => XS.ifNo X220.here hx rfl (hb hby at_75) rfl ((if0 _ _).trans (tlt hc221).2.2.2) k) ?_
        refine own_go (st' := T220.setTop (mkF m 79 #[.val (.int xa), .val (.int xb), .val (.int xc), .val (.int (1 : Int32)), .val (.int (1 : Int32)), .val (.ref b187), .unset] [(.int (1 : Int32)), (.int (1 : Int32))])) (fun _ k => XS.iconst X220.here hx rfl (hb hby at_78) k) ?_
        refine own_go (st' := T220.setTop (mkF m 83 #[.val (.int xa), .val (.int xb), .val (.int xc), .val (.int (1 : Int32)), .val (.int (1 : Int32)), .val (.ref b187), .unset] [(.int (1 : Int32)), (.int (1 : Int32))])) (fun _ k => XS.goto X220.here hx rfl (pc0 := 79) (pc' := 83) rfl (hb hby at_79) (by decide) (by decide) k) ?_
        have hc222 : (1 : Int32) = (1 : Int32) := by decide
        refine own_go (st' := T220.setTop (mkF m 86 #[.val (.int xa), .val (.int xb), .val (.int xc), .val (.int (1 : Int32)), .val (.int (1 : Int32)), .val (.ref b187), .unset] [])) (fun _ k => XS.icmpNo X220.here hx rfl (hb hby at_83) rfl (teq hc222).2 k) ?_
        refine own_go (st' := T220.setTop (mkF m 87 #[.val (.int xa), .val (.int xb), .val (.int xc), .val (.int (1 : Int32)), .val (.int (1 : Int32)), .val (.ref b187), .unset] [(.int (1 : Int32))])) (fun _ k => XS.iconst X220.here hx rfl (hb hby at_86) k) ?_
        refine own_go (st' := T220.setTop (mkF m 91 #[.val (.int xa), .val (.int xb), .val (.int xc), .val (.int (1 : Int32)), .val (.int (1 : Int32)), .val (.ref b187), .unset] [(.int (1 : Int32))])) (fun _ k => XS.goto X220.here hx rfl (pc0 := 87) (pc' := 91) rfl (hb hby at_87) (by decide) (by decide) k) ?_
        refine own_go (st' := T220.setTop (mkF m 93 #[.val (.int xa), .val (.int xb), .val (.int xc), .val (.int (1 : Int32)), .val (.int (1 : Int32)), .val (.ref b187), .val (.int (1 : Int32))] [])) (fun _ k => XS.istore X220.here hx rfl (hb hby at_91) rfl (l' := #[.val (.int xa), .val (.int xb), .val (.int xc), .val (.int (1 : Int32)), .val (.int (1 : Int32)), .val (.ref b187), .val (.int (1 : Int32))]) rfl k) ?_
        refine own_go (st' := T220.setTop (mkF m 95 #[.val (.int xa), .val (.int xb), .val (.int xc), .val (.int (1 : Int32)), .val (.int (1 : Int32)), .val (.ref b187), .val (.int (1 : Int32))] [(.int (1 : Int32))])) (fun _ k => XS.iload X220.here hx rfl (hb hby at_93) rfl k) ?_
        refine own_go (st' := T220.setTop (mkF m 96 #[.val (.int xa), .val (.int xb), .val (.int xc), .val (.int (1 : Int32)), .val (.int (1 : Int32)), .val (.ref b187), .val (.int (1 : Int32))] [(.int (1 : Int32)), (.int (1 : Int32))])) (fun _ k => XS.iconst X220.here hx rfl (hb hby at_95) k) ?_
        have hc223 : ¬ ((1 : Int32) < (1 : Int32)) := by decide
        refine own_go (st' := T220.setTop (mkF m 99 #[.val (.int xa), .val (.int xb), .val (.int xc), .val (.int (1 : Int32)), .val (.int (1 : Int32)), .val (.ref b187), .val (.int (1 : Int32))] [])) (fun _ k => XS.icmpNo X220.here hx rfl (hb hby at_96) rfl (flt hc223).1 k) ?_
        refine own_go (st' := T220.setTop (mkF m 101 #[.val (.int xa), .val (.int xb), .val (.int xc), .val (.int (1 : Int32)), .val (.int (1 : Int32)), .val (.ref b187), .val (.int (1 : Int32))] [(.ref b187)])) (fun _ k => XS.aload X220.here hx rfl (hb hby at_99) rfl rfl k) ?_
        have c225 : Arv Z h218 rl_193 kl_193 (.object "java/lang/Object") (16 : Int32) [.null, .null, .null, .null, .null, .null, .null, .null, .null, .null, .null, .null, .null, .null, .null, .null] .null := (c219.keep K218 (ninS (by first | assumption | exact Ne.symm (by assumption) | (apply Nat.ne_of_lt; omega) | (apply Nat.ne_of_gt; omega)) nin0))
        have c226 : Arv Z h218 rs_193 ks_193 .int (16 : Int32) [(.int (0 : Int32)), (.int (0 : Int32)), (.int (0 : Int32)), (.int (0 : Int32)), (.int (0 : Int32)), (.int (0 : Int32)), (.int (0 : Int32)), (.int (0 : Int32)), (.int (0 : Int32)), (.int (0 : Int32)), (.int (0 : Int32)), (.int (0 : Int32)), (.int (0 : Int32)), (.int (0 : Int32)), (.int (0 : Int32)), (.int (0 : Int32))] (.int (0 : Int32)) := (g195_5.keep K218 (ninS (by first | assumption | exact Ne.symm (by assumption) | (apply Nat.ne_of_lt; omega) | (apply Nat.ne_of_gt; omega)) nin0))
        obtain ⟨cq224, kq224, q224a, q224b, q224c⟩ := isOf hZ eq220 g218_0
        obtain ⟨_, _, ⟨T224, LC224, kC224, nC224⟩, -, X224, ⟨Lc224, hQ224, lq224, yq224, zq224⟩, st224⟩ := X220.virtualBack hx (y := (⟨"com/example/greenwood/greenwood/Environment", "closeScope", "()V"⟩ : MethodName)) (z := (⟨"com/example/greenwood/greenwood/Environment", "closeScope", "()V"⟩ : MethodName)) hown (mvT hZ (hw _ (List.mem_of_getElem? (i := 66) rfl))) (mvT hZ (hw _ (List.mem_of_getElem? (i := 67) rfl))) (notFace_of_selects (args := #[]) (mvT hZ (hw _ (List.mem_of_getElem? (i := 69) rfl)))) (mvT hZ (hw _ (List.mem_of_getElem? (i := 69) rfl))) (mvT hZ (hw _ (List.mem_of_getElem? (i := 68) rfl))) (by decide) (backOf (W := 0) (rm11_1_1 l Z a0 hw [] b187 rl_193 rs_193 kl_193 ks_193 h218 n0 (by omega) g218_0 g218_1 g218_2 g218_3 g218_4 c225 c226 (by omega) (by omega) (by omega) (by first | assumption | exact Ne.symm (by assumption) | (apply Nat.ne_of_lt; omega) | (apply Nat.ne_of_gt; omega)) (by first | assumption | exact Ne.symm (by assumption) | (apply Nat.ne_of_lt; omega) | (apply Nat.ne_of_gt; omega)) (by first | assumption | exact Ne.symm (by assumption) | (apply Nat.ne_of_lt; omega) | (apply Nat.ne_of_gt; omega))) hZ (hw _ (List.mem_of_getElem? (i := 70) rfl)) (hw _ (List.mem_of_getElem? (i := 3) rfl)) (by decide) (by decide)) q224a q224c (g := (mkF m 101 #[.val (.int xa), .val (.int xb), .val (.int xc), .val (.int (1 : Int32)), .val (.int (1 : Int32)), .val (.ref b187), .val (.int (1 : Int32))] [(.ref b187)])) rfl (by rw [hml]; rfl) (Steps.refl _) (argsL := []) (rest := []) (lenOf pd_0 rfl) rfl (by show 2 * 0 + _ ≤ _; exact Nat.le_of_eq rfl) (hb hby at_101) (fun _ _ => ⟨rfl, eq220, (by decide : 4 + 0 ≤ _), (by decide : 45 + 0 ≤ _)⟩)
        dsimp only [Pt.U, Pt.locs, Pt.cells, Pt.slots] at X224 lq224 yq224 zq224 st224 hQ224
        subst lq224 yq224 zq224
        obtain ⟨h224, e224⟩ : ∃ z, T224.heap = z := ⟨_, rfl⟩
        rw [e224] at hQ224
        obtain ⟨rfl, Nq224, K224, g224_0, g224_1, g224_2, g224_3, g224_4, g224_5⟩ := hQ224
        have sz224 : h218.size ≤ h224.size := K224.1
        have N224 := Fr.app N220 Nq224
        have lt224_1 : @LT.lt Nat _ b187 h224.size := g224_0.lt
        have lt224_2 : @LT.lt Nat _ rl_193 h224.size := g224_5.lt
        refine own_go (st' := T224.setTop (mkF m 104 #[.val (.int xa), .val (.int xb), .val (.int xc), .val (.int (1 : Int32)), .val (.int (1 : Int32)), .val (.ref b187), .val (.int (1 : Int32))] [])) (fun _ k => st224.trans k) ?_
        refine own_go (st' := T224.setTop (mkF m 106 #[.val (.int xa), .val (.int xb), .val (.int xc), .val (.int (1 : Int32)), .val (.int (1 : Int32)), .val (.ref b187), .val (.int (1 : Int32))] [(.int (1 : Int32))])) (fun _ k => XS.iload X224.here hx rfl (hb hby at_104) rfl k) ?_
        refine own_go (st' := T224.setTop (mkF m 107 #[.val (.int xa), .val (.int xb), .val (.int xc), .val (.int (1 : Int32)), .val (.int (1 : Int32)), .val (.ref b187), .val (.int (1 : Int32))] [(.int (2 : Int32)), (.int (1 : Int32))])) (fun _ k => XS.iconst X224.here hx rfl (hb hby at_106) k) ?_
        have hc227 : (1 : Int32) < (2 : Int32) := by decide
        refine own_go (st' := T224.setTop (mkF m 115 #[.val (.int xa), .val (.int xb), .val (.int xc), .val (.int (1 : Int32)), .val (.int (1 : Int32)), .val (.ref b187), .val (.int (1 : Int32))] [])) (fun _ k => XS.icmpYes X224.here hx rfl (pc0 := 107) (pc' := 115) rfl (hb hby at_107) rfl (tlt hc227).1 (by decide) (by decide) k) ?_
        refine own_go (st' := T224.setTop (mkF m 117 #[.val (.int xa), .val (.int xb), .val (.int xc), .val (.int (1 : Int32)), .val (.int (1 : Int32)), .val (.ref b187), .val (.int (1 : Int32))] [(.int (1 : Int32))])) (fun _ k => XS.iload X224.here hx rfl (hb hby at_115) rfl k) ?_
        have hc228 : ¬ ((1 : Int32) = (0 : Int32)) := by decide
        refine own_go (st' := T224.setTop (mkF m 120 #[.val (.int xa), .val (.int xb), .val (.int xc), .val (.int (1 : Int32)), .val (.int (1 : Int32)), .val (.ref b187), .val (.int (1 : Int32))] [])) (fun _ k => XS.ifNo X224.here hx rfl (hb hby at_117) rfl ((if0 _ _).trans (feq hc228).1) k) ?_
        refine own_go (st' := T224.setTop (mkF m 122 #[.val (.int xa), .val (.int xb), .val (.int xc), .val (.int (1 : Int32)), .val (.int (1 : Int32)), .val (.ref b187), .val (.int (1 : Int32))] [(.ref b187)])) (fun _ k => XS.aload X224.here hx rfl (hb hby at_120) rfl rfl k) ?_
        obtain ⟨cq229, kq229, q229a, q229b, q229c⟩ := isOf hZ e224 g224_0
        obtain ⟨_, _, ⟨T229, LC229, kC229, nC229⟩, -, X229, ⟨Lc229, hQ229, lq229, yq229, zq229⟩, st229⟩ := X224.virtualBack hx (y := (⟨"com/example/greenwood/greenwood/Environment", "inScope", "()Z"⟩ : MethodName)) (z := (⟨"com/example/greenwood/greenwood/Environment", "inScope", "()Z"⟩ : MethodName)) hown (mvT hZ (hw _ (List.mem_of_getElem? (i := 35) rfl))) (mvT hZ (hw _ (List.mem_of_getElem? (i := 36) rfl))) (notFace_of_selects (args := #[]) (mvT hZ (hw _ (List.mem_of_getElem? (i := 38) rfl)))) (mvT hZ (hw _ (List.mem_of_getElem? (i := 38) rfl))) (mvT hZ (hw _ (List.mem_of_getElem? (i := 37) rfl))) (by decide) (backOf (W := 0) (rm5_0 l Z a0 hw [] b187 h224 n0 (by omega) g224_1) hZ (hw _ (List.mem_of_getElem? (i := 39) rfl)) (hw _ (List.mem_of_getElem? (i := 3) rfl)) (by decide) (by decide)) q229a q229c (g := (mkF m 122 #[.val (.int xa), .val (.int xb), .val (.int xc), .val (.int (1 : Int32)), .val (.int (1 : Int32)), .val (.ref b187), .val (.int (1 : Int32))] [(.ref b187)])) rfl (by rw [hml]; rfl) (Steps.refl _) (argsL := []) (rest := []) (lenOf pd_3 rfl) rfl (by show 2 * 0 + _ ≤ _; exact Nat.le_of_eq rfl) (hb hby at_122) (fun _ _ => ⟨rfl, e224, (by decide : 4 + 0 ≤ _), (by decide : 45 + 0 ≤ _)⟩)
        dsimp only [Pt.U, Pt.locs, Pt.cells, Pt.slots] at X229 lq229 yq229 zq229 st229 hQ229
        subst lq229 yq229 zq229
        obtain ⟨rfl, Nq229, eq229⟩ := hQ229
        have N229 := Fr.app N224 Nq229
        refine own_go (st' := T229.setTop (mkF m 125 #[.val (.int xa), .val (.int xb), .val (.int xc), .val (.int (1 : Int32)), .val (.int (1 : Int32)), .val (.ref b187), .val (.int (1 : Int32))] [(.int (0 : Int32))])) (fun _ k => st229.trans k) ?_
        refine own_go (st' := T229.setTop (mkF m 126 #[.val (.int xa), .val (.int xb), .val (.int xc), .val (.int (1 : Int32)), .val (.int (1 : Int32)), .val (.ref b187), .val (.int (1 : Int32))] [(.int (1 : Int32)), (.int (0 : Int32))])) (fun _ k => XS.iloadN X229.here hx rfl (hb hby at_125) rfl k) ?_
        refine own_go (st' := T229.setTop (mkF m 128 #[.val (.int xa), .val (.int xb), .val (.int xc), .val (.int (1 : Int32)), .val (.int (1 : Int32)), .val (.ref b187), .val (.int (1 : Int32))] [(.int (1 : Int32)), (.int (1 : Int32)), (.int (0 : Int32))])) (fun _ k => XS.iload X229.here hx rfl (hb hby at_126) rfl k) ?_
        refine own_go (st' := T229.setTop (mkF m 129 #[.val (.int xa), .val (.int xb), .val (.int xc), .val (.int (1 : Int32)), .val (.int (1 : Int32)), .val (.ref b187), .val (.int (1 : Int32))] [(.int (0 : Int32)), (.int (0 : Int32))])) (fun _ k => XS.isub X229.here hx rfl (hb hby at_128) rfl (by rw [show ((1 : Int32) - (1 : Int32)) = (0 : Int32) by decide]; exact k)) ?_
        have hc230 : ¬ ((0 : Int32) < (0 : Int32)) := by decide
        refine own_go (st' := T229.setTop (mkF m 136 #[.val (.int xa), .val (.int xb), .val (.int xc), .val (.int (1 : Int32)), .val (.int (1 : Int32)), .val (.ref b187), .val (.int (1 : Int32))] [(.int (0 : Int32))])) (fun _ k => XS.ifYes X229.here hx rfl (pc0 := 129) (pc' := 136) rfl (hb hby at_129) rfl ((if0 _ _).trans (flt hc230).2.2.2) (by decide) (by decide) k) ?_
        refine own_go (st' := T229.setTop (mkF m 137 #[.val (.int xa), .val (.int xb), .val (.int xc), .val (.int (1 : Int32)), .val (.int (1 : Int32)), .val (.ref b187), .val (.int (1 : Int32))] [(.int (0 : Int32)), (.int (0 : Int32))])) (fun _ k => XS.iconst X229.here hx rfl (hb hby at_136) k) ?_
        have hc231 : (0 : Int32) = (0 : Int32) := by decide
        refine own_go (st' := T229.setTop (mkF m 140 #[.val (.int xa), .val (.int xb), .val (.int xc), .val (.int (1 : Int32)), .val (.int (1 : Int32)), .val (.ref b187), .val (.int (1 : Int32))] [])) (fun _ k => XS.icmpNo X229.here hx rfl (hb hby at_137) rfl (teq hc231).2 k) ?_
        refine own_go (st' := T229.setTop (mkF m 141 #[.val (.int xa), .val (.int xb), .val (.int xc), .val (.int (1 : Int32)), .val (.int (1 : Int32)), .val (.ref b187), .val (.int (1 : Int32))] [(.int (1 : Int32))])) (fun _ k => XS.iconst X229.here hx rfl (hb hby at_140) k) ?_
        refine own_go (st' := T229.setTop (mkF m 145 #[.val (.int xa), .val (.int xb), .val (.int xc), .val (.int (1 : Int32)), .val (.int (1 : Int32)), .val (.ref b187), .val (.int (1 : Int32))] [(.int (1 : Int32))])) (fun _ k => XS.goto X229.here hx rfl (pc0 := 141) (pc' := 145) rfl (hb hby at_141) (by decide) (by decide) k) ?_
        refine own_go (st' := T229.setTop (mkF m 147 #[.val (.int xa), .val (.int xb), .val (.int xc), .val (.int (1 : Int32)), .val (.int (1 : Int32)), .val (.ref b187), .val (.int (1 : Int32))] [])) (fun _ k => XS.istore X229.here hx rfl (hb hby at_145) rfl (l' := #[.val (.int xa), .val (.int xb), .val (.int xc), .val (.int (1 : Int32)), .val (.int (1 : Int32)), .val (.ref b187), .val (.int (1 : Int32))]) rfl k) ?_
        refine own_go (st' := T229.setTop (mkF m 148 #[.val (.int xa), .val (.int xb), .val (.int xc), .val (.int (1 : Int32)), .val (.int (1 : Int32)), .val (.ref b187), .val (.int (1 : Int32))] [(.int xc)])) (fun _ k => XS.iloadN X229.here hx rfl (hb hby at_147) rfl k) ?_
        refine own_go (st' := T229.setTop (mkF m 149 #[.val (.int xa), .val (.int xb), .val (.int xc), .val (.int (1 : Int32)), .val (.int (1 : Int32)), .val (.ref b187), .val (.int (1 : Int32))] [(.int (2 : Int32)), (.int xc)])) (fun _ k => XS.iconst X229.here hx rfl (hb hby at_148) k) ?_
        refine own_go (st' := T229.setTop (mkF m 150 #[.val (.int xa), .val (.int xb), .val (.int xc), .val (.int (1 : Int32)), .val (.int (1 : Int32)), .val (.ref b187), .val (.int (1 : Int32))] [(.int (xc &&& (2 : Int32)))])) (fun _ k => XS.iand X229.here hx rfl (hb hby at_149) rfl k) ?_
        by_cases hc232 : (xc &&& (2 : Int32)) = (0 : Int32)
        · --
          refine own_go (st' := T229.setTop (mkF m 178 #[.val (.int xa), .val (.int xb), .val (.int xc), .val (.int (1 : Int32)), .val (.int (1 : Int32)), .val (.ref b187), .val (.int (1 : Int32))] [])) (fun _ k => XS.ifYes X229.here hx rfl (pc0 := 150) (pc' := 178) rfl (hb hby at_150) rfl ((if0 _ _).trans (teq hc232).1) (by decide) (by decide) k) ?_
          refine own_go (st' := T229.setTop (mkF m 180 #[.val (.int xa), .val (.int xb), .val (.int xc), .val (.int (1 : Int32)), .val (.int (1 : Int32)), .val (.ref b187), .val (.int (1 : Int32))] [(.int (1 : Int32))])) (fun _ k => XS.iload X229.here hx rfl (hb hby at_178) rfl k) ?_
          obtain ⟨fs, hr, hrun, hended, hW, hsame⟩ := X229.leave (v := some (.int (1 : Int32))) (fun h => by rw [Bd.returns] at h; cases h)
          refine ⟨_, _, ?_, hP _ _ hrun hended ⟨_, _, rfl, ?_, ⟨_, rfl⟩, hW, hsame.mono (by decide) (by decide)⟩⟩
          · exact retN X229 hx (t := .boolean) Bd.returns (by simp) (hb hby at_180) hr
          · show Qrm0 Z xa xb xc h0 n0 _ T229.heap _
            rw [eq229]
            exact ⟨rfl, N229, trivial⟩
        · --
          refine own_go (st' := T229.setTop (mkF m 153 #[.val (.int xa), .val (.int xb), .val (.int xc), .val (.int (1 : Int32)), .val (.int (1 : Int32)), .val (.ref b187), .val (.int (1 : Int32))] [])) (fun _ k => XS.ifNo X229.here hx rfl (hb hby at_150) rfl ((if0 _ _).trans (feq hc232).1) k) ?_
          refine own_go (st' := T229.setTop (mkF m 155 #[.val (.int xa), .val (.int xb), .val (.int xc), .val (.int (1 : Int32)), .val (.int (1 : Int32)), .val (.ref b187), .val (.int (1 : Int32))] [(.ref b187)])) (fun _ k => XS.aload X229.here hx rfl (hb hby at_153) rfl rfl k) ?_
          have c235 : Arv Z h224 rs_193 ks_193 .int (16 : Int32) [(.int (0 : Int32)), (.int (0 : Int32)), (.int (0 : Int32)), (.int (0 : Int32)), (.int (0 : Int32)), (.int (0 : Int32)), (.int (0 : Int32)), (.int (0 : Int32)), (.int (0 : Int32)), (.int (0 : Int32)), (.int (0 : Int32)), (.int (0 : Int32)), (.int (0 : Int32)), (.int (0 : Int32)), (.int (0 : Int32)), (.int (0 : Int32))] (.int (0 : Int32)) := (c226.keep K224 (ninS (by first | assumption | exact Ne.symm (by assumption) | (apply Nat.ne_of_lt; omega) | (apply Nat.ne_of_gt; omega)) (ninS (by first | assumption | exact Ne.symm (by assumption) | (apply Nat.ne_of_lt; omega) | (apply Nat.ne_of_gt; omega)) nin0)))
          obtain ⟨cq234, kq234, q234a, q234b, q234c⟩ := isOf hZ eq229 g224_0
          obtain ⟨_, _, ⟨T234, LC234, kC234, nC234⟩, -, X234, ⟨Lc234, hQ234, lq234, yq234, zq234⟩, st234⟩ := X229.virtualBack hx (y := (⟨"com/example/greenwood/greenwood/Environment", "closeScopes", "()V"⟩ : MethodName)) (z := (⟨"com/example/greenwood/greenwood/Environment", "closeScopes", "()V"⟩ : MethodName)) hown (mvT hZ (hw _ (List.mem_of_getElem? (i := 42) rfl))) (mvT hZ (hw _ (List.mem_of_getElem? (i := 43) rfl))) (notFace_of_selects (args := #[]) (mvT hZ (hw _ (List.mem_of_getElem? (i := 45) rfl)))) (mvT hZ (hw _ (List.mem_of_getElem? (i := 45) rfl))) (mvT hZ (hw _ (List.mem_of_getElem? (i := 44) rfl))) (by decide) (backOf (W := 0) (rm6_0 l Z a0 hw [] b187 (0 : Int32) rl_193 rs_193 kl_193 ks_193 h224 n0 (by omega) g224_0 g224_1 g224_2 g224_3 g224_4 g224_5 c235 (by omega) (by omega) (by omega) (by first | assumption | exact Ne.symm (by assumption) | (apply Nat.ne_of_lt; omega) | (apply Nat.ne_of_gt; omega)) (by first | assumption | exact Ne.symm (by assumption) | (apply Nat.ne_of_lt; omega) | (apply Nat.ne_of_gt; omega)) (by first | assumption | exact Ne.symm (by assumption) | (apply Nat.ne_of_lt; omega) | (apply Nat.ne_of_gt; omega))) hZ (hw _ (List.mem_of_getElem? (i := 46) rfl)) (hw _ (List.mem_of_getElem? (i := 3) rfl)) (by decide) (by decide)) q234a q234c (g := (mkF m 155 #[.val (.int xa), .val (.int xb), .val (.int xc), .val (.int (1 : Int32)), .val (.int (1 : Int32)), .val (.ref b187), .val (.int (1 : Int32))] [(.ref b187)])) rfl (by rw [hml]; rfl) (Steps.refl _) (argsL := []) (rest := []) (lenOf pd_0 rfl) rfl (by show 2 * 0 + _ ≤ _; exact Nat.le_of_eq rfl) (hb hby at_155) (fun _ _ => ⟨rfl, eq229, (by decide : 4 + 0 ≤ _), (by decide : 45 + 0 ≤ _)⟩)
          dsimp only [Pt.U, Pt.locs, Pt.cells, Pt.slots] at X234 lq234 yq234 zq234 st234 hQ234
          subst lq234 yq234 zq234
          obtain ⟨h234, e234⟩ : ∃ z, T234.heap = z := ⟨_, rfl⟩
          rw [e234] at hQ234
          obtain ⟨rfl, Nq234, K234, g234_0, g234_1, g234_2, g234_3, g234_4, g234_5⟩ := hQ234
          have sz234 : h224.size ≤ h234.size := K234.1
          have N234 := Fr.app N229 Nq234
          have lt234_1 : @LT.lt Nat _ b187 h234.size := g234_0.lt
          have lt234_2 : @LT.lt Nat _ rl_193 h234.size := g234_5.lt
          refine own_go (st' := T234.setTop (mkF m 158 #[.val (.int xa), .val (.int xb), .val (.int xc), .val (.int (1 : Int32)), .val (.int (1 : Int32)), .val (.ref b187), .val (.int (1 : Int32))] [])) (fun _ k => st234.trans k) ?_
          refine own_go (st' := T234.setTop (mkF m 160 #[.val (.int xa), .val (.int xb), .val (.int xc), .val (.int (1 : Int32)), .val (.int (1 : Int32)), .val (.ref b187), .val (.int (1 : Int32))] [(.int (1 : Int32))])) (fun _ k => XS.iload X234.here hx rfl (hb hby at_158) rfl k) ?_
          have hc236 : ¬ ((1 : Int32) = (0 : Int32)) := by decide
          refine own_go (st' := T234.setTop (mkF m 163 #[.val (.int xa), .val (.int xb), .val (.int xc), .val (.int (1 : Int32)), .val (.int (1 : Int32)), .val (.ref b187), .val (.int (1 : Int32))] [])) (fun _ k => XS.ifNo X234.here hx rfl (hb hby at_160) rfl ((if0 _ _).trans (feq hc236).1) k) ?_
          refine own_go (st' := T234.setTop (mkF m 165 #[.val (.int xa), .val (.int xb), .val (.int xc), .val (.int (1 : Int32)), .val (.int (1 : Int32)), .val (.ref b187), .val (.int (1 : Int32))] [(.ref b187)])) (fun _ k => XS.aload X234.here hx rfl (hb hby at_163) rfl rfl k) ?_
          obtain ⟨cq237, kq237, q237a, q237b, q237c⟩ := isOf hZ e234 g234_0
          obtain ⟨_, _, ⟨T237, LC237, kC237, nC237⟩, -, X237, ⟨Lc237, hQ237, lq237, yq237, zq237⟩, st237⟩ := X234.virtualBack hx (y := (⟨"com/example/greenwood/greenwood/Environment", "inScope", "()Z"⟩ : MethodName)) (z := (⟨"com/example/greenwood/greenwood/Environment", "inScope", "()Z"⟩ : MethodName)) hown (mvT hZ (hw _ (List.mem_of_getElem? (i := 35) rfl))) (mvT hZ (hw _ (List.mem_of_getElem? (i := 36) rfl))) (notFace_of_selects (args := #[]) (mvT hZ (hw _ (List.mem_of_getElem? (i := 38) rfl)))) (mvT hZ (hw _ (List.mem_of_getElem? (i := 38) rfl))) (mvT hZ (hw _ (List.mem_of_getElem? (i := 37) rfl))) (by decide) (backOf (W := 0) (rm5_0 l Z a0 hw [] b187 h234 n0 (by omega) g234_1) hZ (hw _ (List.mem_of_getElem? (i := 39) rfl)) (hw _ (List.mem_of_getElem? (i := 3) rfl)) (by decide) (by decide)) q237a q237c (g := (mkF m 165 #[.val (.int xa), .val (.int xb), .val (.int xc), .val (.int (1 : Int32)), .val (.int (1 : Int32)), .val (.ref b187), .val (.int (1 : Int32))] [(.ref b187)])) rfl (by rw [hml]; rfl) (Steps.refl _) (argsL := []) (rest := []) (lenOf pd_3 rfl) rfl (by show 2 * 0 + _ ≤ _; exact Nat.le_of_eq rfl) (hb hby at_165) (fun _ _ => ⟨rfl, e234, (by decide : 4 + 0 ≤ _), (by decide : 45 + 0 ≤ _)⟩)
          dsimp only [Pt.U, Pt.locs, Pt.cells, Pt.slots] at X237 lq237 yq237 zq237 st237 hQ237
          subst lq237 yq237 zq237
          obtain ⟨rfl, Nq237, eq237⟩ := hQ237
          have N237 := Fr.app N234 Nq237
          refine own_go (st' := T237.setTop (mkF m 168 #[.val (.int xa), .val (.int xb), .val (.int xc), .val (.int (1 : Int32)), .val (.int (1 : Int32)), .val (.ref b187), .val (.int (1 : Int32))] [(.int (0 : Int32))])) (fun _ k => st237.trans k) ?_
          have hc238 : (0 : Int32) = (0 : Int32) := by decide
          refine own_go (st' := T237.setTop (mkF m 171 #[.val (.int xa), .val (.int xb), .val (.int xc), .val (.int (1 : Int32)), .val (.int (1 : Int32)), .val (.ref b187), .val (.int (1 : Int32))] [])) (fun _ k => XS.ifNo X237.here hx rfl (hb hby at_168) rfl ((if0 _ _).trans (teq hc238).2) k) ?_
          refine own_go (st' := T237.setTop (mkF m 172 #[.val (.int xa), .val (.int xb), .val (.int xc), .val (.int (1 : Int32)), .val (.int (1 : Int32)), .val (.ref b187), .val (.int (1 : Int32))] [(.int (1 : Int32))])) (fun _ k => XS.iconst X237.here hx rfl (hb hby at_171) k) ?_
          refine own_go (st' := T237.setTop (mkF m 176 #[.val (.int xa), .val (.int xb), .val (.int xc), .val (.int (1 : Int32)), .val (.int (1 : Int32)), .val (.ref b187), .val (.int (1 : Int32))] [(.int (1 : Int32))])) (fun _ k => XS.goto X237.here hx rfl (pc0 := 172) (pc' := 176) rfl (hb hby at_172) (by decide) (by decide) k) ?_
          refine own_go (st' := T237.setTop (mkF m 178 #[.val (.int xa), .val (.int xb), .val (.int xc), .val (.int (1 : Int32)), .val (.int (1 : Int32)), .val (.ref b187), .val (.int (1 : Int32))] [])) (fun _ k => XS.istore X237.here hx rfl (hb hby at_176) rfl (l' := #[.val (.int xa), .val (.int xb), .val (.int xc), .val (.int (1 : Int32)), .val (.int (1 : Int32)), .val (.ref b187), .val (.int (1 : Int32))]) rfl k) ?_
          refine own_go (st' := T237.setTop (mkF m 180 #[.val (.int xa), .val (.int xb), .val (.int xc), .val (.int (1 : Int32)), .val (.int (1 : Int32)), .val (.ref b187), .val (.int (1 : Int32))] [(.int (1 : Int32))])) (fun _ k => XS.iload X237.here hx rfl (hb hby at_178) rfl k) ?_
          obtain ⟨fs, hr, hrun, hended, hW, hsame⟩ := X237.leave (v := some (.int (1 : Int32))) (fun h => by rw [Bd.returns] at h; cases h)
          refine ⟨_, _, ?_, hP _ _ hrun hended ⟨_, _, rfl, ?_, ⟨_, rfl⟩, hW, hsame.mono (by decide) (by decide)⟩⟩
          · exact retN X237 hx (t := .boolean) Bd.returns (by simp) (hb hby at_180) hr
          · show Qrm0 Z xa xb xc h0 n0 _ T237.heap _
            rw [eq237]
            exact ⟨rfl, N237, trivial⟩
    · --
      exact absurd hm_13 (own_pos xb)
  · --
    rw [hm_6]
    refine own_go (st' := s₁.setTop (mkF m 7 #[.val (.int xa), .val (.int xb), .val (.int xc), .val (.int (2 : Int32)), .unset, .unset, .unset] [])) (fun _ k => XS.istoreN X0.here hx rfl (hb hby at_6) rfl (l' := #[.val (.int xa), .val (.int xb), .val (.int xc), .val (.int (2 : Int32)), .unset, .unset, .unset]) rfl k) ?_
    refine own_go (st' := s₁.setTop (mkF m 8 #[.val (.int xa), .val (.int xb), .val (.int xc), .val (.int (2 : Int32)), .unset, .unset, .unset] [(.int xb)])) (fun _ k => XS.iloadN X0.here hx rfl (hb hby at_7) rfl k) ?_
    refine own_go (st' := s₁.setTop (mkF m 10 #[.val (.int xa), .val (.int xb), .val (.int xc), .val (.int (2 : Int32)), .unset, .unset, .unset] [(.int (2147483647 : Int32)), (.int xb)])) (X0.ldcInt hx hown (mvT hZ (hw _ (List.mem_of_getElem? (i := 0) rfl))) (g := (mkF m 8 #[.val (.int xa), .val (.int xb), .val (.int xc), .val (.int (2 : Int32)), .unset, .unset, .unset] [(.int xb)])) rfl (hb hby at_8)) ?_
    refine own_go (st' := s₁.setTop (mkF m 11 #[.val (.int xa), .val (.int xb), .val (.int xc), .val (.int (2 : Int32)), .unset, .unset, .unset] [(.int (xb &&& (2147483647 : Int32)))])) (fun _ k => XS.iand X0.here hx rfl (hb hby at_10) rfl k) ?_
    refine own_go (st' := s₁.setTop (mkF m 12 #[.val (.int xa), .val (.int xb), .val (.int xc), .val (.int (2 : Int32)), .unset, .unset, .unset] [(.int (3 : Int32)), (.int (xb &&& (2147483647 : Int32)))])) (fun _ k => XS.iconst X0.here hx rfl (hb hby at_11) k) ?_
    refine own_go (st' := s₁.setTop (mkF m 13 #[.val (.int xa), .val (.int xb), .val (.int xc), .val (.int (2 : Int32)), .unset, .unset, .unset] [(.int ((xb &&& (2147483647 : Int32)) % (3 : Int32)))])) (fun _ k => iremM X0 hx rfl (hb hby at_12) rfl (by decide) k) ?_
    rcases own_mod3 (xb &&& (2147483647 : Int32)) with hm_13 | hm_13 | hm_13 | hm_13
    · --
      rw [hm_13]
      refine own_go (st' := s₁.setTop (mkF m 15 #[.val (.int xa), .val (.int xb), .val (.int xc), .val (.int (2 : Int32)), .val (.int (0 : Int32)), .unset, .unset] [])) (fun _ k => XS.istore X0.here hx rfl (hb hby at_13) rfl (l' := #[.val (.int xa), .val (.int xb), .val (.int xc), .val (.int (2 : Int32)), .val (.int (0 : Int32)), .unset, .unset]) rfl k) ?_
      refine own_go (st' := s₁.setTop (mkF m 17 #[.val (.int xa), .val (.int xb), .val (.int xc), .val (.int (2 : Int32)), .val (.int (0 : Int32)), .unset, .unset] [(.int (0 : Int32))])) (fun _ k => XS.iload X0.here hx rfl (hb hby at_15) rfl k) ?_
      refine own_go (st' := s₁.setTop (mkF m 18 #[.val (.int xa), .val (.int xb), .val (.int xc), .val (.int (2 : Int32)), .val (.int (0 : Int32)), .unset, .unset] [(.int (2 : Int32)), (.int (0 : Int32))])) (fun _ k => XS.iloadN X0.here hx rfl (hb hby at_17) rfl k) ?_
      have hc240 : ¬ ((2 : Int32) < (0 : Int32)) := by decide
      refine own_go (st' := s₁.setTop (mkF m 24 #[.val (.int xa), .val (.int xb), .val (.int xc), .val (.int (2 : Int32)), .val (.int (0 : Int32)), .unset, .unset] [])) (fun _ k => XS.icmpYes X0.here hx rfl (pc0 := 18) (pc' := 24) rfl (hb hby at_18) rfl (flt hc240).2.2.2 (by decide) (by decide) k) ?_
      obtain ⟨T241, h241, X241, e241, E241, A241, D241, -, st241⟩ := newO X0 hx hZ hown (hw _ (List.mem_of_getElem? (i := 1) rfl)) (hw _ (List.mem_of_getElem? (i := 2) rfl)) (hw _ (List.mem_of_getElem? (i := 3) rfl)) e0 (g := (mkF m 24 #[.val (.int xa), .val (.int xb), .val (.int xc), .val (.int (2 : Int32)), .val (.int (0 : Int32)), .unset, .unset] [])) rfl (hb hby at_24) (by decide) (by decide)
      obtain ⟨b241, g241⟩ : ∃ z, z = h0.size := ⟨_, rfl⟩
      rw [← g241] at A241 D241 st241
      have sz241 : h0.size ≤ h241.size := E241.1
      have lt241 : @LT.lt Nat _ b241 h241.size := A241.lt
      have f242 : Fld Z h241 b241 "com/example/greenwood/greenwood/Environment" "globals" "Ljava/util/Map;" .null := D241 (Or.inr (hw _ (List.mem_of_getElem? (i := 27) rfl))) (ty := (.object "java/util/Map")) (by decide)
      have f243 : Fld Z h241 b241 "com/example/greenwood/greenwood/Environment" "locals" "[Ljava/lang/Object;" .null := D241 (Or.inl (hw _ (List.mem_of_getElem? (i := 31) rfl))) (ty := (.array (.object "java/lang/Object"))) (by decide)
      have f244 : Fld Z h241 b241 "com/example/greenwood/greenwood/Environment" "scopeStarts" "[I" .null := D241 (Or.inl (hw _ (List.mem_of_getElem? (i := 34) rfl))) (ty := (.array .int)) (by decide)
      have f245 : Fld Z h241 b241 "com/example/greenwood/greenwood/Environment" "openScopes" "I" (.int (0 : Int32)) := D241 (Or.inl (hw _ (List.mem_of_getElem? (i := 41) rfl))) (ty := .int) (by decide)
      have f246 : Fld Z h241 b241 "com/example/greenwood/greenwood/Environment" "localCount" "I" (.int (0 : Int32)) := D241 (Or.inl (hw _ (List.mem_of_getElem? (i := 48) rfl))) (ty := .int) (by decide)
      refine own_go (st' := T241.setTop (mkF m 27 #[.val (.int xa), .val (.int xb), .val (.int xc), .val (.int (2 : Int32)), .val (.int (0 : Int32)), .unset, .unset] [(.ref b241)])) (st241) ?_
      refine own_go (st' := T241.setTop (mkF m 28 #[.val (.int xa), .val (.int xb), .val (.int xc), .val (.int (2 : Int32)), .val (.int (0 : Int32)), .unset, .unset] [(.ref b241), (.ref b241)])) (fun _ k => XS.dup X241.here hx rfl (hb hby at_27) rfl rfl k) ?_
      obtain ⟨_, _, ⟨T247, LC247, kC247, nC247⟩, -, X247, ⟨Lc247, hQ247, lq247, yq247, zq247⟩, st247⟩ := X241.specialBack hx (y := (⟨"com/example/greenwood/greenwood/Environment", "<init>", "()V"⟩ : MethodName)) rfl hown (mvT hZ (hw _ (List.mem_of_getElem? (i := 4) rfl))) (mvT hZ (hw _ (List.mem_of_getElem? (i := 5) rfl))) (mvT hZ (hw _ (List.mem_of_getElem? (i := 6) rfl))) (by decide) (backOf (W := 1) (rm1 l Z a0 hw [] b241 h241 n0 (by omega) A241 f242 f243 f244 f245 f246 (by omega)) hZ (hw _ (List.mem_of_getElem? (i := 6) rfl)) (hw _ (List.mem_of_getElem? (i := 3) rfl)) (by decide) (by decide)) (g := (mkF m 28 #[.val (.int xa), .val (.int xb), .val (.int xc), .val (.int (2 : Int32)), .val (.int (0 : Int32)), .unset, .unset] [(.ref b241), (.ref b241)])) rfl (by rw [hml]; rfl) (Steps.refl _) (a := b241) (argsL := []) (rest := [(.ref b241)]) (lenOf pd_0 rfl) rfl (by show 2 * 0 + _ ≤ _; exact Nat.le_of_eq rfl) (hb hby at_28) (fun _ _ => ⟨rfl, e241, (by decide : 1 + 3 ≤ _), (by decide : 5 + 40 ≤ _)⟩)
      dsimp only [Pt.U, Pt.locs, Pt.cells, Pt.slots] at X247 lq247 yq247 zq247 st247 hQ247
      subst lq247 yq247 zq247
      obtain ⟨h247, e247⟩ : ∃ z, T247.heap = z := ⟨_, rfl⟩
      rw [e247] at hQ247
      obtain ⟨rl_247, rs_247, kl_247, ks_247, rfl, Nq247, K247, g247_0, g247_1, g247_2, g247_3, g247_4, g247_5, g247_6, g247_7, g247_8, g247_9, g247_10⟩ := hQ247
      have sz247 : h241.size ≤ h247.size := K247.1
      have N247 := Fr.app N0 Nq247
      have lt247_1 : @LT.lt Nat _ b241 h247.size := g247_0.lt
      have lt247_2 : @LT.lt Nat _ rl_247 h247.size := g247_5.lt
      have lt247_3 : @LT.lt Nat _ rs_247 h247.size := g247_6.lt
      refine own_go (st' := T247.setTop (mkF m 31 #[.val (.int xa), .val (.int xb), .val (.int xc), .val (.int (2 : Int32)), .val (.int (0 : Int32)), .unset, .unset] [(.ref b241)])) (fun _ k => st247.trans k) ?_
      refine own_go (st' := T247.setTop (mkF m 33 #[.val (.int xa), .val (.int xb), .val (.int xc), .val (.int (2 : Int32)), .val (.int (0 : Int32)), .val (.ref b241), .unset] [])) (fun _ k => XS.astore X247.here hx rfl (hb hby at_31) rfl rfl (l' := #[.val (.int xa), .val (.int xb), .val (.int xc), .val (.int (2 : Int32)), .val (.int (0 : Int32)), .val (.ref b241), .unset]) rfl k) ?_
      refine own_go (st' := T247.setTop (mkF m 34 #[.val (.int xa), .val (.int xb), .val (.int xc), .val (.int (2 : Int32)), .val (.int (0 : Int32)), .val (.ref b241), .unset] [(.int (2 : Int32))])) (fun _ k => XS.iloadN X247.here hx rfl (hb hby at_33) rfl k) ?_
      refine own_go (st' := T247.setTop (mkF m 35 #[.val (.int xa), .val (.int xb), .val (.int xc), .val (.int (2 : Int32)), .val (.int (0 : Int32)), .val (.ref b241), .unset] [(.int (1 : Int32)), (.int (2 : Int32))])) (fun _ k => XS.iconst X247.here hx rfl (hb hby at_34) k) ?_
      have hc248 : ¬ ((2 : Int32) < (1 : Int32)) := by decide
      refine own_go (st' := T247.setTop (mkF m 38 #[.val (.int xa), .val (.int xb), .val (.int xc), .val (.int (2 : Int32)), .val (.int (0 : Int32)), .val (.ref b241), .unset] [])) (fun _ k => XS.icmpNo X247.here hx rfl (hb hby at_35) rfl (flt hc248).1 k) ?_
      refine own_go (st' := T247.setTop (mkF m 40 #[.val (.int xa), .val (.int xb), .val (.int xc), .val (.int (2 : Int32)), .val (.int (0 : Int32)), .val (.ref b241), .unset] [(.ref b241)])) (fun _ k => XS.aload X247.here hx rfl (hb hby at_38) rfl rfl k) ?_
      obtain ⟨cq249, kq249, q249a, q249b, q249c⟩ := isOf hZ e247 g247_0
      obtain ⟨_, _, ⟨T249, LC249, kC249, nC249⟩, -, X249, ⟨Lc249, hQ249, lq249, yq249, zq249⟩, st249⟩ := X247.virtualBack hx (y := (⟨"com/example/greenwood/greenwood/Environment", "openScope", "()V"⟩ : MethodName)) (z := (⟨"com/example/greenwood/greenwood/Environment", "openScope", "()V"⟩ : MethodName)) hown (mvT hZ (hw _ (List.mem_of_getElem? (i := 56) rfl))) (mvT hZ (hw _ (List.mem_of_getElem? (i := 57) rfl))) (notFace_of_selects (args := #[]) (mvT hZ (hw _ (List.mem_of_getElem? (i := 59) rfl)))) (mvT hZ (hw _ (List.mem_of_getElem? (i := 59) rfl))) (mvT hZ (hw _ (List.mem_of_getElem? (i := 58) rfl))) (by decide) (backOf (W := 0) (rm9_0 l Z a0 hw [] b241 rl_247 rs_247 kl_247 ks_247 h247 n0 (by omega) g247_0 g247_1 g247_2 g247_3 g247_4 g247_5 g247_6 (by omega) (by omega) (by omega) (by first | assumption | exact Ne.symm (by assumption) | (apply Nat.ne_of_lt; omega) | (apply Nat.ne_of_gt; omega)) (by first | assumption | exact Ne.symm (by assumption) | (apply Nat.ne_of_lt; omega) | (apply Nat.ne_of_gt; omega)) (by first | assumption | exact Ne.symm (by assumption) | (apply Nat.ne_of_lt; omega) | (apply Nat.ne_of_gt; omega))) hZ (hw _ (List.mem_of_getElem? (i := 60) rfl)) (hw _ (List.mem_of_getElem? (i := 3) rfl)) (by decide) (by decide)) q249a q249c (g := (mkF m 40 #[.val (.int xa), .val (.int xb), .val (.int xc), .val (.int (2 : Int32)), .val (.int (0 : Int32)), .val (.ref b241), .unset] [(.ref b241)])) rfl (by rw [hml]; rfl) (Steps.refl _) (argsL := []) (rest := []) (lenOf pd_0 rfl) rfl (by show 2 * 0 + _ ≤ _; exact Nat.le_of_eq rfl) (hb hby at_40) (fun _ _ => ⟨rfl, e247, (by decide : 4 + 0 ≤ _), (by decide : 45 + 0 ≤ _)⟩)
      dsimp only [Pt.U, Pt.locs, Pt.cells, Pt.slots] at X249 lq249 yq249 zq249 st249 hQ249
      subst lq249 yq249 zq249
      obtain ⟨h249, e249⟩ : ∃ z, T249.heap = z := ⟨_, rfl⟩
      rw [e249] at hQ249
      obtain ⟨rfl, Nq249, K249, g249_0, g249_1, g249_2, g249_3, g249_4, g249_5⟩ := hQ249
      have sz249 : h247.size ≤ h249.size := K249.1
      have N249 := Fr.app N247 Nq249
      have lt249_1 : @LT.lt Nat _ b241 h249.size := g249_0.lt
      have lt249_2 : @LT.lt Nat _ rs_247 h249.size := g249_5.lt
      refine own_go (st' := T249.setTop (mkF m 43 #[.val (.int xa), .val (.int xb), .val (.int xc), .val (.int (2 : Int32)), .val (.int (0 : Int32)), .val (.ref b241), .unset] [])) (fun _ k => st249.trans k) ?_
      refine own_go (st' := T249.setTop (mkF m 44 #[.val (.int xa), .val (.int xb), .val (.int xc), .val (.int (2 : Int32)), .val (.int (0 : Int32)), .val (.ref b241), .unset] [(.int (2 : Int32))])) (fun _ k => XS.iloadN X249.here hx rfl (hb hby at_43) rfl k) ?_
      refine own_go (st' := T249.setTop (mkF m 45 #[.val (.int xa), .val (.int xb), .val (.int xc), .val (.int (2 : Int32)), .val (.int (0 : Int32)), .val (.ref b241), .unset] [(.int (2 : Int32)), (.int (2 : Int32))])) (fun _ k => XS.iconst X249.here hx rfl (hb hby at_44) k) ?_
      have hc250 : ¬ ((2 : Int32) < (2 : Int32)) := by decide
      refine own_go (st' := T249.setTop (mkF m 48 #[.val (.int xa), .val (.int xb), .val (.int xc), .val (.int (2 : Int32)), .val (.int (0 : Int32)), .val (.ref b241), .unset] [])) (fun _ k => XS.icmpNo X249.here hx rfl (hb hby at_45) rfl (flt hc250).1 k) ?_
      refine own_go (st' := T249.setTop (mkF m 50 #[.val (.int xa), .val (.int xb), .val (.int xc), .val (.int (2 : Int32)), .val (.int (0 : Int32)), .val (.ref b241), .unset] [(.ref b241)])) (fun _ k => XS.aload X249.here hx rfl (hb hby at_48) rfl rfl k) ?_
      have c252 : Arv Z h249 rl_247 kl_247 (.object "java/lang/Object") (16 : Int32) [.null, .null, .null, .null, .null, .null, .null, .null, .null, .null, .null, .null, .null, .null, .null, .null] .null := (g247_5.keep K249 (ninS (by first | assumption | exact Ne.symm (by assumption) | (apply Nat.ne_of_lt; omega) | (apply Nat.ne_of_gt; omega)) (ninS (by first | assumption | exact Ne.symm (by assumption) | (apply Nat.ne_of_lt; omega) | (apply Nat.ne_of_gt; omega)) nin0)))
      obtain ⟨cq251, kq251, q251a, q251b, q251c⟩ := isOf hZ e249 g249_0
      obtain ⟨_, _, ⟨T251, LC251, kC251, nC251⟩, -, X251, ⟨Lc251, hQ251, lq251, yq251, zq251⟩, st251⟩ := X249.virtualBack hx (y := (⟨"com/example/greenwood/greenwood/Environment", "openScope", "()V"⟩ : MethodName)) (z := (⟨"com/example/greenwood/greenwood/Environment", "openScope", "()V"⟩ : MethodName)) hown (mvT hZ (hw _ (List.mem_of_getElem? (i := 56) rfl))) (mvT hZ (hw _ (List.mem_of_getElem? (i := 57) rfl))) (notFace_of_selects (args := #[]) (mvT hZ (hw _ (List.mem_of_getElem? (i := 59) rfl)))) (mvT hZ (hw _ (List.mem_of_getElem? (i := 59) rfl))) (mvT hZ (hw _ (List.mem_of_getElem? (i := 58) rfl))) (by decide) (backOf (W := 0) (rm9_1 l Z a0 hw [] b241 rl_247 rs_247 kl_247 ks_247 h249 n0 (by omega) g249_0 g249_1 g249_2 g249_3 g249_4 c252 g249_5 (by omega) (by omega) (by omega) (by first | assumption | exact Ne.symm (by assumption) | (apply Nat.ne_of_lt; omega) | (apply Nat.ne_of_gt; omega)) (by first | assumption | exact Ne.symm (by assumption) | (apply Nat.ne_of_lt; omega) | (apply Nat.ne_of_gt; omega)) (by first | assumption | exact Ne.symm (by assumption) | (apply Nat.ne_of_lt; omega) | (apply Nat.ne_of_gt; omega))) hZ (hw _ (List.mem_of_getElem? (i := 60) rfl)) (hw _ (List.mem_of_getElem? (i := 3) rfl)) (by decide) (by decide)) q251a q251c (g := (mkF m 50 #[.val (.int xa), .val (.int xb), .val (.int xc), .val (.int (2 : Int32)), .val (.int (0 : Int32)), .val (.ref b241), .unset] [(.ref b241)])) rfl (by rw [hml]; rfl) (Steps.refl _) (argsL := []) (rest := []) (lenOf pd_0 rfl) rfl (by show 2 * 0 + _ ≤ _; exact Nat.le_of_eq rfl) (hb hby at_50) (fun _ _ => ⟨rfl, e249, (by decide : 4 + 0 ≤ _), (by decide : 45 + 0 ≤ _)⟩)
      dsimp only [Pt.U, Pt.locs, Pt.cells, Pt.slots] at X251 lq251 yq251 zq251 st251 hQ251
      subst lq251 yq251 zq251
      obtain ⟨h251, e251⟩ : ∃ z, T251.heap = z := ⟨_, rfl⟩
      rw [e251] at hQ251
      obtain ⟨rfl, Nq251, K251, g251_0, g251_1, g251_2, g251_3, g251_4, g251_5⟩ := hQ251
      have sz251 : h249.size ≤ h251.size := K251.1
      have N251 := Fr.app N249 Nq251
      have lt251_1 : @LT.lt Nat _ b241 h251.size := g251_0.lt
      have lt251_2 : @LT.lt Nat _ rs_247 h251.size := g251_5.lt
      refine own_go (st' := T251.setTop (mkF m 53 #[.val (.int xa), .val (.int xb), .val (.int xc), .val (.int (2 : Int32)), .val (.int (0 : Int32)), .val (.ref b241), .unset] [])) (fun _ k => st251.trans k) ?_
      refine own_go (st' := T251.setTop (mkF m 54 #[.val (.int xa), .val (.int xb), .val (.int xc), .val (.int (2 : Int32)), .val (.int (0 : Int32)), .val (.ref b241), .unset] [(.int (2 : Int32))])) (fun _ k => XS.iloadN X251.here hx rfl (hb hby at_53) rfl k) ?_
      refine own_go (st' := T251.setTop (mkF m 55 #[.val (.int xa), .val (.int xb), .val (.int xc), .val (.int (2 : Int32)), .val (.int (0 : Int32)), .val (.ref b241), .unset] [(.int (1 : Int32)), (.int (2 : Int32))])) (fun _ k => XS.iconst X251.here hx rfl (hb hby at_54) k) ?_
      have hc253 : ¬ ((2 : Int32) < (1 : Int32)) := by decide
      refine own_go (st' := T251.setTop (mkF m 58 #[.val (.int xa), .val (.int xb), .val (.int xc), .val (.int (2 : Int32)), .val (.int (0 : Int32)), .val (.ref b241), .unset] [])) (fun _ k => XS.icmpNo X251.here hx rfl (hb hby at_55) rfl (flt hc253).1 k) ?_
      refine own_go (st' := T251.setTop (mkF m 59 #[.val (.int xa), .val (.int xb), .val (.int xc), .val (.int (2 : Int32)), .val (.int (0 : Int32)), .val (.ref b241), .unset] [(.int xc)])) (fun _ k => XS.iloadN X251.here hx rfl (hb hby at_58) rfl k) ?_
      refine own_go (st' := T251.setTop (mkF m 60 #[.val (.int xa), .val (.int xb), .val (.int xc), .val (.int (2 : Int32)), .val (.int (0 : Int32)), .val (.ref b241), .unset] [(.int (1 : Int32)), (.int xc)])) (fun _ k => XS.iconst X251.here hx rfl (hb hby at_59) k) ?_
      refine own_go (st' := T251.setTop (mkF m 61 #[.val (.int xa), .val (.int xb), .val (.int xc), .val (.int (2 : Int32)), .val (.int (0 : Int32)), .val (.ref b241), .unset] [(.int (xc &&& (1 : Int32)))])) (fun _ k => XS.iand X251.here hx rfl (hb hby at_60) rfl k) ?_
      by_cases hc254 : (xc &&& (1 : Int32)) = (0 : Int32)
      · --
        refine own_go (st' := T251.setTop (mkF m 69 #[.val (.int xa), .val (.int xb), .val (.int xc), .val (.int (2 : Int32)), .val (.int (0 : Int32)), .val (.ref b241), .unset] [])) (fun _ k => XS.ifYes X251.here hx rfl (pc0 := 61) (pc' := 69) rfl (hb hby at_61) rfl ((if0 _ _).trans (teq hc254).1) (by decide) (by decide) k) ?_
        refine own_go (st' := T251.setTop (mkF m 71 #[.val (.int xa), .val (.int xb), .val (.int xc), .val (.int (2 : Int32)), .val (.int (0 : Int32)), .val (.ref b241), .unset] [(.ref b241)])) (fun _ k => XS.aload X251.here hx rfl (hb hby at_69) rfl rfl k) ?_
        obtain ⟨cq255, kq255, q255a, q255b, q255c⟩ := isOf hZ e251 g251_0
        obtain ⟨_, _, ⟨T255, LC255, kC255, nC255⟩, -, X255, ⟨Lc255, hQ255, lq255, yq255, zq255⟩, st255⟩ := X251.virtualBack hx (y := (⟨"com/example/greenwood/greenwood/Environment", "inScope", "()Z"⟩ : MethodName)) (z := (⟨"com/example/greenwood/greenwood/Environment", "inScope", "()Z"⟩ : MethodName)) hown (mvT hZ (hw _ (List.mem_of_getElem? (i := 35) rfl))) (mvT hZ (hw _ (List.mem_of_getElem? (i := 36) rfl))) (notFace_of_selects (args := #[]) (mvT hZ (hw _ (List.mem_of_getElem? (i := 38) rfl)))) (mvT hZ (hw _ (List.mem_of_getElem? (i := 38) rfl))) (mvT hZ (hw _ (List.mem_of_getElem? (i := 37) rfl))) (by decide) (backOf (W := 0) (rm5_2 l Z a0 hw [] b241 h251 n0 (by omega) g251_1) hZ (hw _ (List.mem_of_getElem? (i := 39) rfl)) (hw _ (List.mem_of_getElem? (i := 3) rfl)) (by decide) (by decide)) q255a q255c (g := (mkF m 71 #[.val (.int xa), .val (.int xb), .val (.int xc), .val (.int (2 : Int32)), .val (.int (0 : Int32)), .val (.ref b241), .unset] [(.ref b241)])) rfl (by rw [hml]; rfl) (Steps.refl _) (argsL := []) (rest := []) (lenOf pd_3 rfl) rfl (by show 2 * 0 + _ ≤ _; exact Nat.le_of_eq rfl) (hb hby at_71) (fun _ _ => ⟨rfl, e251, (by decide : 4 + 0 ≤ _), (by decide : 45 + 0 ≤ _)⟩)
        dsimp only [Pt.U, Pt.locs, Pt.cells, Pt.slots] at X255 lq255 yq255 zq255 st255 hQ255
        subst lq255 yq255 zq255
        obtain ⟨rfl, Nq255, eq255⟩ := hQ255
        have N255 := Fr.app N251 Nq255
        refine own_go (st' := T255.setTop (mkF m 74 #[.val (.int xa), .val (.int xb), .val (.int xc), .val (.int (2 : Int32)), .val (.int (0 : Int32)), .val (.ref b241), .unset] [(.int (1 : Int32))])) (fun _ k => st255.trans k) ?_
        refine own_go (st' := T255.setTop (mkF m 75 #[.val (.int xa), .val (.int xb), .val (.int xc), .val (.int (2 : Int32)), .val (.int (0 : Int32)), .val (.ref b241), .unset] [(.int (2 : Int32)), (.int (1 : Int32))])) (fun _ k => XS.iloadN X255.here hx rfl (hb hby at_74) rfl k) ?_
        have hc256 : (0 : Int32) < (2 : Int32) := by decide
        refine own_go (st' := T255.setTop (mkF m 78 #[.val (.int xa), .val (.int xb), .val (.int xc), .val (.int (2 : Int32)), .val (.int (0 : Int32)), .val (.ref b241), .unset] [(.int (1 : Int32))])) (fun _ k => XS.ifNo X255.here hx rfl (hb hby at_75) rfl ((if0 _ _).trans (tlt hc256).2.2.2) k) ?_
        refine own_go (st' := T255.setTop (mkF m 79 #[.val (.int xa), .val (.int xb), .val (.int xc), .val (.int (2 : Int32)), .val (.int (0 : Int32)), .val (.ref b241), .unset] [(.int (1 : Int32)), (.int (1 : Int32))])) (fun _ k => XS.iconst X255.here hx rfl (hb hby at_78) k) ?_
        refine own_go (st' := T255.setTop (mkF m 83 #[.val (.int xa), .val (.int xb), .val (.int xc), .val (.int (2 : Int32)), .val (.int (0 : Int32)), .val (.ref b241), .unset] [(.int (1 : Int32)), (.int (1 : Int32))])) (fun _ k => XS.goto X255.here hx rfl (pc0 := 79) (pc' := 83) rfl (hb hby at_79) (by decide) (by decide) k) ?_
        have hc257 : (1 : Int32) = (1 : Int32) := by decide
        refine own_go (st' := T255.setTop (mkF m 86 #[.val (.int xa), .val (.int xb), .val (.int xc), .val (.int (2 : Int32)), .val (.int (0 : Int32)), .val (.ref b241), .unset] [])) (fun _ k => XS.icmpNo X255.here hx rfl (hb hby at_83) rfl (teq hc257).2 k) ?_
        refine own_go (st' := T255.setTop (mkF m 87 #[.val (.int xa), .val (.int xb), .val (.int xc), .val (.int (2 : Int32)), .val (.int (0 : Int32)), .val (.ref b241), .unset] [(.int (1 : Int32))])) (fun _ k => XS.iconst X255.here hx rfl (hb hby at_86) k) ?_
        refine own_go (st' := T255.setTop (mkF m 91 #[.val (.int xa), .val (.int xb), .val (.int xc), .val (.int (2 : Int32)), .val (.int (0 : Int32)), .val (.ref b241), .unset] [(.int (1 : Int32))])) (fun _ k => XS.goto X255.here hx rfl (pc0 := 87) (pc' := 91) rfl (hb hby at_87) (by decide) (by decide) k) ?_
        refine own_go (st' := T255.setTop (mkF m 93 #[.val (.int xa), .val (.int xb), .val (.int xc), .val (.int (2 : Int32)), .val (.int (0 : Int32)), .val (.ref b241), .val (.int (1 : Int32))] [])) (fun _ k => XS.istore X255.here hx rfl (hb hby at_91) rfl (l' := #[.val (.int xa), .val (.int xb), .val (.int xc), .val (.int (2 : Int32)), .val (.int (0 : Int32)), .val (.ref b241), .val (.int (1 : Int32))]) rfl k) ?_
        refine own_go (st' := T255.setTop (mkF m 95 #[.val (.int xa), .val (.int xb), .val (.int xc), .val (.int (2 : Int32)), .val (.int (0 : Int32)), .val (.ref b241), .val (.int (1 : Int32))] [(.int (0 : Int32))])) (fun _ k => XS.iload X255.here hx rfl (hb hby at_93) rfl k) ?_
        refine own_go (st' := T255.setTop (mkF m 96 #[.val (.int xa), .val (.int xb), .val (.int xc), .val (.int (2 : Int32)), .val (.int (0 : Int32)), .val (.ref b241), .val (.int (1 : Int32))] [(.int (1 : Int32)), (.int (0 : Int32))])) (fun _ k => XS.iconst X255.here hx rfl (hb hby at_95) k) ?_
        have hc258 : (0 : Int32) < (1 : Int32) := by decide
        refine own_go (st' := T255.setTop (mkF m 104 #[.val (.int xa), .val (.int xb), .val (.int xc), .val (.int (2 : Int32)), .val (.int (0 : Int32)), .val (.ref b241), .val (.int (1 : Int32))] [])) (fun _ k => XS.icmpYes X255.here hx rfl (pc0 := 96) (pc' := 104) rfl (hb hby at_96) rfl (tlt hc258).1 (by decide) (by decide) k) ?_
        refine own_go (st' := T255.setTop (mkF m 106 #[.val (.int xa), .val (.int xb), .val (.int xc), .val (.int (2 : Int32)), .val (.int (0 : Int32)), .val (.ref b241), .val (.int (1 : Int32))] [(.int (0 : Int32))])) (fun _ k => XS.iload X255.here hx rfl (hb hby at_104) rfl k) ?_
        refine own_go (st' := T255.setTop (mkF m 107 #[.val (.int xa), .val (.int xb), .val (.int xc), .val (.int (2 : Int32)), .val (.int (0 : Int32)), .val (.ref b241), .val (.int (1 : Int32))] [(.int (2 : Int32)), (.int (0 : Int32))])) (fun _ k => XS.iconst X255.here hx rfl (hb hby at_106) k) ?_
        have hc259 : (0 : Int32) < (2 : Int32) := by decide
        refine own_go (st' := T255.setTop (mkF m 115 #[.val (.int xa), .val (.int xb), .val (.int xc), .val (.int (2 : Int32)), .val (.int (0 : Int32)), .val (.ref b241), .val (.int (1 : Int32))] [])) (fun _ k => XS.icmpYes X255.here hx rfl (pc0 := 107) (pc' := 115) rfl (hb hby at_107) rfl (tlt hc259).1 (by decide) (by decide) k) ?_
        refine own_go (st' := T255.setTop (mkF m 117 #[.val (.int xa), .val (.int xb), .val (.int xc), .val (.int (2 : Int32)), .val (.int (0 : Int32)), .val (.ref b241), .val (.int (1 : Int32))] [(.int (1 : Int32))])) (fun _ k => XS.iload X255.here hx rfl (hb hby at_115) rfl k) ?_
        have hc260 : ¬ ((1 : Int32) = (0 : Int32)) := by decide
        refine own_go (st' := T255.setTop (mkF m 120 #[.val (.int xa), .val (.int xb), .val (.int xc), .val (.int (2 : Int32)), .val (.int (0 : Int32)), .val (.ref b241), .val (.int (1 : Int32))] [])) (fun _ k => XS.ifNo X255.here hx rfl (hb hby at_117) rfl ((if0 _ _).trans (feq hc260).1) k) ?_
        refine own_go (st' := T255.setTop (mkF m 122 #[.val (.int xa), .val (.int xb), .val (.int xc), .val (.int (2 : Int32)), .val (.int (0 : Int32)), .val (.ref b241), .val (.int (1 : Int32))] [(.ref b241)])) (fun _ k => XS.aload X255.here hx rfl (hb hby at_120) rfl rfl k) ?_
        obtain ⟨cq261, kq261, q261a, q261b, q261c⟩ := isOf hZ eq255 g251_0
        obtain ⟨_, _, ⟨T261, LC261, kC261, nC261⟩, -, X261, ⟨Lc261, hQ261, lq261, yq261, zq261⟩, st261⟩ := X255.virtualBack hx (y := (⟨"com/example/greenwood/greenwood/Environment", "inScope", "()Z"⟩ : MethodName)) (z := (⟨"com/example/greenwood/greenwood/Environment", "inScope", "()Z"⟩ : MethodName)) hown (mvT hZ (hw _ (List.mem_of_getElem? (i := 35) rfl))) (mvT hZ (hw _ (List.mem_of_getElem? (i := 36) rfl))) (notFace_of_selects (args := #[]) (mvT hZ (hw _ (List.mem_of_getElem? (i := 38) rfl)))) (mvT hZ (hw _ (List.mem_of_getElem? (i := 38) rfl))) (mvT hZ (hw _ (List.mem_of_getElem? (i := 37) rfl))) (by decide) (backOf (W := 0) (rm5_2 l Z a0 hw [] b241 h251 n0 (by omega) g251_1) hZ (hw _ (List.mem_of_getElem? (i := 39) rfl)) (hw _ (List.mem_of_getElem? (i := 3) rfl)) (by decide) (by decide)) q261a q261c (g := (mkF m 122 #[.val (.int xa), .val (.int xb), .val (.int xc), .val (.int (2 : Int32)), .val (.int (0 : Int32)), .val (.ref b241), .val (.int (1 : Int32))] [(.ref b241)])) rfl (by rw [hml]; rfl) (Steps.refl _) (argsL := []) (rest := []) (lenOf pd_3 rfl) rfl (by show 2 * 0 + _ ≤ _; exact Nat.le_of_eq rfl) (hb hby at_122) (fun _ _ => ⟨rfl, eq255, (by decide : 4 + 0 ≤ _), (by decide : 45 + 0 ≤ _)⟩)
        dsimp only [Pt.U, Pt.locs, Pt.cells, Pt.slots] at X261 lq261 yq261 zq261 st261 hQ261
        subst lq261 yq261 zq261
        obtain ⟨rfl, Nq261, eq261⟩ := hQ261
        have N261 := Fr.app N255 Nq261
        refine own_go (st' := T261.setTop (mkF m 125 #[.val (.int xa), .val (.int xb), .val (.int xc), .val (.int (2 : Int32)), .val (.int (0 : Int32)), .val (.ref b241), .val (.int (1 : Int32))] [(.int (1 : Int32))])) (fun _ k => st261.trans k) ?_
        refine own_go (st' := T261.setTop (mkF m 126 #[.val (.int xa), .val (.int xb), .val (.int xc), .val (.int (2 : Int32)), .val (.int (0 : Int32)), .val (.ref b241), .val (.int (1 : Int32))] [(.int (2 : Int32)), (.int (1 : Int32))])) (fun _ k => XS.iloadN X261.here hx rfl (hb hby at_125) rfl k) ?_
        refine own_go (st' := T261.setTop (mkF m 128 #[.val (.int xa), .val (.int xb), .val (.int xc), .val (.int (2 : Int32)), .val (.int (0 : Int32)), .val (.ref b241), .val (.int (1 : Int32))] [(.int (0 : Int32)), (.int (2 : Int32)), (.int (1 : Int32))])) (fun _ k => XS.iload X261.here hx rfl (hb hby at_126) rfl k) ?_
        refine own_go (st' := T261.setTop (mkF m 129 #[.val (.int xa), .val (.int xb), .val (.int xc), .val (.int (2 : Int32)), .val (.int (0 : Int32)), .val (.ref b241), .val (.int (1 : Int32))] [(.int (2 : Int32)), (.int (1 : Int32))])) (fun _ k => XS.isub X261.here hx rfl (hb hby at_128) rfl (by rw [show ((2 : Int32) - (0 : Int32)) = (2 : Int32) by decide]; exact k)) ?_
        have hc262 : (0 : Int32) < (2 : Int32) := by decide
        refine own_go (st' := T261.setTop (mkF m 132 #[.val (.int xa), .val (.int xb), .val (.int xc), .val (.int (2 : Int32)), .val (.int (0 : Int32)), .val (.ref b241), .val (.int (1 : Int32))] [(.int (1 : Int32))])) (fun _ k => XS.ifNo X261.here hx rfl (hb hby at_129) rfl ((if0 _ _).trans (tlt hc262).2.2.2) k) ?_
        refine own_go (st' := T261.setTop (mkF m 133 #[.val (.int xa), .val (.int xb), .val (.int xc), .val (.int (2 : Int32)), .val (.int (0 : Int32)), .val (.ref b241), .val (.int (1 : Int32))] [(.int (1 : Int32)), (.int (1 : Int32))])) (fun _ k => XS.iconst X261.here hx rfl (hb hby at_132) k) ?_
        refine own_go (st' := T261.setTop (mkF m 137 #[.val (.int xa), .val (.int xb), .val (.int xc), .val (.int (2 : Int32)), .val (.int (0 : Int32)), .val (.ref b241), .val (.int (1 : Int32))] [(.int (1 : Int32)), (.int (1 : Int32))])) (fun _ k => XS.goto X261.here hx rfl (pc0 := 133) (pc' := 137) rfl (hb hby at_133) (by decide) (by decide) k) ?_
        have hc263 : (1 : Int32) = (1 : Int32) := by decide
        refine own_go (st' := T261.setTop (mkF m 140 #[.val (.int xa), .val (.int xb), .val (.int xc), .val (.int (2 : Int32)), .val (.int (0 : Int32)), .val (.ref b241), .val (.int (1 : Int32))] [])) (fun _ k => XS.icmpNo X261.here hx rfl (hb hby at_137) rfl (teq hc263).2 k) ?_
        refine own_go (st' := T261.setTop (mkF m 141 #[.val (.int xa), .val (.int xb), .val (.int xc), .val (.int (2 : Int32)), .val (.int (0 : Int32)), .val (.ref b241), .val (.int (1 : Int32))] [(.int (1 : Int32))])) (fun _ k => XS.iconst X261.here hx rfl (hb hby at_140) k) ?_
        refine own_go (st' := T261.setTop (mkF m 145 #[.val (.int xa), .val (.int xb), .val (.int xc), .val (.int (2 : Int32)), .val (.int (0 : Int32)), .val (.ref b241), .val (.int (1 : Int32))] [(.int (1 : Int32))])) (fun _ k => XS.goto X261.here hx rfl (pc0 := 141) (pc' := 145) rfl (hb hby at_141) (by decide) (by decide) k) ?_
        refine own_go (st' := T261.setTop (mkF m 147 #[.val (.int xa), .val (.int xb), .val (.int xc), .val (.int (2 : Int32)), .val (.int (0 : Int32)), .val (.ref b241), .val (.int (1 : Int32))] [])) (fun _ k => XS.istore X261.here hx rfl (hb hby at_145) rfl (l' := #[.val (.int xa), .val (.int xb), .val (.int xc), .val (.int (2 : Int32)), .val (.int (0 : Int32)), .val (.ref b241), .val (.int (1 : Int32))]) rfl k) ?_
        refine own_go (st' := T261.setTop (mkF m 148 #[.val (.int xa), .val (.int xb), .val (.int xc), .val (.int (2 : Int32)), .val (.int (0 : Int32)), .val (.ref b241), .val (.int (1 : Int32))] [(.int xc)])) (fun _ k => XS.iloadN X261.here hx rfl (hb hby at_147) rfl k) ?_
        refine own_go (st' := T261.setTop (mkF m 149 #[.val (.int xa), .val (.int xb), .val (.int xc), .val (.int (2 : Int32)), .val (.int (0 : Int32)), .val (.ref b241), .val (.int (1 : Int32))] [(.int (2 : Int32)), (.int xc)])) (fun _ k => XS.iconst X261.here hx rfl (hb hby at_148) k) ?_
        refine own_go (st' := T261.setTop (mkF m 150 #[.val (.int xa), .val (.int xb), .val (.int xc), .val (.int (2 : Int32)), .val (.int (0 : Int32)), .val (.ref b241), .val (.int (1 : Int32))] [(.int (xc &&& (2 : Int32)))])) (fun _ k => XS.iand X261.here hx rfl (hb hby at_149) rfl k) ?_
        by_cases hc264 : (xc &&& (2 : Int32)) = (0 : Int32)
        · --
          refine own_go (st' := T261.setTop (mkF m 178 #[.val (.int xa), .val (.int xb), .val (.int xc), .val (.int (2 : Int32)), .val (.int (0 : Int32)), .val (.ref b241), .val (.int (1 : Int32))] [])) (fun _ k => XS.ifYes X261.here hx rfl (pc0 := 150) (pc' := 178) rfl (hb hby at_150) rfl ((if0 _ _).trans (teq hc264).1) (by decide) (by decide) k) ?_
          refine own_go (st' := T261.setTop (mkF m 180 #[.val (.int xa), .val (.int xb), .val (.int xc), .val (.int (2 : Int32)), .val (.int (0 : Int32)), .val (.ref b241), .val (.int (1 : Int32))] [(.int (1 : Int32))])) (fun _ k => XS.iload X261.here hx rfl (hb hby at_178) rfl k) ?_
          obtain ⟨fs, hr, hrun, hended, hW, hsame⟩ := X261.leave (v := some (.int (1 : Int32))) (fun h => by rw [Bd.returns] at h; cases h)
          refine ⟨_, _, ?_, hP _ _ hrun hended ⟨_, _, rfl, ?_, ⟨_, rfl⟩, hW, hsame.mono (by decide) (by decide)⟩⟩
          · exact retN X261 hx (t := .boolean) Bd.returns (by simp) (hb hby at_180) hr
          · show Qrm0 Z xa xb xc h0 n0 _ T261.heap _
            rw [eq261]
            exact ⟨rfl, N261, trivial⟩
        · --
          refine own_go (st' := T261.setTop (mkF m 153 #[.val (.int xa), .val (.int xb), .val (.int xc), .val (.int (2 : Int32)), .val (.int (0 : Int32)), .val (.ref b241), .val (.int (1 : Int32))] [])) (fun _ k => XS.ifNo X261.here hx rfl (hb hby at_150) rfl ((if0 _ _).trans (feq hc264).1) k) ?_
          refine own_go (st' := T261.setTop (mkF m 155 #[.val (.int xa), .val (.int xb), .val (.int xc), .val (.int (2 : Int32)), .val (.int (0 : Int32)), .val (.ref b241), .val (.int (1 : Int32))] [(.ref b241)])) (fun _ k => XS.aload X261.here hx rfl (hb hby at_153) rfl rfl k) ?_
          have c267 : Arv Z h251 rl_247 kl_247 (.object "java/lang/Object") (16 : Int32) [.null, .null, .null, .null, .null, .null, .null, .null, .null, .null, .null, .null, .null, .null, .null, .null] .null := (c252.keep K251 (ninS (by first | assumption | exact Ne.symm (by assumption) | (apply Nat.ne_of_lt; omega) | (apply Nat.ne_of_gt; omega)) (ninS (by first | assumption | exact Ne.symm (by assumption) | (apply Nat.ne_of_lt; omega) | (apply Nat.ne_of_gt; omega)) nin0)))
          obtain ⟨cq266, kq266, q266a, q266b, q266c⟩ := isOf hZ eq261 g251_0
          obtain ⟨_, _, ⟨T266, LC266, kC266, nC266⟩, -, X266, ⟨Lc266, hQ266, lq266, yq266, zq266⟩, st266⟩ := X261.virtualBack hx (y := (⟨"com/example/greenwood/greenwood/Environment", "closeScopes", "()V"⟩ : MethodName)) (z := (⟨"com/example/greenwood/greenwood/Environment", "closeScopes", "()V"⟩ : MethodName)) hown (mvT hZ (hw _ (List.mem_of_getElem? (i := 42) rfl))) (mvT hZ (hw _ (List.mem_of_getElem? (i := 43) rfl))) (notFace_of_selects (args := #[]) (mvT hZ (hw _ (List.mem_of_getElem? (i := 45) rfl)))) (mvT hZ (hw _ (List.mem_of_getElem? (i := 45) rfl))) (mvT hZ (hw _ (List.mem_of_getElem? (i := 44) rfl))) (by decide) (backOf (W := 0) (rm6_0 l Z a0 hw [] b241 (2 : Int32) rl_247 rs_247 kl_247 ks_247 h251 n0 (by omega) g251_0 g251_1 g251_2 g251_3 g251_4 c267 g251_5 (by omega) (by omega) (by omega) (by first | assumption | exact Ne.symm (by assumption) | (apply Nat.ne_of_lt; omega) | (apply Nat.ne_of_gt; omega)) (by first | assumption | exact Ne.symm (by assumption) | (apply Nat.ne_of_lt; omega) | (apply Nat.ne_of_gt; omega)) (by first | assumption | exact Ne.symm (by assumption) | (apply Nat.ne_of_lt; omega) | (apply Nat.ne_of_gt; omega))) hZ (hw _ (List.mem_of_getElem? (i := 46) rfl)) (hw _ (List.mem_of_getElem? (i := 3) rfl)) (by decide) (by decide)) q266a q266c (g := (mkF m 155 #[.val (.int xa), .val (.int xb), .val (.int xc), .val (.int (2 : Int32)), .val (.int (0 : Int32)), .val (.ref b241), .val (.int (1 : Int32))] [(.ref b241)])) rfl (by rw [hml]; rfl) (Steps.refl _) (argsL := []) (rest := []) (lenOf pd_0 rfl) rfl (by show 2 * 0 + _ ≤ _; exact Nat.le_of_eq rfl) (hb hby at_155) (fun _ _ => ⟨rfl, eq261, (by decide : 4 + 0 ≤ _), (by decide : 45 + 0 ≤ _)⟩)
          dsimp only [Pt.U, Pt.locs, Pt.cells, Pt.slots] at X266 lq266 yq266 zq266 st266 hQ266
          subst lq266 yq266 zq266
          obtain ⟨h266, e266⟩ : ∃ z, T266.heap = z := ⟨_, rfl⟩
          rw [e266] at hQ266
          obtain ⟨rfl, Nq266, K266, g266_0, g266_1, g266_2, g266_3, g266_4, g266_5⟩ := hQ266
          have sz266 : h251.size ≤ h266.size := K266.1
          have N266 := Fr.app N261 Nq266
          have lt266_1 : @LT.lt Nat _ b241 h266.size := g266_0.lt
          have lt266_2 : @LT.lt Nat _ rl_247 h266.size := g266_5.lt
          refine own_go (st' := T266.setTop (mkF m 158 #[.val (.int xa), .val (.int xb), .val (.int xc), .val (.int (2 : Int32)), .val (.int (0 : Int32)), .val (.ref b241), .val (.int (1 : Int32))] [])) (fun _ k => st266.trans k) ?_
          refine own_go (st' := T266.setTop (mkF m 160 #[.val (.int xa), .val (.int xb), .val (.int xc), .val (.int (2 : Int32)), .val (.int (0 : Int32)), .val (.ref b241), .val (.int (1 : Int32))] [(.int (1 : Int32))])) (fun _ k => XS.iload X266.here hx rfl (hb hby at_158) rfl k) ?_
          have hc268 : ¬ ((1 : Int32) = (0 : Int32)) := by decide
          refine own_go (st' := T266.setTop (mkF m 163 #[.val (.int xa), .val (.int xb), .val (.int xc), .val (.int (2 : Int32)), .val (.int (0 : Int32)), .val (.ref b241), .val (.int (1 : Int32))] [])) (fun _ k => XS.ifNo X266.here hx rfl (hb hby at_160) rfl ((if0 _ _).trans (feq hc268).1) k) ?_
          refine own_go (st' := T266.setTop (mkF m 165 #[.val (.int xa), .val (.int xb), .val (.int xc), .val (.int (2 : Int32)), .val (.int (0 : Int32)), .val (.ref b241), .val (.int (1 : Int32))] [(.ref b241)])) (fun _ k => XS.aload X266.here hx rfl (hb hby at_163) rfl rfl k) ?_
          obtain ⟨cq269, kq269, q269a, q269b, q269c⟩ := isOf hZ e266 g266_0
          obtain ⟨_, _, ⟨T269, LC269, kC269, nC269⟩, -, X269, ⟨Lc269, hQ269, lq269, yq269, zq269⟩, st269⟩ := X266.virtualBack hx (y := (⟨"com/example/greenwood/greenwood/Environment", "inScope", "()Z"⟩ : MethodName)) (z := (⟨"com/example/greenwood/greenwood/Environment", "inScope", "()Z"⟩ : MethodName)) hown (mvT hZ (hw _ (List.mem_of_getElem? (i := 35) rfl))) (mvT hZ (hw _ (List.mem_of_getElem? (i := 36) rfl))) (notFace_of_selects (args := #[]) (mvT hZ (hw _ (List.mem_of_getElem? (i := 38) rfl)))) (mvT hZ (hw _ (List.mem_of_getElem? (i := 38) rfl))) (mvT hZ (hw _ (List.mem_of_getElem? (i := 37) rfl))) (by decide) (backOf (W := 0) (rm5_0 l Z a0 hw [] b241 h266 n0 (by omega) g266_1) hZ (hw _ (List.mem_of_getElem? (i := 39) rfl)) (hw _ (List.mem_of_getElem? (i := 3) rfl)) (by decide) (by decide)) q269a q269c (g := (mkF m 165 #[.val (.int xa), .val (.int xb), .val (.int xc), .val (.int (2 : Int32)), .val (.int (0 : Int32)), .val (.ref b241), .val (.int (1 : Int32))] [(.ref b241)])) rfl (by rw [hml]; rfl) (Steps.refl _) (argsL := []) (rest := []) (lenOf pd_3 rfl) rfl (by show 2 * 0 + _ ≤ _; exact Nat.le_of_eq rfl) (hb hby at_165) (fun _ _ => ⟨rfl, e266, (by decide : 4 + 0 ≤ _), (by decide : 45 + 0 ≤ _)⟩)
          dsimp only [Pt.U, Pt.locs, Pt.cells, Pt.slots] at X269 lq269 yq269 zq269 st269 hQ269
          subst lq269 yq269 zq269
          obtain ⟨rfl, Nq269, eq269⟩ := hQ269
          have N269 := Fr.app N266 Nq269
          refine own_go (st' := T269.setTop (mkF m 168 #[.val (.int xa), .val (.int xb), .val (.int xc), .val (.int (2 : Int32)), .val (.int (0 : Int32)), .val (.ref b241), .val (.int (1 : Int32))] [(.int (0 : Int32))])) (fun _ k => st269.trans k) ?_
          have hc270 : (0 : Int32) = (0 : Int32) := by decide
          refine own_go (st' := T269.setTop (mkF m 171 #[.val (.int xa), .val (.int xb), .val (.int xc), .val (.int (2 : Int32)), .val (.int (0 : Int32)), .val (.ref b241), .val (.int (1 : Int32))] [])) (fun _ k => XS.ifNo X269.here hx rfl (hb hby at_168) rfl ((if0 _ _).trans (teq hc270).2) k) ?_
          refine own_go (st' := T269.setTop (mkF m 172 #[.val (.int xa), .val (.int xb), .val (.int xc), .val (.int (2 : Int32)), .val (.int (0 : Int32)), .val (.ref b241), .val (.int (1 : Int32))] [(.int (1 : Int32))])) (fun _ k => XS.iconst X269.here hx rfl (hb hby at_171) k) ?_
          refine own_go (st' := T269.setTop (mkF m 176 #[.val (.int xa), .val (.int xb), .val (.int xc), .val (.int (2 : Int32)), .val (.int (0 : Int32)), .val (.ref b241), .val (.int (1 : Int32))] [(.int (1 : Int32))])) (fun _ k => XS.goto X269.here hx rfl (pc0 := 172) (pc' := 176) rfl (hb hby at_172) (by decide) (by decide) k) ?_
          refine own_go (st' := T269.setTop (mkF m 178 #[.val (.int xa), .val (.int xb), .val (.int xc), .val (.int (2 : Int32)), .val (.int (0 : Int32)), .val (.ref b241), .val (.int (1 : Int32))] [])) (fun _ k => XS.istore X269.here hx rfl (hb hby at_176) rfl (l' := #[.val (.int xa), .val (.int xb), .val (.int xc), .val (.int (2 : Int32)), .val (.int (0 : Int32)), .val (.ref b241), .val (.int (1 : Int32))]) rfl k) ?_
          refine own_go (st' := T269.setTop (mkF m 180 #[.val (.int xa), .val (.int xb), .val (.int xc), .val (.int (2 : Int32)), .val (.int (0 : Int32)), .val (.ref b241), .val (.int (1 : Int32))] [(.int (1 : Int32))])) (fun _ k => XS.iload X269.here hx rfl (hb hby at_178) rfl k) ?_
          obtain ⟨fs, hr, hrun, hended, hW, hsame⟩ := X269.leave (v := some (.int (1 : Int32))) (fun h => by rw [Bd.returns] at h; cases h)
          refine ⟨_, _, ?_, hP _ _ hrun hended ⟨_, _, rfl, ?_, ⟨_, rfl⟩, hW, hsame.mono (by decide) (by decide)⟩⟩
          · exact retN X269 hx (t := .boolean) Bd.returns (by simp) (hb hby at_180) hr
          · show Qrm0 Z xa xb xc h0 n0 _ T269.heap _
            rw [eq269]
            exact ⟨rfl, N269, trivial⟩
      · --
        refine own_go (st' := T251.setTop (mkF m 64 #[.val (.int xa), .val (.int xb), .val (.int xc), .val (.int (2 : Int32)), .val (.int (0 : Int32)), .val (.ref b241), .unset] [])) (fun _ k => XS.ifNo X251.here hx rfl (hb hby at_61) rfl ((if0 _ _).trans (feq hc254).1) k) ?_
        refine own_go (st' := T251.setTop (mkF m 66 #[.val (.int xa), .val (.int xb), .val (.int xc), .val (.int (2 : Int32)), .val (.int (0 : Int32)), .val (.ref b241), .unset] [(.ref b241)])) (fun _ k => XS.aload X251.here hx rfl (hb hby at_64) rfl rfl k) ?_
        have c273 : Arv Z h251 rl_247 kl_247 (.object "java/lang/Object") (16 : Int32) [.null, .null, .null, .null, .null, .null, .null, .null, .null, .null, .null, .null, .null, .null, .null, .null] .null := (c252.keep K251 (ninS (by first | assumption | exact Ne.symm (by assumption) | (apply Nat.ne_of_lt; omega) | (apply Nat.ne_of_gt; omega)) (ninS (by first | assumption | exact Ne.symm (by assumption) | (apply Nat.ne_of_lt; omega) | (apply Nat.ne_of_gt; omega)) nin0)))
        obtain ⟨cq272, kq272, q272a, q272b, q272c⟩ := isOf hZ e251 g251_0
        obtain ⟨_, _, ⟨T272, LC272, kC272, nC272⟩, -, X272, ⟨Lc272, hQ272, lq272, yq272, zq272⟩, st272⟩ := X251.virtualBack hx (y := (⟨"com/example/greenwood/greenwood/Environment", "declare", "()V"⟩ : MethodName)) (z := (⟨"com/example/greenwood/greenwood/Environment", "declare", "()V"⟩ : MethodName)) hown (mvT hZ (hw _ (List.mem_of_getElem? (i := 61) rfl))) (mvT hZ (hw _ (List.mem_of_getElem? (i := 62) rfl))) (notFace_of_selects (args := #[]) (mvT hZ (hw _ (List.mem_of_getElem? (i := 64) rfl)))) (mvT hZ (hw _ (List.mem_of_getElem? (i := 64) rfl))) (mvT hZ (hw _ (List.mem_of_getElem? (i := 63) rfl))) (by decide) (backOf (W := 0) (rm10_2 l Z a0 hw [] b241 rl_247 rs_247 kl_247 ks_247 h251 n0 (by omega) g251_0 g251_1 g251_2 g251_3 g251_4 c273 g251_5 (by omega) (by omega) (by omega) (by first | assumption | exact Ne.symm (by assumption) | (apply Nat.ne_of_lt; omega) | (apply Nat.ne_of_gt; omega)) (by first | assumption | exact Ne.symm (by assumption) | (apply Nat.ne_of_lt; omega) | (apply Nat.ne_of_gt; omega)) (by first | assumption | exact Ne.symm (by assumption) | (apply Nat.ne_of_lt; omega) | (apply Nat.ne_of_gt; omega))) hZ (hw _ (List.mem_of_getElem? (i := 65) rfl)) (hw _ (List.mem_of_getElem? (i := 3) rfl)) (by decide) (by decide)) q272a q272c (g := (mkF m 66 #[.val (.int xa), .val (.int xb), .val (.int xc), .val (.int (2 : Int32)), .val (.int (0 : Int32)), .val (.ref b241), .unset] [(.ref b241)])) rfl (by rw [hml]; rfl) (Steps.refl _) (argsL := []) (rest := []) (lenOf pd_0 rfl) rfl (by show 2 * 0 + _ ≤ _; exact Nat.le_of_eq rfl) (hb hby at_66) (fun _ _ => ⟨rfl, e251, (by decide : 4 + 0 ≤ _), (by decide : 45 + 0 ≤ _)⟩)
        dsimp only [Pt.U, Pt.locs, Pt.cells, Pt.slots] at X272 lq272 yq272 zq272 st272 hQ272
        subst lq272 yq272 zq272
        obtain ⟨h272, e272⟩ : ∃ z, T272.heap = z := ⟨_, rfl⟩
        rw [e272] at hQ272
        obtain ⟨rfl, Nq272, K272, g272_0, g272_1, g272_2, g272_3, g272_4⟩ := hQ272
        have sz272 : h251.size ≤ h272.size := K272.1
        have N272 := Fr.app N251 Nq272
        have lt272_1 : @LT.lt Nat _ b241 h272.size := g272_0.lt
        refine own_go (st' := T272.setTop (mkF m 69 #[.val (.int xa), .val (.int xb), .val (.int xc), .val (.int (2 : Int32)), .val (.int (0 : Int32)), .val (.ref b241), .unset] [])) (fun _ k => st272.trans k) ?_
        refine own_go (st' := T272.setTop (mkF m 71 #[.val (.int xa), .val (.int xb), .val (.int xc), .val (.int (2 : Int32)), .val (.int (0 : Int32)), .val (.ref b241), .unset] [(.ref b241)])) (fun _ k => XS.aload X272.here hx rfl (hb hby at_69) rfl rfl k) ?_
        obtain ⟨cq274, kq274, q274a, q274b, q274c⟩ := isOf hZ e272 g272_0
        obtain ⟨_, _, ⟨T274, LC274, kC274, nC274⟩, -, X274, ⟨Lc274, hQ274, lq274, yq274, zq274⟩, st274⟩ := X272.virtualBack hx (y := (⟨"com/example/greenwood/greenwood/Environment", "inScope", "()Z"⟩ : MethodName)) (z := (⟨"com/example/greenwood/greenwood/Environment", "inScope", "()Z"⟩ : MethodName)) hown (mvT hZ (hw _ (List.mem_of_getElem? (i := 35) rfl))) (mvT hZ (hw _ (List.mem_of_getElem? (i := 36) rfl))) (notFace_of_selects (args := #[]) (mvT hZ (hw _ (List.mem_of_getElem? (i := 38) rfl)))) (mvT hZ (hw _ (List.mem_of_getElem? (i := 38) rfl))) (mvT hZ (hw _ (List.mem_of_getElem? (i := 37) rfl))) (by decide) (backOf (W := 0) (rm5_2 l Z a0 hw [] b241 h272 n0 (by omega) g272_1) hZ (hw _ (List.mem_of_getElem? (i := 39) rfl)) (hw _ (List.mem_of_getElem? (i := 3) rfl)) (by decide) (by decide)) q274a q274c (g := (mkF m 71 #[.val (.int xa), .val (.int xb), .val (.int xc), .val (.int (2 : Int32)), .val (.int (0 : Int32)), .val (.ref b241), .unset] [(.ref b241)])) rfl (by rw [hml]; rfl) (Steps.refl _) (argsL := []) (rest := []) (lenOf pd_3 rfl) rfl (by show 2 * 0 + _ ≤ _; exact Nat.le_of_eq rfl) (hb hby at_71) (fun _ _ => ⟨rfl, e272, (by decide : 4 + 0 ≤ _), (by decide : 45 + 0 ≤ _)⟩)
        dsimp only [Pt.U, Pt.locs, Pt.cells, Pt.slots] at X274 lq274 yq274 zq274 st274 hQ274
        subst lq274 yq274 zq274
        obtain ⟨rfl, Nq274, eq274⟩ := hQ274
        have N274 := Fr.app N272 Nq274
        refine own_go (st' := T274.setTop (mkF m 74 #[.val (.int xa), .val (.int xb), .val (.int xc), .val (.int (2 : Int32)), .val (.int (0 : Int32)), .val (.ref b241), .unset] [(.int (1 : Int32))])) (fun _ k => st274.trans k) ?_
        refine own_go (st' := T274.setTop (mkF m 75 #[.val (.int xa), .val (.int xb), .val (.int xc), .val (.int (2 : Int32)), .val (.int (0 : Int32)), .val (.ref b241), .unset] [(.int (2 : Int32)), (.int (1 : Int32))])) (fun _ k => XS.iloadN X274.here hx rfl (hb hby at_74) rfl k) ?_
        have hc275 : (0 : Int32) < (2 : Int32) := by decide
        refine own_go (st' := T274.setTop (mkF m 78 #[.val (.int xa), .val (.int xb), .val (.int xc), .val (.int (2 : Int32)), .val (.int (0 : Int32)), .val (.ref b241), .unset] [(.int (1 : Int32))])) (fun _ k => XS.ifNo X274.here hx rfl (hb hby at_75) rfl ((if0 _ _).trans (tlt hc275).2.2.2) k) ?_
        refine own_go (st' := T274.setTop (mkF m 79 #[.val (.int xa), .val (.int xb), .val (.int xc), .val (.int (2 : Int32)), .val (.int (0 : Int32)), .val (.ref b241), .unset] [(.int (1 : Int32)), (.int (1 : Int32))])) (fun _ k => XS.iconst X274.here hx rfl (hb hby at_78) k) ?_
        refine own_go (st' := T274.setTop (mkF m 83 #[.val (.int xa), .val (.int xb), .val (.int xc), .val (.int (2 : Int32)), .val (.int (0 : Int32)), .val (.ref b241), .unset] [(.int (1 : Int32)), (.int (1 : Int32))])) (fun _ k => XS.goto X274.here hx rfl (pc0 := 79) (pc' := 83) rfl (hb hby at_79) (by decide) (by decide) k) ?_
        have hc276 : (1 : Int32) = (1 : Int32) := by decide
        refine own_go (st' := T274.setTop (mkF m 86 #[.val (.int xa), .val (.int xb), .val (.int xc), .val (.int (2 : Int32)), .val (.int (0 : Int32)), .val (.ref b241), .unset] [])) (fun _ k => XS.icmpNo X274.here hx rfl (hb hby at_83) rfl (teq hc276).2 k) ?_
        refine own_go (st' := T274.setTop (mkF m 87 #[.val (.int xa), .val (.int xb), .val (.int xc), .val (.int (2 : Int32)), .val (.int (0 : Int32)), .val (.ref b241), .unset] [(.int (1 : Int32))])) (fun _ k => XS.iconst X274.here hx rfl (hb hby at_86) k) ?_
        refine own_go (st' := T274.setTop (mkF m 91 #[.val (.int xa), .val (.int xb), .val (.int xc), .val (.int (2 : Int32)), .val (.int (0 : Int32)), .val (.ref b241), .unset] [(.int (1 : Int32))])) (fun _ k => XS.goto X274.here hx rfl (pc0 := 87) (pc' := 91) rfl (hb hby at_87) (by decide) (by decide) k) ?_
        refine own_go (st' := T274.setTop (mkF m 93 #[.val (.int xa), .val (.int xb), .val (.int xc), .val (.int (2 : Int32)), .val (.int (0 : Int32)), .val (.ref b241), .val (.int (1 : Int32))] [])) (fun _ k => XS.istore X274.here hx rfl (hb hby at_91) rfl (l' := #[.val (.int xa), .val (.int xb), .val (.int xc), .val (.int (2 : Int32)), .val (.int (0 : Int32)), .val (.ref b241), .val (.int (1 : Int32))]) rfl k) ?_
        refine own_go (st' := T274.setTop (mkF m 95 #[.val (.int xa), .val (.int xb), .val (.int xc), .val (.int (2 : Int32)), .val (.int (0 : Int32)), .val (.ref b241), .val (.int (1 : Int32))] [(.int (0 : Int32))])) (fun _ k => XS.iload X274.here hx rfl (hb hby at_93) rfl k) ?_
        refine own_go (st' := T274.setTop (mkF m 96 #[.val (.int xa), .val (.int xb), .val (.int xc), .val (.int (2 : Int32)), .val (.int (0 : Int32)), .val (.ref b241), .val (.int (1 : Int32))] [(.int (1 : Int32)), (.int (0 : Int32))])) (fun _ k => XS.iconst X274.here hx rfl (hb hby at_95) k) ?_
        have hc277 : (0 : Int32) < (1 : Int32) := by decide
        refine own_go (st' := T274.setTop (mkF m 104 #[.val (.int xa), .val (.int xb), .val (.int xc), .val (.int (2 : Int32)), .val (.int (0 : Int32)), .val (.ref b241), .val (.int (1 : Int32))] [])) (fun _ k => XS.icmpYes X274.here hx rfl (pc0 := 96) (pc' := 104) rfl (hb hby at_96) rfl (tlt hc277).1 (by decide) (by decide) k) ?_
        refine own_go (st' := T274.setTop (mkF m 106 #[.val (.int xa), .val (.int xb), .val (.int xc), .val (.int (2 : Int32)), .val (.int (0 : Int32)), .val (.ref b241), .val (.int (1 : Int32))] [(.int (0 : Int32))])) (fun _ k => XS.iload X274.here hx rfl (hb hby at_104) rfl k) ?_
        refine own_go (st' := T274.setTop (mkF m 107 #[.val (.int xa), .val (.int xb), .val (.int xc), .val (.int (2 : Int32)), .val (.int (0 : Int32)), .val (.ref b241), .val (.int (1 : Int32))] [(.int (2 : Int32)), (.int (0 : Int32))])) (fun _ k => XS.iconst X274.here hx rfl (hb hby at_106) k) ?_
        have hc278 : (0 : Int32) < (2 : Int32) := by decide
        refine own_go (st' := T274.setTop (mkF m 115 #[.val (.int xa), .val (.int xb), .val (.int xc), .val (.int (2 : Int32)), .val (.int (0 : Int32)), .val (.ref b241), .val (.int (1 : Int32))] [])) (fun _ k => XS.icmpYes X274.here hx rfl (pc0 := 107) (pc' := 115) rfl (hb hby at_107) rfl (tlt hc278).1 (by decide) (by decide) k) ?_
        refine own_go (st' := T274.setTop (mkF m 117 #[.val (.int xa), .val (.int xb), .val (.int xc), .val (.int (2 : Int32)), .val (.int (0 : Int32)), .val (.ref b241), .val (.int (1 : Int32))] [(.int (1 : Int32))])) (fun _ k => XS.iload X274.here hx rfl (hb hby at_115) rfl k) ?_
        have hc279 : ¬ ((1 : Int32) = (0 : Int32)) := by decide
        refine own_go (st' := T274.setTop (mkF m 120 #[.val (.int xa), .val (.int xb), .val (.int xc), .val (.int (2 : Int32)), .val (.int (0 : Int32)), .val (.ref b241), .val (.int (1 : Int32))] [])) (fun _ k => XS.ifNo X274.here hx rfl (hb hby at_117) rfl ((if0 _ _).trans (feq hc279).1) k) ?_
        refine own_go (st' := T274.setTop (mkF m 122 #[.val (.int xa), .val (.int xb), .val (.int xc), .val (.int (2 : Int32)), .val (.int (0 : Int32)), .val (.ref b241), .val (.int (1 : Int32))] [(.ref b241)])) (fun _ k => XS.aload X274.here hx rfl (hb hby at_120) rfl rfl k) ?_
        obtain ⟨cq280, kq280, q280a, q280b, q280c⟩ := isOf hZ eq274 g272_0
        obtain ⟨_, _, ⟨T280, LC280, kC280, nC280⟩, -, X280, ⟨Lc280, hQ280, lq280, yq280, zq280⟩, st280⟩ := X274.virtualBack hx (y := (⟨"com/example/greenwood/greenwood/Environment", "inScope", "()Z"⟩ : MethodName)) (z := (⟨"com/example/greenwood/greenwood/Environment", "inScope", "()Z"⟩ : MethodName)) hown (mvT hZ (hw _ (List.mem_of_getElem? (i := 35) rfl))) (mvT hZ (hw _ (List.mem_of_getElem? (i := 36) rfl))) (notFace_of_selects (args := #[]) (mvT hZ (hw _ (List.mem_of_getElem? (i := 38) rfl)))) (mvT hZ (hw _ (List.mem_of_getElem? (i := 38) rfl))) (mvT hZ (hw _ (List.mem_of_getElem? (i := 37) rfl))) (by decide) (backOf (W := 0) (rm5_2 l Z a0 hw [] b241 h272 n0 (by omega) g272_1) hZ (hw _ (List.mem_of_getElem? (i := 39) rfl)) (hw _ (List.mem_of_getElem? (i := 3) rfl)) (by decide) (by decide)) q280a q280c (g := (mkF m 122 #[.val (.int xa), .val (.int xb), .val (.int xc), .val (.int (2 : Int32)), .val (.int (0 : Int32)), .val (.ref b241), .val (.int (1 : Int32))] [(.ref b241)])) rfl (by rw [hml]; rfl) (Steps.refl _) (argsL := []) (rest := []) (lenOf pd_3 rfl) rfl (by show 2 * 0 + _ ≤ _; exact Nat.le_of_eq rfl) (hb hby at_122) (fun _ _ => ⟨rfl, eq274, (by decide : 4 + 0 ≤ _), (by decide : 45 + 0 ≤ _)⟩)
        dsimp only [Pt.U, Pt.locs, Pt.cells, Pt.slots] at X280 lq280 yq280 zq280 st280 hQ280
        subst lq280 yq280 zq280
        obtain ⟨rfl, Nq280, eq280⟩ := hQ280
        have N280 := Fr.app N274 Nq280
        refine own_go (st' := T280.setTop (mkF m 125 #[.val (.int xa), .val (.int xb), .val (.int xc), .val (.int (2 : Int32)), .val (.int (0 : Int32)), .val (.ref b241), .val (.int (1 : Int32))] [(.int (1 : Int32))])) (fun _ k => st280.trans k) ?_
        refine own_go (st' := T280.setTop (mkF m 126 #[.val (.int xa), .val (.int xb), .val (.int xc), .val (.int (2 : Int32)), .val (.int (0 : Int32)), .val (.ref b241), .val (.int (1 : Int32))] [(.int (2 : Int32)), (.int (1 : Int32))])) (fun _ k => XS.iloadN X280.here hx rfl (hb hby at_125) rfl k) ?_
        refine own_go (st' := T280.setTop (mkF m 128 #[.val (.int xa), .val (.int xb), .val (.int xc), .val (.int (2 : Int32)), .val (.int (0 : Int32)), .val (.ref b241), .val (.int (1 : Int32))] [(.int (0 : Int32)), (.int (2 : Int32)), (.int (1 : Int32))])) (fun _ k => XS.iload X280.here hx rfl (hb hby at_126) rfl k) ?_
        refine own_go (st' := T280.setTop (mkF m 129 #[.val (.int xa), .val (.int xb), .val (.int xc), .val (.int (2 : Int32)), .val (.int (0 : Int32)), .val (.ref b241), .val (.int (1 : Int32))] [(.int (2 : Int32)), (.int (1 : Int32))])) (fun _ k => XS.isub X280.here hx rfl (hb hby at_128) rfl (by rw [show ((2 : Int32) - (0 : Int32)) = (2 : Int32) by decide]; exact k)) ?_
        have hc281 : (0 : Int32) < (2 : Int32) := by decide
        refine own_go (st' := T280.setTop (mkF m 132 #[.val (.int xa), .val (.int xb), .val (.int xc), .val (.int (2 : Int32)), .val (.int (0 : Int32)), .val (.ref b241), .val (.int (1 : Int32))] [(.int (1 : Int32))])) (fun _ k => XS.ifNo X280.here hx rfl (hb hby at_129) rfl ((if0 _ _).trans (tlt hc281).2.2.2) k) ?_
        refine own_go (st' := T280.setTop (mkF m 133 #[.val (.int xa), .val (.int xb), .val (.int xc), .val (.int (2 : Int32)), .val (.int (0 : Int32)), .val (.ref b241), .val (.int (1 : Int32))] [(.int (1 : Int32)), (.int (1 : Int32))])) (fun _ k => XS.iconst X280.here hx rfl (hb hby at_132) k) ?_
        refine own_go (st' := T280.setTop (mkF m 137 #[.val (.int xa), .val (.int xb), .val (.int xc), .val (.int (2 : Int32)), .val (.int (0 : Int32)), .val (.ref b241), .val (.int (1 : Int32))] [(.int (1 : Int32)), (.int (1 : Int32))])) (fun _ k => XS.goto X280.here hx rfl (pc0 := 133) (pc' := 137) rfl (hb hby at_133) (by decide) (by decide) k) ?_
        have hc282 : (1 : Int32) = (1 : Int32) := by decide
        refine own_go (st' := T280.setTop (mkF m 140 #[.val (.int xa), .val (.int xb), .val (.int xc), .val (.int (2 : Int32)), .val (.int (0 : Int32)), .val (.ref b241), .val (.int (1 : Int32))] [])) (fun _ k => XS.icmpNo X280.here hx rfl (hb hby at_137) rfl (teq hc282).2 k) ?_
        refine own_go (st' := T280.setTop (mkF m 141 #[.val (.int xa), .val (.int xb), .val (.int xc), .val (.int (2 : Int32)), .val (.int (0 : Int32)), .val (.ref b241), .val (.int (1 : Int32))] [(.int (1 : Int32))])) (fun _ k => XS.iconst X280.here hx rfl (hb hby at_140) k) ?_
        refine own_go (st' := T280.setTop (mkF m 145 #[.val (.int xa), .val (.int xb), .val (.int xc), .val (.int (2 : Int32)), .val (.int (0 : Int32)), .val (.ref b241), .val (.int (1 : Int32))] [(.int (1 : Int32))])) (fun _ k => XS.goto X280.here hx rfl (pc0 := 141) (pc' := 145) rfl (hb hby at_141) (by decide) (by decide) k) ?_
        refine own_go (st' := T280.setTop (mkF m 147 #[.val (.int xa), .val (.int xb), .val (.int xc), .val (.int (2 : Int32)), .val (.int (0 : Int32)), .val (.ref b241), .val (.int (1 : Int32))] [])) (fun _ k => XS.istore X280.here hx rfl (hb hby at_145) rfl (l' := #[.val (.int xa), .val (.int xb), .val (.int xc), .val (.int (2 : Int32)), .val (.int (0 : Int32)), .val (.ref b241), .val (.int (1 : Int32))]) rfl k) ?_
        refine own_go (st' := T280.setTop (mkF m 148 #[.val (.int xa), .val (.int xb), .val (.int xc), .val (.int (2 : Int32)), .val (.int (0 : Int32)), .val (.ref b241), .val (.int (1 : Int32))] [(.int xc)])) (fun _ k => XS.iloadN X280.here hx rfl (hb hby at_147) rfl k) ?_
        refine own_go (st' := T280.setTop (mkF m 149 #[.val (.int xa), .val (.int xb), .val (.int xc), .val (.int (2 : Int32)), .val (.int (0 : Int32)), .val (.ref b241), .val (.int (1 : Int32))] [(.int (2 : Int32)), (.int xc)])) (fun _ k => XS.iconst X280.here hx rfl (hb hby at_148) k) ?_
        refine own_go (st' := T280.setTop (mkF m 150 #[.val (.int xa), .val (.int xb), .val (.int xc), .val (.int (2 : Int32)), .val (.int (0 : Int32)), .val (.ref b241), .val (.int (1 : Int32))] [(.int (xc &&& (2 : Int32)))])) (fun _ k => XS.iand X280.here hx rfl (hb hby at_149) rfl k) ?_
        by_cases hc283 : (xc &&& (2 : Int32)) = (0 : Int32)
        · --
          refine own_go (st' := T280.setTop (mkF m 178 #[.val (.int xa), .val (.int xb), .val (.int xc), .val (.int (2 : Int32)), .val (.int (0 : Int32)), .val (.ref b241), .val (.int (1 : Int32))] [])) (fun _ k => XS.ifYes X280.here hx rfl (pc0 := 150) (pc' := 178) rfl (hb hby at_150) rfl ((if0 _ _).trans (teq hc283).1) (by decide) (by decide) k) ?_
          refine own_go (st' := T280.setTop (mkF m 180 #[.val (.int xa), .val (.int xb), .val (.int xc), .val (.int (2 : Int32)), .val (.int (0 : Int32)), .val (.ref b241), .val (.int (1 : Int32))] [(.int (1 : Int32))])) (fun _ k => XS.iload X280.here hx rfl (hb hby at_178) rfl k) ?_
          obtain ⟨fs, hr, hrun, hended, hW, hsame⟩ := X280.leave (v := some (.int (1 : Int32))) (fun h => by rw [Bd.returns] at h; cases h)
          refine ⟨_, _, ?_, hP _ _ hrun hended ⟨_, _, rfl, ?_, ⟨_, rfl⟩, hW, hsame.mono (by decide) (by decide)⟩⟩
          · exact retN X280 hx (t := .boolean) Bd.returns (by simp) (hb hby at_180) hr
          · show Qrm0 Z xa xb xc h0 n0 _ T280.heap _
            rw [eq280]
            exact ⟨rfl, N280, trivial⟩
        · --
          refine own_go (st' := T280.setTop (mkF m 153 #[.val (.int xa), .val (.int xb), .val (.int xc), .val (.int (2 : Int32)), .val (.int (0 : Int32)), .val (.ref b241), .val (.int (1 : Int32))] [])) (fun _ k => XS.ifNo X280.here hx rfl (hb hby at_150) rfl ((if0 _ _).trans (feq hc283).1) k) ?_
          refine own_go (st' := T280.setTop (mkF m 155 #[.val (.int xa), .val (.int xb), .val (.int xc), .val (.int (2 : Int32)), .val (.int (0 : Int32)), .val (.ref b241), .val (.int (1 : Int32))] [(.ref b241)])) (fun _ k => XS.aload X280.here hx rfl (hb hby at_153) rfl rfl k) ?_
          have c286 : Arv Z h272 rl_247 kl_247 (.object "java/lang/Object") (16 : Int32) [.null, .null, .null, .null, .null, .null, .null, .null, .null, .null, .null, .null, .null, .null, .null, .null] .null := (c273.keep K272 (ninS (by first | assumption | exact Ne.symm (by assumption) | (apply Nat.ne_of_lt; omega) | (apply Nat.ne_of_gt; omega)) nin0))
          have c287 : Arv Z h272 rs_247 ks_247 .int (16 : Int32) [(.int (0 : Int32)), (.int (0 : Int32)), (.int (0 : Int32)), (.int (0 : Int32)), (.int (0 : Int32)), (.int (0 : Int32)), (.int (0 : Int32)), (.int (0 : Int32)), (.int (0 : Int32)), (.int (0 : Int32)), (.int (0 : Int32)), (.int (0 : Int32)), (.int (0 : Int32)), (.int (0 : Int32)), (.int (0 : Int32)), (.int (0 : Int32))] (.int (0 : Int32)) := (g251_5.keep K272 (ninS (by first | assumption | exact Ne.symm (by assumption) | (apply Nat.ne_of_lt; omega) | (apply Nat.ne_of_gt; omega)) nin0))
          obtain ⟨cq285, kq285, q285a, q285b, q285c⟩ := isOf hZ eq280 g272_0
          obtain ⟨_, _, ⟨T285, LC285, kC285, nC285⟩, -, X285, ⟨Lc285, hQ285, lq285, yq285, zq285⟩, st285⟩ := X280.virtualBack hx (y := (⟨"com/example/greenwood/greenwood/Environment", "closeScopes", "()V"⟩ : MethodName)) (z := (⟨"com/example/greenwood/greenwood/Environment", "closeScopes", "()V"⟩ : MethodName)) hown (mvT hZ (hw _ (List.mem_of_getElem? (i := 42) rfl))) (mvT hZ (hw _ (List.mem_of_getElem? (i := 43) rfl))) (notFace_of_selects (args := #[]) (mvT hZ (hw _ (List.mem_of_getElem? (i := 45) rfl)))) (mvT hZ (hw _ (List.mem_of_getElem? (i := 45) rfl))) (mvT hZ (hw _ (List.mem_of_getElem? (i := 44) rfl))) (by decide) (backOf (W := 0) (rm6_1 l Z a0 hw [] b241 (2 : Int32) rl_247 rs_247 kl_247 ks_247 h272 n0 (by omega) g272_0 g272_1 g272_2 g272_3 g272_4 c286 c287 (by omega) (by omega) (by omega) (by first | assumption | exact Ne.symm (by assumption) | (apply Nat.ne_of_lt; omega) | (apply Nat.ne_of_gt; omega)) (by first | assumption | exact Ne.symm (by assumption) | (apply Nat.ne_of_lt; omega) | (apply Nat.ne_of_gt; omega)) (by first | assumption | exact Ne.symm (by assumption) | (apply Nat.ne_of_lt; omega) | (apply Nat.ne_of_gt; omega))) hZ (hw _ (List.mem_of_getElem? (i := 46) rfl)) (hw _ (List.mem_of_getElem? (i := 3) rfl)) (by decide) (by decide)) q285a q285c (g := (mkF m 155 #[.val (.int xa), .val (.int xb), .val (.int xc), .val (.int (2 : Int32)), .val (.int (0 : Int32)), .val (.ref b241), .val (.int (1 : Int32))] [(.ref b241)])) rfl (by rw [hml]; rfl) (Steps.refl _) (argsL := []) (rest := []) (lenOf pd_0 rfl) rfl (by show 2 * 0 + _ ≤ _; exact Nat.le_of_eq rfl) (hb hby at_155) (fun _ _ => ⟨rfl, eq280, (by decide : 4 + 0 ≤ _), (by decide : 45 + 0 ≤ _)⟩)
          dsimp only [Pt.U, Pt.locs, Pt.cells, Pt.slots] at X285 lq285 yq285 zq285 st285 hQ285
          subst lq285 yq285 zq285
          obtain ⟨h285, e285⟩ : ∃ z, T285.heap = z := ⟨_, rfl⟩
          rw [e285] at hQ285
          obtain ⟨rfl, Nq285, K285, g285_0, g285_1, g285_2, g285_3, g285_4, g285_5⟩ := hQ285
          have sz285 : h272.size ≤ h285.size := K285.1
          have N285 := Fr.app N280 Nq285
          have lt285_1 : @LT.lt Nat _ b241 h285.size := g285_0.lt
          have lt285_2 : @LT.lt Nat _ rl_247 h285.size := g285_5.lt
          refine own_go (st' := T285.setTop (mkF m 158 #[.val (.int xa), .val (.int xb), .val (.int xc), .val (.int (2 : Int32)), .val (.int (0 : Int32)), .val (.ref b241), .val (.int (1 : Int32))] [])) (fun _ k => st285.trans k) ?_
          refine own_go (st' := T285.setTop (mkF m 160 #[.val (.int xa), .val (.int xb), .val (.int xc), .val (.int (2 : Int32)), .val (.int (0 : Int32)), .val (.ref b241), .val (.int (1 : Int32))] [(.int (1 : Int32))])) (fun _ k => XS.iload X285.here hx rfl (hb hby at_158) rfl k) ?_
          have hc288 : ¬ ((1 : Int32) = (0 : Int32)) := by decide
          refine own_go (st' := T285.setTop (mkF m 163 #[.val (.int xa), .val (.int xb), .val (.int xc), .val (.int (2 : Int32)), .val (.int (0 : Int32)), .val (.ref b241), .val (.int (1 : Int32))] [])) (fun _ k => XS.ifNo X285.here hx rfl (hb hby at_160) rfl ((if0 _ _).trans (feq hc288).1) k) ?_
          refine own_go (st' := T285.setTop (mkF m 165 #[.val (.int xa), .val (.int xb), .val (.int xc), .val (.int (2 : Int32)), .val (.int (0 : Int32)), .val (.ref b241), .val (.int (1 : Int32))] [(.ref b241)])) (fun _ k => XS.aload X285.here hx rfl (hb hby at_163) rfl rfl k) ?_
          obtain ⟨cq289, kq289, q289a, q289b, q289c⟩ := isOf hZ e285 g285_0
          obtain ⟨_, _, ⟨T289, LC289, kC289, nC289⟩, -, X289, ⟨Lc289, hQ289, lq289, yq289, zq289⟩, st289⟩ := X285.virtualBack hx (y := (⟨"com/example/greenwood/greenwood/Environment", "inScope", "()Z"⟩ : MethodName)) (z := (⟨"com/example/greenwood/greenwood/Environment", "inScope", "()Z"⟩ : MethodName)) hown (mvT hZ (hw _ (List.mem_of_getElem? (i := 35) rfl))) (mvT hZ (hw _ (List.mem_of_getElem? (i := 36) rfl))) (notFace_of_selects (args := #[]) (mvT hZ (hw _ (List.mem_of_getElem? (i := 38) rfl)))) (mvT hZ (hw _ (List.mem_of_getElem? (i := 38) rfl))) (mvT hZ (hw _ (List.mem_of_getElem? (i := 37) rfl))) (by decide) (backOf (W := 0) (rm5_0 l Z a0 hw [] b241 h285 n0 (by omega) g285_1) hZ (hw _ (List.mem_of_getElem? (i := 39) rfl)) (hw _ (List.mem_of_getElem? (i := 3) rfl)) (by decide) (by decide)) q289a q289c (g := (mkF m 165 #[.val (.int xa), .val (.int xb), .val (.int xc), .val (.int (2 : Int32)), .val (.int (0 : Int32)), .val (.ref b241), .val (.int (1 : Int32))] [(.ref b241)])) rfl (by rw [hml]; rfl) (Steps.refl _) (argsL := []) (rest := []) (lenOf pd_3 rfl) rfl (by show 2 * 0 + _ ≤ _; exact Nat.le_of_eq rfl) (hb hby at_165) (fun _ _ => ⟨rfl, e285, (by decide : 4 + 0 ≤ _), (by decide : 45 + 0 ≤ _)⟩)
          dsimp only [Pt.U, Pt.locs, Pt.cells, Pt.slots] at X289 lq289 yq289 zq289 st289 hQ289
          subst lq289 yq289 zq289
          obtain ⟨rfl, Nq289, eq289⟩ := hQ289
          have N289 := Fr.app N285 Nq289
          refine own_go (st' := T289.setTop (mkF m 168 #[.val (.int xa), .val (.int xb), .val (.int xc), .val (.int (2 : Int32)), .val (.int (0 : Int32)), .val (.ref b241), .val (.int (1 : Int32))] [(.int (0 : Int32))])) (fun _ k => st289.trans k) ?_
          have hc290 : (0 : Int32) = (0 : Int32) := by decide
          refine own_go (st' := T289.setTop (mkF m 171 #[.val (.int xa), .val (.int xb), .val (.int xc), .val (.int (2 : Int32)), .val (.int (0 : Int32)), .val (.ref b241), .val (.int (1 : Int32))] [])) (fun _ k => XS.ifNo X289.here hx rfl (hb hby at_168) rfl ((if0 _ _).trans (teq hc290).2) k) ?_
          refine own_go (st' := T289.setTop (mkF m 172 #[.val (.int xa), .val (.int xb), .val (.int xc), .val (.int (2 : Int32)), .val (.int (0 : Int32)), .val (.ref b241), .val (.int (1 : Int32))] [(.int (1 : Int32))])) (fun _ k => XS.iconst X289.here hx rfl (hb hby at_171) k) ?_
          refine own_go (st' := T289.setTop (mkF m 176 #[.val (.int xa), .val (.int xb), .val (.int xc), .val (.int (2 : Int32)), .val (.int (0 : Int32)), .val (.ref b241), .val (.int (1 : Int32))] [(.int (1 : Int32))])) (fun _ k => XS.goto X289.here hx rfl (pc0 := 172) (pc' := 176) rfl (hb hby at_172) (by decide) (by decide) k) ?_
          refine own_go (st' := T289.setTop (mkF m 178 #[.val (.int xa), .val (.int xb), .val (.int xc), .val (.int (2 : Int32)), .val (.int (0 : Int32)), .val (.ref b241), .val (.int (1 : Int32))] [])) (fun _ k => XS.istore X289.here hx rfl (hb hby at_176) rfl (l' := #[.val (.int xa), .val (.int xb), .val (.int xc), .val (.int (2 : Int32)), .val (.int (0 : Int32)), .val (.ref b241), .val (.int (1 : Int32))]) rfl k) ?_
          refine own_go (st' := T289.setTop (mkF m 180 #[.val (.int xa), .val (.int xb), .val (.int xc), .val (.int (2 : Int32)), .val (.int (0 : Int32)), .val (.ref b241), .val (.int (1 : Int32))] [(.int (1 : Int32))])) (fun _ k => XS.iload X289.here hx rfl (hb hby at_178) rfl k) ?_
          obtain ⟨fs, hr, hrun, hended, hW, hsame⟩ := X289.leave (v := some (.int (1 : Int32))) (fun h => by rw [Bd.returns] at h; cases h)
          refine ⟨_, _, ?_, hP _ _ hrun hended ⟨_, _, rfl, ?_, ⟨_, rfl⟩, hW, hsame.mono (by decide) (by decide)⟩⟩
          · exact retN X289 hx (t := .boolean) Bd.returns (by simp) (hb hby at_180) hr
          · show Qrm0 Z xa xb xc h0 n0 _ T289.heap _
            rw [eq289]
            exact ⟨rfl, N289, trivial⟩
    · --
      rw [hm_13]
      refine own_go (st' := s₁.setTop (mkF m 15 #[.val (.int xa), .val (.int xb), .val (.int xc), .val (.int (2 : Int32)), .val (.int (1 : Int32)), .unset, .unset] [])) (fun _ k => XS.istore X0.here hx rfl (hb hby at_13) rfl (l' := #[.val (.int xa), .val (.int xb), .val (.int xc), .val (.int (2 : Int32)), .val (.int (1 : Int32)), .unset, .unset]) rfl k) ?_
      refine own_go (st' := s₁.setTop (mkF m 17 #[.val (.int xa), .val (.int xb), .val (.int xc), .val (.int (2 : Int32)), .val (.int (1 : Int32)), .unset, .unset] [(.int (1 : Int32))])) (fun _ k => XS.iload X0.here hx rfl (hb hby at_15) rfl k) ?_
      refine own_go (st' := s₁.setTop (mkF m 18 #[.val (.int xa), .val (.int xb), .val (.int xc), .val (.int (2 : Int32)), .val (.int (1 : Int32)), .unset, .unset] [(.int (2 : Int32)), (.int (1 : Int32))])) (fun _ k => XS.iloadN X0.here hx rfl (hb hby at_17) rfl k) ?_
      have hc292 : ¬ ((2 : Int32) < (1 : Int32)) := by decide
      refine own_go (st' := s₁.setTop (mkF m 24 #[.val (.int xa), .val (.int xb), .val (.int xc), .val (.int (2 : Int32)), .val (.int (1 : Int32)), .unset, .unset] [])) (fun _ k => XS.icmpYes X0.here hx rfl (pc0 := 18) (pc' := 24) rfl (hb hby at_18) rfl (flt hc292).2.2.2 (by decide) (by decide) k) ?_
      obtain ⟨T293, h293, X293, e293, E293, A293, D293, -, st293⟩ := newO X0 hx hZ hown (hw _ (List.mem_of_getElem? (i := 1) rfl)) (hw _ (List.mem_of_getElem? (i := 2) rfl)) (hw _ (List.mem_of_getElem? (i := 3) rfl)) e0 (g := (mkF m 24 #[.val (.int xa), .val (.int xb), .val (.int xc), .val (.int (2 : Int32)), .val (.int (1 : Int32)), .unset, .unset] [])) rfl (hb hby at_24) (by decide) (by decide)
      obtain ⟨b293, g293⟩ : ∃ z, z = h0.size := ⟨_, rfl⟩
      rw [← g293] at A293 D293 st293
      have sz293 : h0.size ≤ h293.size := E293.1
      have lt293 : @LT.lt Nat _ b293 h293.size := A293.lt
      have f294 : Fld Z h293 b293 "com/example/greenwood/greenwood/Environment" "globals" "Ljava/util/Map;" .null := D293 (Or.inr (hw _ (List.mem_of_getElem? (i := 27) rfl))) (ty := (.object "java/util/Map")) (by decide)
      have f295 : Fld Z h293 b293 "com/example/greenwood/greenwood/Environment" "locals" "[Ljava/lang/Object;" .null := D293 (Or.inl (hw _ (List.mem_of_getElem? (i := 31) rfl))) (ty := (.array (.object "java/lang/Object"))) (by decide)
      have f296 : Fld Z h293 b293 "com/example/greenwood/greenwood/Environment" "scopeStarts" "[I" .null := D293 (Or.inl (hw _ (List.mem_of_getElem? (i := 34) rfl))) (ty := (.array .int)) (by decide)
      have f297 : Fld Z h293 b293 "com/example/greenwood/greenwood/Environment" "openScopes" "I" (.int (0 : Int32)) := D293 (Or.inl (hw _ (List.mem_of_getElem? (i := 41) rfl))) (ty := .int) (by decide)
      have f298 : Fld Z h293 b293 "com/example/greenwood/greenwood/Environment" "localCount" "I" (.int (0 : Int32)) := D293 (Or.inl (hw _ (List.mem_of_getElem? (i := 48) rfl))) (ty := .int) (by decide)
      refine own_go (st' := T293.setTop (mkF m 27 #[.val (.int xa), .val (.int xb), .val (.int xc), .val (.int (2 : Int32)), .val (.int (1 : Int32)), .unset, .unset] [(.ref b293)])) (st293) ?_
      refine own_go (st' := T293.setTop (mkF m 28 #[.val (.int xa), .val (.int xb), .val (.int xc), .val (.int (2 : Int32)), .val (.int (1 : Int32)), .unset, .unset] [(.ref b293), (.ref b293)])) (fun _ k => XS.dup X293.here hx rfl (hb hby at_27) rfl rfl k) ?_
      obtain ⟨_, _, ⟨T299, LC299, kC299, nC299⟩, -, X299, ⟨Lc299, hQ299, lq299, yq299, zq299⟩, st299⟩ := X293.specialBack hx (y := (⟨"com/example/greenwood/greenwood/Environment", "<init>", "()V"⟩ : MethodName)) rfl hown (mvT hZ (hw _ (List.mem_of_getElem? (i := 4) rfl))) (mvT hZ (hw _ (List.mem_of_getElem? (i := 5) rfl))) (mvT hZ (hw _ (List.mem_of_getElem? (i := 6) rfl))) (by decide) (backOf (W := 1) (rm1 l Z a0 hw [] b293 h293 n0 (by omega) A293 f294 f295 f296 f297 f298 (by omega)) hZ (hw _ (List.mem_of_getElem? (i := 6) rfl)) (hw _ (List.mem_of_getElem? (i := 3) rfl)) (by decide) (by decide)) (g := (mkF m 28 #[.val (.int xa), .val (.int xb), .val (.int xc), .val (.int (2 : Int32)), .val (.int (1 : Int32)), .unset, .unset] [(.ref b293), (.ref b293)])) rfl (by rw [hml]; rfl) (Steps.refl _) (a := b293) (argsL := []) (rest := [(.ref b293)]) (lenOf pd_0 rfl) rfl (by show 2 * 0 + _ ≤ _; exact Nat.le_of_eq rfl) (hb hby at_28) (fun _ _ => ⟨rfl, e293, (by decide : 1 + 3 ≤ _), (by decide : 5 + 40 ≤ _)⟩)
      dsimp only [Pt.U, Pt.locs, Pt.cells, Pt.slots] at X299 lq299 yq299 zq299 st299 hQ299
      subst lq299 yq299 zq299
      obtain ⟨h299, e299⟩ : ∃ z, T299.heap = z := ⟨_, rfl⟩
      rw [e299] at hQ299
      obtain ⟨rl_299, rs_299, kl_299, ks_299, rfl, Nq299, K299, g299_0, g299_1, g299_2, g299_3, g299_4, g299_5, g299_6, g299_7, g299_8, g299_9, g299_10⟩ := hQ299
      have sz299 : h293.size ≤ h299.size := K299.1
      have N299 := Fr.app N0 Nq299
      have lt299_1 : @LT.lt Nat _ b293 h299.size := g299_0.lt
      have lt299_2 : @LT.lt Nat _ rl_299 h299.size := g299_5.lt
      have lt299_3 : @LT.lt Nat _ rs_299 h299.size := g299_6.lt
      refine own_go (st' := T299.setTop (mkF m 31 #[.val (.int xa), .val (.int xb), .val (.int xc), .val (.int (2 : Int32)), .val (.int (1 : Int32)), .unset, .unset] [(.ref b293)])) (fun _ k => st299.trans k) ?_
      refine own_go (st' := T299.setTop (mkF m 33 #[.val (.int xa), .val (.int xb), .val (.int xc), .val (.int (2 : Int32)), .val (.int (1 : Int32)), .val (.ref b293), .unset] [])) (fun _ k => XS.astore X299.here hx rfl (hb hby at_31) rfl rfl (l' := #[.val (.int xa), .val (.int xb), .val (.int xc), .val (.int (2 : Int32)), .val (.int (1 : Int32)), .val (.ref b293), .unset]) rfl k) ?_
      refine own_go (st' := T299.setTop (mkF m 34 #[.val (.int xa), .val (.int xb), .val (.int xc), .val (.int (2 : Int32)), .val (.int (1 : Int32)), .val (.ref b293), .unset] [(.int (2 : Int32))])) (fun _ k => XS.iloadN X299.here hx rfl (hb hby at_33) rfl k) ?_
      refine own_go (st' := T299.setTop (mkF m 35 #[.val (.int xa), .val (.int xb), .val (.int xc), .val (.int (2 : Int32)), .val (.int (1 : Int32)), .val (.ref b293), .unset] [(.int (1 : Int32)), (.int (2 : Int32))])) (fun _ k => XS.iconst X299.here hx rfl (hb hby at_34) k) ?_
      have hc300 : ¬ ((2 : Int32) < (1 : Int32)) := by decide
      refine own_go (st' := T299.setTop (mkF m 38 #[.val (.int xa), .val (.int xb), .val (.int xc), .val (.int (2 : Int32)), .val (.int (1 : Int32)), .val (.ref b293), .unset] [])) (fun _ k => XS.icmpNo X299.here hx rfl (hb hby at_35) rfl (flt hc300).1 k) ?_
      refine own_go (st' := T299.setTop (mkF m 40 #[.val (.int xa), .val (.int xb), .val (.int xc), .val (.int (2 : Int32)), .val (.int (1 : Int32)), .val (.ref b293), .unset] [(.ref b293)])) (fun _ k => XS.aload X299.here hx rfl (hb hby at_38) rfl rfl k) ?_
      obtain ⟨cq301, kq301, q301a, q301b, q301c⟩ := isOf hZ e299 g299_0
      obtain ⟨_, _, ⟨T301, LC301, kC301, nC301⟩, -, X301, ⟨Lc301, hQ301, lq301, yq301, zq301⟩, st301⟩ := X299.virtualBack hx (y := (⟨"com/example/greenwood/greenwood/Environment", "openScope", "()V"⟩ : MethodName)) (z := (⟨"com/example/greenwood/greenwood/Environment", "openScope", "()V"⟩ : MethodName)) hown (mvT hZ (hw _ (List.mem_of_getElem? (i := 56) rfl))) (mvT hZ (hw _ (List.mem_of_getElem? (i := 57) rfl))) (notFace_of_selects (args := #[]) (mvT hZ (hw _ (List.mem_of_getElem? (i := 59) rfl)))) (mvT hZ (hw _ (List.mem_of_getElem? (i := 59) rfl))) (mvT hZ (hw _ (List.mem_of_getElem? (i := 58) rfl))) (by decide) (backOf (W := 0) (rm9_0 l Z a0 hw [] b293 rl_299 rs_299 kl_299 ks_299 h299 n0 (by omega) g299_0 g299_1 g299_2 g299_3 g299_4 g299_5 g299_6 (by omega) (by omega) (by omega) (by first | assumption | exact Ne.symm (by assumption) | (apply Nat.ne_of_lt; omega) | (apply Nat.ne_of_gt; omega)) (by first | assumption | exact Ne.symm (by assumption) | (apply Nat.ne_of_lt; omega) | (apply Nat.ne_of_gt; omega)) (by first | assumption | exact Ne.symm (by assumption) | (apply Nat.ne_of_lt; omega) | (apply Nat.ne_of_gt; omega))) hZ (hw _ (List.mem_of_getElem? (i := 60) rfl)) (hw _ (List.mem_of_getElem? (i := 3) rfl)) (by decide) (by decide)) q301a q301c (g := (mkF m 40 #[.val (.int xa), .val (.int xb), .val (.int xc), .val (.int (2 : Int32)), .val (.int (1 : Int32)), .val (.ref b293), .unset] [(.ref b293)])) rfl (by rw [hml]; rfl) (Steps.refl _) (argsL := []) (rest := []) (lenOf pd_0 rfl) rfl (by show 2 * 0 + _ ≤ _; exact Nat.le_of_eq rfl) (hb hby at_40) (fun _ _ => ⟨rfl, e299, (by decide : 4 + 0 ≤ _), (by decide : 45 + 0 ≤ _)⟩)
      dsimp only [Pt.U, Pt.locs, Pt.cells, Pt.slots] at X301 lq301 yq301 zq301 st301 hQ301
      subst lq301 yq301 zq301
      obtain ⟨h301, e301⟩ : ∃ z, T301.heap = z := ⟨_, rfl⟩
      rw [e301] at hQ301
      obtain ⟨rfl, Nq301, K301, g301_0, g301_1, g301_2, g301_3, g301_4, g301_5⟩ := hQ301
      have sz301 : h299.size ≤ h301.size := K301.1
      have N301 := Fr.app N299 Nq301
      have lt301_1 : @LT.lt Nat _ b293 h301.size := g301_0.lt
      have lt301_2 : @LT.lt Nat _ rs_299 h301.size := g301_5.lt
      refine own_go (st' := T301.setTop (mkF m 43 #[.val (.int xa), .val (.int xb), .val (.int xc), .val (.int (2 : Int32)), .val (.int (1 : Int32)), .val (.ref b293), .unset] [])) (fun _ k => st301.trans k) ?_
      refine own_go (st' := T301.setTop (mkF m 44 #[.val (.int xa), .val (.int xb), .val (.int xc), .val (.int (2 : Int32)), .val (.int (1 : Int32)), .val (.ref b293), .unset] [(.int (2 : Int32))])) (fun _ k => XS.iloadN X301.here hx rfl (hb hby at_43) rfl k) ?_
      refine own_go (st' := T301.setTop (mkF m 45 #[.val (.int xa), .val (.int xb), .val (.int xc), .val (.int (2 : Int32)), .val (.int (1 : Int32)), .val (.ref b293), .unset] [(.int (2 : Int32)), (.int (2 : Int32))])) (fun _ k => XS.iconst X301.here hx rfl (hb hby at_44) k) ?_
      have hc302 : ¬ ((2 : Int32) < (2 : Int32)) := by decide
      refine own_go (st' := T301.setTop (mkF m 48 #[.val (.int xa), .val (.int xb), .val (.int xc), .val (.int (2 : Int32)), .val (.int (1 : Int32)), .val (.ref b293), .unset] [])) (fun _ k => XS.icmpNo X301.here hx rfl (hb hby at_45) rfl (flt hc302).1 k) ?_
      refine own_go (st' := T301.setTop (mkF m 50 #[.val (.int xa), .val (.int xb), .val (.int xc), .val (.int (2 : Int32)), .val (.int (1 : Int32)), .val (.ref b293), .unset] [(.ref b293)])) (fun _ k => XS.aload X301.here hx rfl (hb hby at_48) rfl rfl k) ?_
      have c304 : Arv Z h301 rl_299 kl_299 (.object "java/lang/Object") (16 : Int32) [.null, .null, .null, .null, .null, .null, .null, .null, .null, .null, .null, .null, .null, .null, .null, .null] .null := (g299_5.keep K301 (ninS (by first | assumption | exact Ne.symm (by assumption) | (apply Nat.ne_of_lt; omega) | (apply Nat.ne_of_gt; omega)) (ninS (by first | assumption | exact Ne.symm (by assumption) | (apply Nat.ne_of_lt; omega) | (apply Nat.ne_of_gt; omega)) nin0)))
      obtain ⟨cq303, kq303, q303a, q303b, q303c⟩ := isOf hZ e301 g301_0
      obtain ⟨_, _, ⟨T303, LC303, kC303, nC303⟩, -, X303, ⟨Lc303, hQ303, lq303, yq303, zq303⟩, st303⟩ := X301.virtualBack hx (y := (⟨"com/example/greenwood/greenwood/Environment", "openScope", "()V"⟩ : MethodName)) (z := (⟨"com/example/greenwood/greenwood/Environment", "openScope", "()V"⟩ : MethodName)) hown (mvT hZ (hw _ (List.mem_of_getElem? (i := 56) rfl))) (mvT hZ (hw _ (List.mem_of_getElem? (i := 57) rfl))) (notFace_of_selects (args := #[]) (mvT hZ (hw _ (List.mem_of_getElem? (i := 59) rfl)))) (mvT hZ (hw _ (List.mem_of_getElem? (i := 59) rfl))) (mvT hZ (hw _ (List.mem_of_getElem? (i := 58) rfl))) (by decide) (backOf (W := 0) (rm9_1 l Z a0 hw [] b293 rl_299 rs_299 kl_299 ks_299 h301 n0 (by omega) g301_0 g301_1 g301_2 g301_3 g301_4 c304 g301_5 (by omega) (by omega) (by omega) (by first | assumption | exact Ne.symm (by assumption) | (apply Nat.ne_of_lt; omega) | (apply Nat.ne_of_gt; omega)) (by first | assumption | exact Ne.symm (by assumption) | (apply Nat.ne_of_lt; omega) | (apply Nat.ne_of_gt; omega)) (by first | assumption | exact Ne.symm (by assumption) | (apply Nat.ne_of_lt; omega) | (apply Nat.ne_of_gt; omega))) hZ (hw _ (List.mem_of_getElem? (i := 60) rfl)) (hw _ (List.mem_of_getElem? (i := 3) rfl)) (by decide) (by decide)) q303a q303c (g := (mkF m 50 #[.val (.int xa), .val (.int xb), .val (.int xc), .val (.int (2 : Int32)), .val (.int (1 : Int32)), .val (.ref b293), .unset] [(.ref b293)])) rfl (by rw [hml]; rfl) (Steps.refl _) (argsL := []) (rest := []) (lenOf pd_0 rfl) rfl (by show 2 * 0 + _ ≤ _; exact Nat.le_of_eq rfl) (hb hby at_50) (fun _ _ => ⟨rfl, e301, (by decide : 4 + 0 ≤ _), (by decide : 45 + 0 ≤ _)⟩)
      dsimp only [Pt.U, Pt.locs, Pt.cells, Pt.slots] at X303 lq303 yq303 zq303 st303 hQ303
      subst lq303 yq303 zq303
      obtain ⟨h303, e303⟩ : ∃ z, T303.heap = z := ⟨_, rfl⟩
      rw [e303] at hQ303
      obtain ⟨rfl, Nq303, K303, g303_0, g303_1, g303_2, g303_3, g303_4, g303_5⟩ := hQ303
      have sz303 : h301.size ≤ h303.size := K303.1
      have N303 := Fr.app N301 Nq303
      have lt303_1 : @LT.lt Nat _ b293 h303.size := g303_0.lt
      have lt303_2 : @LT.lt Nat _ rs_299 h303.size := g303_5.lt
      refine own_go (st' := T303.setTop (mkF m 53 #[.val (.int xa), .val (.int xb), .val (.int xc), .val (.int (2 : Int32)), .val (.int (1 : Int32)), .val (.ref b293), .unset] [])) (fun _ k => st303.trans k) ?_
      refine own_go (st' := T303.setTop (mkF m 54 #[.val (.int xa), .val (.int xb), .val (.int xc), .val (.int (2 : Int32)), .val (.int (1 : Int32)), .val (.ref b293), .unset] [(.int (2 : Int32))])) (fun _ k => XS.iloadN X303.here hx rfl (hb hby at_53) rfl k) ?_
      refine own_go (st' := T303.setTop (mkF m 55 #[.val (.int xa), .val (.int xb), .val (.int xc), .val (.int (2 : Int32)), .val (.int (1 : Int32)), .val (.ref b293), .unset] [(.int (1 : Int32)), (.int (2 : Int32))])) (fun _ k => XS.iconst X303.here hx rfl (hb hby at_54) k) ?_
      have hc305 : ¬ ((2 : Int32) < (1 : Int32)) := by decide
      refine own_go (st' := T303.setTop (mkF m 58 #[.val (.int xa), .val (.int xb), .val (.int xc), .val (.int (2 : Int32)), .val (.int (1 : Int32)), .val (.ref b293), .unset] [])) (fun _ k => XS.icmpNo X303.here hx rfl (hb hby at_55) rfl (flt hc305).1 k) ?_
      refine own_go (st' := T303.setTop (mkF m 59 #[.val (.int xa), .val (.int xb), .val (.int xc), .val (.int (2 : Int32)), .val (.int (1 : Int32)), .val (.ref b293), .unset] [(.int xc)])) (fun _ k => XS.iloadN X303.here hx rfl (hb hby at_58) rfl k) ?_
      refine own_go (st' := T303.setTop (mkF m 60 #[.val (.int xa), .val (.int xb), .val (.int xc), .val (.int (2 : Int32)), .val (.int (1 : Int32)), .val (.ref b293), .unset] [(.int (1 : Int32)), (.int xc)])) (fun _ k => XS.iconst X303.here hx rfl (hb hby at_59) k) ?_
      refine own_go (st' := T303.setTop (mkF m 61 #[.val (.int xa), .val (.int xb), .val (.int xc), .val (.int (2 : Int32)), .val (.int (1 : Int32)), .val (.ref b293), .unset] [(.int (xc &&& (1 : Int32)))])) (fun _ k => XS.iand X303.here hx rfl (hb hby at_60) rfl k) ?_
      by_cases hc306 : (xc &&& (1 : Int32)) = (0 : Int32)
      · --
        refine own_go (st' := T303.setTop (mkF m 69 #[.val (.int xa), .val (.int xb), .val (.int xc), .val (.int (2 : Int32)), .val (.int (1 : Int32)), .val (.ref b293), .unset] [])) (fun _ k => XS.ifYes X303.here hx rfl (pc0 := 61) (pc' := 69) rfl (hb hby at_61) rfl ((if0 _ _).trans (teq hc306).1) (by decide) (by decide) k) ?_
        refine own_go (st' := T303.setTop (mkF m 71 #[.val (.int xa), .val (.int xb), .val (.int xc), .val (.int (2 : Int32)), .val (.int (1 : Int32)), .val (.ref b293), .unset] [(.ref b293)])) (fun _ k => XS.aload X303.here hx rfl (hb hby at_69) rfl rfl k) ?_
        obtain ⟨cq307, kq307, q307a, q307b, q307c⟩ := isOf hZ e303 g303_0
        obtain ⟨_, _, ⟨T307, LC307, kC307, nC307⟩, -, X307, ⟨Lc307, hQ307, lq307, yq307, zq307⟩, st307⟩ := X303.virtualBack hx (y := (⟨"com/example/greenwood/greenwood/Environment", "inScope", "()Z"⟩ : MethodName)) (z := (⟨"com/example/greenwood/greenwood/Environment", "inScope", "()Z"⟩ : MethodName)) hown (mvT hZ (hw _ (List.mem_of_getElem? (i := 35) rfl))) (mvT hZ (hw _ (List.mem_of_getElem? (i := 36) rfl))) (notFace_of_selects (args := #[]) (mvT hZ (hw _ (List.mem_of_getElem? (i := 38) rfl)))) (mvT hZ (hw _ (List.mem_of_getElem? (i := 38) rfl))) (mvT hZ (hw _ (List.mem_of_getElem? (i := 37) rfl))) (by decide) (backOf (W := 0) (rm5_2 l Z a0 hw [] b293 h303 n0 (by omega) g303_1) hZ (hw _ (List.mem_of_getElem? (i := 39) rfl)) (hw _ (List.mem_of_getElem? (i := 3) rfl)) (by decide) (by decide)) q307a q307c (g := (mkF m 71 #[.val (.int xa), .val (.int xb), .val (.int xc), .val (.int (2 : Int32)), .val (.int (1 : Int32)), .val (.ref b293), .unset] [(.ref b293)])) rfl (by rw [hml]; rfl) (Steps.refl _) (argsL := []) (rest := []) (lenOf pd_3 rfl) rfl (by show 2 * 0 + _ ≤ _; exact Nat.le_of_eq rfl) (hb hby at_71) (fun _ _ => ⟨rfl, e303, (by decide : 4 + 0 ≤ _), (by decide : 45 + 0 ≤ _)⟩)
        dsimp only [Pt.U, Pt.locs, Pt.cells, Pt.slots] at X307 lq307 yq307 zq307 st307 hQ307
        subst lq307 yq307 zq307
        obtain ⟨rfl, Nq307, eq307⟩ := hQ307
        have N307 := Fr.app N303 Nq307
        refine own_go (st' := T307.setTop (mkF m 74 #[.val (.int xa), .val (.int xb), .val (.int xc), .val (.int (2 : Int32)), .val (.int (1 : Int32)), .val (.ref b293), .unset] [(.int (1 : Int32))])) (fun _ k => st307.trans k) ?_
        refine own_go (st' := T307.setTop (mkF m 75 #[.val (.int xa), .val (.int xb), .val (.int xc), .val (.int (2 : Int32)), .val (.int (1 : Int32)), .val (.ref b293), .unset] [(.int (2 : Int32)), (.int (1 : Int32))])) (fun _ k => XS.iloadN X307.here hx rfl (hb hby at_74) rfl k) ?_
        have hc308 : (0 : Int32) < (2 : Int32) := by decide
        refine own_go (st' := T307.setTop (mkF m 78 #[.val (.int xa), .val (.int xb), .val (.int xc), .val (.int (2 : Int32)), .val (.int (1 : Int32)), .val (.ref b293), .unset] [(.int (1 : Int32))])) (fun _ k => XS.ifNo X307.here hx rfl (hb hby at_75) rfl ((if0 _ _).trans (tlt hc308).2.2.2) k) ?_
        refine own_go (st' := T307.setTop (mkF m 79 #[.val (.int xa), .val (.int xb), .val (.int xc), .val (.int (2 : Int32)), .val (.int (1 : Int32)), .val (.ref b293), .unset] [(.int (1 : Int32)), (.int (1 : Int32))])) (fun _ k => XS.iconst X307.here hx rfl (hb hby at_78) k) ?_
        refine own_go (st' := T307.setTop (mkF m 83 #[.val (.int xa), .val (.int xb), .val (.int xc), .val (.int (2 : Int32)), .val (.int (1 : Int32)), .val (.ref b293), .unset] [(.int (1 : Int32)), (.int (1 : Int32))])) (fun _ k => XS.goto X307.here hx rfl (pc0 := 79) (pc' := 83) rfl (hb hby at_79) (by decide) (by decide) k) ?_
        have hc309 : (1 : Int32) = (1 : Int32) := by decide
        refine own_go (st' := T307.setTop (mkF m 86 #[.val (.int xa), .val (.int xb), .val (.int xc), .val (.int (2 : Int32)), .val (.int (1 : Int32)), .val (.ref b293), .unset] [])) (fun _ k => XS.icmpNo X307.here hx rfl (hb hby at_83) rfl (teq hc309).2 k) ?_
        refine own_go (st' := T307.setTop (mkF m 87 #[.val (.int xa), .val (.int xb), .val (.int xc), .val (.int (2 : Int32)), .val (.int (1 : Int32)), .val (.ref b293), .unset] [(.int (1 : Int32))])) (fun _ k => XS.iconst X307.here hx rfl (hb hby at_86) k) ?_
        refine own_go (st' := T307.setTop (mkF m 91 #[.val (.int xa), .val (.int xb), .val (.int xc), .val (.int (2 : Int32)), .val (.int (1 : Int32)), .val (.ref b293), .unset] [(.int (1 : Int32))])) (fun _ k => XS.goto X307.here hx rfl (pc0 := 87) (pc' := 91) rfl (hb hby at_87) (by decide) (by decide) k) ?_
        refine own_go (st' := T307.setTop (mkF m 93 #[.val (.int xa), .val (.int xb), .val (.int xc), .val (.int (2 : Int32)), .val (.int (1 : Int32)), .val (.ref b293), .val (.int (1 : Int32))] [])) (fun _ k => XS.istore X307.here hx rfl (hb hby at_91) rfl (l' := #[.val (.int xa), .val (.int xb), .val (.int xc), .val (.int (2 : Int32)), .val (.int (1 : Int32)), .val (.ref b293), .val (.int (1 : Int32))]) rfl k) ?_
        refine own_go (st' := T307.setTop (mkF m 95 #[.val (.int xa), .val (.int xb), .val (.int xc), .val (.int (2 : Int32)), .val (.int (1 : Int32)), .val (.ref b293), .val (.int (1 : Int32))] [(.int (1 : Int32))])) (fun _ k => XS.iload X307.here hx rfl (hb hby at_93) rfl k) ?_
        refine own_go (st' := T307.setTop (mkF m 96 #[.val (.int xa), .val (.int xb), .val (.int xc), .val (.int (2 : Int32)), .val (.int (1 : Int32)), .val (.ref b293), .val (.int (1 : Int32))] [(.int (1 : Int32)), (.int (1 : Int32))])) (fun _ k => XS.iconst X307.here hx rfl (hb hby at_95) k) ?_
        have hc310 : ¬ ((1 : Int32) < (1 : Int32)) := by decide
        refine own_go (st' := T307.setTop (mkF m 99 #[.val (.int xa), .val (.int xb), .val (.int xc), .val (.int (2 : Int32)), .val (.int (1 : Int32)), .val (.ref b293), .val (.int (1 : Int32))] [])) (fun _ k => XS.icmpNo X307.here hx rfl (hb hby at_96) rfl (flt hc310).1 k) ?_
        refine own_go (st' := T307.setTop (mkF m 101 #[.val (.int xa), .val (.int xb), .val (.int xc), .val (.int (2 : Int32)), .val (.int (1 : Int32)), .val (.ref b293), .val (.int (1 : Int32))] [(.ref b293)])) (fun _ k => XS.aload X307.here hx rfl (hb hby at_99) rfl rfl k) ?_
        have c312 : Arv Z h303 rl_299 kl_299 (.object "java/lang/Object") (16 : Int32) [.null, .null, .null, .null, .null, .null, .null, .null, .null, .null, .null, .null, .null, .null, .null, .null] .null := (c304.keep K303 (ninS (by first | assumption | exact Ne.symm (by assumption) | (apply Nat.ne_of_lt; omega) | (apply Nat.ne_of_gt; omega)) (ninS (by first | assumption | exact Ne.symm (by assumption) | (apply Nat.ne_of_lt; omega) | (apply Nat.ne_of_gt; omega)) nin0)))
        obtain ⟨cq311, kq311, q311a, q311b, q311c⟩ := isOf hZ eq307 g303_0
        obtain ⟨_, _, ⟨T311, LC311, kC311, nC311⟩, -, X311, ⟨Lc311, hQ311, lq311, yq311, zq311⟩, st311⟩ := X307.virtualBack hx (y := (⟨"com/example/greenwood/greenwood/Environment", "closeScope", "()V"⟩ : MethodName)) (z := (⟨"com/example/greenwood/greenwood/Environment", "closeScope", "()V"⟩ : MethodName)) hown (mvT hZ (hw _ (List.mem_of_getElem? (i := 66) rfl))) (mvT hZ (hw _ (List.mem_of_getElem? (i := 67) rfl))) (notFace_of_selects (args := #[]) (mvT hZ (hw _ (List.mem_of_getElem? (i := 69) rfl)))) (mvT hZ (hw _ (List.mem_of_getElem? (i := 69) rfl))) (mvT hZ (hw _ (List.mem_of_getElem? (i := 68) rfl))) (by decide) (backOf (W := 0) (rm11_2_0 l Z a0 hw [] b293 rl_299 rs_299 kl_299 ks_299 h303 n0 (by omega) g303_0 g303_1 g303_2 g303_3 g303_4 c312 g303_5 (by omega) (by omega) (by omega) (by first | assumption | exact Ne.symm (by assumption) | (apply Nat.ne_of_lt; omega) | (apply Nat.ne_of_gt; omega)) (by first | assumption | exact Ne.symm (by assumption) | (apply Nat.ne_of_lt; omega) | (apply Nat.ne_of_gt; omega)) (by first | assumption | exact Ne.symm (by assumption) | (apply Nat.ne_of_lt; omega) | (apply Nat.ne_of_gt; omega))) hZ (hw _ (List.mem_of_getElem? (i := 70) rfl)) (hw _ (List.mem_of_getElem? (i := 3) rfl)) (by decide) (by decide)) q311a q311c (g := (mkF m 101 #[.val (.int xa), .val (.int xb), .val (.int xc), .val (.int (2 : Int32)), .val (.int (1 : Int32)), .val (.ref b293), .val (.int (1 : Int32))] [(.ref b293)])) rfl (by rw [hml]; rfl) (Steps.refl _) (argsL := []) (rest := []) (lenOf pd_0 rfl) rfl (by show 2 * 0 + _ ≤ _; exact Nat.le_of_eq rfl) (hb hby at_101) (fun _ _ => ⟨rfl, eq307, (by decide : 4 + 0 ≤ _), (by decide : 45 + 0 ≤ _)⟩)
        dsimp only [Pt.U, Pt.locs, Pt.cells, Pt.slots] at X311 lq311 yq311 zq311 st311 hQ311
        subst lq311 yq311 zq311
        obtain ⟨h311, e311⟩ : ∃ z, T311.heap = z := ⟨_, rfl⟩
        rw [e311] at hQ311
        obtain ⟨rfl, Nq311, K311, g311_0, g311_1, g311_2, g311_3, g311_4, g311_5⟩ := hQ311
        have sz311 : h303.size ≤ h311.size := K311.1
        have N311 := Fr.app N307 Nq311
        have lt311_1 : @LT.lt Nat _ b293 h311.size := g311_0.lt
        have lt311_2 : @LT.lt Nat _ rl_299 h311.size := g311_5.lt
        refine own_go (st' := T311.setTop (mkF m 104 #[.val (.int xa), .val (.int xb), .val (.int xc), .val (.int (2 : Int32)), .val (.int (1 : Int32)), .val (.ref b293), .val (.int (1 : Int32))] [])) (fun _ k => st311.trans k) ?_
        refine own_go (st' := T311.setTop (mkF m 106 #[.val (.int xa), .val (.int xb), .val (.int xc), .val (.int (2 : Int32)), .val (.int (1 : Int32)), .val (.ref b293), .val (.int (1 : Int32))] [(.int (1 : Int32))])) (fun _ k => XS.iload X311.here hx rfl (hb hby at_104) rfl k) ?_
        refine own_go (st' := T311.setTop (mkF m 107 #[.val (.int xa), .val (.int xb), .val (.int xc), .val (.int (2 : Int32)), .val (.int (1 : Int32)), .val (.ref b293), .val (.int (1 : Int32))] [(.int (2 : Int32)), (.int (1 : Int32))])) (fun _ k => XS.iconst X311.here hx rfl (hb hby at_106) k) ?_
        have hc313 : (1 : Int32) < (2 : Int32) := by decide
        refine own_go (st' := T311.setTop (mkF m 115 #[.val (.int xa), .val (.int xb), .val (.int xc), .val (.int (2 : Int32)), .val (.int (1 : Int32)), .val (.ref b293), .val (.int (1 : Int32))] [])) (fun _ k => XS.icmpYes X311.here hx rfl (pc0 := 107) (pc' := 115) rfl (hb hby at_107) rfl (tlt hc313).1 (by decide) (by decide) k) ?_
        refine own_go (st' := T311.setTop (mkF m 117 #[.val (.int xa), .val (.int xb), .val (.int xc), .val (.int (2 : Int32)), .val (.int (1 : Int32)), .val (.ref b293), .val (.int (1 : Int32))] [(.int (1 : Int32))])) (fun _ k => XS.iload X311.here hx rfl (hb hby at_115) rfl k) ?_
        have hc314 : ¬ ((1 : Int32) = (0 : Int32)) := by decide
        refine own_go (st' := T311.setTop (mkF m 120 #[.val (.int xa), .val (.int xb), .val (.int xc), .val (.int (2 : Int32)), .val (.int (1 : Int32)), .val (.ref b293), .val (.int (1 : Int32))] [])) (fun _ k => XS.ifNo X311.here hx rfl (hb hby at_117) rfl ((if0 _ _).trans (feq hc314).1) k) ?_
        refine own_go (st' := T311.setTop (mkF m 122 #[.val (.int xa), .val (.int xb), .val (.int xc), .val (.int (2 : Int32)), .val (.int (1 : Int32)), .val (.ref b293), .val (.int (1 : Int32))] [(.ref b293)])) (fun _ k => XS.aload X311.here hx rfl (hb hby at_120) rfl rfl k) ?_
        obtain ⟨cq315, kq315, q315a, q315b, q315c⟩ := isOf hZ e311 g311_0
        obtain ⟨_, _, ⟨T315, LC315, kC315, nC315⟩, -, X315, ⟨Lc315, hQ315, lq315, yq315, zq315⟩, st315⟩ := X311.virtualBack hx (y := (⟨"com/example/greenwood/greenwood/Environment", "inScope", "()Z"⟩ : MethodName)) (z := (⟨"com/example/greenwood/greenwood/Environment", "inScope", "()Z"⟩ : MethodName)) hown (mvT hZ (hw _ (List.mem_of_getElem? (i := 35) rfl))) (mvT hZ (hw _ (List.mem_of_getElem? (i := 36) rfl))) (notFace_of_selects (args := #[]) (mvT hZ (hw _ (List.mem_of_getElem? (i := 38) rfl)))) (mvT hZ (hw _ (List.mem_of_getElem? (i := 38) rfl))) (mvT hZ (hw _ (List.mem_of_getElem? (i := 37) rfl))) (by decide) (backOf (W := 0) (rm5_1 l Z a0 hw [] b293 h311 n0 (by omega) g311_1) hZ (hw _ (List.mem_of_getElem? (i := 39) rfl)) (hw _ (List.mem_of_getElem? (i := 3) rfl)) (by decide) (by decide)) q315a q315c (g := (mkF m 122 #[.val (.int xa), .val (.int xb), .val (.int xc), .val (.int (2 : Int32)), .val (.int (1 : Int32)), .val (.ref b293), .val (.int (1 : Int32))] [(.ref b293)])) rfl (by rw [hml]; rfl) (Steps.refl _) (argsL := []) (rest := []) (lenOf pd_3 rfl) rfl (by show 2 * 0 + _ ≤ _; exact Nat.le_of_eq rfl) (hb hby at_122) (fun _ _ => ⟨rfl, e311, (by decide : 4 + 0 ≤ _), (by decide : 45 + 0 ≤ _)⟩)
        dsimp only [Pt.U, Pt.locs, Pt.cells, Pt.slots] at X315 lq315 yq315 zq315 st315 hQ315
        subst lq315 yq315 zq315
        obtain ⟨rfl, Nq315, eq315⟩ := hQ315
        have N315 := Fr.app N311 Nq315
        refine own_go (st' := T315.setTop (mkF m 125 #[.val (.int xa), .val (.int xb), .val (.int xc), .val (.int (2 : Int32)), .val (.int (1 : Int32)), .val (.ref b293), .val (.int (1 : Int32))] [(.int (1 : Int32))])) (fun _ k => st315.trans k) ?_
        refine own_go (st' := T315.setTop (mkF m 126 #[.val (.int xa), .val (.int xb), .val (.int xc), .val (.int (2 : Int32)), .val (.int (1 : Int32)), .val (.ref b293), .val (.int (1 : Int32))] [(.int (2 : Int32)), (.int (1 : Int32))])) (fun _ k => XS.iloadN X315.here hx rfl (hb hby at_125) rfl k) ?_
        refine own_go (st' := T315.setTop (mkF m 128 #[.val (.int xa), .val (.int xb), .val (.int xc), .val (.int (2 : Int32)), .val (.int (1 : Int32)), .val (.ref b293), .val (.int (1 : Int32))] [(.int (1 : Int32)), (.int (2 : Int32)), (.int (1 : Int32))])) (fun _ k => XS.iload X315.here hx rfl (hb hby at_126) rfl k) ?_
        refine own_go (st' := T315.setTop (mkF m 129 #[.val (.int xa), .val (.int xb), .val (.int xc), .val (.int (2 : Int32)), .val (.int (1 : Int32)), .val (.ref b293), .val (.int (1 : Int32))] [(.int (1 : Int32)), (.int (1 : Int32))])) (fun _ k => XS.isub X315.here hx rfl (hb hby at_128) rfl (by rw [show ((2 : Int32) - (1 : Int32)) = (1 : Int32) by decide]; exact k)) ?_
        have hc316 : (0 : Int32) < (1 : Int32) := by decide
        refine own_go (st' := T315.setTop (mkF m 132 #[.val (.int xa), .val (.int xb), .val (.int xc), .val (.int (2 : Int32)), .val (.int (1 : Int32)), .val (.ref b293), .val (.int (1 : Int32))] [(.int (1 : Int32))])) (fun _ k => XS.ifNo X315.here hx rfl (hb hby at_129) rfl ((if0 _ _).trans (tlt hc316).2.2.2) k) ?_
        refine own_go (st' := T315.setTop (mkF m 133 #[.val (.int xa), .val (.int xb), .val (.int xc), .val (.int (2 : Int32)), .val (.int (1 : Int32)), .val (.ref b293), .val (.int (1 : Int32))] [(.int (1 : Int32)), (.int (1 : Int32))])) (fun _ k => XS.iconst X315.here hx rfl (hb hby at_132) k) ?_
        refine own_go (st' := T315.setTop (mkF m 137 #[.val (.int xa), .val (.int xb), .val (.int xc), .val (.int (2 : Int32)), .val (.int (1 : Int32)), .val (.ref b293), .val (.int (1 : Int32))] [(.int (1 : Int32)), (.int (1 : Int32))])) (fun _ k => XS.goto X315.here hx rfl (pc0 := 133) (pc' := 137) rfl (hb hby at_133) (by decide) (by decide) k) ?_
        have hc317 : (1 : Int32) = (1 : Int32) := by decide
        refine own_go (st' := T315.setTop (mkF m 140 #[.val (.int xa), .val (.int xb), .val (.int xc), .val (.int (2 : Int32)), .val (.int (1 : Int32)), .val (.ref b293), .val (.int (1 : Int32))] [])) (fun _ k => XS.icmpNo X315.here hx rfl (hb hby at_137) rfl (teq hc317).2 k) ?_
        refine own_go (st' := T315.setTop (mkF m 141 #[.val (.int xa), .val (.int xb), .val (.int xc), .val (.int (2 : Int32)), .val (.int (1 : Int32)), .val (.ref b293), .val (.int (1 : Int32))] [(.int (1 : Int32))])) (fun _ k => XS.iconst X315.here hx rfl (hb hby at_140) k) ?_
        refine own_go (st' := T315.setTop (mkF m 145 #[.val (.int xa), .val (.int xb), .val (.int xc), .val (.int (2 : Int32)), .val (.int (1 : Int32)), .val (.ref b293), .val (.int (1 : Int32))] [(.int (1 : Int32))])) (fun _ k => XS.goto X315.here hx rfl (pc0 := 141) (pc' := 145) rfl (hb hby at_141) (by decide) (by decide) k) ?_
        refine own_go (st' := T315.setTop (mkF m 147 #[.val (.int xa), .val (.int xb), .val (.int xc), .val (.int (2 : Int32)), .val (.int (1 : Int32)), .val (.ref b293), .val (.int (1 : Int32))] [])) (fun _ k => XS.istore X315.here hx rfl (hb hby at_145) rfl (l' := #[.val (.int xa), .val (.int xb), .val (.int xc), .val (.int (2 : Int32)), .val (.int (1 : Int32)), .val (.ref b293), .val (.int (1 : Int32))]) rfl k) ?_
        refine own_go (st' := T315.setTop (mkF m 148 #[.val (.int xa), .val (.int xb), .val (.int xc), .val (.int (2 : Int32)), .val (.int (1 : Int32)), .val (.ref b293), .val (.int (1 : Int32))] [(.int xc)])) (fun _ k => XS.iloadN X315.here hx rfl (hb hby at_147) rfl k) ?_
        refine own_go (st' := T315.setTop (mkF m 149 #[.val (.int xa), .val (.int xb), .val (.int xc), .val (.int (2 : Int32)), .val (.int (1 : Int32)), .val (.ref b293), .val (.int (1 : Int32))] [(.int (2 : Int32)), (.int xc)])) (fun _ k => XS.iconst X315.here hx rfl (hb hby at_148) k) ?_
        refine own_go (st' := T315.setTop (mkF m 150 #[.val (.int xa), .val (.int xb), .val (.int xc), .val (.int (2 : Int32)), .val (.int (1 : Int32)), .val (.ref b293), .val (.int (1 : Int32))] [(.int (xc &&& (2 : Int32)))])) (fun _ k => XS.iand X315.here hx rfl (hb hby at_149) rfl k) ?_
        by_cases hc318 : (xc &&& (2 : Int32)) = (0 : Int32)
        · --
          refine own_go (st' := T315.setTop (mkF m 178 #[.val (.int xa), .val (.int xb), .val (.int xc), .val (.int (2 : Int32)), .val (.int (1 : Int32)), .val (.ref b293), .val (.int (1 : Int32))] [])) (fun _ k => XS.ifYes X315.here hx rfl (pc0 := 150) (pc' := 178) rfl (hb hby at_150) rfl ((if0 _ _).trans (teq hc318).1) (by decide) (by decide) k) ?_
          refine own_go (st' := T315.setTop (mkF m 180 #[.val (.int xa), .val (.int xb), .val (.int xc), .val (.int (2 : Int32)), .val (.int (1 : Int32)), .val (.ref b293), .val (.int (1 : Int32))] [(.int (1 : Int32))])) (fun _ k => XS.iload X315.here hx rfl (hb hby at_178) rfl k) ?_
          obtain ⟨fs, hr, hrun, hended, hW, hsame⟩ := X315.leave (v := some (.int (1 : Int32))) (fun h => by rw [Bd.returns] at h; cases h)
          refine ⟨_, _, ?_, hP _ _ hrun hended ⟨_, _, rfl, ?_, ⟨_, rfl⟩, hW, hsame.mono (by decide) (by decide)⟩⟩
          · exact retN X315 hx (t := .boolean) Bd.returns (by simp) (hb hby at_180) hr
          · show Qrm0 Z xa xb xc h0 n0 _ T315.heap _
            rw [eq315]
            exact ⟨rfl, N315, trivial⟩
        · --
          refine own_go (st' := T315.setTop (mkF m 153 #[.val (.int xa), .val (.int xb), .val (.int xc), .val (.int (2 : Int32)), .val (.int (1 : Int32)), .val (.ref b293), .val (.int (1 : Int32))] [])) (fun _ k => XS.ifNo X315.here hx rfl (hb hby at_150) rfl ((if0 _ _).trans (feq hc318).1) k) ?_
          refine own_go (st' := T315.setTop (mkF m 155 #[.val (.int xa), .val (.int xb), .val (.int xc), .val (.int (2 : Int32)), .val (.int (1 : Int32)), .val (.ref b293), .val (.int (1 : Int32))] [(.ref b293)])) (fun _ k => XS.aload X315.here hx rfl (hb hby at_153) rfl rfl k) ?_
          have c321 : Arv Z h311 rs_299 ks_299 .int (16 : Int32) [(.int (0 : Int32)), (.int (0 : Int32)), (.int (0 : Int32)), (.int (0 : Int32)), (.int (0 : Int32)), (.int (0 : Int32)), (.int (0 : Int32)), (.int (0 : Int32)), (.int (0 : Int32)), (.int (0 : Int32)), (.int (0 : Int32)), (.int (0 : Int32)), (.int (0 : Int32)), (.int (0 : Int32)), (.int (0 : Int32)), (.int (0 : Int32))] (.int (0 : Int32)) := (g303_5.keep K311 (ninS (by first | assumption | exact Ne.symm (by assumption) | (apply Nat.ne_of_lt; omega) | (apply Nat.ne_of_gt; omega)) (ninS (by first | assumption | exact Ne.symm (by assumption) | (apply Nat.ne_of_lt; omega) | (apply Nat.ne_of_gt; omega)) nin0)))
          obtain ⟨cq320, kq320, q320a, q320b, q320c⟩ := isOf hZ eq315 g311_0
          obtain ⟨_, _, ⟨T320, LC320, kC320, nC320⟩, -, X320, ⟨Lc320, hQ320, lq320, yq320, zq320⟩, st320⟩ := X315.virtualBack hx (y := (⟨"com/example/greenwood/greenwood/Environment", "closeScopes", "()V"⟩ : MethodName)) (z := (⟨"com/example/greenwood/greenwood/Environment", "closeScopes", "()V"⟩ : MethodName)) hown (mvT hZ (hw _ (List.mem_of_getElem? (i := 42) rfl))) (mvT hZ (hw _ (List.mem_of_getElem? (i := 43) rfl))) (notFace_of_selects (args := #[]) (mvT hZ (hw _ (List.mem_of_getElem? (i := 45) rfl)))) (mvT hZ (hw _ (List.mem_of_getElem? (i := 45) rfl))) (mvT hZ (hw _ (List.mem_of_getElem? (i := 44) rfl))) (by decide) (backOf (W := 0) (rm6_0 l Z a0 hw [] b293 (1 : Int32) rl_299 rs_299 kl_299 ks_299 h311 n0 (by omega) g311_0 g311_1 g311_2 g311_3 g311_4 g311_5 c321 (by omega) (by omega) (by omega) (by first | assumption | exact Ne.symm (by assumption) | (apply Nat.ne_of_lt; omega) | (apply Nat.ne_of_gt; omega)) (by first | assumption | exact Ne.symm (by assumption) | (apply Nat.ne_of_lt; omega) | (apply Nat.ne_of_gt; omega)) (by first | assumption | exact Ne.symm (by assumption) | (apply Nat.ne_of_lt; omega) | (apply Nat.ne_of_gt; omega))) hZ (hw _ (List.mem_of_getElem? (i := 46) rfl)) (hw _ (List.mem_of_getElem? (i := 3) rfl)) (by decide) (by decide)) q320a q320c (g := (mkF m 155 #[.val (.int xa), .val (.int xb), .val (.int xc), .val (.int (2 : Int32)), .val (.int (1 : Int32)), .val (.ref b293), .val (.int (1 : Int32))] [(.ref b293)])) rfl (by rw [hml]; rfl) (Steps.refl _) (argsL := []) (rest := []) (lenOf pd_0 rfl) rfl (by show 2 * 0 + _ ≤ _; exact Nat.le_of_eq rfl) (hb hby at_155) (fun _ _ => ⟨rfl, eq315, (by decide : 4 + 0 ≤ _), (by decide : 45 + 0 ≤ _)⟩)
          dsimp only [Pt.U, Pt.locs, Pt.cells, Pt.slots] at X320 lq320 yq320 zq320 st320 hQ320
          subst lq320 yq320 zq320
          obtain ⟨h320, e320⟩ : ∃ z, T320.heap = z := ⟨_, rfl⟩
          rw [e320] at hQ320
          obtain ⟨rfl, Nq320, K320, g320_0, g320_1, g320_2, g320_3, g320_4, g320_5⟩ := hQ320
          have sz320 : h311.size ≤ h320.size := K320.1
          have N320 := Fr.app N315 Nq320
          have lt320_1 : @LT.lt Nat _ b293 h320.size := g320_0.lt
          have lt320_2 : @LT.lt Nat _ rl_299 h320.size := g320_5.lt
          refine own_go (st' := T320.setTop (mkF m 158 #[.val (.int xa), .val (.int xb), .val (.int xc), .val (.int (2 : Int32)), .val (.int (1 : Int32)), .val (.ref b293), .val (.int (1 : Int32))] [])) (fun _ k => st320.trans k) ?_
          refine own_go (st' := T320.setTop (mkF m 160 #[.val (.int xa), .val (.int xb), .val (.int xc), .val (.int (2 : Int32)), .val (.int (1 : Int32)), .val (.ref b293), .val (.int (1 : Int32))] [(.int (1 : Int32))])) (fun _ k => XS.iload X320.here hx rfl (hb hby at_158) rfl k) ?_
          have hc322 : ¬ ((1 : Int32) = (0 : Int32)) := by decide
          refine own_go (st' := T320.setTop (mkF m 163 #[.val (.int xa), .val (.int xb), .val (.int xc), .val (.int (2 : Int32)), .val (.int (1 : Int32)), .val (.ref b293), .val (.int (1 : Int32))] [])) (fun _ k => XS.ifNo X320.here hx rfl (hb hby at_160) rfl ((if0 _ _).trans (feq hc322).1) k) ?_
          refine own_go (st' := T320.setTop (mkF m 165 #[.val (.int xa), .val (.int xb), .val (.int xc), .val (.int (2 : Int32)), .val (.int (1 : Int32)), .val (.ref b293), .val (.int (1 : Int32))] [(.ref b293)])) (fun _ k => XS.aload X320.here hx rfl (hb hby at_163) rfl rfl k) ?_
          obtain ⟨cq323, kq323, q323a, q323b, q323c⟩ := isOf hZ e320 g320_0
          obtain ⟨_, _, ⟨T323, LC323, kC323, nC323⟩, -, X323, ⟨Lc323, hQ323, lq323, yq323, zq323⟩, st323⟩ := X320.virtualBack hx (y := (⟨"com/example/greenwood/greenwood/Environment", "inScope", "()Z"⟩ : MethodName)) (z := (⟨"com/example/greenwood/greenwood/Environment", "inScope", "()Z"⟩ : MethodName)) hown (mvT hZ (hw _ (List.mem_of_getElem? (i := 35) rfl))) (mvT hZ (hw _ (List.mem_of_getElem? (i := 36) rfl))) (notFace_of_selects (args := #[]) (mvT hZ (hw _ (List.mem_of_getElem? (i := 38) rfl)))) (mvT hZ (hw _ (List.mem_of_getElem? (i := 38) rfl))) (mvT hZ (hw _ (List.mem_of_getElem? (i := 37) rfl))) (by decide) (backOf (W := 0) (rm5_0 l Z a0 hw [] b293 h320 n0 (by omega) g320_1) hZ (hw _ (List.mem_of_getElem? (i := 39) rfl)) (hw _ (List.mem_of_getElem? (i := 3) rfl)) (by decide) (by decide)) q323a q323c (g := (mkF m 165 #[.val (.int xa), .val (.int xb), .val (.int xc), .val (.int (2 : Int32)), .val (.int (1 : Int32)), .val (.ref b293), .val (.int (1 : Int32))] [(.ref b293)])) rfl (by rw [hml]; rfl) (Steps.refl _) (argsL := []) (rest := []) (lenOf pd_3 rfl) rfl (by show 2 * 0 + _ ≤ _; exact Nat.le_of_eq rfl) (hb hby at_165) (fun _ _ => ⟨rfl, e320, (by decide : 4 + 0 ≤ _), (by decide : 45 + 0 ≤ _)⟩)
          dsimp only [Pt.U, Pt.locs, Pt.cells, Pt.slots] at X323 lq323 yq323 zq323 st323 hQ323
          subst lq323 yq323 zq323
          obtain ⟨rfl, Nq323, eq323⟩ := hQ323
          have N323 := Fr.app N320 Nq323
          refine own_go (st' := T323.setTop (mkF m 168 #[.val (.int xa), .val (.int xb), .val (.int xc), .val (.int (2 : Int32)), .val (.int (1 : Int32)), .val (.ref b293), .val (.int (1 : Int32))] [(.int (0 : Int32))])) (fun _ k => st323.trans k) ?_
          have hc324 : (0 : Int32) = (0 : Int32) := by decide
          refine own_go (st' := T323.setTop (mkF m 171 #[.val (.int xa), .val (.int xb), .val (.int xc), .val (.int (2 : Int32)), .val (.int (1 : Int32)), .val (.ref b293), .val (.int (1 : Int32))] [])) (fun _ k => XS.ifNo X323.here hx rfl (hb hby at_168) rfl ((if0 _ _).trans (teq hc324).2) k) ?_
          refine own_go (st' := T323.setTop (mkF m 172 #[.val (.int xa), .val (.int xb), .val (.int xc), .val (.int (2 : Int32)), .val (.int (1 : Int32)), .val (.ref b293), .val (.int (1 : Int32))] [(.int (1 : Int32))])) (fun _ k => XS.iconst X323.here hx rfl (hb hby at_171) k) ?_
          refine own_go (st' := T323.setTop (mkF m 176 #[.val (.int xa), .val (.int xb), .val (.int xc), .val (.int (2 : Int32)), .val (.int (1 : Int32)), .val (.ref b293), .val (.int (1 : Int32))] [(.int (1 : Int32))])) (fun _ k => XS.goto X323.here hx rfl (pc0 := 172) (pc' := 176) rfl (hb hby at_172) (by decide) (by decide) k) ?_
          refine own_go (st' := T323.setTop (mkF m 178 #[.val (.int xa), .val (.int xb), .val (.int xc), .val (.int (2 : Int32)), .val (.int (1 : Int32)), .val (.ref b293), .val (.int (1 : Int32))] [])) (fun _ k => XS.istore X323.here hx rfl (hb hby at_176) rfl (l' := #[.val (.int xa), .val (.int xb), .val (.int xc), .val (.int (2 : Int32)), .val (.int (1 : Int32)), .val (.ref b293), .val (.int (1 : Int32))]) rfl k) ?_
          refine own_go (st' := T323.setTop (mkF m 180 #[.val (.int xa), .val (.int xb), .val (.int xc), .val (.int (2 : Int32)), .val (.int (1 : Int32)), .val (.ref b293), .val (.int (1 : Int32))] [(.int (1 : Int32))])) (fun _ k => XS.iload X323.here hx rfl (hb hby at_178) rfl k) ?_
          obtain ⟨fs, hr, hrun, hended, hW, hsame⟩ := X323.leave (v := some (.int (1 : Int32))) (fun h => by rw [Bd.returns] at h; cases h)
          refine ⟨_, _, ?_, hP _ _ hrun hended ⟨_, _, rfl, ?_, ⟨_, rfl⟩, hW, hsame.mono (by decide) (by decide)⟩⟩
          · exact retN X323 hx (t := .boolean) Bd.returns (by simp) (hb hby at_180) hr
          · show Qrm0 Z xa xb xc h0 n0 _ T323.heap _
            rw [eq323]
            exact ⟨rfl, N323, trivial⟩
      · --
        refine own_go (st' := T303.setTop (mkF m 64 #[.val (.int xa), .val (.int xb), .val (.int xc), .val (.int (2 : Int32)), .val (.int (1 : Int32)), .val (.ref b293), .unset] [])) (fun _ k => XS.ifNo X303.here hx rfl (hb hby at_61) rfl ((if0 _ _).trans (feq hc306).1) k) ?_
        refine own_go (st' := T303.setTop (mkF m 66 #[.val (.int xa), .val (.int xb), .val (.int xc), .val (.int (2 : Int32)), .val (.int (1 : Int32)), .val (.ref b293), .unset] [(.ref b293)])) (fun _ k => XS.aload X303.here hx rfl (hb hby at_64) rfl rfl k) ?_
        have c327 : Arv Z h303 rl_299 kl_299 (.object "java/lang/Object") (16 : Int32) [.null, .null, .null, .null, .null, .null, .null, .null, .null, .null, .null, .null, .null, .null, .null, .null] .null := (c304.keep K303 (ninS (by first | assumption | exact Ne.symm (by assumption) | (apply Nat.ne_of_lt; omega) | (apply Nat.ne_of_gt; omega)) (ninS (by first | assumption | exact Ne.symm (by assumption) | (apply Nat.ne_of_lt; omega) | (apply Nat.ne_of_gt; omega)) nin0)))
        obtain ⟨cq326, kq326, q326a, q326b, q326c⟩ := isOf hZ e303 g303_0
        obtain ⟨_, _, ⟨T326, LC326, kC326, nC326⟩, -, X326, ⟨Lc326, hQ326, lq326, yq326, zq326⟩, st326⟩ := X303.virtualBack hx (y := (⟨"com/example/greenwood/greenwood/Environment", "declare", "()V"⟩ : MethodName)) (z := (⟨"com/example/greenwood/greenwood/Environment", "declare", "()V"⟩ : MethodName)) hown (mvT hZ (hw _ (List.mem_of_getElem? (i := 61) rfl))) (mvT hZ (hw _ (List.mem_of_getElem? (i := 62) rfl))) (notFace_of_selects (args := #[]) (mvT hZ (hw _ (List.mem_of_getElem? (i := 64) rfl)))) (mvT hZ (hw _ (List.mem_of_getElem? (i := 64) rfl))) (mvT hZ (hw _ (List.mem_of_getElem? (i := 63) rfl))) (by decide) (backOf (W := 0) (rm10_2 l Z a0 hw [] b293 rl_299 rs_299 kl_299 ks_299 h303 n0 (by omega) g303_0 g303_1 g303_2 g303_3 g303_4 c327 g303_5 (by omega) (by omega) (by omega) (by first | assumption | exact Ne.symm (by assumption) | (apply Nat.ne_of_lt; omega) | (apply Nat.ne_of_gt; omega)) (by first | assumption | exact Ne.symm (by assumption) | (apply Nat.ne_of_lt; omega) | (apply Nat.ne_of_gt; omega)) (by first | assumption | exact Ne.symm (by assumption) | (apply Nat.ne_of_lt; omega) | (apply Nat.ne_of_gt; omega))) hZ (hw _ (List.mem_of_getElem? (i := 65) rfl)) (hw _ (List.mem_of_getElem? (i := 3) rfl)) (by decide) (by decide)) q326a q326c (g := (mkF m 66 #[.val (.int xa), .val (.int xb), .val (.int xc), .val (.int (2 : Int32)), .val (.int (1 : Int32)), .val (.ref b293), .unset] [(.ref b293)])) rfl (by rw [hml]; rfl) (Steps.refl _) (argsL := []) (rest := []) (lenOf pd_0 rfl) rfl (by show 2 * 0 + _ ≤ _; exact Nat.le_of_eq rfl) (hb hby at_66) (fun _ _ => ⟨rfl, e303, (by decide : 4 + 0 ≤ _), (by decide : 45 + 0 ≤ _)⟩)
        dsimp only [Pt.U, Pt.locs, Pt.cells, Pt.slots] at X326 lq326 yq326 zq326 st326 hQ326
        subst lq326 yq326 zq326
        obtain ⟨h326, e326⟩ : ∃ z, T326.heap = z := ⟨_, rfl⟩
        rw [e326] at hQ326
        obtain ⟨rfl, Nq326, K326, g326_0, g326_1, g326_2, g326_3, g326_4⟩ := hQ326
        have sz326 : h303.size ≤ h326.size := K326.1
        have N326 := Fr.app N303 Nq326
        have lt326_1 : @LT.lt Nat _ b293 h326.size := g326_0.lt
        refine own_go (st' := T326.setTop (mkF m 69 #[.val (.int xa), .val (.int xb), .val (.int xc), .val (.int (2 : Int32)), .val (.int (1 : Int32)), .val (.ref b293), .unset] [])) (fun _ k => st326.trans k) ?_
        refine own_go (st' := T326.setTop (mkF m 71 #[.val (.int xa), .val (.int xb), .val (.int xc), .val (.int (2 : Int32)), .val (.int (1 : Int32)), .val (.ref b293), .unset] [(.ref b293)])) (fun _ k => XS.aload X326.here hx rfl (hb hby at_69) rfl rfl k) ?_
        obtain ⟨cq328, kq328, q328a, q328b, q328c⟩ := isOf hZ e326 g326_0
        obtain ⟨_, _, ⟨T328, LC328, kC328, nC328⟩, -, X328, ⟨Lc328, hQ328, lq328, yq328, zq328⟩, st328⟩ := X326.virtualBack hx (y := (⟨"com/example/greenwood/greenwood/Environment", "inScope", "()Z"⟩ : MethodName)) (z := (⟨"com/example/greenwood/greenwood/Environment", "inScope", "()Z"⟩ : MethodName)) hown (mvT hZ (hw _ (List.mem_of_getElem? (i := 35) rfl))) (mvT hZ (hw _ (List.mem_of_getElem? (i := 36) rfl))) (notFace_of_selects (args := #[]) (mvT hZ (hw _ (List.mem_of_getElem? (i := 38) rfl)))) (mvT hZ (hw _ (List.mem_of_getElem? (i := 38) rfl))) (mvT hZ (hw _ (List.mem_of_getElem? (i := 37) rfl))) (by decide) (backOf (W := 0) (rm5_2 l Z a0 hw [] b293 h326 n0 (by omega) g326_1) hZ (hw _ (List.mem_of_getElem? (i := 39) rfl)) (hw _ (List.mem_of_getElem? (i := 3) rfl)) (by decide) (by decide)) q328a q328c (g := (mkF m 71 #[.val (.int xa), .val (.int xb), .val (.int xc), .val (.int (2 : Int32)), .val (.int (1 : Int32)), .val (.ref b293), .unset] [(.ref b293)])) rfl (by rw [hml]; rfl) (Steps.refl _) (argsL := []) (rest := []) (lenOf pd_3 rfl) rfl (by show 2 * 0 + _ ≤ _; exact Nat.le_of_eq rfl) (hb hby at_71) (fun _ _ => ⟨rfl, e326, (by decide : 4 + 0 ≤ _), (by decide : 45 + 0 ≤ _)⟩)
        dsimp only [Pt.U, Pt.locs, Pt.cells, Pt.slots] at X328 lq328 yq328 zq328 st328 hQ328
        subst lq328 yq328 zq328
        obtain ⟨rfl, Nq328, eq328⟩ := hQ328
        have N328 := Fr.app N326 Nq328
        refine own_go (st' := T328.setTop (mkF m 74 #[.val (.int xa), .val (.int xb), .val (.int xc), .val (.int (2 : Int32)), .val (.int (1 : Int32)), .val (.ref b293), .unset] [(.int (1 : Int32))])) (fun _ k => st328.trans k) ?_
        refine own_go (st' := T328.setTop (mkF m 75 #[.val (.int xa), .val (.int xb), .val (.int xc), .val (.int (2 : Int32)), .val (.int (1 : Int32)), .val (.ref b293), .unset] [(.int (2 : Int32)), (.int (1 : Int32))])) (fun _ k => XS.iloadN X328.here hx rfl (hb hby at_74) rfl k) ?_
        have hc329 : (0 : Int32) < (2 : Int32) := by decide
        refine own_go (st' := T328.setTop (mkF m 78 #[.val (.int xa), .val (.int xb), .val (.int xc), .val (.int (2 : Int32)), .val (.int (1 : Int32)), .val (.ref b293), .unset] [(.int (1 : Int32))])) (fun _ k => XS.ifNo X328.here hx rfl (hb hby at_75) rfl ((if0 _ _).trans (tlt hc329).2.2.2) k) ?_
        refine own_go (st' := T328.setTop (mkF m 79 #[.val (.int xa), .val (.int xb), .val (.int xc), .val (.int (2 : Int32)), .val (.int (1 : Int32)), .val (.ref b293), .unset] [(.int (1 : Int32)), (.int (1 : Int32))])) (fun _ k => XS.iconst X328.here hx rfl (hb hby at_78) k) ?_
        refine own_go (st' := T328.setTop (mkF m 83 #[.val (.int xa), .val (.int xb), .val (.int xc), .val (.int (2 : Int32)), .val (.int (1 : Int32)), .val (.ref b293), .unset] [(.int (1 : Int32)), (.int (1 : Int32))])) (fun _ k => XS.goto X328.here hx rfl (pc0 := 79) (pc' := 83) rfl (hb hby at_79) (by decide) (by decide) k) ?_
        have hc330 : (1 : Int32) = (1 : Int32) := by decide
        refine own_go (st' := T328.setTop (mkF m 86 #[.val (.int xa), .val (.int xb), .val (.int xc), .val (.int (2 : Int32)), .val (.int (1 : Int32)), .val (.ref b293), .unset] [])) (fun _ k => XS.icmpNo X328.here hx rfl (hb hby at_83) rfl (teq hc330).2 k) ?_
        refine own_go (st' := T328.setTop (mkF m 87 #[.val (.int xa), .val (.int xb), .val (.int xc), .val (.int (2 : Int32)), .val (.int (1 : Int32)), .val (.ref b293), .unset] [(.int (1 : Int32))])) (fun _ k => XS.iconst X328.here hx rfl (hb hby at_86) k) ?_
        refine own_go (st' := T328.setTop (mkF m 91 #[.val (.int xa), .val (.int xb), .val (.int xc), .val (.int (2 : Int32)), .val (.int (1 : Int32)), .val (.ref b293), .unset] [(.int (1 : Int32))])) (fun _ k => XS.goto X328.here hx rfl (pc0 := 87) (pc' := 91) rfl (hb hby at_87) (by decide) (by decide) k) ?_
        refine own_go (st' := T328.setTop (mkF m 93 #[.val (.int xa), .val (.int xb), .val (.int xc), .val (.int (2 : Int32)), .val (.int (1 : Int32)), .val (.ref b293), .val (.int (1 : Int32))] [])) (fun _ k => XS.istore X328.here hx rfl (hb hby at_91) rfl (l' := #[.val (.int xa), .val (.int xb), .val (.int xc), .val (.int (2 : Int32)), .val (.int (1 : Int32)), .val (.ref b293), .val (.int (1 : Int32))]) rfl k) ?_
        refine own_go (st' := T328.setTop (mkF m 95 #[.val (.int xa), .val (.int xb), .val (.int xc), .val (.int (2 : Int32)), .val (.int (1 : Int32)), .val (.ref b293), .val (.int (1 : Int32))] [(.int (1 : Int32))])) (fun _ k => XS.iload X328.here hx rfl (hb hby at_93) rfl k) ?_
        refine own_go (st' := T328.setTop (mkF m 96 #[.val (.int xa), .val (.int xb), .val (.int xc), .val (.int (2 : Int32)), .val (.int (1 : Int32)), .val (.ref b293), .val (.int (1 : Int32))] [(.int (1 : Int32)), (.int (1 : Int32))])) (fun _ k => XS.iconst X328.here hx rfl (hb hby at_95) k) ?_
        have hc331 : ¬ ((1 : Int32) < (1 : Int32)) := by decide
        refine own_go (st' := T328.setTop (mkF m 99 #[.val (.int xa), .val (.int xb), .val (.int xc), .val (.int (2 : Int32)), .val (.int (1 : Int32)), .val (.ref b293), .val (.int (1 : Int32))] [])) (fun _ k => XS.icmpNo X328.here hx rfl (hb hby at_96) rfl (flt hc331).1 k) ?_
        refine own_go (st' := T328.setTop (mkF m 101 #[.val (.int xa), .val (.int xb), .val (.int xc), .val (.int (2 : Int32)), .val (.int (1 : Int32)), .val (.ref b293), .val (.int (1 : Int32))] [(.ref b293)])) (fun _ k => XS.aload X328.here hx rfl (hb hby at_99) rfl rfl k) ?_
        have c333 : Arv Z h326 rl_299 kl_299 (.object "java/lang/Object") (16 : Int32) [.null, .null, .null, .null, .null, .null, .null, .null, .null, .null, .null, .null, .null, .null, .null, .null] .null := (c327.keep K326 (ninS (by first | assumption | exact Ne.symm (by assumption) | (apply Nat.ne_of_lt; omega) | (apply Nat.ne_of_gt; omega)) nin0))
        have c334 : Arv Z h326 rs_299 ks_299 .int (16 : Int32) [(.int (0 : Int32)), (.int (0 : Int32)), (.int (0 : Int32)), (.int (0 : Int32)), (.int (0 : Int32)), (.int (0 : Int32)), (.int (0 : Int32)), (.int (0 : Int32)), (.int (0 : Int32)), (.int (0 : Int32)), (.int (0 : Int32)), (.int (0 : Int32)), (.int (0 : Int32)), (.int (0 : Int32)), (.int (0 : Int32)), (.int (0 : Int32))] (.int (0 : Int32)) := (g303_5.keep K326 (ninS (by first | assumption | exact Ne.symm (by assumption) | (apply Nat.ne_of_lt; omega) | (apply Nat.ne_of_gt; omega)) nin0))
        obtain ⟨cq332, kq332, q332a, q332b, q332c⟩ := isOf hZ eq328 g326_0
        obtain ⟨_, _, ⟨T332, LC332, kC332, nC332⟩, -, X332, ⟨Lc332, hQ332, lq332, yq332, zq332⟩, st332⟩ := X328.virtualBack hx (y := (⟨"com/example/greenwood/greenwood/Environment", "closeScope", "()V"⟩ : MethodName)) (z := (⟨"com/example/greenwood/greenwood/Environment", "closeScope", "()V"⟩ : MethodName)) hown (mvT hZ (hw _ (List.mem_of_getElem? (i := 66) rfl))) (mvT hZ (hw _ (List.mem_of_getElem? (i := 67) rfl))) (notFace_of_selects (args := #[]) (mvT hZ (hw _ (List.mem_of_getElem? (i := 69) rfl)))) (mvT hZ (hw _ (List.mem_of_getElem? (i := 69) rfl))) (mvT hZ (hw _ (List.mem_of_getElem? (i := 68) rfl))) (by decide) (backOf (W := 0) (rm11_2_1 l Z a0 hw [] b293 rl_299 rs_299 kl_299 ks_299 h326 n0 (by omega) g326_0 g326_1 g326_2 g326_3 g326_4 c333 c334 (by omega) (by omega) (by omega) (by first | assumption | exact Ne.symm (by assumption) | (apply Nat.ne_of_lt; omega) | (apply Nat.ne_of_gt; omega)) (by first | assumption | exact Ne.symm (by assumption) | (apply Nat.ne_of_lt; omega) | (apply Nat.ne_of_gt; omega)) (by first | assumption | exact Ne.symm (by assumption) | (apply Nat.ne_of_lt; omega) | (apply Nat.ne_of_gt; omega))) hZ (hw _ (List.mem_of_getElem? (i := 70) rfl)) (hw _ (List.mem_of_getElem? (i := 3) rfl)) (by decide) (by decide)) q332a q332c (g := (mkF m 101 #[.val (.int xa), .val (.int xb), .val (.int xc), .val (.int (2 : Int32)), .val (.int (1 : Int32)), .val (.ref b293), .val (.int (1 : Int32))] [(.ref b293)])) rfl (by rw [hml]; rfl) (Steps.refl _) (argsL := []) (rest := []) (lenOf pd_0 rfl) rfl (by show 2 * 0 + _ ≤ _; exact Nat.le_of_eq rfl) (hb hby at_101) (fun _ _ => ⟨rfl, eq328, (by decide : 4 + 0 ≤ _), (by decide : 45 + 0 ≤ _)⟩)
        dsimp only [Pt.U, Pt.locs, Pt.cells, Pt.slots] at X332 lq332 yq332 zq332 st332 hQ332
        subst lq332 yq332 zq332
        obtain ⟨h332, e332⟩ : ∃ z, T332.heap = z := ⟨_, rfl⟩
        rw [e332] at hQ332
        obtain ⟨rfl, Nq332, K332, g332_0, g332_1, g332_2, g332_3, g332_4, g332_5⟩ := hQ332
        have sz332 : h326.size ≤ h332.size := K332.1
        have N332 := Fr.app N328 Nq332
        have lt332_1 : @LT.lt Nat _ b293 h332.size := g332_0.lt
        have lt332_2 : @LT.lt Nat _ rl_299 h332.size := g332_5.lt
        refine own_go (st' := T332.setTop (mkF m 104 #[.val (.int xa), .val (.int xb), .val (.int xc), .val (.int (2 : Int32)), .val (.int (1 : Int32)), .val (.ref b293), .val (.int (1 : Int32))] [])) (fun _ k => st332.trans k) ?_
        refine own_go (st' := T332.setTop (mkF m 106 #[.val (.int xa), .val (.int xb), .val (.int xc), .val (.int (2 : Int32)), .val (.int (1 : Int32)), .val (.ref b293), .val (.int (1 : Int32))] [(.int (1 : Int32))])) (fun _ k => XS.iload X332.here hx rfl (hb hby at_104) rfl k) ?_
        refine own_go (st' := T332.setTop (mkF m 107 #[.val (.int xa), .val (.int xb), .val (.int xc), .val (.int (2 : Int32)), .val (.int (1 : Int32)), .val (.ref b293), .val (.int (1 : Int32))] [(.int (2 : Int32)), (.int (1 : Int32))])) (fun _ k => XS.iconst X332.here hx rfl (hb hby at_106) k) ?_
        have hc335 : (1 : Int32) < (2 : Int32) := by decide
        refine own_go (st' := T332.setTop (mkF m 115 #[.val (.int xa), .val (.int xb), .val (.int xc), .val (.int (2 : Int32)), .val (.int (1 : Int32)), .val (.ref b293), .val (.int (1 : Int32))] [])) (fun _ k => XS.icmpYes X332.here hx rfl (pc0 := 107) (pc' := 115) rfl (hb hby at_107) rfl (tlt hc335).1 (by decide) (by decide) k) ?_
        refine own_go (st' := T332.setTop (mkF m 117 #[.val (.int xa), .val (.int xb), .val (.int xc), .val (.int (2 : Int32)), .val (.int (1 : Int32)), .val (.ref b293), .val (.int (1 : Int32))] [(.int (1 : Int32))])) (fun _ k => XS.iload X332.here hx rfl (hb hby at_115) rfl k) ?_
        have hc336 : ¬ ((1 : Int32) = (0 : Int32)) := by decide
        refine own_go (st' := T332.setTop (mkF m 120 #[.val (.int xa), .val (.int xb), .val (.int xc), .val (.int (2 : Int32)), .val (.int (1 : Int32)), .val (.ref b293), .val (.int (1 : Int32))] [])) (fun _ k => XS.ifNo X332.here hx rfl (hb hby at_117) rfl ((if0 _ _).trans (feq hc336).1) k) ?_
        refine own_go (st' := T332.setTop (mkF m 122 #[.val (.int xa), .val (.int xb), .val (.int xc), .val (.int (2 : Int32)), .val (.int (1 : Int32)), .val (.ref b293), .val (.int (1 : Int32))] [(.ref b293)])) (fun _ k => XS.aload X332.here hx rfl (hb hby at_120) rfl rfl k) ?_
        obtain ⟨cq337, kq337, q337a, q337b, q337c⟩ := isOf hZ e332 g332_0
        obtain ⟨_, _, ⟨T337, LC337, kC337, nC337⟩, -, X337, ⟨Lc337, hQ337, lq337, yq337, zq337⟩, st337⟩ := X332.virtualBack hx (y := (⟨"com/example/greenwood/greenwood/Environment", "inScope", "()Z"⟩ : MethodName)) (z := (⟨"com/example/greenwood/greenwood/Environment", "inScope", "()Z"⟩ : MethodName)) hown (mvT hZ (hw _ (List.mem_of_getElem? (i := 35) rfl))) (mvT hZ (hw _ (List.mem_of_getElem? (i := 36) rfl))) (notFace_of_selects (args := #[]) (mvT hZ (hw _ (List.mem_of_getElem? (i := 38) rfl)))) (mvT hZ (hw _ (List.mem_of_getElem? (i := 38) rfl))) (mvT hZ (hw _ (List.mem_of_getElem? (i := 37) rfl))) (by decide) (backOf (W := 0) (rm5_1 l Z a0 hw [] b293 h332 n0 (by omega) g332_1) hZ (hw _ (List.mem_of_getElem? (i := 39) rfl)) (hw _ (List.mem_of_getElem? (i := 3) rfl)) (by decide) (by decide)) q337a q337c (g := (mkF m 122 #[.val (.int xa), .val (.int xb), .val (.int xc), .val (.int (2 : Int32)), .val (.int (1 : Int32)), .val (.ref b293), .val (.int (1 : Int32))] [(.ref b293)])) rfl (by rw [hml]; rfl) (Steps.refl _) (argsL := []) (rest := []) (lenOf pd_3 rfl) rfl (by show 2 * 0 + _ ≤ _; exact Nat.le_of_eq rfl) (hb hby at_122) (fun _ _ => ⟨rfl, e332, (by decide : 4 + 0 ≤ _), (by decide : 45 + 0 ≤ _)⟩)
        dsimp only [Pt.U, Pt.locs, Pt.cells, Pt.slots] at X337 lq337 yq337 zq337 st337 hQ337
        subst lq337 yq337 zq337
        obtain ⟨rfl, Nq337, eq337⟩ := hQ337
        have N337 := Fr.app N332 Nq337
        refine own_go (st' := T337.setTop (mkF m 125 #[.val (.int xa), .val (.int xb), .val (.int xc), .val (.int (2 : Int32)), .val (.int (1 : Int32)), .val (.ref b293), .val (.int (1 : Int32))] [(.int (1 : Int32))])) (fun _ k => st337.trans k) ?_
        refine own_go (st' := T337.setTop (mkF m 126 #[.val (.int xa), .val (.int xb), .val (.int xc), .val (.int (2 : Int32)), .val (.int (1 : Int32)), .val (.ref b293), .val (.int (1 : Int32))] [(.int (2 : Int32)), (.int (1 : Int32))])) (fun _ k => XS.iloadN X337.here hx rfl (hb hby at_125) rfl k) ?_
        refine own_go (st' := T337.setTop (mkF m 128 #[.val (.int xa), .val (.int xb), .val (.int xc), .val (.int (2 : Int32)), .val (.int (1 : Int32)), .val (.ref b293), .val (.int (1 : Int32))] [(.int (1 : Int32)), (.int (2 : Int32)), (.int (1 : Int32))])) (fun _ k => XS.iload X337.here hx rfl (hb hby at_126) rfl k) ?_
        refine own_go (st' := T337.setTop (mkF m 129 #[.val (.int xa), .val (.int xb), .val (.int xc), .val (.int (2 : Int32)), .val (.int (1 : Int32)), .val (.ref b293), .val (.int (1 : Int32))] [(.int (1 : Int32)), (.int (1 : Int32))])) (fun _ k => XS.isub X337.here hx rfl (hb hby at_128) rfl (by rw [show ((2 : Int32) - (1 : Int32)) = (1 : Int32) by decide]; exact k)) ?_
        have hc338 : (0 : Int32) < (1 : Int32) := by decide
        refine own_go (st' := T337.setTop (mkF m 132 #[.val (.int xa), .val (.int xb), .val (.int xc), .val (.int (2 : Int32)), .val (.int (1 : Int32)), .val (.ref b293), .val (.int (1 : Int32))] [(.int (1 : Int32))])) (fun _ k => XS.ifNo X337.here hx rfl (hb hby at_129) rfl ((if0 _ _).trans (tlt hc338).2.2.2) k) ?_
        refine own_go (st' := T337.setTop (mkF m 133 #[.val (.int xa), .val (.int xb), .val (.int xc), .val (.int (2 : Int32)), .val (.int (1 : Int32)), .val (.ref b293), .val (.int (1 : Int32))] [(.int (1 : Int32)), (.int (1 : Int32))])) (fun _ k => XS.iconst X337.here hx rfl (hb hby at_132) k) ?_
        refine own_go (st' := T337.setTop (mkF m 137 #[.val (.int xa), .val (.int xb), .val (.int xc), .val (.int (2 : Int32)), .val (.int (1 : Int32)), .val (.ref b293), .val (.int (1 : Int32))] [(.int (1 : Int32)), (.int (1 : Int32))])) (fun _ k => XS.goto X337.here hx rfl (pc0 := 133) (pc' := 137) rfl (hb hby at_133) (by decide) (by decide) k) ?_
        have hc339 : (1 : Int32) = (1 : Int32) := by decide
        refine own_go (st' := T337.setTop (mkF m 140 #[.val (.int xa), .val (.int xb), .val (.int xc), .val (.int (2 : Int32)), .val (.int (1 : Int32)), .val (.ref b293), .val (.int (1 : Int32))] [])) (fun _ k => XS.icmpNo X337.here hx rfl (hb hby at_137) rfl (teq hc339).2 k) ?_
        refine own_go (st' := T337.setTop (mkF m 141 #[.val (.int xa), .val (.int xb), .val (.int xc), .val (.int (2 : Int32)), .val (.int (1 : Int32)), .val (.ref b293), .val (.int (1 : Int32))] [(.int (1 : Int32))])) (fun _ k => XS.iconst X337.here hx rfl (hb hby at_140) k) ?_
        refine own_go (st' := T337.setTop (mkF m 145 #[.val (.int xa), .val (.int xb), .val (.int xc), .val (.int (2 : Int32)), .val (.int (1 : Int32)), .val (.ref b293), .val (.int (1 : Int32))] [(.int (1 : Int32))])) (fun _ k => XS.goto X337.here hx rfl (pc0 := 141) (pc' := 145) rfl (hb hby at_141) (by decide) (by decide) k) ?_
        refine own_go (st' := T337.setTop (mkF m 147 #[.val (.int xa), .val (.int xb), .val (.int xc), .val (.int (2 : Int32)), .val (.int (1 : Int32)), .val (.ref b293), .val (.int (1 : Int32))] [])) (fun _ k => XS.istore X337.here hx rfl (hb hby at_145) rfl (l' := #[.val (.int xa), .val (.int xb), .val (.int xc), .val (.int (2 : Int32)), .val (.int (1 : Int32)), .val (.ref b293), .val (.int (1 : Int32))]) rfl k) ?_
        refine own_go (st' := T337.setTop (mkF m 148 #[.val (.int xa), .val (.int xb), .val (.int xc), .val (.int (2 : Int32)), .val (.int (1 : Int32)), .val (.ref b293), .val (.int (1 : Int32))] [(.int xc)])) (fun _ k => XS.iloadN X337.here hx rfl (hb hby at_147) rfl k) ?_
        refine own_go (st' := T337.setTop (mkF m 149 #[.val (.int xa), .val (.int xb), .val (.int xc), .val (.int (2 : Int32)), .val (.int (1 : Int32)), .val (.ref b293), .val (.int (1 : Int32))] [(.int (2 : Int32)), (.int xc)])) (fun _ k => XS.iconst X337.here hx rfl (hb hby at_148) k) ?_
        refine own_go (st' := T337.setTop (mkF m 150 #[.val (.int xa), .val (.int xb), .val (.int xc), .val (.int (2 : Int32)), .val (.int (1 : Int32)), .val (.ref b293), .val (.int (1 : Int32))] [(.int (xc &&& (2 : Int32)))])) (fun _ k => XS.iand X337.here hx rfl (hb hby at_149) rfl k) ?_
        by_cases hc340 : (xc &&& (2 : Int32)) = (0 : Int32)
        · --
          refine own_go (st' := T337.setTop (mkF m 178 #[.val (.int xa), .val (.int xb), .val (.int xc), .val (.int (2 : Int32)), .val (.int (1 : Int32)), .val (.ref b293), .val (.int (1 : Int32))] [])) (fun _ k => XS.ifYes X337.here hx rfl (pc0 := 150) (pc' := 178) rfl (hb hby at_150) rfl ((if0 _ _).trans (teq hc340).1) (by decide) (by decide) k) ?_
          refine own_go (st' := T337.setTop (mkF m 180 #[.val (.int xa), .val (.int xb), .val (.int xc), .val (.int (2 : Int32)), .val (.int (1 : Int32)), .val (.ref b293), .val (.int (1 : Int32))] [(.int (1 : Int32))])) (fun _ k => XS.iload X337.here hx rfl (hb hby at_178) rfl k) ?_
          obtain ⟨fs, hr, hrun, hended, hW, hsame⟩ := X337.leave (v := some (.int (1 : Int32))) (fun h => by rw [Bd.returns] at h; cases h)
          refine ⟨_, _, ?_, hP _ _ hrun hended ⟨_, _, rfl, ?_, ⟨_, rfl⟩, hW, hsame.mono (by decide) (by decide)⟩⟩
          · exact retN X337 hx (t := .boolean) Bd.returns (by simp) (hb hby at_180) hr
          · show Qrm0 Z xa xb xc h0 n0 _ T337.heap _
            rw [eq337]
            exact ⟨rfl, N337, trivial⟩
        · --
          refine own_go (st' := T337.setTop (mkF m 153 #[.val (.int xa), .val (.int xb), .val (.int xc), .val (.int (2 : Int32)), .val (.int (1 : Int32)), .val (.ref b293), .val (.int (1 : Int32))] [])) (fun _ k => XS.ifNo X337.here hx rfl (hb hby at_150) rfl ((if0 _ _).trans (feq hc340).1) k) ?_
          refine own_go (st' := T337.setTop (mkF m 155 #[.val (.int xa), .val (.int xb), .val (.int xc), .val (.int (2 : Int32)), .val (.int (1 : Int32)), .val (.ref b293), .val (.int (1 : Int32))] [(.ref b293)])) (fun _ k => XS.aload X337.here hx rfl (hb hby at_153) rfl rfl k) ?_
          have c343 : Arv Z h332 rs_299 ks_299 .int (16 : Int32) [(.int (0 : Int32)), (.int (0 : Int32)), (.int (0 : Int32)), (.int (0 : Int32)), (.int (0 : Int32)), (.int (0 : Int32)), (.int (0 : Int32)), (.int (0 : Int32)), (.int (0 : Int32)), (.int (0 : Int32)), (.int (0 : Int32)), (.int (0 : Int32)), (.int (0 : Int32)), (.int (0 : Int32)), (.int (0 : Int32)), (.int (0 : Int32))] (.int (0 : Int32)) := (c334.keep K332 (ninS (by first | assumption | exact Ne.symm (by assumption) | (apply Nat.ne_of_lt; omega) | (apply Nat.ne_of_gt; omega)) (ninS (by first | assumption | exact Ne.symm (by assumption) | (apply Nat.ne_of_lt; omega) | (apply Nat.ne_of_gt; omega)) nin0)))
          obtain ⟨cq342, kq342, q342a, q342b, q342c⟩ := isOf hZ eq337 g332_0
          obtain ⟨_, _, ⟨T342, LC342, kC342, nC342⟩, -, X342, ⟨Lc342, hQ342, lq342, yq342, zq342⟩, st342⟩ := X337.virtualBack hx (y := (⟨"com/example/greenwood/greenwood/Environment", "closeScopes", "()V"⟩ : MethodName)) (z := (⟨"com/example/greenwood/greenwood/Environment", "closeScopes", "()V"⟩ : MethodName)) hown (mvT hZ (hw _ (List.mem_of_getElem? (i := 42) rfl))) (mvT hZ (hw _ (List.mem_of_getElem? (i := 43) rfl))) (notFace_of_selects (args := #[]) (mvT hZ (hw _ (List.mem_of_getElem? (i := 45) rfl)))) (mvT hZ (hw _ (List.mem_of_getElem? (i := 45) rfl))) (mvT hZ (hw _ (List.mem_of_getElem? (i := 44) rfl))) (by decide) (backOf (W := 0) (rm6_0 l Z a0 hw [] b293 (1 : Int32) rl_299 rs_299 kl_299 ks_299 h332 n0 (by omega) g332_0 g332_1 g332_2 g332_3 g332_4 g332_5 c343 (by omega) (by omega) (by omega) (by first | assumption | exact Ne.symm (by assumption) | (apply Nat.ne_of_lt; omega) | (apply Nat.ne_of_gt; omega)) (by first | assumption | exact Ne.symm (by assumption) | (apply Nat.ne_of_lt; omega) | (apply Nat.ne_of_gt; omega)) (by first | assumption | exact Ne.symm (by assumption) | (apply Nat.ne_of_lt; omega) | (apply Nat.ne_of_gt; omega))) hZ (hw _ (List.mem_of_getElem? (i := 46) rfl)) (hw _ (List.mem_of_getElem? (i := 3) rfl)) (by decide) (by decide)) q342a q342c (g := (mkF m 155 #[.val (.int xa), .val (.int xb), .val (.int xc), .val (.int (2 : Int32)), .val (.int (1 : Int32)), .val (.ref b293), .val (.int (1 : Int32))] [(.ref b293)])) rfl (by rw [hml]; rfl) (Steps.refl _) (argsL := []) (rest := []) (lenOf pd_0 rfl) rfl (by show 2 * 0 + _ ≤ _; exact Nat.le_of_eq rfl) (hb hby at_155) (fun _ _ => ⟨rfl, eq337, (by decide : 4 + 0 ≤ _), (by decide : 45 + 0 ≤ _)⟩)
          dsimp only [Pt.U, Pt.locs, Pt.cells, Pt.slots] at X342 lq342 yq342 zq342 st342 hQ342
          subst lq342 yq342 zq342
          obtain ⟨h342, e342⟩ : ∃ z, T342.heap = z := ⟨_, rfl⟩
          rw [e342] at hQ342
          obtain ⟨rfl, Nq342, K342, g342_0, g342_1, g342_2, g342_3, g342_4, g342_5⟩ := hQ342
          have sz342 : h332.size ≤ h342.size := K342.1
          have N342 := Fr.app N337 Nq342
          have lt342_1 : @LT.lt Nat _ b293 h342.size := g342_0.lt
          have lt342_2 : @LT.lt Nat _ rl_299 h342.size := g342_5.lt
          refine own_go (st' := T342.setTop (mkF m 158 #[.val (.int xa), .val (.int xb), .val (.int xc), .val (.int (2 : Int32)), .val (.int (1 : Int32)), .val (.ref b293), .val (.int (1 : Int32))] [])) (fun _ k => st342.trans k) ?_
          refine own_go (st' := T342.setTop (mkF m 160 #[.val (.int xa), .val (.int xb), .val (.int xc), .val (.int (2 : Int32)), .val (.int (1 : Int32)), .val (.ref b293), .val (.int (1 : Int32))] [(.int (1 : Int32))])) (fun _ k => XS.iload X342.here hx rfl (hb hby at_158) rfl k) ?_
          have hc344 : ¬ ((1 : Int32) = (0 : Int32)) := by decide
          refine own_go (st' := T342.setTop (mkF m 163 #[.val (.int xa), .val (.int xb), .val (.int xc), .val (.int (2 : Int32)), .val (.int (1 : Int32)), .val (.ref b293), .val (.int (1 : Int32))] [])) (fun _ k => XS.ifNo X342.here hx rfl (hb hby at_160) rfl ((if0 _ _).trans (feq hc344).1) k) ?_
          refine own_go (st' := T342.setTop (mkF m 165 #[.val (.int xa), .val (.int xb), .val (.int xc), .val (.int (2 : Int32)), .val (.int (1 : Int32)), .val (.ref b293), .val (.int (1 : Int32))] [(.ref b293)])) (fun _ k => XS.aload X342.here hx rfl (hb hby at_163) rfl rfl k) ?_
          obtain ⟨cq345, kq345, q345a, q345b, q345c⟩ := isOf hZ e342 g342_0
          obtain ⟨_, _, ⟨T345, LC345, kC345, nC345⟩, -, X345, ⟨Lc345, hQ345, lq345, yq345, zq345⟩, st345⟩ := X342.virtualBack hx (y := (⟨"com/example/greenwood/greenwood/Environment", "inScope", "()Z"⟩ : MethodName)) (z := (⟨"com/example/greenwood/greenwood/Environment", "inScope", "()Z"⟩ : MethodName)) hown (mvT hZ (hw _ (List.mem_of_getElem? (i := 35) rfl))) (mvT hZ (hw _ (List.mem_of_getElem? (i := 36) rfl))) (notFace_of_selects (args := #[]) (mvT hZ (hw _ (List.mem_of_getElem? (i := 38) rfl)))) (mvT hZ (hw _ (List.mem_of_getElem? (i := 38) rfl))) (mvT hZ (hw _ (List.mem_of_getElem? (i := 37) rfl))) (by decide) (backOf (W := 0) (rm5_0 l Z a0 hw [] b293 h342 n0 (by omega) g342_1) hZ (hw _ (List.mem_of_getElem? (i := 39) rfl)) (hw _ (List.mem_of_getElem? (i := 3) rfl)) (by decide) (by decide)) q345a q345c (g := (mkF m 165 #[.val (.int xa), .val (.int xb), .val (.int xc), .val (.int (2 : Int32)), .val (.int (1 : Int32)), .val (.ref b293), .val (.int (1 : Int32))] [(.ref b293)])) rfl (by rw [hml]; rfl) (Steps.refl _) (argsL := []) (rest := []) (lenOf pd_3 rfl) rfl (by show 2 * 0 + _ ≤ _; exact Nat.le_of_eq rfl) (hb hby at_165) (fun _ _ => ⟨rfl, e342, (by decide : 4 + 0 ≤ _), (by decide : 45 + 0 ≤ _)⟩)
          dsimp only [Pt.U, Pt.locs, Pt.cells, Pt.slots] at X345 lq345 yq345 zq345 st345 hQ345
          subst lq345 yq345 zq345
          obtain ⟨rfl, Nq345, eq345⟩ := hQ345
          have N345 := Fr.app N342 Nq345
          refine own_go (st' := T345.setTop (mkF m 168 #[.val (.int xa), .val (.int xb), .val (.int xc), .val (.int (2 : Int32)), .val (.int (1 : Int32)), .val (.ref b293), .val (.int (1 : Int32))] [(.int (0 : Int32))])) (fun _ k => st345.trans k) ?_
          have hc346 : (0 : Int32) = (0 : Int32) := by decide
          refine own_go (st' := T345.setTop (mkF m 171 #[.val (.int xa), .val (.int xb), .val (.int xc), .val (.int (2 : Int32)), .val (.int (1 : Int32)), .val (.ref b293), .val (.int (1 : Int32))] [])) (fun _ k => XS.ifNo X345.here hx rfl (hb hby at_168) rfl ((if0 _ _).trans (teq hc346).2) k) ?_
          refine own_go (st' := T345.setTop (mkF m 172 #[.val (.int xa), .val (.int xb), .val (.int xc), .val (.int (2 : Int32)), .val (.int (1 : Int32)), .val (.ref b293), .val (.int (1 : Int32))] [(.int (1 : Int32))])) (fun _ k => XS.iconst X345.here hx rfl (hb hby at_171) k) ?_
          refine own_go (st' := T345.setTop (mkF m 176 #[.val (.int xa), .val (.int xb), .val (.int xc), .val (.int (2 : Int32)), .val (.int (1 : Int32)), .val (.ref b293), .val (.int (1 : Int32))] [(.int (1 : Int32))])) (fun _ k => XS.goto X345.here hx rfl (pc0 := 172) (pc' := 176) rfl (hb hby at_172) (by decide) (by decide) k) ?_
          refine own_go (st' := T345.setTop (mkF m 178 #[.val (.int xa), .val (.int xb), .val (.int xc), .val (.int (2 : Int32)), .val (.int (1 : Int32)), .val (.ref b293), .val (.int (1 : Int32))] [])) (fun _ k => XS.istore X345.here hx rfl (hb hby at_176) rfl (l' := #[.val (.int xa), .val (.int xb), .val (.int xc), .val (.int (2 : Int32)), .val (.int (1 : Int32)), .val (.ref b293), .val (.int (1 : Int32))]) rfl k) ?_
          refine own_go (st' := T345.setTop (mkF m 180 #[.val (.int xa), .val (.int xb), .val (.int xc), .val (.int (2 : Int32)), .val (.int (1 : Int32)), .val (.ref b293), .val (.int (1 : Int32))] [(.int (1 : Int32))])) (fun _ k => XS.iload X345.here hx rfl (hb hby at_178) rfl k) ?_
          obtain ⟨fs, hr, hrun, hended, hW, hsame⟩ := X345.leave (v := some (.int (1 : Int32))) (fun h => by rw [Bd.returns] at h; cases h)
          refine ⟨_, _, ?_, hP _ _ hrun hended ⟨_, _, rfl, ?_, ⟨_, rfl⟩, hW, hsame.mono (by decide) (by decide)⟩⟩
          · exact retN X345 hx (t := .boolean) Bd.returns (by simp) (hb hby at_180) hr
          · show Qrm0 Z xa xb xc h0 n0 _ T345.heap _
            rw [eq345]
            exact ⟨rfl, N345, trivial⟩
    · --
      rw [hm_13]
      refine own_go (st' := s₁.setTop (mkF m 15 #[.val (.int xa), .val (.int xb), .val (.int xc), .val (.int (2 : Int32)), .val (.int (2 : Int32)), .unset, .unset] [])) (fun _ k => XS.istore X0.here hx rfl (hb hby at_13) rfl (l' := #[.val (.int xa), .val (.int xb), .val (.int xc), .val (.int (2 : Int32)), .val (.int (2 : Int32)), .unset, .unset]) rfl k) ?_
      refine own_go (st' := s₁.setTop (mkF m 17 #[.val (.int xa), .val (.int xb), .val (.int xc), .val (.int (2 : Int32)), .val (.int (2 : Int32)), .unset, .unset] [(.int (2 : Int32))])) (fun _ k => XS.iload X0.here hx rfl (hb hby at_15) rfl k) ?_
      refine own_go (st' := s₁.setTop (mkF m 18 #[.val (.int xa), .val (.int xb), .val (.int xc), .val (.int (2 : Int32)), .val (.int (2 : Int32)), .unset, .unset] [(.int (2 : Int32)), (.int (2 : Int32))])) (fun _ k => XS.iloadN X0.here hx rfl (hb hby at_17) rfl k) ?_
      have hc348 : ¬ ((2 : Int32) < (2 : Int32)) := by decide
      refine own_go (st' := s₁.setTop (mkF m 24 #[.val (.int xa), .val (.int xb), .val (.int xc), .val (.int (2 : Int32)), .val (.int (2 : Int32)), .unset, .unset] [])) (fun _ k => XS.icmpYes X0.here hx rfl (pc0 := 18) (pc' := 24) rfl (hb hby at_18) rfl (flt hc348).2.2.2 (by decide) (by decide) k) ?_
      obtain ⟨T349, h349, X349, e349, E349, A349, D349, -, st349⟩ := newO X0 hx hZ hown (hw _ (List.mem_of_getElem? (i := 1) rfl)) (hw _ (List.mem_of_getElem? (i := 2) rfl)) (hw _ (List.mem_of_getElem? (i := 3) rfl)) e0 (g := (mkF m 24 #[.val (.int xa), .val (.int xb), .val (.int xc), .val (.int (2 : Int32)), .val (.int (2 : Int32)), .unset, .unset] [])) rfl (hb hby at_24) (by decide) (by decide)
      obtain ⟨b349, g349⟩ : ∃ z, z = h0.size := ⟨_, rfl⟩
      rw [← g349] at A349 D349 st349
      have sz349 : h0.size ≤ h349.size := E349.1
      have lt349 : @LT.lt Nat _ b349 h349.size := A349.lt
      have f350 : Fld Z h349 b349 "com/example/greenwood/greenwood/Environment" "globals" "Ljava/util/Map;" .null := D349 (Or.inr (hw _ (List.mem_of_getElem? (i := 27) rfl))) (ty := (.object "java/util/Map")) (by decide)
      have f351 : Fld Z h349 b349 "com/example/greenwood/greenwood/Environment" "locals" "[Ljava/lang/Object;" .null := D349 (Or.inl (hw _ (List.mem_of_getElem? (i := 31) rfl))) (ty := (.array (.object "java/lang/Object"))) (by decide)
      have f352 : Fld Z h349 b349 "com/example/greenwood/greenwood/Environment" "scopeStarts" "[I" .null := D349 (Or.inl (hw _ (List.mem_of_getElem? (i := 34) rfl))) (ty := (.array .int)) (by decide)
      have f353 : Fld Z h349 b349 "com/example/greenwood/greenwood/Environment" "openScopes" "I" (.int (0 : Int32)) := D349 (Or.inl (hw _ (List.mem_of_getElem? (i := 41) rfl))) (ty := .int) (by decide)
      have f354 : Fld Z h349 b349 "com/example/greenwood/greenwood/Environment" "localCount" "I" (.int (0 : Int32)) := D349 (Or.inl (hw _ (List.mem_of_getElem? (i := 48) rfl))) (ty := .int) (by decide)
      refine own_go (st' := T349.setTop (mkF m 27 #[.val (.int xa), .val (.int xb), .val (.int xc), .val (.int (2 : Int32)), .val (.int (2 : Int32)), .unset, .unset] [(.ref b349)])) (st349) ?_
      refine own_go (st' := T349.setTop (mkF m 28 #[.val (.int xa), .val (.int xb), .val (.int xc), .val (.int (2 : Int32)), .val (.int (2 : Int32)), .unset, .unset] [(.ref b349), (.ref b349)])) (fun _ k => XS.dup X349.here hx rfl (hb hby at_27) rfl rfl k) ?_
      obtain ⟨_, _, ⟨T355, LC355, kC355, nC355⟩, -, X355, ⟨Lc355, hQ355, lq355, yq355, zq355⟩, st355⟩ := X349.specialBack hx (y := (⟨"com/example/greenwood/greenwood/Environment", "<init>", "()V"⟩ : MethodName)) rfl hown (mvT hZ (hw _ (List.mem_of_getElem? (i := 4) rfl))) (mvT hZ (hw _ (List.mem_of_getElem? (i := 5) rfl))) (mvT hZ (hw _ (List.mem_of_getElem? (i := 6) rfl))) (by decide) (backOf (W := 1) (rm1 l Z a0 hw [] b349 h349 n0 (by omega) A349 f350 f351 f352 f353 f354 (by omega)) hZ (hw _ (List.mem_of_getElem? (i := 6) rfl)) (hw _ (List.mem_of_getElem? (i := 3) rfl)) (by decide) (by decide)) (g := (mkF m 28 #[.val (.int xa), .val (.int xb), .val (.int xc), .val (.int (2 : Int32)), .val (.int (2 : Int32)), .unset, .unset] [(.ref b349), (.ref b349)])) rfl (by rw [hml]; rfl) (Steps.refl _) (a := b349) (argsL := []) (rest := [(.ref b349)]) (lenOf pd_0 rfl) rfl (by show 2 * 0 + _ ≤ _; exact Nat.le_of_eq rfl) (hb hby at_28) (fun _ _ => ⟨rfl, e349, (by decide : 1 + 3 ≤ _), (by decide : 5 + 40 ≤ _)⟩)
      dsimp only [Pt.U, Pt.locs, Pt.cells, Pt.slots] at X355 lq355 yq355 zq355 st355 hQ355
      subst lq355 yq355 zq355
      obtain ⟨h355, e355⟩ : ∃ z, T355.heap = z := ⟨_, rfl⟩
      rw [e355] at hQ355
      obtain ⟨rl_355, rs_355, kl_355, ks_355, rfl, Nq355, K355, g355_0, g355_1, g355_2, g355_3, g355_4, g355_5, g355_6, g355_7, g355_8, g355_9, g355_10⟩ := hQ355
      have sz355 : h349.size ≤ h355.size := K355.1
      have N355 := Fr.app N0 Nq355
      have lt355_1 : @LT.lt Nat _ b349 h355.size := g355_0.lt
      have lt355_2 : @LT.lt Nat _ rl_355 h355.size := g355_5.lt
      have lt355_3 : @LT.lt Nat _ rs_355 h355.size := g355_6.lt
      refine own_go (st' := T355.setTop (mkF m 31 #[.val (.int xa), .val (.int xb), .val (.int xc), .val (.int (2 : Int32)), .val (.int (2 : Int32)), .unset, .unset] [(.ref b349)])) (fun _ k => st355.trans k) ?_
      refine own_go (st' := T355.setTop (mkF m 33 #[.val (.int xa), .val (.int xb), .val (.int xc), .val (.int (2 : Int32)), .val (.int (2 : Int32)), .val (.ref b349), .unset] [])) (fun _ k => XS.astore X355.here hx rfl (hb hby at_31) rfl rfl (l' := #[.val (.int xa), .val (.int xb), .val (.int xc), .val (.int (2 : Int32)), .val (.int (2 : Int32)), .val (.ref b349), .unset]) rfl k) ?_
      refine own_go (st' := T355.setTop (mkF m 34 #[.val (.int xa), .val (.int xb), .val (.int xc), .val (.int (2 : Int32)), .val (.int (2 : Int32)), .val (.ref b349), .unset] [(.int (2 : Int32))])) (fun _ k => XS.iloadN X355.here hx rfl (hb hby at_33) rfl k) ?_
      refine own_go (st' := T355.setTop (mkF m 35 #[.val (.int xa), .val (.int xb), .val (.int xc), .val (.int (2 : Int32)), .val (.int (2 : Int32)), .val (.ref b349), .unset] [(.int (1 : Int32)), (.int (2 : Int32))])) (fun _ k => XS.iconst X355.here hx rfl (hb hby at_34) k) ?_
      have hc356 : ¬ ((2 : Int32) < (1 : Int32)) := by decide
      refine own_go (st' := T355.setTop (mkF m 38 #[.val (.int xa), .val (.int xb), .val (.int xc), .val (.int (2 : Int32)), .val (.int (2 : Int32)), .val (.ref b349), .unset] [])) (fun _ k => XS.icmpNo X355.here hx rfl (hb hby at_35) rfl (flt hc356).1 k) ?_
      refine own_go (st' := T355.setTop (mkF m 40 #[.val (.int xa), .val (.int xb), .val (.int xc), .val (.int (2 : Int32)), .val (.int (2 : Int32)), .val (.ref b349), .unset] [(.ref b349)])) (fun _ k => XS.aload X355.here hx rfl (hb hby at_38) rfl rfl k) ?_
      obtain ⟨cq357, kq357, q357a, q357b, q357c⟩ := isOf hZ e355 g355_0
      obtain ⟨_, _, ⟨T357, LC357, kC357, nC357⟩, -, X357, ⟨Lc357, hQ357, lq357, yq357, zq357⟩, st357⟩ := X355.virtualBack hx (y := (⟨"com/example/greenwood/greenwood/Environment", "openScope", "()V"⟩ : MethodName)) (z := (⟨"com/example/greenwood/greenwood/Environment", "openScope", "()V"⟩ : MethodName)) hown (mvT hZ (hw _ (List.mem_of_getElem? (i := 56) rfl))) (mvT hZ (hw _ (List.mem_of_getElem? (i := 57) rfl))) (notFace_of_selects (args := #[]) (mvT hZ (hw _ (List.mem_of_getElem? (i := 59) rfl)))) (mvT hZ (hw _ (List.mem_of_getElem? (i := 59) rfl))) (mvT hZ (hw _ (List.mem_of_getElem? (i := 58) rfl))) (by decide) (backOf (W := 0) (rm9_0 l Z a0 hw [] b349 rl_355 rs_355 kl_355 ks_355 h355 n0 (by omega) g355_0 g355_1 g355_2 g355_3 g355_4 g355_5 g355_6 (by omega) (by omega) (by omega) (by first | assumption | exact Ne.symm (by assumption) | (apply Nat.ne_of_lt; omega) | (apply Nat.ne_of_gt; omega)) (by first | assumption | exact Ne.symm (by assumption) | (apply Nat.ne_of_lt; omega) | (apply Nat.ne_of_gt; omega)) (by first | assumption | exact Ne.symm (by assumption) | (apply Nat.ne_of_lt; omega) | (apply Nat.ne_of_gt; omega))) hZ (hw _ (List.mem_of_getElem? (i := 60) rfl)) (hw _ (List.mem_of_getElem? (i := 3) rfl)) (by decide) (by decide)) q357a q357c (g := (mkF m 40 #[.val (.int xa), .val (.int xb), .val (.int xc), .val (.int (2 : Int32)), .val (.int (2 : Int32)), .val (.ref b349), .unset] [(.ref b349)])) rfl (by rw [hml]; rfl) (Steps.refl _) (argsL := []) (rest := []) (lenOf pd_0 rfl) rfl (by show 2 * 0 + _ ≤ _; exact Nat.le_of_eq rfl) (hb hby at_40) (fun _ _ => ⟨rfl, e355, (by decide : 4 + 0 ≤ _), (by decide : 45 + 0 ≤ _)⟩)
      dsimp only [Pt.U, Pt.locs, Pt.cells, Pt.slots] at X357 lq357 yq357 zq357 st357 hQ357
      subst lq357 yq357 zq357
      obtain ⟨h357, e357⟩ : ∃ z, T357.heap = z := ⟨_, rfl⟩
      rw [e357] at hQ357
      obtain ⟨rfl, Nq357, K357, g357_0, g357_1, g357_2, g357_3, g357_4, g357_5⟩ := hQ357
      have sz357 : h355.size ≤ h357.size := K357.1
      have N357 := Fr.app N355 Nq357
      have lt357_1 : @LT.lt Nat _ b349 h357.size := g357_0.lt
      have lt357_2 : @LT.lt Nat _ rs_355 h357.size := g357_5.lt
      refine own_go (st' := T357.setTop (mkF m 43 #[.val (.int xa), .val (.int xb), .val (.int xc), .val (.int (2 : Int32)), .val (.int (2 : Int32)), .val (.ref b349), .unset] [])) (fun _ k => st357.trans k) ?_
      refine own_go (st' := T357.setTop (mkF m 44 #[.val (.int xa), .val (.int xb), .val (.int xc), .val (.int (2 : Int32)), .val (.int (2 : Int32)), .val (.ref b349), .unset] [(.int (2 : Int32))])) (fun _ k => XS.iloadN X357.here hx rfl (hb hby at_43) rfl k) ?_
      refine own_go (st' := T357.setTop (mkF m 45 #[.val (.int xa), .val (.int xb), .val (.int xc), .val (.int (2 : Int32)), .val (.int (2 : Int32)), .val (.ref b349), .unset] [(.int (2 : Int32)), (.int (2 : Int32))])) (fun _ k => XS.iconst X357.here hx rfl (hb hby at_44) k) ?_
      have hc358 : ¬ ((2 : Int32) < (2 : Int32)) := by decide
      refine own_go (st' := T357.setTop (mkF m 48 #[.val (.int xa), .val (.int xb), .val (.int xc), .val (.int (2 : Int32)), .val (.int (2 : Int32)), .val (.ref b349), .unset] [])) (fun _ k => XS.icmpNo X357.here hx rfl (hb hby at_45) rfl (flt hc358).1 k) ?_
      refine own_go (st' := T357.setTop (mkF m 50 #[.val (.int xa), .val (.int xb), .val (.int xc), .val (.int (2 : Int32)), .val (.int (2 : Int32)), .val (.ref b349), .unset] [(.ref b349)])) (fun _ k => XS.aload X357.here hx rfl (hb hby at_48) rfl rfl k) ?_
      have c360 : Arv Z h357 rl_355 kl_355 (.object "java/lang/Object") (16 : Int32) [.null, .null, .null, .null, .null, .null, .null, .null, .null, .null, .null, .null, .null, .null, .null, .null] .null := (g355_5.keep K357 (ninS (by first | assumption | exact Ne.symm (by assumption) | (apply Nat.ne_of_lt; omega) | (apply Nat.ne_of_gt; omega)) (ninS (by first | assumption | exact Ne.symm (by assumption) | (apply Nat.ne_of_lt; omega) | (apply Nat.ne_of_gt; omega)) nin0)))
      obtain ⟨cq359, kq359, q359a, q359b, q359c⟩ := isOf hZ e357 g357_0
      obtain ⟨_, _, ⟨T359, LC359, kC359, nC359⟩, -, X359, ⟨Lc359, hQ359, lq359, yq359, zq359⟩, st359⟩ := X357.virtualBack hx (y := (⟨"com/example/greenwood/greenwood/Environment", "openScope", "()V"⟩ : MethodName)) (z := (⟨"com/example/greenwood/greenwood/Environment", "openScope", "()V"⟩ : MethodName)) hown (mvT hZ (hw _ (List.mem_of_getElem? (i := 56) rfl))) (mvT hZ (hw _ (List.mem_of_getElem? (i := 57) rfl))) (notFace_of_selects (args := #[]) (mvT hZ (hw _ (List.mem_of_getElem? (i := 59) rfl)))) (mvT hZ (hw _ (List.mem_of_getElem? (i := 59) rfl))) (mvT hZ (hw _ (List.mem_of_getElem? (i := 58) rfl))) (by decide) (backOf (W := 0) (rm9_1 l Z a0 hw [] b349 rl_355 rs_355 kl_355 ks_355 h357 n0 (by omega) g357_0 g357_1 g357_2 g357_3 g357_4 c360 g357_5 (by omega) (by omega) (by omega) (by first | assumption | exact Ne.symm (by assumption) | (apply Nat.ne_of_lt; omega) | (apply Nat.ne_of_gt; omega)) (by first | assumption | exact Ne.symm (by assumption) | (apply Nat.ne_of_lt; omega) | (apply Nat.ne_of_gt; omega)) (by first | assumption | exact Ne.symm (by assumption) | (apply Nat.ne_of_lt; omega) | (apply Nat.ne_of_gt; omega))) hZ (hw _ (List.mem_of_getElem? (i := 60) rfl)) (hw _ (List.mem_of_getElem? (i := 3) rfl)) (by decide) (by decide)) q359a q359c (g := (mkF m 50 #[.val (.int xa), .val (.int xb), .val (.int xc), .val (.int (2 : Int32)), .val (.int (2 : Int32)), .val (.ref b349), .unset] [(.ref b349)])) rfl (by rw [hml]; rfl) (Steps.refl _) (argsL := []) (rest := []) (lenOf pd_0 rfl) rfl (by show 2 * 0 + _ ≤ _; exact Nat.le_of_eq rfl) (hb hby at_50) (fun _ _ => ⟨rfl, e357, (by decide : 4 + 0 ≤ _), (by decide : 45 + 0 ≤ _)⟩)
      dsimp only [Pt.U, Pt.locs, Pt.cells, Pt.slots] at X359 lq359 yq359 zq359 st359 hQ359
      subst lq359 yq359 zq359
      obtain ⟨h359, e359⟩ : ∃ z, T359.heap = z := ⟨_, rfl⟩
      rw [e359] at hQ359
      obtain ⟨rfl, Nq359, K359, g359_0, g359_1, g359_2, g359_3, g359_4, g359_5⟩ := hQ359
      have sz359 : h357.size ≤ h359.size := K359.1
      have N359 := Fr.app N357 Nq359
      have lt359_1 : @LT.lt Nat _ b349 h359.size := g359_0.lt
      have lt359_2 : @LT.lt Nat _ rs_355 h359.size := g359_5.lt
      refine own_go (st' := T359.setTop (mkF m 53 #[.val (.int xa), .val (.int xb), .val (.int xc), .val (.int (2 : Int32)), .val (.int (2 : Int32)), .val (.ref b349), .unset] [])) (fun _ k => st359.trans k) ?_
      refine own_go (st' := T359.setTop (mkF m 54 #[.val (.int xa), .val (.int xb), .val (.int xc), .val (.int (2 : Int32)), .val (.int (2 : Int32)), .val (.ref b349), .unset] [(.int (2 : Int32))])) (fun _ k => XS.iloadN X359.here hx rfl (hb hby at_53) rfl k) ?_
      refine own_go (st' := T359.setTop (mkF m 55 #[.val (.int xa), .val (.int xb), .val (.int xc), .val (.int (2 : Int32)), .val (.int (2 : Int32)), .val (.ref b349), .unset] [(.int (1 : Int32)), (.int (2 : Int32))])) (fun _ k => XS.iconst X359.here hx rfl (hb hby at_54) k) ?_
      have hc361 : ¬ ((2 : Int32) < (1 : Int32)) := by decide
      refine own_go (st' := T359.setTop (mkF m 58 #[.val (.int xa), .val (.int xb), .val (.int xc), .val (.int (2 : Int32)), .val (.int (2 : Int32)), .val (.ref b349), .unset] [])) (fun _ k => XS.icmpNo X359.here hx rfl (hb hby at_55) rfl (flt hc361).1 k) ?_
      refine own_go (st' := T359.setTop (mkF m 59 #[.val (.int xa), .val (.int xb), .val (.int xc), .val (.int (2 : Int32)), .val (.int (2 : Int32)), .val (.ref b349), .unset] [(.int xc)])) (fun _ k => XS.iloadN X359.here hx rfl (hb hby at_58) rfl k) ?_
      refine own_go (st' := T359.setTop (mkF m 60 #[.val (.int xa), .val (.int xb), .val (.int xc), .val (.int (2 : Int32)), .val (.int (2 : Int32)), .val (.ref b349), .unset] [(.int (1 : Int32)), (.int xc)])) (fun _ k => XS.iconst X359.here hx rfl (hb hby at_59) k) ?_
      refine own_go (st' := T359.setTop (mkF m 61 #[.val (.int xa), .val (.int xb), .val (.int xc), .val (.int (2 : Int32)), .val (.int (2 : Int32)), .val (.ref b349), .unset] [(.int (xc &&& (1 : Int32)))])) (fun _ k => XS.iand X359.here hx rfl (hb hby at_60) rfl k) ?_
      by_cases hc362 : (xc &&& (1 : Int32)) = (0 : Int32)
      · --
        refine own_go (st' := T359.setTop (mkF m 69 #[.val (.int xa), .val (.int xb), .val (.int xc), .val (.int (2 : Int32)), .val (.int (2 : Int32)), .val (.ref b349), .unset] [])) (fun _ k => XS.ifYes X359.here hx rfl (pc0 := 61) (pc' := 69) rfl (hb hby at_61) rfl ((if0 _ _).trans (teq hc362).1) (by decide) (by decide) k) ?_
        refine own_go (st' := T359.setTop (mkF m 71 #[.val (.int xa), .val (.int xb), .val (.int xc), .val (.int (2 : Int32)), .val (.int (2 : Int32)), .val (.ref b349), .unset] [(.ref b349)])) (fun _ k => XS.aload X359.here hx rfl (hb hby at_69) rfl rfl k) ?_
        obtain ⟨cq363, kq363, q363a, q363b, q363c⟩ := isOf hZ e359 g359_0
        obtain ⟨_, _, ⟨T363, LC363, kC363, nC363⟩, -, X363, ⟨Lc363, hQ363, lq363, yq363, zq363⟩, st363⟩ := X359.virtualBack hx (y := (⟨"com/example/greenwood/greenwood/Environment", "inScope", "()Z"⟩ : MethodName)) (z := (⟨"com/example/greenwood/greenwood/Environment", "inScope", "()Z"⟩ : MethodName)) hown (mvT hZ (hw _ (List.mem_of_getElem? (i := 35) rfl))) (mvT hZ (hw _ (List.mem_of_getElem? (i := 36) rfl))) (notFace_of_selects (args := #[]) (mvT hZ (hw _ (List.mem_of_getElem? (i := 38) rfl)))) (mvT hZ (hw _ (List.mem_of_getElem? (i := 38) rfl))) (mvT hZ (hw _ (List.mem_of_getElem? (i := 37) rfl))) (by decide) (backOf (W := 0) (rm5_2 l Z a0 hw [] b349 h359 n0 (by omega) g359_1) hZ (hw _ (List.mem_of_getElem? (i := 39) rfl)) (hw _ (List.mem_of_getElem? (i := 3) rfl)) (by decide) (by decide)) q363a q363c (g := (mkF m 71 #[.val (.int xa), .val (.int xb), .val (.int xc), .val (.int (2 : Int32)), .val (.int (2 : Int32)), .val (.ref b349), .unset] [(.ref b349)])) rfl (by rw [hml]; rfl) (Steps.refl _) (argsL := []) (rest := []) (lenOf pd_3 rfl) rfl (by show 2 * 0 + _ ≤ _; exact Nat.le_of_eq rfl) (hb hby at_71) (fun _ _ => ⟨rfl, e359, (by decide : 4 + 0 ≤ _), (by decide : 45 + 0 ≤ _)⟩)
        dsimp only [Pt.U, Pt.locs, Pt.cells, Pt.slots] at X363 lq363 yq363 zq363 st363 hQ363
        subst lq363 yq363 zq363
        obtain ⟨rfl, Nq363, eq363⟩ := hQ363
        have N363 := Fr.app N359 Nq363
        refine own_go (st' := T363.setTop (mkF m 74 #[.val (.int xa), .val (.int xb), .val (.int xc), .val (.int (2 : Int32)), .val (.int (2 : Int32)), .val (.ref b349), .unset] [(.int (1 : Int32))])) (fun _ k => st363.trans k) ?_
        refine own_go (st' := T363.setTop (mkF m 75 #[.val (.int xa), .val (.int xb), .val (.int xc), .val (.int (2 : Int32)), .val (.int (2 : Int32)), .val (.ref b349), .unset] [(.int (2 : Int32)), (.int (1 : Int32))])) (fun _ k => XS.iloadN X363.here hx rfl (hb hby at_74) rfl k) ?_
        have hc364 : (0 : Int32) < (2 : Int32) := by decide
        refine own_go (st' := T363.setTop (mkF m 78 #[.val (.int xa), .val (.int xb), .val (.int xc), .val (.int (2 : Int32)), .val (.int (2 : Int32)), .val (.ref b349), .unset] [(.int (1 : Int32))])) (fun _ k => XS.ifNo X363.here hx rfl (hb hby at_75) rfl ((if0 _ _).trans (tlt hc364).2.2.2) k) ?_
        refine own_go (st' := T363.setTop (mkF m 79 #[.val (.int xa), .val (.int xb), .val (.int xc), .val (.int (2 : Int32)), .val (.int (2 : Int32)), .val (.ref b349), .unset] [(.int (1 : Int32)), (.int (1 : Int32))])) (fun _ k => XS.iconst X363.here hx rfl (hb hby at_78) k) ?_
        refine own_go (st' := T363.setTop (mkF m 83 #[.val (.int xa), .val (.int xb), .val (.int xc), .val (.int (2 : Int32)), .val (.int (2 : Int32)), .val (.ref b349), .unset] [(.int (1 : Int32)), (.int (1 : Int32))])) (fun _ k => XS.goto X363.here hx rfl (pc0 := 79) (pc' := 83) rfl (hb hby at_79) (by decide) (by decide) k) ?_
        have hc365 : (1 : Int32) = (1 : Int32) := by decide
        refine own_go (st' := T363.setTop (mkF m 86 #[.val (.int xa), .val (.int xb), .val (.int xc), .val (.int (2 : Int32)), .val (.int (2 : Int32)), .val (.ref b349), .unset] [])) (fun _ k => XS.icmpNo X363.here hx rfl (hb hby at_83) rfl (teq hc365).2 k) ?_
        refine own_go (st' := T363.setTop (mkF m 87 #[.val (.int xa), .val (.int xb), .val (.int xc), .val (.int (2 : Int32)), .val (.int (2 : Int32)), .val (.ref b349), .unset] [(.int (1 : Int32))])) (fun _ k => XS.iconst X363.here hx rfl (hb hby at_86) k) ?_
        refine own_go (st' := T363.setTop (mkF m 91 #[.val (.int xa), .val (.int xb), .val (.int xc), .val (.int (2 : Int32)), .val (.int (2 : Int32)), .val (.ref b349), .unset] [(.int (1 : Int32))])) (fun _ k => XS.goto X363.here hx rfl (pc0 := 87) (pc' := 91) rfl (hb hby at_87) (by decide) (by decide) k) ?_
        refine own_go (st' := T363.setTop (mkF m 93 #[.val (.int xa), .val (.int xb), .val (.int xc), .val (.int (2 : Int32)), .val (.int (2 : Int32)), .val (.ref b349), .val (.int (1 : Int32))] [])) (fun _ k => XS.istore X363.here hx rfl (hb hby at_91) rfl (l' := #[.val (.int xa), .val (.int xb), .val (.int xc), .val (.int (2 : Int32)), .val (.int (2 : Int32)), .val (.ref b349), .val (.int (1 : Int32))]) rfl k) ?_
        refine own_go (st' := T363.setTop (mkF m 95 #[.val (.int xa), .val (.int xb), .val (.int xc), .val (.int (2 : Int32)), .val (.int (2 : Int32)), .val (.ref b349), .val (.int (1 : Int32))] [(.int (2 : Int32))])) (fun _ k => XS.iload X363.here hx rfl (hb hby at_93) rfl k) ?_
        refine own_go (st' := T363.setTop (mkF m 96 #[.val (.int xa), .val (.int xb), .val (.int xc), .val (.int (2 : Int32)), .val (.int (2 : Int32)), .val (.ref b349), .val (.int (1 : Int32))] [(.int (1 : Int32)), (.int (2 : Int32))])) (fun _ k => XS.iconst X363.here hx rfl (hb hby at_95) k) ?_
        have hc366 : ¬ ((2 : Int32) < (1 : Int32)) := by decide
        refine own_go (st' := T363.setTop (mkF m 99 #[.val (.int xa), .val (.int xb), .val (.int xc), .val (.int (2 : Int32)), .val (.int (2 : Int32)), .val (.ref b349), .val (.int (1 : Int32))] [])) (fun _ k => XS.icmpNo X363.here hx rfl (hb hby at_96) rfl (flt hc366).1 k) ?_
        refine own_go (st' := T363.setTop (mkF m 101 #[.val (.int xa), .val (.int xb), .val (.int xc), .val (.int (2 : Int32)), .val (.int (2 : Int32)), .val (.ref b349), .val (.int (1 : Int32))] [(.ref b349)])) (fun _ k => XS.aload X363.here hx rfl (hb hby at_99) rfl rfl k) ?_
        have c368 : Arv Z h359 rl_355 kl_355 (.object "java/lang/Object") (16 : Int32) [.null, .null, .null, .null, .null, .null, .null, .null, .null, .null, .null, .null, .null, .null, .null, .null] .null := (c360.keep K359 (ninS (by first | assumption | exact Ne.symm (by assumption) | (apply Nat.ne_of_lt; omega) | (apply Nat.ne_of_gt; omega)) (ninS (by first | assumption | exact Ne.symm (by assumption) | (apply Nat.ne_of_lt; omega) | (apply Nat.ne_of_gt; omega)) nin0)))
        obtain ⟨cq367, kq367, q367a, q367b, q367c⟩ := isOf hZ eq363 g359_0
        obtain ⟨_, _, ⟨T367, LC367, kC367, nC367⟩, -, X367, ⟨Lc367, hQ367, lq367, yq367, zq367⟩, st367⟩ := X363.virtualBack hx (y := (⟨"com/example/greenwood/greenwood/Environment", "closeScope", "()V"⟩ : MethodName)) (z := (⟨"com/example/greenwood/greenwood/Environment", "closeScope", "()V"⟩ : MethodName)) hown (mvT hZ (hw _ (List.mem_of_getElem? (i := 66) rfl))) (mvT hZ (hw _ (List.mem_of_getElem? (i := 67) rfl))) (notFace_of_selects (args := #[]) (mvT hZ (hw _ (List.mem_of_getElem? (i := 69) rfl)))) (mvT hZ (hw _ (List.mem_of_getElem? (i := 69) rfl))) (mvT hZ (hw _ (List.mem_of_getElem? (i := 68) rfl))) (by decide) (backOf (W := 0) (rm11_2_0 l Z a0 hw [] b349 rl_355 rs_355 kl_355 ks_355 h359 n0 (by omega) g359_0 g359_1 g359_2 g359_3 g359_4 c368 g359_5 (by omega) (by omega) (by omega) (by first | assumption | exact Ne.symm (by assumption) | (apply Nat.ne_of_lt; omega) | (apply Nat.ne_of_gt; omega)) (by first | assumption | exact Ne.symm (by assumption) | (apply Nat.ne_of_lt; omega) | (apply Nat.ne_of_gt; omega)) (by first | assumption | exact Ne.symm (by assumption) | (apply Nat.ne_of_lt; omega) | (apply Nat.ne_of_gt; omega))) hZ (hw _ (List.mem_of_getElem? (i := 70) rfl)) (hw _ (List.mem_of_getElem? (i := 3) rfl)) (by decide) (by decide)) q367a q367c (g := (mkF m 101 #[.val (.int xa), .val (.int xb), .val (.int xc), .val (.int (2 : Int32)), .val (.int (2 : Int32)), .val (.ref b349), .val (.int (1 : Int32))] [(.ref b349)])) rfl (by rw [hml]; rfl) (Steps.refl _) (argsL := []) (rest := []) (lenOf pd_0 rfl) rfl (by show 2 * 0 + _ ≤ _; exact Nat.le_of_eq rfl) (hb hby at_101) (fun _ _ => ⟨rfl, eq363, (by decide : 4 + 0 ≤ _), (by decide : 45 + 0 ≤ _)⟩)
        dsimp only [Pt.U, Pt.locs, Pt.cells, Pt.slots] at X367 lq367 yq367 zq367 st367 hQ367
        subst lq367 yq367 zq367
        obtain ⟨h367, e367⟩ : ∃ z, T367.heap = z := ⟨_, rfl⟩
        rw [e367] at hQ367
        obtain ⟨rfl, Nq367, K367, g367_0, g367_1, g367_2, g367_3, g367_4, g367_5⟩ := hQ367
        have sz367 : h359.size ≤ h367.size := K367.1
        have N367 := Fr.app N363 Nq367
        have lt367_1 : @LT.lt Nat _ b349 h367.size := g367_0.lt
        have lt367_2 : @LT.lt Nat _ rl_355 h367.size := g367_5.lt
        refine own_go (st' := T367.setTop (mkF m 104 #[.val (.int xa), .val (.int xb), .val (.int xc), .val (.int (2 : Int32)), .val (.int (2 : Int32)), .val (.ref b349), .val (.int (1 : Int32))] [])) (fun _ k => st367.trans k) ?_
        refine own_go (st' := T367.setTop (mkF m 106 #[.val (.int xa), .val (.int xb), .val (.int xc), .val (.int (2 : Int32)), .val (.int (2 : Int32)), .val (.ref b349), .val (.int (1 : Int32))] [(.int (2 : Int32))])) (fun _ k => XS.iload X367.here hx rfl (hb hby at_104) rfl k) ?_
        refine own_go (st' := T367.setTop (mkF m 107 #[.val (.int xa), .val (.int xb), .val (.int xc), .val (.int (2 : Int32)), .val (.int (2 : Int32)), .val (.ref b349), .val (.int (1 : Int32))] [(.int (2 : Int32)), (.int (2 : Int32))])) (fun _ k => XS.iconst X367.here hx rfl (hb hby at_106) k) ?_
        have hc369 : ¬ ((2 : Int32) < (2 : Int32)) := by decide
        refine own_go (st' := T367.setTop (mkF m 110 #[.val (.int xa), .val (.int xb), .val (.int xc), .val (.int (2 : Int32)), .val (.int (2 : Int32)), .val (.ref b349), .val (.int (1 : Int32))] [])) (fun _ k => XS.icmpNo X367.here hx rfl (hb hby at_107) rfl (flt hc369).1 k) ?_
        refine own_go (st' := T367.setTop (mkF m 112 #[.val (.int xa), .val (.int xb), .val (.int xc), .val (.int (2 : Int32)), .val (.int (2 : Int32)), .val (.ref b349), .val (.int (1 : Int32))] [(.ref b349)])) (fun _ k => XS.aload X367.here hx rfl (hb hby at_110) rfl rfl k) ?_
        have c371 : Arv Z h367 rs_355 ks_355 .int (16 : Int32) [(.int (0 : Int32)), (.int (0 : Int32)), (.int (0 : Int32)), (.int (0 : Int32)), (.int (0 : Int32)), (.int (0 : Int32)), (.int (0 : Int32)), (.int (0 : Int32)), (.int (0 : Int32)), (.int (0 : Int32)), (.int (0 : Int32)), (.int (0 : Int32)), (.int (0 : Int32)), (.int (0 : Int32)), (.int (0 : Int32)), (.int (0 : Int32))] (.int (0 : Int32)) := (g359_5.keep K367 (ninS (by first | assumption | exact Ne.symm (by assumption) | (apply Nat.ne_of_lt; omega) | (apply Nat.ne_of_gt; omega)) (ninS (by first | assumption | exact Ne.symm (by assumption) | (apply Nat.ne_of_lt; omega) | (apply Nat.ne_of_gt; omega)) nin0)))
        obtain ⟨cq370, kq370, q370a, q370b, q370c⟩ := isOf hZ e367 g367_0
        obtain ⟨_, _, ⟨T370, LC370, kC370, nC370⟩, -, X370, ⟨Lc370, hQ370, lq370, yq370, zq370⟩, st370⟩ := X367.virtualBack hx (y := (⟨"com/example/greenwood/greenwood/Environment", "closeScope", "()V"⟩ : MethodName)) (z := (⟨"com/example/greenwood/greenwood/Environment", "closeScope", "()V"⟩ : MethodName)) hown (mvT hZ (hw _ (List.mem_of_getElem? (i := 66) rfl))) (mvT hZ (hw _ (List.mem_of_getElem? (i := 67) rfl))) (notFace_of_selects (args := #[]) (mvT hZ (hw _ (List.mem_of_getElem? (i := 69) rfl)))) (mvT hZ (hw _ (List.mem_of_getElem? (i := 69) rfl))) (mvT hZ (hw _ (List.mem_of_getElem? (i := 68) rfl))) (by decide) (backOf (W := 0) (rm11_1_0 l Z a0 hw [] b349 rl_355 rs_355 kl_355 ks_355 h367 n0 (by omega) g367_0 g367_1 g367_2 g367_3 g367_4 g367_5 c371 (by omega) (by omega) (by omega) (by first | assumption | exact Ne.symm (by assumption) | (apply Nat.ne_of_lt; omega) | (apply Nat.ne_of_gt; omega)) (by first | assumption | exact Ne.symm (by assumption) | (apply Nat.ne_of_lt; omega) | (apply Nat.ne_of_gt; omega)) (by first | assumption | exact Ne.symm (by assumption) | (apply Nat.ne_of_lt; omega) | (apply Nat.ne_of_gt; omega))) hZ (hw _ (List.mem_of_getElem? (i := 70) rfl)) (hw _ (List.mem_of_getElem? (i := 3) rfl)) (by decide) (by decide)) q370a q370c (g := (mkF m 112 #[.val (.int xa), .val (.int xb), .val (.int xc), .val (.int (2 : Int32)), .val (.int (2 : Int32)), .val (.ref b349), .val (.int (1 : Int32))] [(.ref b349)])) rfl (by rw [hml]; rfl) (Steps.refl _) (argsL := []) (rest := []) (lenOf pd_0 rfl) rfl (by show 2 * 0 + _ ≤ _; exact Nat.le_of_eq rfl) (hb hby at_112) (fun _ _ => ⟨rfl, e367, (by decide : 4 + 0 ≤ _), (by decide : 45 + 0 ≤ _)⟩)
        dsimp only [Pt.U, Pt.locs, Pt.cells, Pt.slots] at X370 lq370 yq370 zq370 st370 hQ370
        subst lq370 yq370 zq370
        obtain ⟨h370, e370⟩ : ∃ z, T370.heap = z := ⟨_, rfl⟩
        rw [e370] at hQ370
        obtain ⟨rfl, Nq370, K370, g370_0, g370_1, g370_2, g370_3, g370_4, g370_5⟩ := hQ370
        have sz370 : h367.size ≤ h370.size := K370.1
        have N370 := Fr.app N367 Nq370
        have lt370_1 : @LT.lt Nat _ b349 h370.size := g370_0.lt
        have lt370_2 : @LT.lt Nat _ rl_355 h370.size := g370_5.lt
        refine own_go (st' := T370.setTop (mkF m 115 #[.val (.int xa), .val (.int xb), .val (.int xc), .val (.int (2 : Int32)), .val (.int (2 : Int32)), .val (.ref b349), .val (.int (1 : Int32))] [])) (fun _ k => st370.trans k) ?_
        refine own_go (st' := T370.setTop (mkF m 117 #[.val (.int xa), .val (.int xb), .val (.int xc), .val (.int (2 : Int32)), .val (.int (2 : Int32)), .val (.ref b349), .val (.int (1 : Int32))] [(.int (1 : Int32))])) (fun _ k => XS.iload X370.here hx rfl (hb hby at_115) rfl k) ?_
        have hc372 : ¬ ((1 : Int32) = (0 : Int32)) := by decide
        refine own_go (st' := T370.setTop (mkF m 120 #[.val (.int xa), .val (.int xb), .val (.int xc), .val (.int (2 : Int32)), .val (.int (2 : Int32)), .val (.ref b349), .val (.int (1 : Int32))] [])) (fun _ k => XS.ifNo X370.here hx rfl (hb hby at_117) rfl ((if0 _ _).trans (feq hc372).1) k) ?_
        refine own_go (st' := T370.setTop (mkF m 122 #[.val (.int xa), .val (.int xb), .val (.int xc), .val (.int (2 : Int32)), .val (.int (2 : Int32)), .val (.ref b349), .val (.int (1 : Int32))] [(.ref b349)])) (fun _ k => XS.aload X370.here hx rfl (hb hby at_120) rfl rfl k) ?_
        obtain ⟨cq373, kq373, q373a, q373b, q373c⟩ := isOf hZ e370 g370_0
        obtain ⟨_, _, ⟨T373, LC373, kC373, nC373⟩, -, X373, ⟨Lc373, hQ373, lq373, yq373, zq373⟩, st373⟩ := X370.virtualBack hx (y := (⟨"com/example/greenwood/greenwood/Environment", "inScope", "()Z"⟩ : MethodName)) (z := (⟨"com/example/greenwood/greenwood/Environment", "inScope", "()Z"⟩ : MethodName)) hown (mvT hZ (hw _ (List.mem_of_getElem? (i := 35) rfl))) (mvT hZ (hw _ (List.mem_of_getElem? (i := 36) rfl))) (notFace_of_selects (args := #[]) (mvT hZ (hw _ (List.mem_of_getElem? (i := 38) rfl)))) (mvT hZ (hw _ (List.mem_of_getElem? (i := 38) rfl))) (mvT hZ (hw _ (List.mem_of_getElem? (i := 37) rfl))) (by decide) (backOf (W := 0) (rm5_0 l Z a0 hw [] b349 h370 n0 (by omega) g370_1) hZ (hw _ (List.mem_of_getElem? (i := 39) rfl)) (hw _ (List.mem_of_getElem? (i := 3) rfl)) (by decide) (by decide)) q373a q373c (g := (mkF m 122 #[.val (.int xa), .val (.int xb), .val (.int xc), .val (.int (2 : Int32)), .val (.int (2 : Int32)), .val (.ref b349), .val (.int (1 : Int32))] [(.ref b349)])) rfl (by rw [hml]; rfl) (Steps.refl _) (argsL := []) (rest := []) (lenOf pd_3 rfl) rfl (by show 2 * 0 + _ ≤ _; exact Nat.le_of_eq rfl) (hb hby at_122) (fun _ _ => ⟨rfl, e370, (by decide : 4 + 0 ≤ _), (by decide : 45 + 0 ≤ _)⟩)
        dsimp only [Pt.U, Pt.locs, Pt.cells, Pt.slots] at X373 lq373 yq373 zq373 st373 hQ373
        subst lq373 yq373 zq373
        obtain ⟨rfl, Nq373, eq373⟩ := hQ373
        have N373 := Fr.app N370 Nq373
        refine own_go (st' := T373.setTop (mkF m 125 #[.val (.int xa), .val (.int xb), .val (.int xc), .val (.int (2 : Int32)), .val (.int (2 : Int32)), .val (.ref b349), .val (.int (1 : Int32))] [(.int (0 : Int32))])) (fun _ k => st373.trans k) ?_
        refine own_go (st' := T373.setTop (mkF m 126 #[.val (.int xa), .val (.int xb), .val (.int xc), .val (.int (2 : Int32)), .val (.int (2 : Int32)), .val (.ref b349), .val (.int (1 : Int32))] [(.int (2 : Int32)), (.int (0 : Int32))])) (fun _ k => XS.iloadN X373.here hx rfl (hb hby at_125) rfl k) ?_
        refine own_go (st' := T373.setTop (mkF m 128 #[.val (.int xa), .val (.int xb), .val (.int xc), .val (.int (2 : Int32)), .val (.int (2 : Int32)), .val (.ref b349), .val (.int (1 : Int32))] [(.int (2 : Int32)), (.int (2 : Int32)), (.int (0 : Int32))])) (fun _ k => XS.iload X373.here hx rfl (hb hby at_126) rfl k) ?_
        refine own_go (st' := T373.setTop (mkF m 129 #[.val (.int xa), .val (.int xb), .val (.int xc), .val (.int (2 : Int32)), .val (.int (2 : Int32)), .val (.ref b349), .val (.int (1 : Int32))] [(.int (0 : Int32)), (.int (0 : Int32))])) (fun _ k => XS.isub X373.here hx rfl (hb hby at_128) rfl (by rw [show ((2 : Int32) - (2 : Int32)) = (0 : Int32) by decide]; exact k)) ?_
        have hc374 : ¬ ((0 : Int32) < (0 : Int32)) := by decide
        refine own_go (st' := T373.setTop (mkF m 136 #[.val (.int xa), .val (.int xb), .val (.int xc), .val (.int (2 : Int32)), .val (.int (2 : Int32)), .val (.ref b349), .val (.int (1 : Int32))] [(.int (0 : Int32))])) (fun _ k => XS.ifYes X373.here hx rfl (pc0 := 129) (pc' := 136) rfl (hb hby at_129) rfl ((if0 _ _).trans (flt hc374).2.2.2) (by decide) (by decide) k) ?_
        refine own_go (st' := T373.setTop (mkF m 137 #[.val (.int xa), .val (.int xb), .val (.int xc), .val (.int (2 : Int32)), .val (.int (2 : Int32)), .val (.ref b349), .val (.int (1 : Int32))] [(.int (0 : Int32)), (.int (0 : Int32))])) (fun _ k => XS.iconst X373.here hx rfl (hb hby at_136) k) ?_
        have hc375 : (0 : Int32) = (0 : Int32) := by decide
        refine own_go (st' := T373.setTop (mkF m 140 #[.val (.int xa), .val (.int xb), .val (.int xc), .val (.int (2 : Int32)), .val (.int (2 : Int32)), .val (.ref b349), .val (.int (1 : Int32))] [])) (fun _ k => XS.icmpNo X373.here hx rfl (hb hby at_137) rfl (teq hc375).2 k) ?_
        refine own_go (st' := T373.setTop (mkF m 141 #[.val (.int xa), .val (.int xb), .val (.int xc), .val (.int (2 : Int32)), .val (.int (2 : Int32)), .val (.ref b349), .val (.int (1 : Int32))] [(.int (1 : Int32))])) (fun _ k => XS.iconst X373.here hx rfl (hb hby at_140) k) ?_
        refine own_go (st' := T373.setTop (mkF m 145 #[.val (.int xa), .val (.int xb), .val (.int xc), .val (.int (2 : Int32)), .val (.int (2 : Int32)), .val (.ref b349), .val (.int (1 : Int32))] [(.int (1 : Int32))])) (fun _ k => XS.goto X373.here hx rfl (pc0 := 141) (pc' := 145) rfl (hb hby at_141) (by decide) (by decide) k) ?_
        refine own_go (st' := T373.setTop (mkF m 147 #[.val (.int xa), .val (.int xb), .val (.int xc), .val (.int (2 : Int32)), .val (.int (2 : Int32)), .val (.ref b349), .val (.int (1 : Int32))] [])) (fun _ k => XS.istore X373.here hx rfl (hb hby at_145) rfl (l' := #[.val (.int xa), .val (.int xb), .val (.int xc), .val (.int (2 : Int32)), .val (.int (2 : Int32)), .val (.ref b349), .val (.int (1 : Int32))]) rfl k) ?_
        refine own_go (st' := T373.setTop (mkF m 148 #[.val (.int xa), .val (.int xb), .val (.int xc), .val (.int (2 : Int32)), .val (.int (2 : Int32)), .val (.ref b349), .val (.int (1 : Int32))] [(.int xc)])) (fun _ k => XS.iloadN X373.here hx rfl (hb hby at_147) rfl k) ?_
        refine own_go (st' := T373.setTop (mkF m 149 #[.val (.int xa), .val (.int xb), .val (.int xc), .val (.int (2 : Int32)), .val (.int (2 : Int32)), .val (.ref b349), .val (.int (1 : Int32))] [(.int (2 : Int32)), (.int xc)])) (fun _ k => XS.iconst X373.here hx rfl (hb hby at_148) k) ?_
        refine own_go (st' := T373.setTop (mkF m 150 #[.val (.int xa), .val (.int xb), .val (.int xc), .val (.int (2 : Int32)), .val (.int (2 : Int32)), .val (.ref b349), .val (.int (1 : Int32))] [(.int (xc &&& (2 : Int32)))])) (fun _ k => XS.iand X373.here hx rfl (hb hby at_149) rfl k) ?_
        by_cases hc376 : (xc &&& (2 : Int32)) = (0 : Int32)
        · --
          refine own_go (st' := T373.setTop (mkF m 178 #[.val (.int xa), .val (.int xb), .val (.int xc), .val (.int (2 : Int32)), .val (.int (2 : Int32)), .val (.ref b349), .val (.int (1 : Int32))] [])) (fun _ k => XS.ifYes X373.here hx rfl (pc0 := 150) (pc' := 178) rfl (hb hby at_150) rfl ((if0 _ _).trans (teq hc376).1) (by decide) (by decide) k) ?_
          refine own_go (st' := T373.setTop (mkF m 180 #[.val (.int xa), .val (.int xb), .val (.int xc), .val (.int (2 : Int32)), .val (.int (2 : Int32)), .val (.ref b349), .val (.int (1 : Int32))] [(.int (1 : Int32))])) (fun _ k => XS.iload X373.here hx rfl (hb hby at_178) rfl k) ?_
          obtain ⟨fs, hr, hrun, hended, hW, hsame⟩ := X373.leave (v := some (.int (1 : Int32))) (fun h => by rw [Bd.returns] at h; cases h)
          refine ⟨_, _, ?_, hP _ _ hrun hended ⟨_, _, rfl, ?_, ⟨_, rfl⟩, hW, hsame.mono (by decide) (by decide)⟩⟩
          · exact retN X373 hx (t := .boolean) Bd.returns (by simp) (hb hby at_180) hr
          · show Qrm0 Z xa xb xc h0 n0 _ T373.heap _
            rw [eq373]
            exact ⟨rfl, N373, trivial⟩
        · --
          refine own_go (st' := T373.setTop (mkF m 153 #[.val (.int xa), .val (.int xb), .val (.int xc), .val (.int (2 : Int32)), .val (.int (2 : Int32)), .val (.ref b349), .val (.int (1 : Int32))] [])) (fun _ k => XS.ifNo X373.here hx rfl (hb hby at_150) rfl ((if0 _ _).trans (feq hc376).1) k) ?_
          refine own_go (st' := T373.setTop (mkF m 155 #[.val (.int xa), .val (.int xb), .val (.int xc), .val (.int (2 : Int32)), .val (.int (2 : Int32)), .val (.ref b349), .val (.int (1 : Int32))] [(.ref b349)])) (fun _ k => XS.aload X373.here hx rfl (hb hby at_153) rfl rfl k) ?_
          have c379 : Arv Z h370 rs_355 ks_355 .int (16 : Int32) [(.int (0 : Int32)), (.int (0 : Int32)), (.int (0 : Int32)), (.int (0 : Int32)), (.int (0 : Int32)), (.int (0 : Int32)), (.int (0 : Int32)), (.int (0 : Int32)), (.int (0 : Int32)), (.int (0 : Int32)), (.int (0 : Int32)), (.int (0 : Int32)), (.int (0 : Int32)), (.int (0 : Int32)), (.int (0 : Int32)), (.int (0 : Int32))] (.int (0 : Int32)) := (c371.keep K370 (ninS (by first | assumption | exact Ne.symm (by assumption) | (apply Nat.ne_of_lt; omega) | (apply Nat.ne_of_gt; omega)) (ninS (by first | assumption | exact Ne.symm (by assumption) | (apply Nat.ne_of_lt; omega) | (apply Nat.ne_of_gt; omega)) nin0)))
          obtain ⟨cq378, kq378, q378a, q378b, q378c⟩ := isOf hZ eq373 g370_0
          obtain ⟨_, _, ⟨T378, LC378, kC378, nC378⟩, -, X378, ⟨Lc378, hQ378, lq378, yq378, zq378⟩, st378⟩ := X373.virtualBack hx (y := (⟨"com/example/greenwood/greenwood/Environment", "closeScopes", "()V"⟩ : MethodName)) (z := (⟨"com/example/greenwood/greenwood/Environment", "closeScopes", "()V"⟩ : MethodName)) hown (mvT hZ (hw _ (List.mem_of_getElem? (i := 42) rfl))) (mvT hZ (hw _ (List.mem_of_getElem? (i := 43) rfl))) (notFace_of_selects (args := #[]) (mvT hZ (hw _ (List.mem_of_getElem? (i := 45) rfl)))) (mvT hZ (hw _ (List.mem_of_getElem? (i := 45) rfl))) (mvT hZ (hw _ (List.mem_of_getElem? (i := 44) rfl))) (by decide) (backOf (W := 0) (rm6_0 l Z a0 hw [] b349 (0 : Int32) rl_355 rs_355 kl_355 ks_355 h370 n0 (by omega) g370_0 g370_1 g370_2 g370_3 g370_4 g370_5 c379 (by omega) (by omega) (by omega) (by first | assumption | exact Ne.symm (by assumption) | (apply Nat.ne_of_lt; omega) | (apply Nat.ne_of_gt; omega)) (by first | assumption | exact Ne.symm (by assumption) | (apply Nat.ne_of_lt; omega) | (apply Nat.ne_of_gt; omega)) (by first | assumption | exact Ne.symm (by assumption) | (apply Nat.ne_of_lt; omega) | (apply Nat.ne_of_gt; omega))) hZ (hw _ (List.mem_of_getElem? (i := 46) rfl)) (hw _ (List.mem_of_getElem? (i := 3) rfl)) (by decide) (by decide)) q378a q378c (g := (mkF m 155 #[.val (.int xa), .val (.int xb), .val (.int xc), .val (.int (2 : Int32)), .val (.int (2 : Int32)), .val (.ref b349), .val (.int (1 : Int32))] [(.ref b349)])) rfl (by rw [hml]; rfl) (Steps.refl _) (argsL := []) (rest := []) (lenOf pd_0 rfl) rfl (by show 2 * 0 + _ ≤ _; exact Nat.le_of_eq rfl) (hb hby at_155) (fun _ _ => ⟨rfl, eq373, (by decide : 4 + 0 ≤ _), (by decide : 45 + 0 ≤ _)⟩)
          dsimp only [Pt.U, Pt.locs, Pt.cells, Pt.slots] at X378 lq378 yq378 zq378 st378 hQ378
          subst lq378 yq378 zq378
          obtain ⟨h378, e378⟩ : ∃ z, T378.heap = z := ⟨_, rfl⟩
          rw [e378] at hQ378
          obtain ⟨rfl, Nq378, K378, g378_0, g378_1, g378_2, g378_3, g378_4, g378_5⟩ := hQ378
          have sz378 : h370.size ≤ h378.size := K378.1
          have N378 := Fr.app N373 Nq378
          have lt378_1 : @LT.lt Nat _ b349 h378.size := g378_0.lt
          have lt378_2 : @LT.lt Nat _ rl_355 h378.size := g378_5.lt
          refine own_go (st' := T378.setTop (mkF m 158 #[.val (.int xa), .val (.int xb), .val (.int xc), .val (.int (2 : Int32)), .val (.int (2 : Int32)), .val (.ref b349), .val (.int (1 : Int32))] [])) (fun _ k => st378.trans k) ?_
          refine own_go (st' := T378.setTop (mkF m 160 #[.val (.int xa), .val (.int xb), .val (.int xc), .val (.int (2 : Int32)), .val (.int (2 : Int32)), .val (.ref b349), .val (.int (1 : Int32))] [(.int (1 : Int32))])) (fun _ k => XS.iload X378.here hx rfl (hb hby at_158) rfl k) ?_
          have hc380 : ¬ ((1 : Int32) = (0 : Int32)) := by decide
          refine own_go (st' := T378.setTop (mkF m 163 #[.val (.int xa), .val (.int xb), .val (.int xc), .val (.int (2 : Int32)), .val (.int (2 : Int32)), .val (.ref b349), .val (.int (1 : Int32))] [])) (fun _ k => XS.ifNo X378.here hx rfl (hb hby at_160) rfl ((if0 _ _).trans (feq hc380).1) k) ?_
          refine own_go (st' := T378.setTop (mkF m 165 #[.val (.int xa), .val (.int xb), .val (.int xc), .val (.int (2 : Int32)), .val (.int (2 : Int32)), .val (.ref b349), .val (.int (1 : Int32))] [(.ref b349)])) (fun _ k => XS.aload X378.here hx rfl (hb hby at_163) rfl rfl k) ?_
          obtain ⟨cq381, kq381, q381a, q381b, q381c⟩ := isOf hZ e378 g378_0
          obtain ⟨_, _, ⟨T381, LC381, kC381, nC381⟩, -, X381, ⟨Lc381, hQ381, lq381, yq381, zq381⟩, st381⟩ := X378.virtualBack hx (y := (⟨"com/example/greenwood/greenwood/Environment", "inScope", "()Z"⟩ : MethodName)) (z := (⟨"com/example/greenwood/greenwood/Environment", "inScope", "()Z"⟩ : MethodName)) hown (mvT hZ (hw _ (List.mem_of_getElem? (i := 35) rfl))) (mvT hZ (hw _ (List.mem_of_getElem? (i := 36) rfl))) (notFace_of_selects (args := #[]) (mvT hZ (hw _ (List.mem_of_getElem? (i := 38) rfl)))) (mvT hZ (hw _ (List.mem_of_getElem? (i := 38) rfl))) (mvT hZ (hw _ (List.mem_of_getElem? (i := 37) rfl))) (by decide) (backOf (W := 0) (rm5_0 l Z a0 hw [] b349 h378 n0 (by omega) g378_1) hZ (hw _ (List.mem_of_getElem? (i := 39) rfl)) (hw _ (List.mem_of_getElem? (i := 3) rfl)) (by decide) (by decide)) q381a q381c (g := (mkF m 165 #[.val (.int xa), .val (.int xb), .val (.int xc), .val (.int (2 : Int32)), .val (.int (2 : Int32)), .val (.ref b349), .val (.int (1 : Int32))] [(.ref b349)])) rfl (by rw [hml]; rfl) (Steps.refl _) (argsL := []) (rest := []) (lenOf pd_3 rfl) rfl (by show 2 * 0 + _ ≤ _; exact Nat.le_of_eq rfl) (hb hby at_165) (fun _ _ => ⟨rfl, e378, (by decide : 4 + 0 ≤ _), (by decide : 45 + 0 ≤ _)⟩)
          dsimp only [Pt.U, Pt.locs, Pt.cells, Pt.slots] at X381 lq381 yq381 zq381 st381 hQ381
          subst lq381 yq381 zq381
          obtain ⟨rfl, Nq381, eq381⟩ := hQ381
          have N381 := Fr.app N378 Nq381
          refine own_go (st' := T381.setTop (mkF m 168 #[.val (.int xa), .val (.int xb), .val (.int xc), .val (.int (2 : Int32)), .val (.int (2 : Int32)), .val (.ref b349), .val (.int (1 : Int32))] [(.int (0 : Int32))])) (fun _ k => st381.trans k) ?_
          have hc382 : (0 : Int32) = (0 : Int32) := by decide
          refine own_go (st' := T381.setTop (mkF m 171 #[.val (.int xa), .val (.int xb), .val (.int xc), .val (.int (2 : Int32)), .val (.int (2 : Int32)), .val (.ref b349), .val (.int (1 : Int32))] [])) (fun _ k => XS.ifNo X381.here hx rfl (hb hby at_168) rfl ((if0 _ _).trans (teq hc382).2) k) ?_
          refine own_go (st' := T381.setTop (mkF m 172 #[.val (.int xa), .val (.int xb), .val (.int xc), .val (.int (2 : Int32)), .val (.int (2 : Int32)), .val (.ref b349), .val (.int (1 : Int32))] [(.int (1 : Int32))])) (fun _ k => XS.iconst X381.here hx rfl (hb hby at_171) k) ?_
          refine own_go (st' := T381.setTop (mkF m 176 #[.val (.int xa), .val (.int xb), .val (.int xc), .val (.int (2 : Int32)), .val (.int (2 : Int32)), .val (.ref b349), .val (.int (1 : Int32))] [(.int (1 : Int32))])) (fun _ k => XS.goto X381.here hx rfl (pc0 := 172) (pc' := 176) rfl (hb hby at_172) (by decide) (by decide) k) ?_
          refine own_go (st' := T381.setTop (mkF m 178 #[.val (.int xa), .val (.int xb), .val (.int xc), .val (.int (2 : Int32)), .val (.int (2 : Int32)), .val (.ref b349), .val (.int (1 : Int32))] [])) (fun _ k => XS.istore X381.here hx rfl (hb hby at_176) rfl (l' := #[.val (.int xa), .val (.int xb), .val (.int xc), .val (.int (2 : Int32)), .val (.int (2 : Int32)), .val (.ref b349), .val (.int (1 : Int32))]) rfl k) ?_
          refine own_go (st' := T381.setTop (mkF m 180 #[.val (.int xa), .val (.int xb), .val (.int xc), .val (.int (2 : Int32)), .val (.int (2 : Int32)), .val (.ref b349), .val (.int (1 : Int32))] [(.int (1 : Int32))])) (fun _ k => XS.iload X381.here hx rfl (hb hby at_178) rfl k) ?_
          obtain ⟨fs, hr, hrun, hended, hW, hsame⟩ := X381.leave (v := some (.int (1 : Int32))) (fun h => by rw [Bd.returns] at h; cases h)
          refine ⟨_, _, ?_, hP _ _ hrun hended ⟨_, _, rfl, ?_, ⟨_, rfl⟩, hW, hsame.mono (by decide) (by decide)⟩⟩
          · exact retN X381 hx (t := .boolean) Bd.returns (by simp) (hb hby at_180) hr
          · show Qrm0 Z xa xb xc h0 n0 _ T381.heap _
            rw [eq381]
            exact ⟨rfl, N381, trivial⟩
      · --
        refine own_go (st' := T359.setTop (mkF m 64 #[.val (.int xa), .val (.int xb), .val (.int xc), .val (.int (2 : Int32)), .val (.int (2 : Int32)), .val (.ref b349), .unset] [])) (fun _ k => XS.ifNo X359.here hx rfl (hb hby at_61) rfl ((if0 _ _).trans (feq hc362).1) k) ?_
        refine own_go (st' := T359.setTop (mkF m 66 #[.val (.int xa), .val (.int xb), .val (.int xc), .val (.int (2 : Int32)), .val (.int (2 : Int32)), .val (.ref b349), .unset] [(.ref b349)])) (fun _ k => XS.aload X359.here hx rfl (hb hby at_64) rfl rfl k) ?_
        have c385 : Arv Z h359 rl_355 kl_355 (.object "java/lang/Object") (16 : Int32) [.null, .null, .null, .null, .null, .null, .null, .null, .null, .null, .null, .null, .null, .null, .null, .null] .null := (c360.keep K359 (ninS (by first | assumption | exact Ne.symm (by assumption) | (apply Nat.ne_of_lt; omega) | (apply Nat.ne_of_gt; omega)) (ninS (by first | assumption | exact Ne.symm (by assumption) | (apply Nat.ne_of_lt; omega) | (apply Nat.ne_of_gt; omega)) nin0)))
        obtain ⟨cq384, kq384, q384a, q384b, q384c⟩ := isOf hZ e359 g359_0
        obtain ⟨_, _, ⟨T384, LC384, kC384, nC384⟩, -, X384, ⟨Lc384, hQ384, lq384, yq384, zq384⟩, st384⟩ := X359.virtualBack hx (y := (⟨"com/example/greenwood/greenwood/Environment", "declare", "()V"⟩ : MethodName)) (z := (⟨"com/example/greenwood/greenwood/Environment", "declare", "()V"⟩ : MethodName)) hown (mvT hZ (hw _ (List.mem_of_getElem? (i := 61) rfl))) (mvT hZ (hw _ (List.mem_of_getElem? (i := 62) rfl))) (notFace_of_selects (args := #[]) (mvT hZ (hw _ (List.mem_of_getElem? (i := 64) rfl)))) (mvT hZ (hw _ (List.mem_of_getElem? (i := 64) rfl))) (mvT hZ (hw _ (List.mem_of_getElem? (i := 63) rfl))) (by decide) (backOf (W := 0) (rm10_2 l Z a0 hw [] b349 rl_355 rs_355 kl_355 ks_355 h359 n0 (by omega) g359_0 g359_1 g359_2 g359_3 g359_4 c385 g359_5 (by omega) (by omega) (by omega) (by first | assumption | exact Ne.symm (by assumption) | (apply Nat.ne_of_lt; omega) | (apply Nat.ne_of_gt; omega)) (by first | assumption | exact Ne.symm (by assumption) | (apply Nat.ne_of_lt; omega) | (apply Nat.ne_of_gt; omega)) (by first | assumption | exact Ne.symm (by assumption) | (apply Nat.ne_of_lt; omega) | (apply Nat.ne_of_gt; omega))) hZ (hw _ (List.mem_of_getElem? (i := 65) rfl)) (hw _ (List.mem_of_getElem? (i := 3) rfl)) (by decide) (by decide)) q384a q384c (g := (mkF m 66 #[.val (.int xa), .val (.int xb), .val (.int xc), .val (.int (2 : Int32)), .val (.int (2 : Int32)), .val (.ref b349), .unset] [(.ref b349)])) rfl (by rw [hml]; rfl) (Steps.refl _) (argsL := []) (rest := []) (lenOf pd_0 rfl) rfl (by show 2 * 0 + _ ≤ _; exact Nat.le_of_eq rfl) (hb hby at_66) (fun _ _ => ⟨rfl, e359, (by decide : 4 + 0 ≤ _), (by decide : 45 + 0 ≤ _)⟩)
        dsimp only [Pt.U, Pt.locs, Pt.cells, Pt.slots] at X384 lq384 yq384 zq384 st384 hQ384
        subst lq384 yq384 zq384
        obtain ⟨h384, e384⟩ : ∃ z, T384.heap = z := ⟨_, rfl⟩
        rw [e384] at hQ384
        obtain ⟨rfl, Nq384, K384, g384_0, g384_1, g384_2, g384_3, g384_4⟩ := hQ384
        have sz384 : h359.size ≤ h384.size := K384.1
        have N384 := Fr.app N359 Nq384
        have lt384_1 : @LT.lt Nat _ b349 h384.size := g384_0.lt
        refine own_go (st' := T384.setTop (mkF m 69 #[.val (.int xa), .val (.int xb), .val (.int xc), .val (.int (2 : Int32)), .val (.int (2 : Int32)), .val (.ref b349), .unset] [])) (fun _ k => st384.trans k) ?_
        refine own_go (st' := T384.setTop (mkF m 71 #[.val (.int xa), .val (.int xb), .val (.int xc), .val (.int (2 : Int32)), .val (.int (2 : Int32)), .val (.ref b349), .unset] [(.ref b349)])) (fun _ k => XS.aload X384.here hx rfl (hb hby at_69) rfl rfl k) ?_
        obtain ⟨cq386, kq386, q386a, q386b, q386c⟩ := isOf hZ e384 g384_0
        obtain ⟨_, _, ⟨T386, LC386, kC386, nC386⟩, -, X386, ⟨Lc386, hQ386, lq386, yq386, zq386⟩, st386⟩ := X384.virtualBack hx (y := (⟨"com/example/greenwood/greenwood/Environment", "inScope", "()Z"⟩ : MethodName)) (z := (⟨"com/example/greenwood/greenwood/Environment", "inScope", "()Z"⟩ : MethodName)) hown (mvT hZ (hw _ (List.mem_of_getElem? (i := 35) rfl))) (mvT hZ (hw _ (List.mem_of_getElem? (i := 36) rfl))) (notFace_of_selects (args := #[]) (mvT hZ (hw _ (List.mem_of_getElem? (i := 38) rfl)))) (mvT hZ (hw _ (List.mem_of_getElem? (i := 38) rfl))) (mvT hZ (hw _ (List.mem_of_getElem? (i := 37) rfl))) (by decide) (backOf (W := 0) (rm5_2 l Z a0 hw [] b349 h384 n0 (by omega) g384_1) hZ (hw _ (List.mem_of_getElem? (i := 39) rfl)) (hw _ (List.mem_of_getElem? (i := 3) rfl)) (by decide) (by decide)) q386a q386c (g := (mkF m 71 #[.val (.int xa), .val (.int xb), .val (.int xc), .val (.int (2 : Int32)), .val (.int (2 : Int32)), .val (.ref b349), .unset] [(.ref b349)])) rfl (by rw [hml]; rfl) (Steps.refl _) (argsL := []) (rest := []) (lenOf pd_3 rfl) rfl (by show 2 * 0 + _ ≤ _; exact Nat.le_of_eq rfl) (hb hby at_71) (fun _ _ => ⟨rfl, e384, (by decide : 4 + 0 ≤ _), (by decide : 45 + 0 ≤ _)⟩)
        dsimp only [Pt.U, Pt.locs, Pt.cells, Pt.slots] at X386 lq386 yq386 zq386 st386 hQ386
        subst lq386 yq386 zq386
        obtain ⟨rfl, Nq386, eq386⟩ := hQ386
        have N386 := Fr.app N384 Nq386
        refine own_go (st' := T386.setTop (mkF m 74 #[.val (.int xa), .val (.int xb), .val (.int xc), .val (.int (2 : Int32)), .val (.int (2 : Int32)), .val (.ref b349), .unset] [(.int (1 : Int32))])) (fun _ k => st386.trans k) ?_
        refine own_go (st' := T386.setTop (mkF m 75 #[.val (.int xa), .val (.int xb), .val (.int xc), .val (.int (2 : Int32)), .val (.int (2 : Int32)), .val (.ref b349), .unset] [(.int (2 : Int32)), (.int (1 : Int32))])) (fun _ k => XS.iloadN X386.here hx rfl (hb hby at_74) rfl k) ?_
        have hc387 : (0 : Int32) < (2 : Int32) := by decide
        refine own_go (st' := T386.setTop (mkF m 78 #[.val (.int xa), .val (.int xb), .val (.int xc), .val (.int (2 : Int32)), .val (.int (2 : Int32)), .val (.ref b349), .unset] [(.int (1 : Int32))])) (fun _ k => XS.ifNo X386.here hx rfl (hb hby at_75) rfl ((if0 _ _).trans (tlt hc387).2.2.2) k) ?_
        refine own_go (st' := T386.setTop (mkF m 79 #[.val (.int xa), .val (.int xb), .val (.int xc), .val (.int (2 : Int32)), .val (.int (2 : Int32)), .val (.ref b349), .unset] [(.int (1 : Int32)), (.int (1 : Int32))])) (fun _ k => XS.iconst X386.here hx rfl (hb hby at_78) k) ?_
        refine own_go (st' := T386.setTop (mkF m 83 #[.val (.int xa), .val (.int xb), .val (.int xc), .val (.int (2 : Int32)), .val (.int (2 : Int32)), .val (.ref b349), .unset] [(.int (1 : Int32)), (.int (1 : Int32))])) (fun _ k => XS.goto X386.here hx rfl (pc0 := 79) (pc' := 83) rfl (hb hby at_79) (by decide) (by decide) k) ?_
        have hc388 : (1 : Int32) = (1 : Int32) := by decide
        refine own_go (st' := T386.setTop (mkF m 86 #[.val (.int xa), .val (.int xb), .val (.int xc), .val (.int (2 : Int32)), .val (.int (2 : Int32)), .val (.ref b349), .unset] [])) (fun _ k => XS.icmpNo X386.here hx rfl (hb hby at_83) rfl (teq hc388).2 k) ?_
        refine own_go (st' := T386.setTop (mkF m 87 #[.val (.int xa), .val (.int xb), .val (.int xc), .val (.int (2 : Int32)), .val (.int (2 : Int32)), .val (.ref b349), .unset] [(.int (1 : Int32))])) (fun _ k => XS.iconst X386.here hx rfl (hb hby at_86) k) ?_
        refine own_go (st' := T386.setTop (mkF m 91 #[.val (.int xa), .val (.int xb), .val (.int xc), .val (.int (2 : Int32)), .val (.int (2 : Int32)), .val (.ref b349), .unset] [(.int (1 : Int32))])) (fun _ k => XS.goto X386.here hx rfl (pc0 := 87) (pc' := 91) rfl (hb hby at_87) (by decide) (by decide) k) ?_
        refine own_go (st' := T386.setTop (mkF m 93 #[.val (.int xa), .val (.int xb), .val (.int xc), .val (.int (2 : Int32)), .val (.int (2 : Int32)), .val (.ref b349), .val (.int (1 : Int32))] [])) (fun _ k => XS.istore X386.here hx rfl (hb hby at_91) rfl (l' := #[.val (.int xa), .val (.int xb), .val (.int xc), .val (.int (2 : Int32)), .val (.int (2 : Int32)), .val (.ref b349), .val (.int (1 : Int32))]) rfl k) ?_
        refine own_go (st' := T386.setTop (mkF m 95 #[.val (.int xa), .val (.int xb), .val (.int xc), .val (.int (2 : Int32)), .val (.int (2 : Int32)), .val (.ref b349), .val (.int (1 : Int32))] [(.int (2 : Int32))])) (fun _ k => XS.iload X386.here hx rfl (hb hby at_93) rfl k) ?_
        refine own_go (st' := T386.setTop (mkF m 96 #[.val (.int xa), .val (.int xb), .val (.int xc), .val (.int (2 : Int32)), .val (.int (2 : Int32)), .val (.ref b349), .val (.int (1 : Int32))] [(.int (1 : Int32)), (.int (2 : Int32))])) (fun _ k => XS.iconst X386.here hx rfl (hb hby at_95) k) ?_
        have hc389 : ¬ ((2 : Int32) < (1 : Int32)) := by decide
        refine own_go (st' := T386.setTop (mkF m 99 #[.val (.int xa), .val (.int xb), .val (.int xc), .val (.int (2 : Int32)), .val (.int (2 : Int32)), .val (.ref b349), .val (.int (1 : Int32))] [])) (fun _ k => XS.icmpNo X386.here hx rfl (hb hby at_96) rfl (flt hc389).1 k) ?_
        refine own_go (st' := T386.setTop (mkF m 101 #[.val (.int xa), .val (.int xb), .val (.int xc), .val (.int (2 : Int32)), .val (.int (2 : Int32)), .val (.ref b349), .val (.int (1 : Int32))] [(.ref b349)])) (fun _ k => XS.aload X386.here hx rfl (hb hby at_99) rfl rfl k) ?_
        have c391 : Arv Z h384 rl_355 kl_355 (.object "java/lang/Object") (16 : Int32) [.null, .null, .null, .null, .null, .null, .null, .null, .null, .null, .null, .null, .null, .null, .null, .null] .null := (c385.keep K384 (ninS (by first | assumption | exact Ne.symm (by assumption) | (apply Nat.ne_of_lt; omega) | (apply Nat.ne_of_gt; omega)) nin0))
        have c392 : Arv Z h384 rs_355 ks_355 .int (16 : Int32) [(.int (0 : Int32)), (.int (0 : Int32)), (.int (0 : Int32)), (.int (0 : Int32)), (.int (0 : Int32)), (.int (0 : Int32)), (.int (0 : Int32)), (.int (0 : Int32)), (.int (0 : Int32)), (.int (0 : Int32)), (.int (0 : Int32)), (.int (0 : Int32)), (.int (0 : Int32)), (.int (0 : Int32)), (.int (0 : Int32)), (.int (0 : Int32))] (.int (0 : Int32)) := (g359_5.keep K384 (ninS (by first | assumption | exact Ne.symm (by assumption) | (apply Nat.ne_of_lt; omega) | (apply Nat.ne_of_gt; omega)) nin0))
        obtain ⟨cq390, kq390, q390a, q390b, q390c⟩ := isOf hZ eq386 g384_0
        obtain ⟨_, _, ⟨T390, LC390, kC390, nC390⟩, -, X390, ⟨Lc390, hQ390, lq390, yq390, zq390⟩, st390⟩ := X386.virtualBack hx (y := (⟨"com/example/greenwood/greenwood/Environment", "closeScope", "()V"⟩ : MethodName)) (z := (⟨"com/example/greenwood/greenwood/Environment", "closeScope", "()V"⟩ : MethodName)) hown (mvT hZ (hw _ (List.mem_of_getElem? (i := 66) rfl))) (mvT hZ (hw _ (List.mem_of_getElem? (i := 67) rfl))) (notFace_of_selects (args := #[]) (mvT hZ (hw _ (List.mem_of_getElem? (i := 69) rfl)))) (mvT hZ (hw _ (List.mem_of_getElem? (i := 69) rfl))) (mvT hZ (hw _ (List.mem_of_getElem? (i := 68) rfl))) (by decide) (backOf (W := 0) (rm11_2_1 l Z a0 hw [] b349 rl_355 rs_355 kl_355 ks_355 h384 n0 (by omega) g384_0 g384_1 g384_2 g384_3 g384_4 c391 c392 (by omega) (by omega) (by omega) (by first | assumption | exact Ne.symm (by assumption) | (apply Nat.ne_of_lt; omega) | (apply Nat.ne_of_gt; omega)) (by first | assumption | exact Ne.symm (by assumption) | (apply Nat.ne_of_lt; omega) | (apply Nat.ne_of_gt; omega)) (by first | assumption | exact Ne.symm (by assumption) | (apply Nat.ne_of_lt; omega) | (apply Nat.ne_of_gt; omega))) hZ (hw _ (List.mem_of_getElem? (i := 70) rfl)) (hw _ (List.mem_of_getElem? (i := 3) rfl)) (by decide) (by decide)) q390a q390c (g := (mkF m 101 #[.val (.int xa), .val (.int xb), .val (.int xc), .val (.int (2 : Int32)), .val (.int (2 : Int32)), .val (.ref b349), .val (.int (1 : Int32))] [(.ref b349)])) rfl (by rw [hml]; rfl) (Steps.refl _) (argsL := []) (rest := []) (lenOf pd_0 rfl) rfl (by show 2 * 0 + _ ≤ _; exact Nat.le_of_eq rfl) (hb hby at_101) (fun _ _ => ⟨rfl, eq386, (by decide : 4 + 0 ≤ _), (by decide : 45 + 0 ≤ _)⟩)
        dsimp only [Pt.U, Pt.locs, Pt.cells, Pt.slots] at X390 lq390 yq390 zq390 st390 hQ390
        subst lq390 yq390 zq390
        obtain ⟨h390, e390⟩ : ∃ z, T390.heap = z := ⟨_, rfl⟩
        rw [e390] at hQ390
        obtain ⟨rfl, Nq390, K390, g390_0, g390_1, g390_2, g390_3, g390_4, g390_5⟩ := hQ390
        have sz390 : h384.size ≤ h390.size := K390.1
        have N390 := Fr.app N386 Nq390
        have lt390_1 : @LT.lt Nat _ b349 h390.size := g390_0.lt
        have lt390_2 : @LT.lt Nat _ rl_355 h390.size := g390_5.lt
        refine own_go (st' := T390.setTop (mkF m 104 #[.val (.int xa), .val (.int xb), .val (.int xc), .val (.int (2 : Int32)), .val (.int (2 : Int32)), .val (.ref b349), .val (.int (1 : Int32))] [])) (fun _ k => st390.trans k) ?_
        refine own_go (st' := T390.setTop (mkF m 106 #[.val (.int xa), .val (.int xb), .val (.int xc), .val (.int (2 : Int32)), .val (.int (2 : Int32)), .val (.ref b349), .val (.int (1 : Int32))] [(.int (2 : Int32))])) (fun _ k => XS.iload X390.here hx rfl (hb hby at_104) rfl k) ?_
        refine own_go (st' := T390.setTop (mkF m 107 #[.val (.int xa), .val (.int xb), .val (.int xc), .val (.int (2 : Int32)), .val (.int (2 : Int32)), .val (.ref b349), .val (.int (1 : Int32))] [(.int (2 : Int32)), (.int (2 : Int32))])) (fun _ k => XS.iconst X390.here hx rfl (hb hby at_106) k) ?_
        have hc393 : ¬ ((2 : Int32) < (2 : Int32)) := by decide
        refine own_go (st' := T390.setTop (mkF m 110 #[.val (.int xa), .val (.int xb), .val (.int xc), .val (.int (2 : Int32)), .val (.int (2 : Int32)), .val (.ref b349), .val (.int (1 : Int32))] [])) (fun _ k => XS.icmpNo X390.here hx rfl (hb hby at_107) rfl (flt hc393).1 k) ?_
        refine own_go (st' := T390.setTop (mkF m 112 #[.val (.int xa), .val (.int xb), .val (.int xc), .val (.int (2 : Int32)), .val (.int (2 : Int32)), .val (.ref b349), .val (.int (1 : Int32))] [(.ref b349)])) (fun _ k => XS.aload X390.here hx rfl (hb hby at_110) rfl rfl k) ?_
        have c395 : Arv Z h390 rs_355 ks_355 .int (16 : Int32) [(.int (0 : Int32)), (.int (0 : Int32)), (.int (0 : Int32)), (.int (0 : Int32)), (.int (0 : Int32)), (.int (0 : Int32)), (.int (0 : Int32)), (.int (0 : Int32)), (.int (0 : Int32)), (.int (0 : Int32)), (.int (0 : Int32)), (.int (0 : Int32)), (.int (0 : Int32)), (.int (0 : Int32)), (.int (0 : Int32)), (.int (0 : Int32))] (.int (0 : Int32)) := (c392.keep K390 (ninS (by first | assumption | exact Ne.symm (by assumption) | (apply Nat.ne_of_lt; omega) | (apply Nat.ne_of_gt; omega)) (ninS (by first | assumption | exact Ne.symm (by assumption) | (apply Nat.ne_of_lt; omega) | (apply Nat.ne_of_gt; omega)) nin0)))
        obtain ⟨cq394, kq394, q394a, q394b, q394c⟩ := isOf hZ e390 g390_0
        obtain ⟨_, _, ⟨T394, LC394, kC394, nC394⟩, -, X394, ⟨Lc394, hQ394, lq394, yq394, zq394⟩, st394⟩ := X390.virtualBack hx (y := (⟨"com/example/greenwood/greenwood/Environment", "closeScope", "()V"⟩ : MethodName)) (z := (⟨"com/example/greenwood/greenwood/Environment", "closeScope", "()V"⟩ : MethodName)) hown (mvT hZ (hw _ (List.mem_of_getElem? (i := 66) rfl))) (mvT hZ (hw _ (List.mem_of_getElem? (i := 67) rfl))) (notFace_of_selects (args := #[]) (mvT hZ (hw _ (List.mem_of_getElem? (i := 69) rfl)))) (mvT hZ (hw _ (List.mem_of_getElem? (i := 69) rfl))) (mvT hZ (hw _ (List.mem_of_getElem? (i := 68) rfl))) (by decide) (backOf (W := 0) (rm11_1_0 l Z a0 hw [] b349 rl_355 rs_355 kl_355 ks_355 h390 n0 (by omega) g390_0 g390_1 g390_2 g390_3 g390_4 g390_5 c395 (by omega) (by omega) (by omega) (by first | assumption | exact Ne.symm (by assumption) | (apply Nat.ne_of_lt; omega) | (apply Nat.ne_of_gt; omega)) (by first | assumption | exact Ne.symm (by assumption) | (apply Nat.ne_of_lt; omega) | (apply Nat.ne_of_gt; omega)) (by first | assumption | exact Ne.symm (by assumption) | (apply Nat.ne_of_lt; omega) | (apply Nat.ne_of_gt; omega))) hZ (hw _ (List.mem_of_getElem? (i := 70) rfl)) (hw _ (List.mem_of_getElem? (i := 3) rfl)) (by decide) (by decide)) q394a q394c (g := (mkF m 112 #[.val (.int xa), .val (.int xb), .val (.int xc), .val (.int (2 : Int32)), .val (.int (2 : Int32)), .val (.ref b349), .val (.int (1 : Int32))] [(.ref b349)])) rfl (by rw [hml]; rfl) (Steps.refl _) (argsL := []) (rest := []) (lenOf pd_0 rfl) rfl (by show 2 * 0 + _ ≤ _; exact Nat.le_of_eq rfl) (hb hby at_112) (fun _ _ => ⟨rfl, e390, (by decide : 4 + 0 ≤ _), (by decide : 45 + 0 ≤ _)⟩)
        dsimp only [Pt.U, Pt.locs, Pt.cells, Pt.slots] at X394 lq394 yq394 zq394 st394 hQ394
        subst lq394 yq394 zq394
        obtain ⟨h394, e394⟩ : ∃ z, T394.heap = z := ⟨_, rfl⟩
        rw [e394] at hQ394
        obtain ⟨rfl, Nq394, K394, g394_0, g394_1, g394_2, g394_3, g394_4, g394_5⟩ := hQ394
        have sz394 : h390.size ≤ h394.size := K394.1
        have N394 := Fr.app N390 Nq394
        have lt394_1 : @LT.lt Nat _ b349 h394.size := g394_0.lt
        have lt394_2 : @LT.lt Nat _ rl_355 h394.size := g394_5.lt
        refine own_go (st' := T394.setTop (mkF m 115 #[.val (.int xa), .val (.int xb), .val (.int xc), .val (.int (2 : Int32)), .val (.int (2 : Int32)), .val (.ref b349), .val (.int (1 : Int32))] [])) (fun _ k => st394.trans k) ?_
        refine own_go (st' := T394.setTop (mkF m 117 #[.val (.int xa), .val (.int xb), .val (.int xc), .val (.int (2 : Int32)), .val (.int (2 : Int32)), .val (.ref b349), .val (.int (1 : Int32))] [(.int (1 : Int32))])) (fun _ k => XS.iload X394.here hx rfl (hb hby at_115) rfl k) ?_
        have hc396 : ¬ ((1 : Int32) = (0 : Int32)) := by decide
        refine own_go (st' := T394.setTop (mkF m 120 #[.val (.int xa), .val (.int xb), .val (.int xc), .val (.int (2 : Int32)), .val (.int (2 : Int32)), .val (.ref b349), .val (.int (1 : Int32))] [])) (fun _ k => XS.ifNo X394.here hx rfl (hb hby at_117) rfl ((if0 _ _).trans (feq hc396).1) k) ?_
        refine own_go (st' := T394.setTop (mkF m 122 #[.val (.int xa), .val (.int xb), .val (.int xc), .val (.int (2 : Int32)), .val (.int (2 : Int32)), .val (.ref b349), .val (.int (1 : Int32))] [(.ref b349)])) (fun _ k => XS.aload X394.here hx rfl (hb hby at_120) rfl rfl k) ?_
        obtain ⟨cq397, kq397, q397a, q397b, q397c⟩ := isOf hZ e394 g394_0
        obtain ⟨_, _, ⟨T397, LC397, kC397, nC397⟩, -, X397, ⟨Lc397, hQ397, lq397, yq397, zq397⟩, st397⟩ := X394.virtualBack hx (y := (⟨"com/example/greenwood/greenwood/Environment", "inScope", "()Z"⟩ : MethodName)) (z := (⟨"com/example/greenwood/greenwood/Environment", "inScope", "()Z"⟩ : MethodName)) hown (mvT hZ (hw _ (List.mem_of_getElem? (i := 35) rfl))) (mvT hZ (hw _ (List.mem_of_getElem? (i := 36) rfl))) (notFace_of_selects (args := #[]) (mvT hZ (hw _ (List.mem_of_getElem? (i := 38) rfl)))) (mvT hZ (hw _ (List.mem_of_getElem? (i := 38) rfl))) (mvT hZ (hw _ (List.mem_of_getElem? (i := 37) rfl))) (by decide) (backOf (W := 0) (rm5_0 l Z a0 hw [] b349 h394 n0 (by omega) g394_1) hZ (hw _ (List.mem_of_getElem? (i := 39) rfl)) (hw _ (List.mem_of_getElem? (i := 3) rfl)) (by decide) (by decide)) q397a q397c (g := (mkF m 122 #[.val (.int xa), .val (.int xb), .val (.int xc), .val (.int (2 : Int32)), .val (.int (2 : Int32)), .val (.ref b349), .val (.int (1 : Int32))] [(.ref b349)])) rfl (by rw [hml]; rfl) (Steps.refl _) (argsL := []) (rest := []) (lenOf pd_3 rfl) rfl (by show 2 * 0 + _ ≤ _; exact Nat.le_of_eq rfl) (hb hby at_122) (fun _ _ => ⟨rfl, e394, (by decide : 4 + 0 ≤ _), (by decide : 45 + 0 ≤ _)⟩)
        dsimp only [Pt.U, Pt.locs, Pt.cells, Pt.slots] at X397 lq397 yq397 zq397 st397 hQ397
        subst lq397 yq397 zq397
        obtain ⟨rfl, Nq397, eq397⟩ := hQ397
        have N397 := Fr.app N394 Nq397
        refine own_go (st' := T397.setTop (mkF m 125 #[.val (.int xa), .val (.int xb), .val (.int xc), .val (.int (2 : Int32)), .val (.int (2 : Int32)), .val (.ref b349), .val (.int (1 : Int32))] [(.int (0 : Int32))])) (fun _ k => st397.trans k) ?_
        refine own_go (st' := T397.setTop (mkF m 126 #[.val (.int xa), .val (.int xb), .val (.int xc), .val (.int (2 : Int32)), .val (.int (2 : Int32)), .val (.ref b349), .val (.int (1 : Int32))] [(.int (2 : Int32)), (.int (0 : Int32))])) (fun _ k => XS.iloadN X397.here hx rfl (hb hby at_125) rfl k) ?_
        refine own_go (st' := T397.setTop (mkF m 128 #[.val (.int xa), .val (.int xb), .val (.int xc), .val (.int (2 : Int32)), .val (.int (2 : Int32)), .val (.ref b349), .val (.int (1 : Int32))] [(.int (2 : Int32)), (.int (2 : Int32)), (.int (0 : Int32))])) (fun _ k => XS.iload X397.here hx rfl (hb hby at_126) rfl k) ?_
        refine own_go (st' := T397.setTop (mkF m 129 #[.val (.int xa), .val (.int xb), .val (.int xc), .val (.int (2 : Int32)), .val (.int (2 : Int32)), .val (.ref b349), .val (.int (1 : Int32))] [(.int (0 : Int32)), (.int (0 : Int32))])) (fun _ k => XS.isub X397.here hx rfl (hb hby at_128) rfl (by rw [show ((2 : Int32) - (2 : Int32)) = (0 : Int32) by decide]; exact k)) ?_
        have hc398 : ¬ ((0 : Int32) < (0 : Int32)) := by decide
        refine own_go (st' := T397.setTop (mkF m 136 #[.val (.int xa), .val (.int xb), .val (.int xc), .val (.int (2 : Int32)), .val (.int (2 : Int32)), .val (.ref b349), .val (.int (1 : Int32))] [(.int (0 : Int32))])) (fun _ k => XS.ifYes X397.here hx rfl (pc0 := 129) (pc' := 136) rfl (hb hby at_129) rfl ((if0 _ _).trans (flt hc398).2.2.2) (by decide) (by decide) k) ?_
        refine own_go (st' := T397.setTop (mkF m 137 #[.val (.int xa), .val (.int xb), .val (.int xc), .val (.int (2 : Int32)), .val (.int (2 : Int32)), .val (.ref b349), .val (.int (1 : Int32))] [(.int (0 : Int32)), (.int (0 : Int32))])) (fun _ k => XS.iconst X397.here hx rfl (hb hby at_136) k) ?_
        have hc399 : (0 : Int32) = (0 : Int32) := by decide
        refine own_go (st' := T397.setTop (mkF m 140 #[.val (.int xa), .val (.int xb), .val (.int xc), .val (.int (2 : Int32)), .val (.int (2 : Int32)), .val (.ref b349), .val (.int (1 : Int32))] [])) (fun _ k => XS.icmpNo X397.here hx rfl (hb hby at_137) rfl (teq hc399).2 k) ?_
        refine own_go (st' := T397.setTop (mkF m 141 #[.val (.int xa), .val (.int xb), .val (.int xc), .val (.int (2 : Int32)), .val (.int (2 : Int32)), .val (.ref b349), .val (.int (1 : Int32))] [(.int (1 : Int32))])) (fun _ k => XS.iconst X397.here hx rfl (hb hby at_140) k) ?_
        refine own_go (st' := T397.setTop (mkF m 145 #[.val (.int xa), .val (.int xb), .val (.int xc), .val (.int (2 : Int32)), .val (.int (2 : Int32)), .val (.ref b349), .val (.int (1 : Int32))] [(.int (1 : Int32))])) (fun _ k => XS.goto X397.here hx rfl (pc0 := 141) (pc' := 145) rfl (hb hby at_141) (by decide) (by decide) k) ?_
        refine own_go (st' := T397.setTop (mkF m 147 #[.val (.int xa), .val (.int xb), .val (.int xc), .val (.int (2 : Int32)), .val (.int (2 : Int32)), .val (.ref b349), .val (.int (1 : Int32))] [])) (fun _ k => XS.istore X397.here hx rfl (hb hby at_145) rfl (l' := #[.val (.int xa), .val (.int xb), .val (.int xc), .val (.int (2 : Int32)), .val (.int (2 : Int32)), .val (.ref b349), .val (.int (1 : Int32))]) rfl k) ?_
        refine own_go (st' := T397.setTop (mkF m 148 #[.val (.int xa), .val (.int xb), .val (.int xc), .val (.int (2 : Int32)), .val (.int (2 : Int32)), .val (.ref b349), .val (.int (1 : Int32))] [(.int xc)])) (fun _ k => XS.iloadN X397.here hx rfl (hb hby at_147) rfl k) ?_
        refine own_go (st' := T397.setTop (mkF m 149 #[.val (.int xa), .val (.int xb), .val (.int xc), .val (.int (2 : Int32)), .val (.int (2 : Int32)), .val (.ref b349), .val (.int (1 : Int32))] [(.int (2 : Int32)), (.int xc)])) (fun _ k => XS.iconst X397.here hx rfl (hb hby at_148) k) ?_
        refine own_go (st' := T397.setTop (mkF m 150 #[.val (.int xa), .val (.int xb), .val (.int xc), .val (.int (2 : Int32)), .val (.int (2 : Int32)), .val (.ref b349), .val (.int (1 : Int32))] [(.int (xc &&& (2 : Int32)))])) (fun _ k => XS.iand X397.here hx rfl (hb hby at_149) rfl k) ?_
        by_cases hc400 : (xc &&& (2 : Int32)) = (0 : Int32)
        · --
          refine own_go (st' := T397.setTop (mkF m 178 #[.val (.int xa), .val (.int xb), .val (.int xc), .val (.int (2 : Int32)), .val (.int (2 : Int32)), .val (.ref b349), .val (.int (1 : Int32))] [])) (fun _ k => XS.ifYes X397.here hx rfl (pc0 := 150) (pc' := 178) rfl (hb hby at_150) rfl ((if0 _ _).trans (teq hc400).1) (by decide) (by decide) k) ?_
          refine own_go (st' := T397.setTop (mkF m 180 #[.val (.int xa), .val (.int xb), .val (.int xc), .val (.int (2 : Int32)), .val (.int (2 : Int32)), .val (.ref b349), .val (.int (1 : Int32))] [(.int (1 : Int32))])) (fun _ k => XS.iload X397.here hx rfl (hb hby at_178) rfl k) ?_
          obtain ⟨fs, hr, hrun, hended, hW, hsame⟩ := X397.leave (v := some (.int (1 : Int32))) (fun h => by rw [Bd.returns] at h; cases h)
          refine ⟨_, _, ?_, hP _ _ hrun hended ⟨_, _, rfl, ?_, ⟨_, rfl⟩, hW, hsame.mono (by decide) (by decide)⟩⟩
          · exact retN X397 hx (t := .boolean) Bd.returns (by simp) (hb hby at_180) hr
          · show Qrm0 Z xa xb xc h0 n0 _ T397.heap _
            rw [eq397]
            exact ⟨rfl, N397, trivial⟩
        · --
          refine own_go (st' := T397.setTop (mkF m 153 #[.val (.int xa), .val (.int xb), .val (.int xc), .val (.int (2 : Int32)), .val (.int (2 : Int32)), .val (.ref b349), .val (.int (1 : Int32))] [])) (fun _ k => XS.ifNo X397.here hx rfl (hb hby at_150) rfl ((if0 _ _).trans (feq hc400).1) k) ?_
          refine own_go (st' := T397.setTop (mkF m 155 #[.val (.int xa), .val (.int xb), .val (.int xc), .val (.int (2 : Int32)), .val (.int (2 : Int32)), .val (.ref b349), .val (.int (1 : Int32))] [(.ref b349)])) (fun _ k => XS.aload X397.here hx rfl (hb hby at_153) rfl rfl k) ?_
          have c403 : Arv Z h394 rs_355 ks_355 .int (16 : Int32) [(.int (0 : Int32)), (.int (0 : Int32)), (.int (0 : Int32)), (.int (0 : Int32)), (.int (0 : Int32)), (.int (0 : Int32)), (.int (0 : Int32)), (.int (0 : Int32)), (.int (0 : Int32)), (.int (0 : Int32)), (.int (0 : Int32)), (.int (0 : Int32)), (.int (0 : Int32)), (.int (0 : Int32)), (.int (0 : Int32)), (.int (0 : Int32))] (.int (0 : Int32)) := (c395.keep K394 (ninS (by first | assumption | exact Ne.symm (by assumption) | (apply Nat.ne_of_lt; omega) | (apply Nat.ne_of_gt; omega)) (ninS (by first | assumption | exact Ne.symm (by assumption) | (apply Nat.ne_of_lt; omega) | (apply Nat.ne_of_gt; omega)) nin0)))
          obtain ⟨cq402, kq402, q402a, q402b, q402c⟩ := isOf hZ eq397 g394_0
          obtain ⟨_, _, ⟨T402, LC402, kC402, nC402⟩, -, X402, ⟨Lc402, hQ402, lq402, yq402, zq402⟩, st402⟩ := X397.virtualBack hx (y := (⟨"com/example/greenwood/greenwood/Environment", "closeScopes", "()V"⟩ : MethodName)) (z := (⟨"com/example/greenwood/greenwood/Environment", "closeScopes", "()V"⟩ : MethodName)) hown (mvT hZ (hw _ (List.mem_of_getElem? (i := 42) rfl))) (mvT hZ (hw _ (List.mem_of_getElem? (i := 43) rfl))) (notFace_of_selects (args := #[]) (mvT hZ (hw _ (List.mem_of_getElem? (i := 45) rfl)))) (mvT hZ (hw _ (List.mem_of_getElem? (i := 45) rfl))) (mvT hZ (hw _ (List.mem_of_getElem? (i := 44) rfl))) (by decide) (backOf (W := 0) (rm6_0 l Z a0 hw [] b349 (0 : Int32) rl_355 rs_355 kl_355 ks_355 h394 n0 (by omega) g394_0 g394_1 g394_2 g394_3 g394_4 g394_5 c403 (by omega) (by omega) (by omega) (by first | assumption | exact Ne.symm (by assumption) | (apply Nat.ne_of_lt; omega) | (apply Nat.ne_of_gt; omega)) (by first | assumption | exact Ne.symm (by assumption) | (apply Nat.ne_of_lt; omega) | (apply Nat.ne_of_gt; omega)) (by first | assumption | exact Ne.symm (by assumption) | (apply Nat.ne_of_lt; omega) | (apply Nat.ne_of_gt; omega))) hZ (hw _ (List.mem_of_getElem? (i := 46) rfl)) (hw _ (List.mem_of_getElem? (i := 3) rfl)) (by decide) (by decide)) q402a q402c (g := (mkF m 155 #[.val (.int xa), .val (.int xb), .val (.int xc), .val (.int (2 : Int32)), .val (.int (2 : Int32)), .val (.ref b349), .val (.int (1 : Int32))] [(.ref b349)])) rfl (by rw [hml]; rfl) (Steps.refl _) (argsL := []) (rest := []) (lenOf pd_0 rfl) rfl (by show 2 * 0 + _ ≤ _; exact Nat.le_of_eq rfl) (hb hby at_155) (fun _ _ => ⟨rfl, eq397, (by decide : 4 + 0 ≤ _), (by decide : 45 + 0 ≤ _)⟩)
          dsimp only [Pt.U, Pt.locs, Pt.cells, Pt.slots] at X402 lq402 yq402 zq402 st402 hQ402
          subst lq402 yq402 zq402
          obtain ⟨h402, e402⟩ : ∃ z, T402.heap = z := ⟨_, rfl⟩
          rw [e402] at hQ402
          obtain ⟨rfl, Nq402, K402, g402_0, g402_1, g402_2, g402_3, g402_4, g402_5⟩ := hQ402
          have sz402 : h394.size ≤ h402.size := K402.1
          have N402 := Fr.app N397 Nq402
          have lt402_1 : @LT.lt Nat _ b349 h402.size := g402_0.lt
          have lt402_2 : @LT.lt Nat _ rl_355 h402.size := g402_5.lt
          refine own_go (st' := T402.setTop (mkF m 158 #[.val (.int xa), .val (.int xb), .val (.int xc), .val (.int (2 : Int32)), .val (.int (2 : Int32)), .val (.ref b349), .val (.int (1 : Int32))] [])) (fun _ k => st402.trans k) ?_
          refine own_go (st' := T402.setTop (mkF m 160 #[.val (.int xa), .val (.int xb), .val (.int xc), .val (.int (2 : Int32)), .val (.int (2 : Int32)), .val (.ref b349), .val (.int (1 : Int32))] [(.int (1 : Int32))])) (fun _ k => XS.iload X402.here hx rfl (hb hby at_158) rfl k) ?_
          have hc404 : ¬ ((1 : Int32) = (0 : Int32)) := by decide
          refine own_go (st' := T402.setTop (mkF m 163 #[.val (.int xa), .val (.int xb), .val (.int xc), .val (.int (2 : Int32)), .val (.int (2 : Int32)), .val (.ref b349), .val (.int (1 : Int32))] [])) (fun _ k => XS.ifNo X402.here hx rfl (hb hby at_160) rfl ((if0 _ _).trans (feq hc404).1) k) ?_
          refine own_go (st' := T402.setTop (mkF m 165 #[.val (.int xa), .val (.int xb), .val (.int xc), .val (.int (2 : Int32)), .val (.int (2 : Int32)), .val (.ref b349), .val (.int (1 : Int32))] [(.ref b349)])) (fun _ k => XS.aload X402.here hx rfl (hb hby at_163) rfl rfl k) ?_
          obtain ⟨cq405, kq405, q405a, q405b, q405c⟩ := isOf hZ e402 g402_0
          obtain ⟨_, _, ⟨T405, LC405, kC405, nC405⟩, -, X405, ⟨Lc405, hQ405, lq405, yq405, zq405⟩, st405⟩ := X402.virtualBack hx (y := (⟨"com/example/greenwood/greenwood/Environment", "inScope", "()Z"⟩ : MethodName)) (z := (⟨"com/example/greenwood/greenwood/Environment", "inScope", "()Z"⟩ : MethodName)) hown (mvT hZ (hw _ (List.mem_of_getElem? (i := 35) rfl))) (mvT hZ (hw _ (List.mem_of_getElem? (i := 36) rfl))) (notFace_of_selects (args := #[]) (mvT hZ (hw _ (List.mem_of_getElem? (i := 38) rfl)))) (mvT hZ (hw _ (List.mem_of_getElem? (i := 38) rfl))) (mvT hZ (hw _ (List.mem_of_getElem? (i := 37) rfl))) (by decide) (backOf (W := 0) (rm5_0 l Z a0 hw [] b349 h402 n0 (by omega) g402_1) hZ (hw _ (List.mem_of_getElem? (i := 39) rfl)) (hw _ (List.mem_of_getElem? (i := 3) rfl)) (by decide) (by decide)) q405a q405c (g := (mkF m 165 #[.val (.int xa), .val (.int xb), .val (.int xc), .val (.int (2 : Int32)), .val (.int (2 : Int32)), .val (.ref b349), .val (.int (1 : Int32))] [(.ref b349)])) rfl (by rw [hml]; rfl) (Steps.refl _) (argsL := []) (rest := []) (lenOf pd_3 rfl) rfl (by show 2 * 0 + _ ≤ _; exact Nat.le_of_eq rfl) (hb hby at_165) (fun _ _ => ⟨rfl, e402, (by decide : 4 + 0 ≤ _), (by decide : 45 + 0 ≤ _)⟩)
          dsimp only [Pt.U, Pt.locs, Pt.cells, Pt.slots] at X405 lq405 yq405 zq405 st405 hQ405
          subst lq405 yq405 zq405
          obtain ⟨rfl, Nq405, eq405⟩ := hQ405
          have N405 := Fr.app N402 Nq405
          refine own_go (st' := T405.setTop (mkF m 168 #[.val (.int xa), .val (.int xb), .val (.int xc), .val (.int (2 : Int32)), .val (.int (2 : Int32)), .val (.ref b349), .val (.int (1 : Int32))] [(.int (0 : Int32))])) (fun _ k => st405.trans k) ?_
          have hc406 : (0 : Int32) = (0 : Int32) := by decide
          refine own_go (st' := T405.setTop (mkF m 171 #[.val (.int xa), .val (.int xb), .val (.int xc), .val (.int (2 : Int32)), .val (.int (2 : Int32)), .val (.ref b349), .val (.int (1 : Int32))] [])) (fun _ k => XS.ifNo X405.here hx rfl (hb hby at_168) rfl ((if0 _ _).trans (teq hc406).2) k) ?_
          refine own_go (st' := T405.setTop (mkF m 172 #[.val (.int xa), .val (.int xb), .val (.int xc), .val (.int (2 : Int32)), .val (.int (2 : Int32)), .val (.ref b349), .val (.int (1 : Int32))] [(.int (1 : Int32))])) (fun _ k => XS.iconst X405.here hx rfl (hb hby at_171) k) ?_
          refine own_go (st' := T405.setTop (mkF m 176 #[.val (.int xa), .val (.int xb), .val (.int xc), .val (.int (2 : Int32)), .val (.int (2 : Int32)), .val (.ref b349), .val (.int (1 : Int32))] [(.int (1 : Int32))])) (fun _ k => XS.goto X405.here hx rfl (pc0 := 172) (pc' := 176) rfl (hb hby at_172) (by decide) (by decide) k) ?_
          refine own_go (st' := T405.setTop (mkF m 178 #[.val (.int xa), .val (.int xb), .val (.int xc), .val (.int (2 : Int32)), .val (.int (2 : Int32)), .val (.ref b349), .val (.int (1 : Int32))] [])) (fun _ k => XS.istore X405.here hx rfl (hb hby at_176) rfl (l' := #[.val (.int xa), .val (.int xb), .val (.int xc), .val (.int (2 : Int32)), .val (.int (2 : Int32)), .val (.ref b349), .val (.int (1 : Int32))]) rfl k) ?_
          refine own_go (st' := T405.setTop (mkF m 180 #[.val (.int xa), .val (.int xb), .val (.int xc), .val (.int (2 : Int32)), .val (.int (2 : Int32)), .val (.ref b349), .val (.int (1 : Int32))] [(.int (1 : Int32))])) (fun _ k => XS.iload X405.here hx rfl (hb hby at_178) rfl k) ?_
          obtain ⟨fs, hr, hrun, hended, hW, hsame⟩ := X405.leave (v := some (.int (1 : Int32))) (fun h => by rw [Bd.returns] at h; cases h)
          refine ⟨_, _, ?_, hP _ _ hrun hended ⟨_, _, rfl, ?_, ⟨_, rfl⟩, hW, hsame.mono (by decide) (by decide)⟩⟩
          · exact retN X405 hx (t := .boolean) Bd.returns (by simp) (hb hby at_180) hr
          · show Qrm0 Z xa xb xc h0 n0 _ T405.heap _
            rw [eq405]
            exact ⟨rfl, N405, trivial⟩
    · --
      exact absurd hm_13 (own_pos xb)
  · --
    exact absurd hm_6 (own_pos xa)
set_option maxRecDepth 65536 in
set_option maxHeartbeats 40000000 in
theorem comes_1 {Post : Tables → Env → Array Value → State → Outcome → State → Prop} (hpost : ∀ tb e args s v u, (limb_1_1.after args s (.returned v) u = true ∧ limb_1_2.after args s (.returned v) u = true ∧ True) → FrameEnd s (.returned v) u (Jvm.fieldLocs frame_1_writes args s ++ Jvm.arrayLocs frame_1_arrays args s ++ Jvm.staticLocs frame_1_statics s) 16 192 → Post tb e args s (.returned v) u) :
    ArmFor flags0 classFile x code maxLocals ret World_1 tables_1 room_1 Calls_1 rest_1 Pre_1 Post := by
  intro l hfl _ _ p e ha hc hk s m args below hf hA hF happ hP
  obtain ⟨hcalls, hrest, hpre⟩ := hP
  obtain ⟨-, -, -, hnamed, -, -, -, hat⟩ := (Spec.applies_iff hf).mp happ
  obtain ⟨hg, hn⟩ := and_e (Cond.before_iff.mp (show (Jvm.Cond.and given_1 narrow_1).before args s = true from hpre))
  obtain ⟨h1, h2⟩ := and_e hg
  obtain ⟨w0, w1, w2, rfl⟩ : ∃ w0 w1 w2 : Value, args = #[w0, w1, w2] := by
    have hs : args.size = 3 := by simpa [Cond.value, given_1] using h1
    obtain ⟨L⟩ := args
    match L, hs with
    | [w0, w1, w2], _ => exact ⟨w0, w1, w2, rfl⟩
  have hw := fun d (hd : d ∈ tables_1) => atoms_spec (ws := Jvm.Cond.code x code maxLocals ret :: tables_1) hat d (List.mem_cons_of_mem _ hd)
  have hfit : Fit s := fun {y c} hc i hi => by
    obtain ⟨ha, rfl⟩ := Array.getElem?_eq_some_iff.mp hc
    have q := List.all_eq_true.mp ((Array.all_eq_true_iff_forall_mem.mp hF) _ (Array.getElem_mem ha)) i (List.mem_range.mpr hi)
    simpa [Array.getElem?_eq_getElem hi] using q
  obtain ⟨ha0, hr0⟩ := and_e h2
  obtain ⟨xa, ev0⟩ := is_v ha0
  obtain rfl : w0 = (.int xa) := Option.some.inj ev0
  obtain ⟨ha1, hr1⟩ := and_e hr0
  obtain ⟨xb, ev1⟩ := is_v ha1
  obtain rfl : w1 = (.int xb) := Option.some.inj ev1
  obtain ⟨xc, ev2⟩ := is_v hr1
  obtain rfl : w2 = (.int xc) := Option.some.inj ev2
  obtain ⟨n, o, h1, h2, h3, _, L, rfl, hQ, hq⟩ := rm0 l s _ hw tables_1 xa xb xc s.heap s.heap.size (Nat.le_refl _)  p e ha hc hk s m _ below hf ((Spec.applies_iff_loose hf).mp happ).1 ⟨rfl, State.Warmed39.refl s, rfl⟩ trivial
  obtain ⟨rfl, N, -⟩ := hQ
  refine ⟨n, _, h1, h2, h3, hpost _ _ _ _ _ _ ⟨Cond.after_iff.mpr rfl, Cond.after_iff.mpr (eq_i res_at (Term.int_eval (1)) rfl), trivial⟩ ⟨hq.1, hq.2.1, (hq.2.2.sift fun y hy => Or.inr (N y hy)).mono (by decide) (by decide)⟩⟩
theorem main_1_1 : Claimed_1_1 := comes_1 fun _ _ _ _ _ _ h hF => ⟨h.1, hF⟩
theorem main_1_2 : Claimed_1_2 := comes_1 fun _ _ _ _ _ _ h hF => ⟨h.2.1, hF⟩
end Jvm.Pilot.@@N@@
namespace Jvm.Pilot.@@N@@
open Jvm Jvm.ClassFile Sem Op Lib Jvm.Free Jvm.Stand Jvm.Pilot.@@N@@.Jvm.D
/-! MADE BY PROGRAM (witnessworld.py) out of the Statement's table words and the real class files: 14 classes; the members and pool entries that the words name. The judged class is class 1, her method 1. -/
namespace start1
open Jvm.ClassFile
def u (s : String) : CpInfo := .utf8 (stringToUtf16 s)
/-- a pool by its gaps: so many unusable entries, then the entry; so many at the end -/
def gap : Nat → List CpInfo → List CpInfo
  | 0, r => r
  | n + 1, r => .unusable :: gap n r
def poolList (es : List (Nat × CpInfo)) (last : Nat) : List CpInfo := es.foldr (fun e r => gap e.1 (e.2 :: r)) (gap last [])
def pool (es : List (Nat × CpInfo)) (last : Nat) : Array CpInfo := ⟨poolList es last⟩
def fileOf (pool : Array CpInfo) (this : Nat) (attrs : Array Attribute := #[]) (ms : Array MethodInfo := #[]) (fl : Nat := 33) (sup : Nat := 0) (ifs : Array Nat := #[]) (fds : Array FieldInfo := #[]) : ClassFile where
  minorVersion := 0
  majorVersion := 65
  constantPool := pool
  accessFlags := fl
  thisClass := this
  superClass := sup
  interfaces := ifs
  fields := fds
  methods := ms
  attributes := attrs
def plain (name : String) (sup : Option ClassId) : Class where
  name := name
  kind := .ordinary
  loader := none
  accessFlags := 33
  super := sup
  interfaces := #[]
  cf := none
  fields := #[]
  methods := #[]
  instanceTypes := #[]
  staticTypes := #[]
  resolved := #[]
  callSites := []
  init := .initialized
  statics := none
  mirror := none

def pool0 : Array CpInfo := pool [(5, u "<init>"), (0, u "()V"), (1, .class_ 10), (1, u "java/lang/Object")] 113

def k0c0 : Code := { maxStack := 0, maxLocals := 1, code := object_method_1_code, exceptionTable := #[], attributes := #[] }
def k0m0 : Method := { name := "<init>", desc := "()V", sig := { parameters := [], returnType := none }, accessFlags := 1, code := some k0c0 }
/-- java/lang/Object -/
def k0 : Class := { plain "java/lang/Object" none with
  accessFlags := 33
  interfaces := #[]
  cf := some (fileOf pool0 8 #[] #[{ accessFlags := 1, nameIndex := 5, descriptorIndex := 6, attributes := #[] }] 33 0 #[] #[])
  fields := #[]
  methods := #[k0m0]
  instanceTypes := #[]
  staticTypes := #[]
  resolved := Array.replicate 124 none
  statics := none }

def pool1 : Array CpInfo := pool [(2, .class_ 4), (0, .nameAndType 5 6), (0, u "java/lang/Object"), (0, u "<init>"), (0, u "()V"), (0, .integer 2147483647), (0, .class_ 9), (0, u "com/example/greenwood/greenwood/Environment"), (0, .methodref 8 3), (0, .methodref 8 12), (0, .nameAndType 13 6), (0, u "openScope"), (0, .methodref 8 15), (0, .nameAndType 16 6), (0, u "declare"), (0, .methodref 8 18), (0, .nameAndType 19 20), (0, u "inScope"), (0, u "()Z"), (0, .methodref 8 22), (0, .nameAndType 23 6), (0, u "closeScope"), (0, .methodref 8 25), (0, .nameAndType 26 6), (0, u "closeScopes"), (0, .class_ 28), (0, u "com/example/greenwood/greenwood/EnvironmentInScopePinLaw"), (2, u "law"), (0, u "(III)Z")] 3

def k1m0 : Method := { name := "<init>", desc := "()V", sig := { parameters := [], returnType := none }, accessFlags := 2, code := none }
def k1c1 : Code := { maxStack := 3, maxLocals := 7, code := code, exceptionTable := #[], attributes := #[] }
def k1m1 : Method := { name := "law", desc := "(III)Z", sig := { parameters := [.int, .int, .int], returnType := some .boolean }, accessFlags := 9, code := some k1c1 }
/-- com/example/greenwood/greenwood/EnvironmentInScopePinLaw -/
def k1 : Class := { plain "com/example/greenwood/greenwood/EnvironmentInScopePinLaw" (some 0) with
  accessFlags := 49
  interfaces := #[]
  cf := some (fileOf pool1 27 #[] #[{ accessFlags := 2, nameIndex := 5, descriptorIndex := 6, attributes := #[] }, { accessFlags := 9, nameIndex := 31, descriptorIndex := 32, attributes := #[] }] 49 2 #[] #[])
  fields := #[]
  methods := #[k1m0, k1m1]
  instanceTypes := #[]
  staticTypes := #[]
  resolved := Array.replicate 36 none
  statics := none }

def pool2 : Array CpInfo := pool [(1, .methodref 2 3), (0, .class_ 4), (0, .nameAndType 5 6), (0, u "java/lang/Object"), (0, u "<init>"), (0, u "()V"), (0, .class_ 8), (0, u "java/util/HashMap"), (0, .methodref 7 3), (0, .fieldref 11 12), (0, .class_ 13), (0, .nameAndType 14 15), (0, u "com/example/greenwood/greenwood/Environment"), (0, u "globals"), (0, u "Ljava/util/Map;"), (0, .fieldref 11 17), (0, .nameAndType 18 19), (0, u "locals"), (0, u "[Ljava/lang/Object;"), (0, .fieldref 11 21), (0, .nameAndType 22 23), (0, u "scopeStarts"), (0, u "[I"), (33, .fieldref 11 58), (0, .nameAndType 59 60), (0, u "openScopes"), (0, u "I"), (1, .class_ 64), (1, u "java/util/Arrays"), (2, .fieldref 11 68), (0, .nameAndType 69 60), (0, u "localCount"), (0, .methodref 62 71), (0, .nameAndType 72 73), (0, u "fill"), (0, u "([Ljava/lang/Object;IILjava/lang/Object;)V"), (26, u "inScope"), (0, u "()Z"), (0, u "openScope"), (0, u "closeScope"), (0, u "closeScopes"), (0, u "declare")] 21

def k2c0 : Code := { maxStack := 3, maxLocals := 1, code := prog_1_method_1_code, exceptionTable := #[], attributes := #[] }
def k2m0 : Method := { name := "<init>", desc := "()V", sig := { parameters := [], returnType := none }, accessFlags := 0, code := some k2c0 }
def k2c1 : Code := { maxStack := 1, maxLocals := 1, code := prog_1_method_6_code, exceptionTable := #[], attributes := #[] }
def k2m1 : Method := { name := "inScope", desc := "()Z", sig := { parameters := [], returnType := some .boolean }, accessFlags := 0, code := some k2c1 }
def k2c2 : Code := { maxStack := 4, maxLocals := 1, code := prog_1_method_7_code, exceptionTable := #[], attributes := #[] }
def k2m2 : Method := { name := "openScope", desc := "()V", sig := { parameters := [], returnType := none }, accessFlags := 0, code := some k2c2 }
def k2c3 : Code := { maxStack := 4, maxLocals := 2, code := prog_1_method_8_code, exceptionTable := #[], attributes := #[] }
def k2m3 : Method := { name := "closeScope", desc := "()V", sig := { parameters := [], returnType := none }, accessFlags := 0, code := some k2c3 }
def k2c4 : Code := { maxStack := 4, maxLocals := 1, code := prog_1_method_9_code, exceptionTable := #[], attributes := #[] }
def k2m4 : Method := { name := "closeScopes", desc := "()V", sig := { parameters := [], returnType := none }, accessFlags := 0, code := some k2c4 }
def k2c5 : Code := { maxStack := 4, maxLocals := 1, code := prog_1_method_10_code, exceptionTable := #[], attributes := #[] }
def k2m5 : Method := { name := "declare", desc := "()V", sig := { parameters := [], returnType := none }, accessFlags := 0, code := some k2c5 }
/-- com/example/greenwood/greenwood/Environment -/
def k2 : Class := { plain "com/example/greenwood/greenwood/Environment" (some 0) with
  accessFlags := 48
  interfaces := #[]
  cf := some (fileOf pool2 11 #[] #[{ accessFlags := 0, nameIndex := 5, descriptorIndex := 6, attributes := #[] }, { accessFlags := 0, nameIndex := 100, descriptorIndex := 101, attributes := #[] }, { accessFlags := 0, nameIndex := 102, descriptorIndex := 6, attributes := #[] }, { accessFlags := 0, nameIndex := 103, descriptorIndex := 6, attributes := #[] }, { accessFlags := 0, nameIndex := 104, descriptorIndex := 6, attributes := #[] }, { accessFlags := 0, nameIndex := 105, descriptorIndex := 6, attributes := #[] }] 48 2 #[] #[{ accessFlags := 18, nameIndex := 14, descriptorIndex := 15, attributes := #[] }, { accessFlags := 2, nameIndex := 18, descriptorIndex := 19, attributes := #[] }, { accessFlags := 2, nameIndex := 69, descriptorIndex := 60, attributes := #[] }, { accessFlags := 2, nameIndex := 22, descriptorIndex := 23, attributes := #[] }, { accessFlags := 2, nameIndex := 59, descriptorIndex := 60, attributes := #[] }])
  fields := #[{ name := "globals", type := (.object "java/util/Map"), accessFlags := 18, slot := 0, constantValue := 0 }, { name := "locals", type := (.array (.object "java/lang/Object")), accessFlags := 2, slot := 1, constantValue := 0 }, { name := "localCount", type := .int, accessFlags := 2, slot := 2, constantValue := 0 }, { name := "scopeStarts", type := (.array .int), accessFlags := 2, slot := 3, constantValue := 0 }, { name := "openScopes", type := .int, accessFlags := 2, slot := 4, constantValue := 0 }]
  methods := #[k2m0, k2m1, k2m2, k2m3, k2m4, k2m5]
  instanceTypes := #[(.object "java/util/Map"), (.array (.object "java/lang/Object")), .int, (.array .int), .int]
  staticTypes := #[]
  resolved := Array.replicate 127 none
  statics := none }

def pool3 : Array CpInfo := pool [(2, .class_ 4), (1, u "java/util/Map"), (31, .class_ 37), (0, u "java/util/Map$Entry"), (55, .class_ 94), (0, u "java/lang/Object")] 168

/-- java/util/Map -/
def k3 : Class := { plain "java/util/Map" (some 0) with
  accessFlags := 1537
  interfaces := #[]
  cf := some (fileOf pool3 2 #[.nestMembers #[36]] #[] 1537 93 #[] #[])
  fields := #[]
  methods := #[]
  instanceTypes := #[]
  staticTypes := #[]
  resolved := Array.replicate 263 none
  statics := none }

def pool4 : Array CpInfo := pool [(1, .methodref 2 3), (0, .class_ 4), (0, .nameAndType 5 6), (0, u "java/lang/Object"), (0, u "<init>"), (0, u "()V"), (1, .class_ 10), (1, u "java/util/AbstractMap"), (42, .class_ 54), (0, u "java/util/Map"), (9, u "keySet"), (0, u "Ljava/util/Set;"), (0, .class_ 67), (0, u "java/util/AbstractMap$1"), (5, u "values"), (0, u "Ljava/util/Collection;"), (0, .class_ 76), (0, u "java/util/AbstractMap$2"), (104, .class_ 182), (0, u "java/util/AbstractMap$ViewCollection"), (0, .class_ 184), (0, u "java/util/AbstractMap$SimpleImmutableEntry"), (0, .class_ 186), (0, u "java/util/AbstractMap$SimpleEntry"), (0, .class_ 188), (0, u "java/util/AbstractMap$2$1"), (0, .class_ 190), (0, u "java/util/AbstractMap$1$1")] 5

def k4c0 : Code := { maxStack := 1, maxLocals := 1, code := jdk_71_method_1_code, exceptionTable := #[], attributes := #[] }
def k4m0 : Method := { name := "<init>", desc := "()V", sig := { parameters := [], returnType := none }, accessFlags := 4, code := some k4c0 }
/-- java/util/AbstractMap -/
def k4 : Class := { plain "java/util/AbstractMap" (some 0) with
  accessFlags := 1057
  interfaces := #[3]
  cf := some (fileOf pool4 8 #[.nestMembers #[181, 183, 185, 75, 187, 66, 189]] #[{ accessFlags := 4, nameIndex := 5, descriptorIndex := 6, attributes := #[] }] 1057 2 #[53] #[{ accessFlags := 128, nameIndex := 64, descriptorIndex := 65, attributes := #[] }, { accessFlags := 128, nameIndex := 73, descriptorIndex := 74, attributes := #[] }])
  fields := #[{ name := "keySet", type := (.object "java/util/Set"), accessFlags := 128, slot := 0, constantValue := 0 }, { name := "values", type := (.object "java/util/Collection"), accessFlags := 128, slot := 1, constantValue := 0 }]
  methods := #[k4m0]
  instanceTypes := #[(.object "java/util/Set"), (.object "java/util/Collection")]
  staticTypes := #[]
  resolved := Array.replicate 196 none
  statics := none }

def pool5 : Array CpInfo := pool [(1, .class_ 2), (0, u "java/lang/Cloneable"), (0, .class_ 4), (0, u "java/lang/Object")] 2

/-- java/lang/Cloneable -/
def k5 : Class := { plain "java/lang/Cloneable" (some 0) with
  accessFlags := 1537
  interfaces := #[]
  cf := some (fileOf pool5 1 #[] #[] 1537 3 #[] #[])
  fields := #[]
  methods := #[]
  instanceTypes := #[]
  staticTypes := #[]
  resolved := Array.replicate 7 none
  statics := none }

def pool6 : Array CpInfo := pool [(1, .class_ 2), (0, u "java/io/Serializable"), (0, .class_ 4), (0, u "java/lang/Object")] 2

/-- java/io/Serializable -/
def k6 : Class := { plain "java/io/Serializable" (some 0) with
  accessFlags := 1537
  interfaces := #[]
  cf := some (fileOf pool6 1 #[] #[] 1537 3 #[] #[])
  fields := #[]
  methods := #[]
  instanceTypes := #[]
  staticTypes := #[]
  resolved := Array.replicate 7 none
  statics := none }

def pool7 : Array CpInfo := pool [(40, .class_ 41), (0, u "java/util/HashMap"), (1, .methodref 44 45), (0, .class_ 46), (0, .nameAndType 47 48), (0, u "java/util/AbstractMap"), (0, u "<init>"), (0, u "()V"), (32, .fieldref 40 82), (0, .nameAndType 83 84), (0, u "loadFactor"), (0, u "F"), (5, u "threshold"), (0, u "I"), (0, .float 1061158912), (8, .class_ 103), (1, u "java/util/Map"), (0, u "size"), (2, u "table"), (0, u "[Ljava/util/HashMap$Node;"), (14, u "entrySet"), (39, .class_ 165), (1, u "java/util/HashMap$Node"), (14, .class_ 181), (0, u "java/util/HashMap$TreeNode"), (22, u "modCount"), (37, u "Ljava/util/Set;"), (0, .class_ 244), (0, u "java/util/HashMap$KeySet"), (18, .class_ 264), (0, u "java/util/HashMap$Values"), (3, .class_ 269), (0, u "java/util/HashMap$EntrySet"), (76, .class_ 348), (1, u "java/util/HashMap$UnsafeHolder"), (43, .class_ 393), (0, u "java/lang/Cloneable"), (0, .class_ 395), (0, u "java/io/Serializable"), (0, u "serialVersionUID"), (0, u "J"), (3, u "DEFAULT_INITIAL_CAPACITY"), (1, u "MAXIMUM_CAPACITY"), (0, u "DEFAULT_LOAD_FACTOR"), (0, u "TREEIFY_THRESHOLD"), (1, u "UNTREEIFY_THRESHOLD"), (1, u "MIN_TREEIFY_CAPACITY"), (186, .class_ 597), (0, u "java/util/HashMap$EntrySpliterator"), (0, .class_ 599), (0, u "java/util/HashMap$ValueSpliterator"), (0, .class_ 601), (0, u "java/util/HashMap$KeySpliterator"), (0, .class_ 603), (0, u "java/util/HashMap$HashMapSpliterator"), (0, .class_ 605), (0, u "java/util/HashMap$EntryIterator"), (0, .class_ 607), (0, u "java/util/HashMap$ValueIterator"), (0, .class_ 609), (0, u "java/util/HashMap$KeyIterator"), (0, .class_ 611), (0, u "java/util/HashMap$HashIterator")] 17

def k7c0 : Code := { maxStack := 2, maxLocals := 1, code := jdk_69_method_7_code, exceptionTable := #[], attributes := #[] }
def k7m0 : Method := { name := "<init>", desc := "()V", sig := { parameters := [], returnType := none }, accessFlags := 1, code := some k7c0 }
/-- java/util/HashMap -/
def k7 : Class := { plain "java/util/HashMap" (some 4) with
  accessFlags := 33
  interfaces := #[3, 5, 6]
  cf := some (fileOf pool7 40 #[.nestMembers #[180, 596, 598, 600, 602, 604, 606, 608, 610, 346, 268, 263, 243, 163]] #[{ accessFlags := 1, nameIndex := 47, descriptorIndex := 48, attributes := #[] }] 33 44 #[101, 392, 394] #[{ accessFlags := 26, nameIndex := 396, descriptorIndex := 397, attributes := #[] }, { accessFlags := 24, nameIndex := 401, descriptorIndex := 91, attributes := #[] }, { accessFlags := 24, nameIndex := 403, descriptorIndex := 91, attributes := #[] }, { accessFlags := 24, nameIndex := 404, descriptorIndex := 84, attributes := #[] }, { accessFlags := 24, nameIndex := 405, descriptorIndex := 91, attributes := #[] }, { accessFlags := 24, nameIndex := 407, descriptorIndex := 91, attributes := #[] }, { accessFlags := 24, nameIndex := 409, descriptorIndex := 91, attributes := #[] }, { accessFlags := 128, nameIndex := 107, descriptorIndex := 108, attributes := #[] }, { accessFlags := 128, nameIndex := 123, descriptorIndex := 242, attributes := #[] }, { accessFlags := 128, nameIndex := 104, descriptorIndex := 91, attributes := #[] }, { accessFlags := 128, nameIndex := 204, descriptorIndex := 91, attributes := #[] }, { accessFlags := 0, nameIndex := 90, descriptorIndex := 91, attributes := #[] }, { accessFlags := 16, nameIndex := 83, descriptorIndex := 84, attributes := #[] }])
  fields := #[{ name := "serialVersionUID", type := .long, accessFlags := 26, slot := 0, constantValue := 0 }, { name := "DEFAULT_INITIAL_CAPACITY", type := .int, accessFlags := 24, slot := 1, constantValue := 0 }, { name := "MAXIMUM_CAPACITY", type := .int, accessFlags := 24, slot := 2, constantValue := 0 }, { name := "DEFAULT_LOAD_FACTOR", type := .float, accessFlags := 24, slot := 3, constantValue := 0 }, { name := "TREEIFY_THRESHOLD", type := .int, accessFlags := 24, slot := 4, constantValue := 0 }, { name := "UNTREEIFY_THRESHOLD", type := .int, accessFlags := 24, slot := 5, constantValue := 0 }, { name := "MIN_TREEIFY_CAPACITY", type := .int, accessFlags := 24, slot := 6, constantValue := 0 }, { name := "table", type := (.array (.object "java/util/HashMap$Node")), accessFlags := 128, slot := 2, constantValue := 0 }, { name := "entrySet", type := (.object "java/util/Set"), accessFlags := 128, slot := 3, constantValue := 0 }, { name := "size", type := .int, accessFlags := 128, slot := 4, constantValue := 0 }, { name := "modCount", type := .int, accessFlags := 128, slot := 5, constantValue := 0 }, { name := "threshold", type := .int, accessFlags := 0, slot := 6, constantValue := 0 }, { name := "loadFactor", type := .float, accessFlags := 16, slot := 7, constantValue := 0 }]
  methods := #[k7m0]
  instanceTypes := #[(.object "java/util/Set"), (.object "java/util/Collection"), (.array (.object "java/util/HashMap$Node")), (.object "java/util/Set"), .int, .int, .int, .float]
  staticTypes := #[.long, .int, .int, .float, .int, .int, .int]
  resolved := Array.replicate 629 none
  statics := none }

def pool8 : Array CpInfo := pool [(2, .class_ 4), (1, u "java/lang/Object"), (0, u "<init>"), (0, u "()V"), (6, .methodref 14 15), (0, .class_ 16), (0, .nameAndType 17 18), (0, u "java/util/Arrays"), (0, u "rangeCheck"), (0, u "(III)V"), (55, .class_ 76), (1, u "java/util/Arrays$NaturalOrder"), (36, .class_ 115), (1, u "java/util/Arrays$LegacyMergeSort"), (1, u "Z"), (257, .class_ 376), (0, u "java/util/Arrays$ArrayList"), (68, u "$assertionsDisabled"), (269, u "MIN_ARRAY_SORT_GRAN"), (0, u "I"), (2, u "INSERTIONSORT_THRESHOLD"), (120, u "fill"), (18, u "([Ljava/lang/Object;IILjava/lang/Object;)V"), (115, .class_ 976), (0, u "java/util/Arrays$ArrayItr")] 52

def k8m0 : Method := { name := "<init>", desc := "()V", sig := { parameters := [], returnType := none }, accessFlags := 2, code := none }
def k8c1 : Code := { maxStack := 4, maxLocals := 3, code := jdk_65_method_30_code, exceptionTable := #[], attributes := #[] }
def k8m1 : Method := { name := "rangeCheck", desc := "(III)V", sig := { parameters := [.int, .int, .int], returnType := none }, accessFlags := 8, code := some k8c1 }
def k8c2 : Code := { maxStack := 3, maxLocals := 5, code := jdk_65_method_118_code, exceptionTable := #[], attributes := #[] }
def k8m2 : Method := { name := "fill", desc := "([Ljava/lang/Object;IILjava/lang/Object;)V", sig := { parameters := [(.array (.object "java/lang/Object")), .int, .int, (.object "java/lang/Object")], returnType := none }, accessFlags := 9, code := some k8c2 }
/-- java/util/Arrays -/
def k8 : Class := { plain "java/util/Arrays" (some 0) with
  accessFlags := 49
  interfaces := #[]
  cf := some (fileOf pool8 14 #[.nestMembers #[975, 375, 113, 74]] #[{ accessFlags := 2, nameIndex := 5, descriptorIndex := 6, attributes := #[] }, { accessFlags := 8, nameIndex := 17, descriptorIndex := 18, attributes := #[] }, { accessFlags := 9, nameIndex := 840, descriptorIndex := 859, attributes := #[] }] 49 2 #[] #[{ accessFlags := 26, nameIndex := 715, descriptorIndex := 716, attributes := #[] }, { accessFlags := 26, nameIndex := 719, descriptorIndex := 716, attributes := #[] }, { accessFlags := 4120, nameIndex := 445, descriptorIndex := 117, attributes := #[] }])
  fields := #[{ name := "MIN_ARRAY_SORT_GRAN", type := .int, accessFlags := 26, slot := 0, constantValue := 0 }, { name := "INSERTIONSORT_THRESHOLD", type := .int, accessFlags := 26, slot := 1, constantValue := 0 }, { name := "$assertionsDisabled", type := .boolean, accessFlags := 4120, slot := 2, constantValue := 0 }]
  methods := #[k8m0, k8m1, k8m2]
  instanceTypes := #[]
  staticTypes := #[.int, .int, .boolean]
  resolved := Array.replicate 1029 none
  statics := none }

/-- the primitive byte -/
def k9 : Class := { plain "byte" none with kind := .primitive 'B', accessFlags := 0x411 }
/-- [B -/
def k10 : Class := { plain "[B" (some 0) with kind := .array 9 .byte, interfaces := #[5, 6], accessFlags := 1041 }

/-- the primitive int -/
def k11 : Class := { plain "int" none with kind := .primitive 'I', accessFlags := 0x411 }
/-- [I -/
def k12 : Class := { plain "[I" (some 0) with kind := .array 11 .int, interfaces := #[5, 6], accessFlags := 1041 }

/-- [Ljava/lang/Object; -/
def k13 : Class := { plain "[Ljava/lang/Object;" (some 0) with kind := .array 0 (.object "java/lang/Object"), interfaces := #[5, 6], accessFlags := 1041 }

def heap : Heap := #[]
def classes : Array Class := #[k0, k1, k2, k3, k4, k5, k6, k7, k8, k9, k10, k11, k12, k13]
def interned : List (Array UInt16 × Addr) := []
def slotsUsed : Nat := 0
def theMethod : MethodId := ⟨1, 1⟩
def args0 : Array Value := #[.int 5, .int 7, .int 8]
def aboutOver (below : List Frame) : State where
  vm := { classes := classes, interned := interned.toArray }
  heap := heap
  slotsUsed := slotsUsed
  threads := #[{ frames := .invoking theMethod args0 :: below }]
def below0 : List Frame := [.native { method := ⟨0, 0⟩, args := #[] }]
def about1 : State := aboutOver below0
def p0 : Program := .bare "" "" ""
def e0 : Env := launch0.env 0 0 0
theorem w_frames : about1.frames = Frame.invoking theMethod args0 :: below0 := rfl
set_option maxRecDepth 65536 in
theorem w_args : argsFit about1.vm theMethod args0 = true := by decide +kernel
set_option maxRecDepth 65536 in
theorem w_heap : heapFits about1 = true := by decide +kernel
set_option maxRecDepth 65536 in
theorem w_runnable : about1.curStatus? = some .runnable := by decide +kernel
set_option maxRecDepth 65536 in
theorem w_alone : about1.alone = true := by decide +kernel
set_option maxRecDepth 65536 in
theorem w_named : about1.methodNamed? x = some theMethod := by decide +kernel
set_option maxRecDepth 65536 in
theorem w_hears : about1.hears theMethod below0 = true := by decide +kernel
set_option maxRecDepth 65536 in
theorem w_ripe : about1.ripe theMethod args0 below0 = true := by decide +kernel
theorem w_running : about1.status = .running := rfl
set_option maxRecDepth 65536 in
theorem w_room : about1.hasRoom e0.platform room_1 = true :=
  launch0.hasRoom_least _ room_1 (by decide +kernel) (by decide +kernel) (by decide +kernel) (by decide +kernel) (by decide +kernel) (by decide +kernel)
theorem allAtoms_all (ts : List Jvm.Cond) (a : Array Jvm.Value) (st : Jvm.State) : (allAtoms ts).before a st = ts.all (fun c => c.before a st) := by
  induction ts with
  | nil => rfl
  | cons c t ih =>
    show (Jvm.Cond.and c (allAtoms t)).before a st = _
    rw [Jvm.Cond.before_and, ih, List.all_cons]
def words1 : List Jvm.Cond := Jvm.Cond.code x code maxLocals ret :: tables_1
/-- a 'code' word, met by the world's own term for the bytes: nothing is compared byte by byte -/
theorem code_word {y : MethodName} {bytes : ByteArray} {mx : Nat} {rt : Option FieldType} {a : Array Value} {s : State} {m : MethodId} {meth : Method} {c : Code} (h1 : s.methodNamed? y = some m) (h2 : s.vm.method? m = some meth) (h3 : meth.code = some c) (h4 : c.code = bytes)
    (h5 : (c.maxLocals == mx && c.exceptionTable.isEmpty && decide (c.maxStack ≤ mostOperands) && decide (meth.sig.returnType = rt) && !meth.locks && decide (parseMethodDescriptor y.desc = some meth.sig)) = true) : (Jvm.Cond.code y bytes mx rt).before a s = true := by
  simp only [Bool.and_eq_true, beq_iff_eq, Bool.not_eq_true', decide_eq_true_eq] at h5
  obtain ⟨⟨⟨⟨⟨g1, g2⟩, g3⟩, g4⟩, g5⟩, g6⟩ := h5
  simp [Cond.before, Cond.holds, Cond.value, h1, h2, h3, h4, g1, g2, g3, g4, g5, g6]
def isCode : Jvm.Cond → Bool
  | .code _ _ _ _ => true
  | _ => false
theorem all_split {L : List Jvm.Cond} {P : Jvm.Cond → Bool} (h1 : L.all (fun c => isCode c || P c) = true) (h2 : ∀ c ∈ L.filter isCode, P c = true) : L.all P = true := by
  refine List.all_eq_true.mpr fun c hc => ?_
  have h := List.all_eq_true.mp h1 c hc
  rcases Bool.eq_false_or_eq_true (isCode c) with hi | hi
  · exact h2 c (List.mem_filter.mpr ⟨hc, hi⟩)
  · simpa [hi] using h
set_option maxRecDepth 65536 in
theorem w_c0 : (Jvm.Cond.code x code maxLocals ret).before args0 about1 = true := code_word (m := ⟨1, 1⟩) (meth := k1m1) (c := k1c1) (by decide +kernel) rfl rfl rfl (by decide +kernel)
set_option maxRecDepth 65536 in
theorem w_c1 : (Jvm.Cond.code ({ cls := "com/example/greenwood/greenwood/Environment", name := "<init>", desc := "()V" } : Jvm.MethodName) prog_1_method_1_code (1 : Nat) (Option.none : Option Jvm.ClassFile.FieldType)).before args0 about1 = true := code_word (m := ⟨2, 0⟩) (meth := k2m0) (c := k2c0) (by decide +kernel) rfl rfl rfl (by decide +kernel)
set_option maxRecDepth 65536 in
theorem w_c2 : (Jvm.Cond.code ({ cls := "java/lang/Object", name := "<init>", desc := "()V" } : Jvm.MethodName) object_method_1_code (1 : Nat) (Option.none : Option Jvm.ClassFile.FieldType)).before args0 about1 = true := code_word (m := ⟨0, 0⟩) (meth := k0m0) (c := k0c0) (by decide +kernel) rfl rfl rfl (by decide +kernel)
set_option maxRecDepth 65536 in
theorem w_c3 : (Jvm.Cond.code ({ cls := "java/util/HashMap", name := "<init>", desc := "()V" } : Jvm.MethodName) jdk_69_method_7_code (1 : Nat) (Option.none : Option Jvm.ClassFile.FieldType)).before args0 about1 = true := code_word (m := ⟨7, 0⟩) (meth := k7m0) (c := k7c0) (by decide +kernel) rfl rfl rfl (by decide +kernel)
set_option maxRecDepth 65536 in
theorem w_c4 : (Jvm.Cond.code ({ cls := "java/util/AbstractMap", name := "<init>", desc := "()V" } : Jvm.MethodName) jdk_71_method_1_code (1 : Nat) (Option.none : Option Jvm.ClassFile.FieldType)).before args0 about1 = true := code_word (m := ⟨4, 0⟩) (meth := k4m0) (c := k4c0) (by decide +kernel) rfl rfl rfl (by decide +kernel)
set_option maxRecDepth 65536 in
theorem w_c5 : (Jvm.Cond.code ({ cls := "com/example/greenwood/greenwood/Environment", name := "inScope", desc := "()Z" } : Jvm.MethodName) prog_1_method_6_code (1 : Nat) (Option.some Jvm.ClassFile.FieldType.boolean)).before args0 about1 = true := code_word (m := ⟨2, 1⟩) (meth := k2m1) (c := k2c1) (by decide +kernel) rfl rfl rfl (by decide +kernel)
set_option maxRecDepth 65536 in
theorem w_c6 : (Jvm.Cond.code ({ cls := "com/example/greenwood/greenwood/Environment", name := "closeScopes", desc := "()V" } : Jvm.MethodName) prog_1_method_9_code (1 : Nat) (Option.none : Option Jvm.ClassFile.FieldType)).before args0 about1 = true := code_word (m := ⟨2, 4⟩) (meth := k2m4) (c := k2c4) (by decide +kernel) rfl rfl rfl (by decide +kernel)
set_option maxRecDepth 65536 in
theorem w_c7 : (Jvm.Cond.code ({ cls := "java/util/Arrays", name := "fill", desc := "([Ljava/lang/Object;IILjava/lang/Object;)V" } : Jvm.MethodName) jdk_65_method_118_code (5 : Nat) (Option.none : Option Jvm.ClassFile.FieldType)).before args0 about1 = true := code_word (m := ⟨8, 2⟩) (meth := k8m2) (c := k8c2) (by decide +kernel) rfl rfl rfl (by decide +kernel)
set_option maxRecDepth 65536 in
theorem w_c8 : (Jvm.Cond.code ({ cls := "java/util/Arrays", name := "rangeCheck", desc := "(III)V" } : Jvm.MethodName) jdk_65_method_30_code (3 : Nat) (Option.none : Option Jvm.ClassFile.FieldType)).before args0 about1 = true := code_word (m := ⟨8, 1⟩) (meth := k8m1) (c := k8c1) (by decide +kernel) rfl rfl rfl (by decide +kernel)
set_option maxRecDepth 65536 in
theorem w_c9 : (Jvm.Cond.code ({ cls := "com/example/greenwood/greenwood/Environment", name := "openScope", desc := "()V" } : Jvm.MethodName) prog_1_method_7_code (1 : Nat) (Option.none : Option Jvm.ClassFile.FieldType)).before args0 about1 = true := code_word (m := ⟨2, 2⟩) (meth := k2m2) (c := k2c2) (by decide +kernel) rfl rfl rfl (by decide +kernel)
set_option maxRecDepth 65536 in
theorem w_c10 : (Jvm.Cond.code ({ cls := "com/example/greenwood/greenwood/Environment", name := "declare", desc := "()V" } : Jvm.MethodName) prog_1_method_10_code (1 : Nat) (Option.none : Option Jvm.ClassFile.FieldType)).before args0 about1 = true := code_word (m := ⟨2, 5⟩) (meth := k2m5) (c := k2c5) (by decide +kernel) rfl rfl rfl (by decide +kernel)
set_option maxRecDepth 65536 in
theorem w_c11 : (Jvm.Cond.code ({ cls := "com/example/greenwood/greenwood/Environment", name := "closeScope", desc := "()V" } : Jvm.MethodName) prog_1_method_8_code (2 : Nat) (Option.none : Option Jvm.ClassFile.FieldType)).before args0 about1 = true := code_word (m := ⟨2, 3⟩) (meth := k2m3) (c := k2c3) (by decide +kernel) rfl rfl rfl (by decide +kernel)
def codes1 : List Jvm.Cond := [Jvm.Cond.code x code maxLocals ret, Jvm.Cond.code ({ cls := "com/example/greenwood/greenwood/Environment", name := "<init>", desc := "()V" } : Jvm.MethodName) prog_1_method_1_code (1 : Nat) (Option.none : Option Jvm.ClassFile.FieldType), Jvm.Cond.code ({ cls := "java/lang/Object", name := "<init>", desc := "()V" } : Jvm.MethodName) object_method_1_code (1 : Nat) (Option.none : Option Jvm.ClassFile.FieldType), Jvm.Cond.code ({ cls := "java/util/HashMap", name := "<init>", desc := "()V" } : Jvm.MethodName) jdk_69_method_7_code (1 : Nat) (Option.none : Option Jvm.ClassFile.FieldType), Jvm.Cond.code ({ cls := "java/util/AbstractMap", name := "<init>", desc := "()V" } : Jvm.MethodName) jdk_71_method_1_code (1 : Nat) (Option.none : Option Jvm.ClassFile.FieldType), Jvm.Cond.code ({ cls := "com/example/greenwood/greenwood/Environment", name := "inScope", desc := "()Z" } : Jvm.MethodName) prog_1_method_6_code (1 : Nat) (Option.some Jvm.ClassFile.FieldType.boolean), Jvm.Cond.code ({ cls := "com/example/greenwood/greenwood/Environment", name := "closeScopes", desc := "()V" } : Jvm.MethodName) prog_1_method_9_code (1 : Nat) (Option.none : Option Jvm.ClassFile.FieldType), Jvm.Cond.code ({ cls := "java/util/Arrays", name := "fill", desc := "([Ljava/lang/Object;IILjava/lang/Object;)V" } : Jvm.MethodName) jdk_65_method_118_code (5 : Nat) (Option.none : Option Jvm.ClassFile.FieldType), Jvm.Cond.code ({ cls := "java/util/Arrays", name := "rangeCheck", desc := "(III)V" } : Jvm.MethodName) jdk_65_method_30_code (3 : Nat) (Option.none : Option Jvm.ClassFile.FieldType), Jvm.Cond.code ({ cls := "com/example/greenwood/greenwood/Environment", name := "openScope", desc := "()V" } : Jvm.MethodName) prog_1_method_7_code (1 : Nat) (Option.none : Option Jvm.ClassFile.FieldType), Jvm.Cond.code ({ cls := "com/example/greenwood/greenwood/Environment", name := "declare", desc := "()V" } : Jvm.MethodName) prog_1_method_10_code (1 : Nat) (Option.none : Option Jvm.ClassFile.FieldType), Jvm.Cond.code ({ cls := "com/example/greenwood/greenwood/Environment", name := "closeScope", desc := "()V" } : Jvm.MethodName) prog_1_method_8_code (2 : Nat) (Option.none : Option Jvm.ClassFile.FieldType)]
set_option maxRecDepth 65536 in
theorem codes_eq : words1.filter isCode = codes1 := rfl
theorem w_codes : ∀ c ∈ words1.filter isCode, c.before args0 about1 = true := by
  rw [codes_eq]
  intro c hc
  simp only [codes1, List.mem_cons, List.not_mem_nil, or_false] at hc
  rcases hc with rfl | rfl | rfl | rfl | rfl | rfl | rfl | rfl | rfl | rfl | rfl | rfl
  · exact w_c0
  · exact w_c1
  · exact w_c2
  · exact w_c3
  · exact w_c4
  · exact w_c5
  · exact w_c6
  · exact w_c7
  · exact w_c8
  · exact w_c9
  · exact w_c10
  · exact w_c11
set_option maxRecDepth 65536 in
theorem w_t1 : (words1.take 24).all (fun c => isCode c || c.before args0 about1) = true := by decide +kernel
set_option maxRecDepth 65536 in
theorem w_t2 : ((words1.drop 24).take 24).all (fun c => isCode c || c.before args0 about1) = true := by decide +kernel
set_option maxRecDepth 65536 in
theorem w_t3 : ((words1.drop 24).drop 24).all (fun c => isCode c || c.before args0 about1) = true := by decide +kernel
theorem w_tables : (allAtoms (Jvm.Cond.code x code maxLocals ret :: tables_1)).before args0 about1 = true := by
  rw [allAtoms_all]
  show words1.all (fun c => c.before args0 about1) = true
  refine all_split ?_ w_codes
  rw [← List.take_append_drop 24 words1, List.all_append, w_t1, ← List.take_append_drop 24 (words1.drop 24), List.all_append, w_t2, w_t3]
  rfl
set_option maxRecDepth 65536 in
theorem w_case : (Jvm.Cond.and given_1 narrow_1).before args0 about1 = true := by decide +kernel
theorem w_applies : (headSpec (Jvm.Cond.code x code maxLocals ret :: tables_1) room_1).applies x e0.platform about1 = true :=
  (Spec.applies_iff w_frames).mpr ⟨w_running, w_runnable, w_alone, w_named, w_hears, w_ripe, w_room, w_tables⟩
theorem atStart : AtStart classFile x code maxLocals ret World_1 tables_1 room_1 Calls_1 rest_1 Pre_1 launch0 p0 e0 about1 theMethod args0 below0 :=
  ⟨lists_1, trivial, launch0.admits_env _ _ _, launch0.least_env, fairChoices_fair.cas, fairChoices_fair.clock, w_frames, w_args, w_heap, w_applies, trivial, trivial, w_case⟩
end start1
theorem witness_1 : WitnessClaimed_1 := ⟨start1.p0, start1.e0, start1.about1, start1.theMethod, start1.args0, start1.below0, start1.atStart⟩
end Jvm.Pilot.@@N@@
