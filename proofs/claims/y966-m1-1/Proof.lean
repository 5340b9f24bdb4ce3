import JvmDerived
import JvmDerived.Pilot.@@N@@Statement
import JvmDerived.Pilot.@@N@@Code
set_option linter.unusedVariables false
set_option linter.unusedSimpArgs false
namespace Jvm.Pilot.@@N@@
open Jvm Jvm.ClassFile Sem Op Lib Jvm.Free Jvm.Stand Jvm.LawKit Jvm.RoadKit Bundle Jvm.Pilot.@@N@@.Jvm.D
abbrev own_Go (tb : Tables) (e : Env) (below : List Frame) (P : State → Outcome → Prop) (st : State) : Prop := ∃ U o, Steps tb e below st U ∧ P U o
theorem own_go {tb : Tables} {e : Env} {below : List Frame} {P : State → Outcome → Prop} {st st' : State} (h : ∀ t, Steps tb e below st' t → Steps tb e below st t) (k : own_Go tb e below P st') : own_Go tb e below P st := by
  obtain ⟨U, o, h1, h2⟩ := k; exact ⟨U, o, h _ h1, h2⟩
theorem own_cat {v : Value} (h : v.isRef = true) : v.category = 1 := by rcases ref_cases h with rfl | ⟨a, rfl⟩ <;> rfl
theorem own_nar_ref {t : FieldType} {v : Value} (h : v.isRef = true) : narrow t v = v := by rcases ref_cases h with rfl | ⟨a, rfl⟩ <;> cases t <;> rfl
theorem own_fit_ref {t : FieldType} {v : Value} (h : v.isRef = true) (ht : t.isReference = true := by rfl) : fits t v = true := by rcases ref_cases h with rfl | ⟨a, rfl⟩ <;> cases t <;> first | rfl | (cases ht)
theorem own_widen {p : Program} {l : Launch} {e : Env} {R : Room} {s : State} {m : MethodId} {args : Array Value} {below : List Frame} {meth : Method} {c : Code} {T : State} {locs : List Loc} {cells slots cells' slots' : Nat} (X : Stand p l e R s m args below meth c T locs cells slots) (h1 : cells ≤ cells') (h2 : slots ≤ slots') : Stand p l e R s m args below meth c T locs cells' slots' :=
  { X with same := X.same.mono h1 h2 }
theorem own_sel_priv {s : State} {args : Array Value} {y : MethodName} {n : Nat} (wi : (Jvm.Cond.instantiable y.cls n).before args s = true) (hp : s.PrivateAt y) (hinst : (Jvm.Cond.instanceMethod y).before args s = true) (hy : y.cls ≠ "java/lang/invoke/MethodHandle" ∧ y.cls ≠ "java/lang/invoke/VarHandle") : (Jvm.Cond.selects y.cls y y).before args s = true := by
  obtain ⟨c, k, h1, h2, -, h4, -⟩ := Cond.instantiable_spec wi
  exact selects_self_of_private h1 h2 (Bool.or_eq_false_iff.mp h4).1 hp hinst hy
theorem own_sta_keep {Z : State} {h h' : Heap} {ws : List Addr} {C n d : String} {v : Value} (F : Sta Z h C n d v) (K : Keep h h' ws) (q : ∀ x ∈ ws, ∀ c : Cell, h[x]? = some c → c.vm.isStatics = false) : Sta Z h' C n d v := by
  obtain ⟨cf, i, k, f, st, cell, h1, h2, h3, h4, h5, h6, h7⟩ := F
  exact ⟨cf, i, k, f, st, cell, h1, h2, h3, h4, K.2.1 st cell h5 (fun z => by rw [q st z cell h5] at h6; cases h6), h6, h7⟩
theorem own_pl_exa {Z : State} {h : Heap} {a : Addr} {C : String} (F : Exa Z h a C) : ∀ c : Cell, h[a]? = some c → c.vm.isStatics = false := fun c hc => by
  obtain ⟨c1, k, h1, -, -, h4, -⟩ := F; cases h1.symm.trans hc; exact h4
theorem own_pl_fld {Z : State} {h : Heap} {a : Addr} {C n d : String} {v : Value} (F : Fld Z h a C n d v) : ∀ c : Cell, h[a]? = some c → c.vm.isStatics = false := old_plain F
theorem own_pl_arv {Z : State} {h : Heap} {a : Addr} {k : ClassId} {ty : FieldType} {n : Int32} {vs : List Value} {d : Value} (F : Arv Z h a k ty n vs d) : ∀ c : Cell, h[a]? = some c → c.vm.isStatics = false := fun c hc => by
  obtain ⟨c1, A, -⟩ := F; cases A.1.symm.trans hc; exact A.plain
theorem own_mod5 (x : Int32) : x % 5 = 0 ∨ x % 5 = 1 ∨ x % 5 = 2 ∨ x % 5 = 3 ∨ x % 5 = 4 ∨ x < 0 := by
  have h := Int32.toInt_mod x 5
  have e3 : (5 : Int32).toInt = 5 := rfl
  rw [e3] at h
  by_cases hx : x < 0
  · exact Or.inr (Or.inr (Or.inr (Or.inr (Or.inr (hx)))))
  · have h0 : 0 ≤ x.toInt := by rw [Int32.lt_iff_toInt_lt] at hx; have : (0 : Int32).toInt = 0 := rfl; omega
    rw [Int.tmod_eq_emod_of_nonneg h0] at h
    have h2 : (x % 5).toInt = 0 ∨ (x % 5).toInt = 1 ∨ (x % 5).toInt = 2 ∨ (x % 5).toInt = 3 ∨ (x % 5).toInt = 4 := by omega
    rcases h2 with h | h | h | h | h
    · exact Or.inl (Int32.toInt_inj.mp h)
    · exact Or.inr (Or.inl (Int32.toInt_inj.mp h))
    · exact Or.inr (Or.inr (Or.inl (Int32.toInt_inj.mp h)))
    · exact Or.inr (Or.inr (Or.inr (Or.inl (Int32.toInt_inj.mp h))))
    · exact Or.inr (Or.inr (Or.inr (Or.inr (Or.inl (Int32.toInt_inj.mp h)))))
theorem own_pos (x : Int32) : ¬ (x &&& 2147483647) < 0 := by
  have := (c_and x 2147483647 (by decide)).1
  rw [Int32.lt_iff_toInt_lt]; have e : (0 : Int32).toInt = 0 := rfl; omega
theorem d3_0 : decode jdk_65_method_149_code 0 = .ok (.aload_n 0, 1) := by decide +kernel
theorem d3_1 : decode jdk_65_method_149_code 1 = .ok (.ifnonnull 5, 3) := by decide +kernel
theorem d3_6 : decode jdk_65_method_149_code 6 = .ok (.iconst 1, 1) := by decide +kernel
theorem d3_7 : decode jdk_65_method_149_code 7 = .ok (.istore_n 1, 1) := by decide +kernel
theorem d3_8 : decode jdk_65_method_149_code 8 = .ok (.aload_n 0, 1) := by decide +kernel
theorem d3_9 : decode jdk_65_method_149_code 9 = .ok (.astore_n 2, 1) := by decide +kernel
theorem d3_10 : decode jdk_65_method_149_code 10 = .ok (.aload_n 2, 1) := by decide +kernel
theorem d3_11 : decode jdk_65_method_149_code 11 = .ok (.arraylength, 1) := by decide +kernel
theorem d3_12 : decode jdk_65_method_149_code 12 = .ok (.istore_n 3, 1) := by decide +kernel
theorem d3_13 : decode jdk_65_method_149_code 13 = .ok (.iconst 0, 1) := by decide +kernel
theorem d3_14 : decode jdk_65_method_149_code 14 = .ok (.istore 4, 2) := by decide +kernel
theorem d3_16 : decode jdk_65_method_149_code 16 = .ok (.iload 4, 2) := by decide +kernel
theorem d3_18 : decode jdk_65_method_149_code 18 = .ok (.iload_n 3, 1) := by decide +kernel
theorem d3_19 : decode jdk_65_method_149_code 19 = .ok (.if_icmp .ge 34, 3) := by decide +kernel
theorem d3_53 : decode jdk_65_method_149_code 53 = .ok (.iload_n 1, 1) := by decide +kernel
theorem d3_54 : decode jdk_65_method_149_code 54 = .ok (.ireturn, 1) := by decide +kernel
theorem pn_3 : plainName "java/util/Arrays" = true := by first | (simp [plainName, overriddenIn]; done) | decide +kernel
theorem ef_rm3_0 (m : MethodId) (x0 : Addr) : entryFrame m #[(.ref x0)] 8 = mkF m 0 #[.val (.ref x0), .unset, .unset, .unset, .unset, .unset, .unset, .unset] [] := by first | (simp [entryFrame, mkF, argsToLocals, Value.category]; done) | rfl
def Qrm3_0 (Z : State) (ar : Addr) (ka : ClassId) (h0 : Heap) (n0 : Nat) (v : Option Value) (h : Heap) (L : List Loc) : Prop := ∃ (z : Int32), (v = some (.int z)) ∧ (Fr n0 L) ∧ (h = h0)
set_option maxRecDepth 65536 in
set_option maxHeartbeats 40000000 in
theorem rm3_0 (l : Launch) (Z : State) (a0 : Array Value) (hw : ∀ d ∈ tables_1, d.before a0 Z = true) (ws : List Jvm.Cond) (ar : Addr) (ka : ClassId) (h0 : Heap) (n0 : Nat) (Z0 : n0 ≤ h0.size) (pr1 : Arv Z h0 ar ka .long (0 : Int32) [] (.long (0 : Int64))) :
    MetFree l (⟨"java/util/Arrays", "hashCode", "([J)I"⟩ : MethodName) (head1 (Jvm.Cond.code (⟨"java/util/Arrays", "hashCode", "([J)I"⟩ : MethodName) jdk_65_method_149_code 8 (some .int) :: ws) ({ frames := 0, cells := 0, slots := 0, locals := 0 } : Room)) (fun a U => a = #[(.ref ar)] ∧ Z.Warmed39 U.vm ∧ U.heap = h0) (fun _ _ _ _ _ => True) (fun _ U o U' => ∃ v L, o = .returned v ∧ Qrm3_0 Z ar ka h0 n0 v U'.heap L ∧ FrameEnd U o U' L ({ frames := 0, cells := 0, slots := 0, locals := 0 } : Room).cells ({ frames := 0, cells := 0, slots := 0, locals := 0 } : Room).slots) := by
  refine MetFree.of_bodySF (plainFor_of_name pn_3) hisR ?_
  intro p e s m args below meth c s₁ Bd hml0 hP0 hK
  obtain ⟨rfl, hZ, hh⟩ := hP0
  have hx := Bd.exec
  have hby := Bd.bytes
  have hml : c.maxLocals = 8 := hml0
  have hown : s.vm.findClass "java/util/Arrays" = some m.cls := findClass_of_methodNamed Bd.named
  have hnm := (name_of_methodNamed Bd.named Bd.method).1
  have X0 : Stand p l e ({ frames := 0, cells := 0, slots := 0, locals := 0 } : Room) s m #[(.ref ar)] below meth c s₁ [] 0 0 := Stand.of_body Bd
  have e0 : s₁.heap = h0 := by rw [← hh, Bd.state]; rfl
  have N0 := Fr.nil n0
  suffices own_H : ∀ (P : State → Outcome → Prop), (∀ U o, U.status = .running → Ended U below o → (∃ v L, o = .returned v ∧ Qrm3_0 Z ar ka h0 n0 v U.heap L ∧ FrameEnd s o U L ({ frames := 0, cells := 0, slots := 0, locals := 0 } : Room).cells ({ frames := 0, cells := 0, slots := 0, locals := 0 } : Room).slots) → P U o) → own_Go p.tables e below P (s₁.setTop (mkF m 0 #[.val (.ref ar), .unset, .unset, .unset, .unset, .unset, .unset, .unset] [])) from own_go (fun _ k => castTop (ef_rm3_0 m ar) k) (own_H _ (fun U o h1 h2 h3 => ⟨h1, h2, h3⟩))
  intro P hP
  have lt_ar : ar < h0.size := pr1.lt
  refine own_go (st' := s₁.setTop (mkF m 1 #[.val (.ref ar), .unset, .unset, .unset, .unset, .unset, .unset, .unset] [(.ref ar)])) (fun _ k => XS.aloadN X0.here hx rfl (hb hby d3_0) rfl rfl k) ?_
  refine own_go (st' := s₁.setTop (mkF m 6 #[.val (.ref ar), .unset, .unset, .unset, .unset, .unset, .unset, .unset] [])) (fun _ k => XS.ifnonnullYes X0.here hx rfl (pc0 := 1) (pc' := 6) rfl (hb hby d3_1) rfl (by decide) (by decide) k) ?_
  refine own_go (st' := s₁.setTop (mkF m 7 #[.val (.ref ar), .unset, .unset, .unset, .unset, .unset, .unset, .unset] [(.int (1 : Int32))])) (fun _ k => XS.iconst X0.here hx rfl (hb hby d3_6) k) ?_
  refine own_go (st' := s₁.setTop (mkF m 8 #[.val (.ref ar), .val (.int (1 : Int32)), .unset, .unset, .unset, .unset, .unset, .unset] [])) (fun _ k => XS.istoreN X0.here hx rfl (hb hby d3_7) rfl (l' := #[.val (.ref ar), .val (.int (1 : Int32)), .unset, .unset, .unset, .unset, .unset, .unset]) rfl k) ?_
  refine own_go (st' := s₁.setTop (mkF m 9 #[.val (.ref ar), .val (.int (1 : Int32)), .unset, .unset, .unset, .unset, .unset, .unset] [(.ref ar)])) (fun _ k => XS.aloadN X0.here hx rfl (hb hby d3_8) rfl rfl k) ?_
  refine own_go (st' := s₁.setTop (mkF m 10 #[.val (.ref ar), .val (.int (1 : Int32)), .val (.ref ar), .unset, .unset, .unset, .unset, .unset] [])) (fun _ k => XS.astoreN X0.here hx rfl (hb hby d3_9) rfl rfl (l' := #[.val (.ref ar), .val (.int (1 : Int32)), .val (.ref ar), .unset, .unset, .unset, .unset, .unset]) rfl k) ?_
  refine own_go (st' := s₁.setTop (mkF m 11 #[.val (.ref ar), .val (.int (1 : Int32)), .val (.ref ar), .unset, .unset, .unset, .unset, .unset] [(.ref ar)])) (fun _ k => XS.aloadN X0.here hx rfl (hb hby d3_10) rfl rfl k) ?_
  obtain ⟨cl1, Ar1, -, S1, M1, -, -⟩ := id pr1
  refine own_go (st' := s₁.setTop (mkF m 12 #[.val (.ref ar), .val (.int (1 : Int32)), .val (.ref ar), .unset, .unset, .unset, .unset, .unset] [(.int (0 : Int32))])) (fun t k => X0.arraylength hx (by rw [e0]; exact Ar1.1) (State.isArrayOf_alike hZ.alike Ar1.2.1) (g := (mkF m 11 #[.val (.ref ar), .val (.int (1 : Int32)), .val (.ref ar), .unset, .unset, .unset, .unset, .unset] [(.ref ar)])) rfl rfl (hb hby d3_11) t (by rw [len_of S1 M1]; exact k)) ?_
  refine own_go (st' := s₁.setTop (mkF m 13 #[.val (.ref ar), .val (.int (1 : Int32)), .val (.ref ar), .val (.int (0 : Int32)), .unset, .unset, .unset, .unset] [])) (fun _ k => XS.istoreN X0.here hx rfl (hb hby d3_12) rfl (l' := #[.val (.ref ar), .val (.int (1 : Int32)), .val (.ref ar), .val (.int (0 : Int32)), .unset, .unset, .unset, .unset]) rfl k) ?_
  refine own_go (st' := s₁.setTop (mkF m 14 #[.val (.ref ar), .val (.int (1 : Int32)), .val (.ref ar), .val (.int (0 : Int32)), .unset, .unset, .unset, .unset] [(.int (0 : Int32))])) (fun _ k => XS.iconst X0.here hx rfl (hb hby d3_13) k) ?_
  refine own_go (st' := s₁.setTop (mkF m 16 #[.val (.ref ar), .val (.int (1 : Int32)), .val (.ref ar), .val (.int (0 : Int32)), .val (.int (0 : Int32)), .unset, .unset, .unset] [])) (fun _ k => XS.istore X0.here hx rfl (hb hby d3_14) rfl (l' := #[.val (.ref ar), .val (.int (1 : Int32)), .val (.ref ar), .val (.int (0 : Int32)), .val (.int (0 : Int32)), .unset, .unset, .unset]) rfl k) ?_
  refine own_go (st' := s₁.setTop (mkF m 18 #[.val (.ref ar), .val (.int (1 : Int32)), .val (.ref ar), .val (.int (0 : Int32)), .val (.int (0 : Int32)), .unset, .unset, .unset] [(.int (0 : Int32))])) (fun _ k => XS.iload X0.here hx rfl (hb hby d3_16) rfl k) ?_
  refine own_go (st' := s₁.setTop (mkF m 19 #[.val (.ref ar), .val (.int (1 : Int32)), .val (.ref ar), .val (.int (0 : Int32)), .val (.int (0 : Int32)), .unset, .unset, .unset] [(.int (0 : Int32)), (.int (0 : Int32))])) (fun _ k => XS.iloadN X0.here hx rfl (hb hby d3_18) rfl k) ?_
  have hc2 : ¬ ((0 : Int32) < (0 : Int32)) := by decide
  refine own_go (st' := s₁.setTop (mkF m 53 #[.val (.ref ar), .val (.int (1 : Int32)), .val (.ref ar), .val (.int (0 : Int32)), .val (.int (0 : Int32)), .unset, .unset, .unset] [])) (fun _ k => XS.icmpYes X0.here hx rfl (pc0 := 19) (pc' := 53) rfl (hb hby d3_19) rfl (flt hc2).2.1 (by decide) (by decide) k) ?_
  refine own_go (st' := s₁.setTop (mkF m 54 #[.val (.ref ar), .val (.int (1 : Int32)), .val (.ref ar), .val (.int (0 : Int32)), .val (.int (0 : Int32)), .unset, .unset, .unset] [(.int (1 : Int32))])) (fun _ k => XS.iloadN X0.here hx rfl (hb hby d3_53) rfl k) ?_
  obtain ⟨fs, hr, hrun, hended, hW, hsame⟩ := X0.leave (v := some (.int (1 : Int32))) (fun h => by rw [Bd.returns] at h; cases h)
  refine ⟨_, _, ?_, hP _ _ hrun hended ⟨_, _, rfl, ?_, ⟨_, rfl⟩, hW, hsame.mono (by decide) (by decide)⟩⟩
  · exact retOut X0 hx Bd.returns rfl (Or.inl ⟨rfl, Or.inl rfl, _, rfl⟩) (hb hby d3_54) hr
  · show Qrm3_0 Z ar ka h0 n0 _ s₁.heap _
    rw [e0]
    exact ⟨(1 : Int32), rfl, N0, rfl⟩
theorem pd_0 : parseMethodDescriptor "([J)I" = some ⟨[(.array .long)], some .int⟩ := by decide +kernel
theorem d1_0 : decode prog_22_method_1_code 0 = .ok (.aload_n 0, 1) := by decide +kernel
theorem d1_1 : decode prog_22_method_1_code 1 = .ok (.invokespecial 1, 3) := by decide +kernel
theorem d1_4 : decode prog_22_method_1_code 4 = .ok (.aload_n 0, 1) := by decide +kernel
theorem d1_5 : decode prog_22_method_1_code 5 = .ok (.iload_n 1, 1) := by decide +kernel
theorem d1_6 : decode prog_22_method_1_code 6 = .ok (.putfield 7, 3) := by decide +kernel
theorem d1_9 : decode prog_22_method_1_code 9 = .ok (.aload_n 0, 1) := by decide +kernel
theorem d1_10 : decode prog_22_method_1_code 10 = .ok (.aload_n 2, 1) := by decide +kernel
theorem d1_11 : decode prog_22_method_1_code 11 = .ok (.putfield 13, 3) := by decide +kernel
theorem d1_14 : decode prog_22_method_1_code 14 = .ok (.aload_n 0, 1) := by decide +kernel
theorem d1_15 : decode prog_22_method_1_code 15 = .ok (.bipush 31, 2) := by decide +kernel
theorem d1_17 : decode prog_22_method_1_code 17 = .ok (.iload_n 1, 1) := by decide +kernel
theorem d1_18 : decode prog_22_method_1_code 18 = .ok (.imul, 1) := by decide +kernel
theorem d1_19 : decode prog_22_method_1_code 19 = .ok (.aload_n 2, 1) := by decide +kernel
theorem d1_20 : decode prog_22_method_1_code 20 = .ok (.invokestatic 17, 3) := by decide +kernel
theorem d1_23 : decode prog_22_method_1_code 23 = .ok (.iadd, 1) := by decide +kernel
theorem d1_24 : decode prog_22_method_1_code 24 = .ok (.putfield 23, 3) := by decide +kernel
theorem d1_27 : decode prog_22_method_1_code 27 = .ok (.return_, 1) := by decide +kernel
theorem pn_1 : plainName "com/example/millwright/millwright/cut/Pattern" = true := by first | (simp [plainName, overriddenIn]; done) | decide +kernel
theorem ef_rm1_0 (m : MethodId) (x0 : Addr) (x1 : Int32) (x2 : Addr) : entryFrame m #[(.ref x0), (.int x1), (.ref x2)] 3 = mkF m 0 #[.val (.ref x0), .val (.int x1), .val (.ref x2)] [] := by first | (simp [entryFrame, mkF, argsToLocals, Value.category]; done) | rfl
def Qrm1_0 (Z : State) (a1 : Addr) (p2 : Int32) (ar : Addr) (ka : ClassId) (u1 : Int32) (u2 : Int32) (h0 : Heap) (n0 : Nat) (v : Option Value) (h : Heap) (L : List Loc) : Prop := (v = none) ∧ (Fr n0 L) ∧ (Keep h0 h [a1]) ∧ (Exa Z h a1 "com/example/millwright/millwright/cut/Pattern") ∧ (Fld Z h a1 "com/example/millwright/millwright/cut/Pattern" "counts" "[J" (.ref ar))
set_option maxRecDepth 65536 in
set_option maxHeartbeats 40000000 in
theorem rm1_0 (l : Launch) (Z : State) (a0 : Array Value) (hw : ∀ d ∈ tables_1, d.before a0 Z = true) (ws : List Jvm.Cond) (a1 : Addr) (p2 : Int32) (ar : Addr) (ka : ClassId) (u1 : Int32) (u2 : Int32) (h0 : Heap) (n0 : Nat) (Z0 : n0 ≤ h0.size) (pr1 : Exa Z h0 a1 "com/example/millwright/millwright/cut/Pattern") (pr2 : Fld Z h0 a1 "com/example/millwright/millwright/cut/Pattern" "stock" "I" (.int u1)) (pr3 : Fld Z h0 a1 "com/example/millwright/millwright/cut/Pattern" "counts" "[J" .null) (pr4 : Fld Z h0 a1 "com/example/millwright/millwright/cut/Pattern" "hash" "I" (.int u2)) (pr5 : Arv Z h0 ar ka .long (0 : Int32) [] (.long (0 : Int64))) (pr6 : n0 ≤ a1) (pr7 : a1 ≠ ar) :
    MetFree l (⟨"com/example/millwright/millwright/cut/Pattern", "<init>", "(I[J)V"⟩ : MethodName) (head1 (Jvm.Cond.code (⟨"com/example/millwright/millwright/cut/Pattern", "<init>", "(I[J)V"⟩ : MethodName) prog_22_method_1_code 3 none :: ws) ({ frames := 1, cells := 0, slots := 0, locals := 21 } : Room)) (fun a U => a = #[(.ref a1), (.int p2), (.ref ar)] ∧ Z.Warmed39 U.vm ∧ U.heap = h0) (fun _ _ _ _ _ => True) (fun _ U o U' => ∃ v L, o = .returned v ∧ Qrm1_0 Z a1 p2 ar ka u1 u2 h0 n0 v U'.heap L ∧ FrameEnd U o U' L ({ frames := 1, cells := 0, slots := 0, locals := 21 } : Room).cells ({ frames := 1, cells := 0, slots := 0, locals := 21 } : Room).slots) := by
  refine MetFree.of_bodySF (plainFor_of_name pn_1) hisR ?_
  intro p e s m args below meth c s₁ Bd hml0 hP0 hK
  obtain ⟨rfl, hZ, hh⟩ := hP0
  have hx := Bd.exec
  have hby := Bd.bytes
  have hml : c.maxLocals = 3 := hml0
  have hown : s.vm.findClass "com/example/millwright/millwright/cut/Pattern" = some m.cls := findClass_of_methodNamed Bd.named
  have hnm := (name_of_methodNamed Bd.named Bd.method).1
  have X0 : Stand p l e ({ frames := 1, cells := 0, slots := 0, locals := 21 } : Room) s m #[(.ref a1), (.int p2), (.ref ar)] below meth c s₁ [] 0 0 := Stand.of_body Bd
  have e0 : s₁.heap = h0 := by rw [← hh, Bd.state]; rfl
  have N0 := Fr.nil n0
  suffices own_H : ∀ (P : State → Outcome → Prop), (∀ U o, U.status = .running → Ended U below o → (∃ v L, o = .returned v ∧ Qrm1_0 Z a1 p2 ar ka u1 u2 h0 n0 v U.heap L ∧ FrameEnd s o U L ({ frames := 1, cells := 0, slots := 0, locals := 21 } : Room).cells ({ frames := 1, cells := 0, slots := 0, locals := 21 } : Room).slots) → P U o) → own_Go p.tables e below P (s₁.setTop (mkF m 0 #[.val (.ref a1), .val (.int p2), .val (.ref ar)] [])) from own_go (fun _ k => castTop (ef_rm1_0 m a1 p2 ar) k) (own_H _ (fun U o h1 h2 h3 => ⟨h1, h2, h3⟩))
  intro P hP
  have lt_a1 : a1 < h0.size := pr1.lt
  have lt_ar : ar < h0.size := pr5.lt
  refine own_go (st' := s₁.setTop (mkF m 1 #[.val (.ref a1), .val (.int p2), .val (.ref ar)] [(.ref a1)])) (fun _ k => XS.aloadN X0.here hx rfl (hb hby d1_0) rfl rfl k) ?_
  obtain ⟨T1, X1, e1, st1⟩ := initO X0 hx hZ hown (hw _ (List.mem_of_getElem? (i := 8) rfl)) (hw _ (List.mem_of_getElem? (i := 9) rfl)) (hw _ (List.mem_of_getElem? (i := 10) rfl)) e0 (g := (mkF m 1 #[.val (.ref a1), .val (.int p2), .val (.ref ar)] [(.ref a1)])) rfl (by rw [hml]; rfl) rfl (hb hby d1_1) (by decide) (W := 0) (by show 2 * 0 + _ ≤ _; exact Nat.le_of_eq rfl) (by decide)
  refine own_go (st' := T1.setTop (mkF m 4 #[.val (.ref a1), .val (.int p2), .val (.ref ar)] [])) (st1) ?_
  refine own_go (st' := T1.setTop (mkF m 5 #[.val (.ref a1), .val (.int p2), .val (.ref ar)] [(.ref a1)])) (fun _ k => XS.aloadN X1.here hx rfl (hb hby d1_4) rfl rfl k) ?_
  refine own_go (st' := T1.setTop (mkF m 6 #[.val (.ref a1), .val (.int p2), .val (.ref ar)] [(.int p2), (.ref a1)])) (fun _ k => XS.iloadN X1.here hx rfl (hb hby d1_5) rfl k) ?_
  obtain ⟨T2, h2, X2, e2, W2, st2⟩ := putF X1 hx hZ hown (host := "") (Or.inl (hw _ (List.mem_of_getElem? (i := 11) rfl))) Via.refl e1 pr2 pr1 (Or.inr ⟨(hw _ (List.mem_of_getElem? (i := 12) rfl)), rfl, hnm⟩) (hw _ (List.mem_of_getElem? (i := 3) rfl)) (ty := .int) (by decide) rfl rfl (g := (mkF m 6 #[.val (.ref a1), .val (.int p2), .val (.ref ar)] [(.int p2), (.ref a1)])) rfl rfl (hb hby d1_6)
  have sz2 : h2.size = h0.size := W2.size
  have N2 := Fr.snoc X2 N0 (by omega)
  have f2 : Fld Z h2 a1 "com/example/millwright/millwright/cut/Pattern" "stock" "I" (.int p2) := pr2.same W2
  refine own_go (st' := T2.setTop (mkF m 9 #[.val (.ref a1), .val (.int p2), .val (.ref ar)] [])) (st2) ?_
  refine own_go (st' := T2.setTop (mkF m 10 #[.val (.ref a1), .val (.int p2), .val (.ref ar)] [(.ref a1)])) (fun _ k => XS.aloadN X2.here hx rfl (hb hby d1_9) rfl rfl k) ?_
  refine own_go (st' := T2.setTop (mkF m 11 #[.val (.ref a1), .val (.int p2), .val (.ref ar)] [(.ref ar), (.ref a1)])) (fun _ k => XS.aloadN X2.here hx rfl (hb hby d1_10) rfl rfl k) ?_
  have c3 : Fld Z h2 a1 "com/example/millwright/millwright/cut/Pattern" "counts" "[J" .null := (pr3.other W2 (Or.inr (slot_ne (Or.inr (hw _ (List.mem_of_getElem? (i := 14) rfl))) (Or.inr (hw _ (List.mem_of_getElem? (i := 12) rfl))) (by decide) (t := (.array .long)) (t' := .int) (by decide) (by decide))))
  have c4 : Exa Z h2 a1 "com/example/millwright/millwright/cut/Pattern" := (pr1.wr W2)
  obtain ⟨T5, h5, X5, e5, W5, st5⟩ := putF X2 hx hZ hown (host := "") (Or.inl (hw _ (List.mem_of_getElem? (i := 13) rfl))) Via.refl e2 c3 c4 (Or.inr ⟨(hw _ (List.mem_of_getElem? (i := 14) rfl)), rfl, hnm⟩) (hw _ (List.mem_of_getElem? (i := 3) rfl)) (ty := (.array .long)) (by decide) rfl rfl (g := (mkF m 11 #[.val (.ref a1), .val (.int p2), .val (.ref ar)] [(.ref ar), (.ref a1)])) rfl rfl (hb hby d1_11)
  have sz5 : h5.size = h2.size := W5.size
  have N5 := Fr.snoc X5 N2 (by omega)
  have f5 : Fld Z h5 a1 "com/example/millwright/millwright/cut/Pattern" "counts" "[J" (.ref ar) := c3.same W5
  refine own_go (st' := T5.setTop (mkF m 14 #[.val (.ref a1), .val (.int p2), .val (.ref ar)] [])) (st5) ?_
  refine own_go (st' := T5.setTop (mkF m 15 #[.val (.ref a1), .val (.int p2), .val (.ref ar)] [(.ref a1)])) (fun _ k => XS.aloadN X5.here hx rfl (hb hby d1_14) rfl rfl k) ?_
  refine own_go (st' := T5.setTop (mkF m 17 #[.val (.ref a1), .val (.int p2), .val (.ref ar)] [(.int (31 : Int32)), (.ref a1)])) (fun _ k => XS.bipush X5.here hx rfl (hb hby d1_15) k) ?_
  refine own_go (st' := T5.setTop (mkF m 18 #[.val (.ref a1), .val (.int p2), .val (.ref ar)] [(.int p2), (.int (31 : Int32)), (.ref a1)])) (fun _ k => XS.iloadN X5.here hx rfl (hb hby d1_17) rfl k) ?_
  refine own_go (st' := T5.setTop (mkF m 19 #[.val (.ref a1), .val (.int p2), .val (.ref ar)] [(.int ((31 : Int32) * p2)), (.ref a1)])) (fun _ k => XS.imul X5.here hx rfl (hb hby d1_18) rfl k) ?_
  refine own_go (st' := T5.setTop (mkF m 20 #[.val (.ref a1), .val (.int p2), .val (.ref ar)] [(.ref ar), (.int ((31 : Int32) * p2)), (.ref a1)])) (fun _ k => XS.aloadN X5.here hx rfl (hb hby d1_19) rfl rfl k) ?_
  have c7 : Arv Z h5 ar ka .long (0 : Int32) [] (.long (0 : Int64)) := ((pr5.other W2 (by first | assumption | exact Ne.symm (by assumption) | (apply Nat.ne_of_lt; omega) | (apply Nat.ne_of_gt; omega))).other W5 (by first | assumption | exact Ne.symm (by assumption) | (apply Nat.ne_of_lt; omega) | (apply Nat.ne_of_gt; omega)))
  obtain ⟨_, _, ⟨T6, LC6, kC6, nC6⟩, -, X6, ⟨Lc6, hQ6, lq6, yq6, zq6⟩, st6⟩ := Jvm.LawKit.callS X5 hx (y := (⟨"java/util/Arrays", "hashCode", "([J)I"⟩ : MethodName)) hown (mvT hZ (hw _ (List.mem_of_getElem? (i := 15) rfl))) (mvT hZ (hw _ (List.mem_of_getElem? (i := 16) rfl))) (mvT hZ (hw _ (List.mem_of_getElem? (i := 17) rfl))) (mvT hZ (hw _ (List.mem_of_getElem? (i := 18) rfl))) (by decide) (backOf (W := 2) (rm3_0 l Z a0 hw [] ar ka h5 n0 (by omega) c7) hZ (hw _ (List.mem_of_getElem? (i := 18) rfl)) (hw _ (List.mem_of_getElem? (i := 17) rfl)) (by decide) (by decide)) (g := (mkF m 20 #[.val (.ref a1), .val (.int p2), .val (.ref ar)] [(.ref ar), (.int ((31 : Int32) * p2)), (.ref a1)])) rfl (by rw [hml]; rfl) (argsL := [(.ref ar)]) (rest := [(.int ((31 : Int32) * p2)), (.ref a1)]) (lenOf pd_0 rfl) rfl (by show 2 * 0 + _ ≤ _; exact Nat.le_of_eq rfl) (hb hby d1_20) (fun _ _ => ⟨rfl, e5, (by decide : 0 + 0 ≤ _), (by decide : 0 + 0 ≤ _)⟩)
  dsimp only [Pt.U, Pt.locs, Pt.cells, Pt.slots] at X6 lq6 yq6 zq6 st6 hQ6
  subst lq6 yq6 zq6
  obtain ⟨z_6, rfl, Nq6, eq6⟩ := hQ6
  have N6 := Fr.app N5 Nq6
  refine own_go (st' := T6.setTop (mkF m 23 #[.val (.ref a1), .val (.int p2), .val (.ref ar)] [(.int z_6), (.int ((31 : Int32) * p2)), (.ref a1)])) (fun t k => st6 t k) ?_
  refine own_go (st' := T6.setTop (mkF m 24 #[.val (.ref a1), .val (.int p2), .val (.ref ar)] [(.int (((31 : Int32) * p2) + z_6)), (.ref a1)])) (fun _ k => XS.iadd X6.here hx rfl (hb hby d1_23) rfl k) ?_
  have c8 : Fld Z h5 a1 "com/example/millwright/millwright/cut/Pattern" "hash" "I" (.int u2) := ((pr4.other W2 (Or.inr (slot_ne (Or.inr (hw _ (List.mem_of_getElem? (i := 20) rfl))) (Or.inr (hw _ (List.mem_of_getElem? (i := 12) rfl))) (by decide) (t := .int) (t' := .int) (by decide) (by decide)))).other W5 (Or.inr (slot_ne (Or.inr (hw _ (List.mem_of_getElem? (i := 20) rfl))) (Or.inr (hw _ (List.mem_of_getElem? (i := 14) rfl))) (by decide) (t := .int) (t' := (.array .long)) (by decide) (by decide))))
  have c9 : Exa Z h5 a1 "com/example/millwright/millwright/cut/Pattern" := (c4.wr W5)
  obtain ⟨T10, h10, X10, e10, W10, st10⟩ := putF X6 hx hZ hown (host := "") (Or.inl (hw _ (List.mem_of_getElem? (i := 19) rfl))) Via.refl eq6 c8 c9 (Or.inr ⟨(hw _ (List.mem_of_getElem? (i := 20) rfl)), rfl, hnm⟩) (hw _ (List.mem_of_getElem? (i := 3) rfl)) (ty := .int) (by decide) rfl rfl (g := (mkF m 24 #[.val (.ref a1), .val (.int p2), .val (.ref ar)] [(.int (((31 : Int32) * p2) + z_6)), (.ref a1)])) rfl rfl (hb hby d1_24)
  have sz10 : h10.size = h5.size := W10.size
  have N10 := Fr.snoc X10 N6 (by omega)
  have f10 : Fld Z h10 a1 "com/example/millwright/millwright/cut/Pattern" "hash" "I" (.int (((31 : Int32) * p2) + z_6)) := c8.same W10
  refine own_go (st' := T10.setTop (mkF m 27 #[.val (.ref a1), .val (.int p2), .val (.ref ar)] [])) (st10) ?_
  obtain ⟨fs, hr, hrun, hended, hW, hsame⟩ := X10.leave (v := none) (fun _ => rfl)
  refine ⟨_, _, ?_, hP _ _ hrun hended ⟨_, _, rfl, ?_, ⟨_, rfl⟩, hW, hsame.mono (by decide) (by decide)⟩⟩
  · exact X10.returnOut hx Bd.returns (hb hby d1_27) hr
  · show Qrm1_0 Z a1 p2 ar ka u1 u2 h0 n0 _ T10.heap _
    have c12 : Exa Z h10 a1 "com/example/millwright/millwright/cut/Pattern" := (c9.wr W10)
    have c13 : Fld Z h10 a1 "com/example/millwright/millwright/cut/Pattern" "counts" "[J" (.ref ar) := (f5.other W10 (Or.inr (slot_ne (Or.inr (hw _ (List.mem_of_getElem? (i := 14) rfl))) (Or.inr (hw _ (List.mem_of_getElem? (i := 20) rfl))) (by decide) (t := (.array .long)) (t' := .int) (by decide) (by decide))))
    rw [e10]
    exact ⟨rfl, N10, ((((Keep.refl h0 [a1]).wr W2 (Or.inl (List.mem_of_getElem? (i := 0) rfl))).wr W5 (Or.inl (List.mem_of_getElem? (i := 0) rfl))).wr W10 (Or.inl (List.mem_of_getElem? (i := 0) rfl))), c12, c13⟩
theorem d4_0 : decode prog_22_method_4_code 0 = .ok (.lconst 0, 1) := by decide +kernel
theorem d4_1 : decode prog_22_method_4_code 1 = .ok (.lstore_n 1, 1) := by decide +kernel
theorem d4_2 : decode prog_22_method_4_code 2 = .ok (.aload_n 0, 1) := by decide +kernel
theorem d4_3 : decode prog_22_method_4_code 3 = .ok (.getfield 13, 3) := by decide +kernel
theorem d4_6 : decode prog_22_method_4_code 6 = .ok (.astore_n 3, 1) := by decide +kernel
theorem d4_7 : decode prog_22_method_4_code 7 = .ok (.aload_n 3, 1) := by decide +kernel
theorem d4_8 : decode prog_22_method_4_code 8 = .ok (.arraylength, 1) := by decide +kernel
theorem d4_9 : decode prog_22_method_4_code 9 = .ok (.istore 4, 2) := by decide +kernel
theorem d4_11 : decode prog_22_method_4_code 11 = .ok (.iconst 0, 1) := by decide +kernel
theorem d4_12 : decode prog_22_method_4_code 12 = .ok (.istore 5, 2) := by decide +kernel
theorem d4_14 : decode prog_22_method_4_code 14 = .ok (.iload 5, 2) := by decide +kernel
theorem d4_16 : decode prog_22_method_4_code 16 = .ok (.iload 4, 2) := by decide +kernel
theorem d4_18 : decode prog_22_method_4_code 18 = .ok (.if_icmp .ge 20, 3) := by decide +kernel
theorem d4_38 : decode prog_22_method_4_code 38 = .ok (.lload_n 1, 1) := by decide +kernel
theorem d4_39 : decode prog_22_method_4_code 39 = .ok (.lreturn, 1) := by decide +kernel
theorem pn_4 : plainName "com/example/millwright/millwright/cut/Pattern" = true := by first | (simp [plainName, overriddenIn]; done) | decide +kernel
theorem ef_rm4_0 (m : MethodId) (x0 : Addr) : entryFrame m #[(.ref x0)] 8 = mkF m 0 #[.val (.ref x0), .unset, .unset, .unset, .unset, .unset, .unset, .unset] [] := by first | (simp [entryFrame, mkF, argsToLocals, Value.category]; done) | rfl
def Qrm4_0 (Z : State) (a1 : Addr) (ar : Addr) (ka : ClassId) (h0 : Heap) (n0 : Nat) (v : Option Value) (h : Heap) (L : List Loc) : Prop := (v = some (.long (0 : Int64))) ∧ (Fr n0 L) ∧ (h = h0)
set_option maxRecDepth 65536 in
set_option maxHeartbeats 40000000 in
theorem rm4_0 (l : Launch) (Z : State) (a0 : Array Value) (hw : ∀ d ∈ tables_1, d.before a0 Z = true) (ws : List Jvm.Cond) (a1 : Addr) (ar : Addr) (ka : ClassId) (h0 : Heap) (n0 : Nat) (Z0 : n0 ≤ h0.size) (pr1 : Fld Z h0 a1 "com/example/millwright/millwright/cut/Pattern" "counts" "[J" (.ref ar)) (pr2 : Arv Z h0 ar ka .long (0 : Int32) [] (.long (0 : Int64))) :
    MetFree l (⟨"com/example/millwright/millwright/cut/Pattern", "pieceCount", "()J"⟩ : MethodName) (head1 (Jvm.Cond.code (⟨"com/example/millwright/millwright/cut/Pattern", "pieceCount", "()J"⟩ : MethodName) prog_22_method_4_code 8 (some .long) :: ws) ({ frames := 0, cells := 0, slots := 0, locals := 0 } : Room)) (fun a U => a = #[(.ref a1)] ∧ Z.Warmed39 U.vm ∧ U.heap = h0) (fun _ _ _ _ _ => True) (fun _ U o U' => ∃ v L, o = .returned v ∧ Qrm4_0 Z a1 ar ka h0 n0 v U'.heap L ∧ FrameEnd U o U' L ({ frames := 0, cells := 0, slots := 0, locals := 0 } : Room).cells ({ frames := 0, cells := 0, slots := 0, locals := 0 } : Room).slots) := by
  refine MetFree.of_bodySF (plainFor_of_name pn_4) hisR ?_
  intro p e s m args below meth c s₁ Bd hml0 hP0 hK
  obtain ⟨rfl, hZ, hh⟩ := hP0
  have hx := Bd.exec
  have hby := Bd.bytes
  have hml : c.maxLocals = 8 := hml0
  have hown : s.vm.findClass "com/example/millwright/millwright/cut/Pattern" = some m.cls := findClass_of_methodNamed Bd.named
  have hnm := (name_of_methodNamed Bd.named Bd.method).1
  have X0 : Stand p l e ({ frames := 0, cells := 0, slots := 0, locals := 0 } : Room) s m #[(.ref a1)] below meth c s₁ [] 0 0 := Stand.of_body Bd
  have e0 : s₁.heap = h0 := by rw [← hh, Bd.state]; rfl
  have N0 := Fr.nil n0
  suffices own_H : ∀ (P : State → Outcome → Prop), (∀ U o, U.status = .running → Ended U below o → (∃ v L, o = .returned v ∧ Qrm4_0 Z a1 ar ka h0 n0 v U.heap L ∧ FrameEnd s o U L ({ frames := 0, cells := 0, slots := 0, locals := 0 } : Room).cells ({ frames := 0, cells := 0, slots := 0, locals := 0 } : Room).slots) → P U o) → own_Go p.tables e below P (s₁.setTop (mkF m 0 #[.val (.ref a1), .unset, .unset, .unset, .unset, .unset, .unset, .unset] [])) from own_go (fun _ k => castTop (ef_rm4_0 m a1) k) (own_H _ (fun U o h1 h2 h3 => ⟨h1, h2, h3⟩))
  intro P hP
  have lt_a1 : a1 < h0.size := pr1.lt
  have lt_ar : ar < h0.size := pr2.lt
  refine own_go (st' := s₁.setTop (mkF m 1 #[.val (.ref a1), .unset, .unset, .unset, .unset, .unset, .unset, .unset] [(.long (0 : Int64))])) (fun _ k => XS.lconst X0.here hx rfl (hb hby d4_0) k) ?_
  refine own_go (st' := s₁.setTop (mkF m 2 #[.val (.ref a1), .val (.long (0 : Int64)), .second, .unset, .unset, .unset, .unset, .unset] [])) (fun _ k => XS.lstoreN X0.here hx rfl (hb hby d4_1) rfl (l' := #[.val (.ref a1), .val (.long (0 : Int64)), .second, .unset, .unset, .unset, .unset, .unset]) rfl k) ?_
  refine own_go (st' := s₁.setTop (mkF m 3 #[.val (.ref a1), .val (.long (0 : Int64)), .second, .unset, .unset, .unset, .unset, .unset] [(.ref a1)])) (fun _ k => XS.aloadN X0.here hx rfl (hb hby d4_2) rfl rfl k) ?_
  obtain ⟨T1, X1, e1, st1⟩ := getF X0 hx hZ hown (host := "") (Or.inl (hw _ (List.mem_of_getElem? (i := 13) rfl))) Via.refl e0 pr1 (g := (mkF m 3 #[.val (.ref a1), .val (.long (0 : Int64)), .second, .unset, .unset, .unset, .unset, .unset] [(.ref a1)])) rfl rfl (hb hby d4_3)
  refine own_go (st' := T1.setTop (mkF m 6 #[.val (.ref a1), .val (.long (0 : Int64)), .second, .unset, .unset, .unset, .unset, .unset] [(.ref ar)])) (st1) ?_
  refine own_go (st' := T1.setTop (mkF m 7 #[.val (.ref a1), .val (.long (0 : Int64)), .second, .val (.ref ar), .unset, .unset, .unset, .unset] [])) (fun _ k => XS.astoreN X1.here hx rfl (hb hby d4_6) rfl rfl (l' := #[.val (.ref a1), .val (.long (0 : Int64)), .second, .val (.ref ar), .unset, .unset, .unset, .unset]) rfl k) ?_
  refine own_go (st' := T1.setTop (mkF m 8 #[.val (.ref a1), .val (.long (0 : Int64)), .second, .val (.ref ar), .unset, .unset, .unset, .unset] [(.ref ar)])) (fun _ k => XS.aloadN X1.here hx rfl (hb hby d4_7) rfl rfl k) ?_
  obtain ⟨cl2, Ar2, -, S2, M2, -, -⟩ := id pr2
  refine own_go (st' := T1.setTop (mkF m 9 #[.val (.ref a1), .val (.long (0 : Int64)), .second, .val (.ref ar), .unset, .unset, .unset, .unset] [(.int (0 : Int32))])) (fun t k => X1.arraylength hx (by rw [e1]; exact Ar2.1) (State.isArrayOf_alike hZ.alike Ar2.2.1) (g := (mkF m 8 #[.val (.ref a1), .val (.long (0 : Int64)), .second, .val (.ref ar), .unset, .unset, .unset, .unset] [(.ref ar)])) rfl rfl (hb hby d4_8) t (by rw [len_of S2 M2]; exact k)) ?_
  refine own_go (st' := T1.setTop (mkF m 11 #[.val (.ref a1), .val (.long (0 : Int64)), .second, .val (.ref ar), .val (.int (0 : Int32)), .unset, .unset, .unset] [])) (fun _ k => XS.istore X1.here hx rfl (hb hby d4_9) rfl (l' := #[.val (.ref a1), .val (.long (0 : Int64)), .second, .val (.ref ar), .val (.int (0 : Int32)), .unset, .unset, .unset]) rfl k) ?_
  refine own_go (st' := T1.setTop (mkF m 12 #[.val (.ref a1), .val (.long (0 : Int64)), .second, .val (.ref ar), .val (.int (0 : Int32)), .unset, .unset, .unset] [(.int (0 : Int32))])) (fun _ k => XS.iconst X1.here hx rfl (hb hby d4_11) k) ?_
  refine own_go (st' := T1.setTop (mkF m 14 #[.val (.ref a1), .val (.long (0 : Int64)), .second, .val (.ref ar), .val (.int (0 : Int32)), .val (.int (0 : Int32)), .unset, .unset] [])) (fun _ k => XS.istore X1.here hx rfl (hb hby d4_12) rfl (l' := #[.val (.ref a1), .val (.long (0 : Int64)), .second, .val (.ref ar), .val (.int (0 : Int32)), .val (.int (0 : Int32)), .unset, .unset]) rfl k) ?_
  refine own_go (st' := T1.setTop (mkF m 16 #[.val (.ref a1), .val (.long (0 : Int64)), .second, .val (.ref ar), .val (.int (0 : Int32)), .val (.int (0 : Int32)), .unset, .unset] [(.int (0 : Int32))])) (fun _ k => XS.iload X1.here hx rfl (hb hby d4_14) rfl k) ?_
  refine own_go (st' := T1.setTop (mkF m 18 #[.val (.ref a1), .val (.long (0 : Int64)), .second, .val (.ref ar), .val (.int (0 : Int32)), .val (.int (0 : Int32)), .unset, .unset] [(.int (0 : Int32)), (.int (0 : Int32))])) (fun _ k => XS.iload X1.here hx rfl (hb hby d4_16) rfl k) ?_
  have hc3 : ¬ ((0 : Int32) < (0 : Int32)) := by decide
  refine own_go (st' := T1.setTop (mkF m 38 #[.val (.ref a1), .val (.long (0 : Int64)), .second, .val (.ref ar), .val (.int (0 : Int32)), .val (.int (0 : Int32)), .unset, .unset] [])) (fun _ k => XS.icmpYes X1.here hx rfl (pc0 := 18) (pc' := 38) rfl (hb hby d4_18) rfl (flt hc3).2.1 (by decide) (by decide) k) ?_
  refine own_go (st' := T1.setTop (mkF m 39 #[.val (.ref a1), .val (.long (0 : Int64)), .second, .val (.ref ar), .val (.int (0 : Int32)), .val (.int (0 : Int32)), .unset, .unset] [(.long (0 : Int64))])) (fun _ k => XS.lloadN X1.here hx rfl (hb hby d4_38) rfl k) ?_
  obtain ⟨fs, hr, hrun, hended, hW, hsame⟩ := X1.leave (v := some (.long (0 : Int64))) (fun h => by rw [Bd.returns] at h; cases h)
  refine ⟨_, _, ?_, hP _ _ hrun hended ⟨_, _, rfl, ?_, ⟨_, rfl⟩, hW, hsame.mono (by decide) (by decide)⟩⟩
  · exact retOut X1 hx Bd.returns rfl (Or.inr (Or.inl ⟨rfl, rfl, _, rfl⟩)) (hb hby d4_39) hr
  · show Qrm4_0 Z a1 ar ka h0 n0 _ T1.heap _
    rw [e1]
    exact ⟨rfl, N0, rfl⟩
theorem d3_22 : decode jdk_65_method_149_code 22 = .ok (.aload_n 2, 1) := by decide +kernel
theorem d3_23 : decode jdk_65_method_149_code 23 = .ok (.iload 4, 2) := by decide +kernel
theorem d3_25 : decode jdk_65_method_149_code 25 = .ok (.laload, 1) := by decide +kernel
theorem d3_26 : decode jdk_65_method_149_code 26 = .ok (.lstore 5, 2) := by decide +kernel
theorem d3_28 : decode jdk_65_method_149_code 28 = .ok (.lload 5, 2) := by decide +kernel
theorem d3_30 : decode jdk_65_method_149_code 30 = .ok (.lload 5, 2) := by decide +kernel
theorem d3_32 : decode jdk_65_method_149_code 32 = .ok (.bipush 32, 2) := by decide +kernel
theorem d3_34 : decode jdk_65_method_149_code 34 = .ok (.lushr, 1) := by decide +kernel
theorem d3_35 : decode jdk_65_method_149_code 35 = .ok (.lxor, 1) := by decide +kernel
theorem d3_36 : decode jdk_65_method_149_code 36 = .ok (.l2i, 1) := by decide +kernel
theorem d3_37 : decode jdk_65_method_149_code 37 = .ok (.istore 7, 2) := by decide +kernel
theorem d3_39 : decode jdk_65_method_149_code 39 = .ok (.bipush 31, 2) := by decide +kernel
theorem d3_41 : decode jdk_65_method_149_code 41 = .ok (.iload_n 1, 1) := by decide +kernel
theorem d3_42 : decode jdk_65_method_149_code 42 = .ok (.imul, 1) := by decide +kernel
theorem d3_43 : decode jdk_65_method_149_code 43 = .ok (.iload 7, 2) := by decide +kernel
theorem d3_45 : decode jdk_65_method_149_code 45 = .ok (.iadd, 1) := by decide +kernel
theorem d3_46 : decode jdk_65_method_149_code 46 = .ok (.istore_n 1, 1) := by decide +kernel
theorem d3_47 : decode jdk_65_method_149_code 47 = .ok (.iinc 4 1, 3) := by decide +kernel
theorem d3_50 : decode jdk_65_method_149_code 50 = .ok (.goto (-34), 3) := by decide +kernel
theorem ef_rm3_1 (m : MethodId) (x0 : Addr) : entryFrame m #[(.ref x0)] 8 = mkF m 0 #[.val (.ref x0), .unset, .unset, .unset, .unset, .unset, .unset, .unset] [] := by first | (simp [entryFrame, mkF, argsToLocals, Value.category]; done) | rfl
def Qrm3_1 (Z : State) (ar : Addr) (ka : ClassId) (q0 : Int64) (h0 : Heap) (n0 : Nat) (v : Option Value) (h : Heap) (L : List Loc) : Prop := ∃ (z : Int32), (v = some (.int z)) ∧ (Fr n0 L) ∧ (h = h0)
set_option maxRecDepth 65536 in
set_option maxHeartbeats 40000000 in
theorem rm3_1 (l : Launch) (Z : State) (a0 : Array Value) (hw : ∀ d ∈ tables_1, d.before a0 Z = true) (ws : List Jvm.Cond) (ar : Addr) (ka : ClassId) (q0 : Int64) (h0 : Heap) (n0 : Nat) (Z0 : n0 ≤ h0.size) (pr1 : Arv Z h0 ar ka .long (1 : Int32) [(.long q0)] (.long (0 : Int64))) :
    MetFree l (⟨"java/util/Arrays", "hashCode", "([J)I"⟩ : MethodName) (head1 (Jvm.Cond.code (⟨"java/util/Arrays", "hashCode", "([J)I"⟩ : MethodName) jdk_65_method_149_code 8 (some .int) :: ws) ({ frames := 0, cells := 0, slots := 0, locals := 0 } : Room)) (fun a U => a = #[(.ref ar)] ∧ Z.Warmed39 U.vm ∧ U.heap = h0) (fun _ _ _ _ _ => True) (fun _ U o U' => ∃ v L, o = .returned v ∧ Qrm3_1 Z ar ka q0 h0 n0 v U'.heap L ∧ FrameEnd U o U' L ({ frames := 0, cells := 0, slots := 0, locals := 0 } : Room).cells ({ frames := 0, cells := 0, slots := 0, locals := 0 } : Room).slots) := by
  refine MetFree.of_bodySF (plainFor_of_name pn_3) hisR ?_
  intro p e s m args below meth c s₁ Bd hml0 hP0 hK
  obtain ⟨rfl, hZ, hh⟩ := hP0
  have hx := Bd.exec
  have hby := Bd.bytes
  have hml : c.maxLocals = 8 := hml0
  have hown : s.vm.findClass "java/util/Arrays" = some m.cls := findClass_of_methodNamed Bd.named
  have hnm := (name_of_methodNamed Bd.named Bd.method).1
  have X0 : Stand p l e ({ frames := 0, cells := 0, slots := 0, locals := 0 } : Room) s m #[(.ref ar)] below meth c s₁ [] 0 0 := Stand.of_body Bd
  have e0 : s₁.heap = h0 := by rw [← hh, Bd.state]; rfl
  have N0 := Fr.nil n0
  suffices own_H : ∀ (P : State → Outcome → Prop), (∀ U o, U.status = .running → Ended U below o → (∃ v L, o = .returned v ∧ Qrm3_1 Z ar ka q0 h0 n0 v U.heap L ∧ FrameEnd s o U L ({ frames := 0, cells := 0, slots := 0, locals := 0 } : Room).cells ({ frames := 0, cells := 0, slots := 0, locals := 0 } : Room).slots) → P U o) → own_Go p.tables e below P (s₁.setTop (mkF m 0 #[.val (.ref ar), .unset, .unset, .unset, .unset, .unset, .unset, .unset] [])) from own_go (fun _ k => castTop (ef_rm3_1 m ar) k) (own_H _ (fun U o h1 h2 h3 => ⟨h1, h2, h3⟩))
  intro P hP
  have lt_ar : ar < h0.size := pr1.lt
  refine own_go (st' := s₁.setTop (mkF m 1 #[.val (.ref ar), .unset, .unset, .unset, .unset, .unset, .unset, .unset] [(.ref ar)])) (fun _ k => XS.aloadN X0.here hx rfl (hb hby d3_0) rfl rfl k) ?_
  refine own_go (st' := s₁.setTop (mkF m 6 #[.val (.ref ar), .unset, .unset, .unset, .unset, .unset, .unset, .unset] [])) (fun _ k => XS.ifnonnullYes X0.here hx rfl (pc0 := 1) (pc' := 6) rfl (hb hby d3_1) rfl (by decide) (by decide) k) ?_
  refine own_go (st' := s₁.setTop (mkF m 7 #[.val (.ref ar), .unset, .unset, .unset, .unset, .unset, .unset, .unset] [(.int (1 : Int32))])) (fun _ k => XS.iconst X0.here hx rfl (hb hby d3_6) k) ?_
  refine own_go (st' := s₁.setTop (mkF m 8 #[.val (.ref ar), .val (.int (1 : Int32)), .unset, .unset, .unset, .unset, .unset, .unset] [])) (fun _ k => XS.istoreN X0.here hx rfl (hb hby d3_7) rfl (l' := #[.val (.ref ar), .val (.int (1 : Int32)), .unset, .unset, .unset, .unset, .unset, .unset]) rfl k) ?_
  refine own_go (st' := s₁.setTop (mkF m 9 #[.val (.ref ar), .val (.int (1 : Int32)), .unset, .unset, .unset, .unset, .unset, .unset] [(.ref ar)])) (fun _ k => XS.aloadN X0.here hx rfl (hb hby d3_8) rfl rfl k) ?_
  refine own_go (st' := s₁.setTop (mkF m 10 #[.val (.ref ar), .val (.int (1 : Int32)), .val (.ref ar), .unset, .unset, .unset, .unset, .unset] [])) (fun _ k => XS.astoreN X0.here hx rfl (hb hby d3_9) rfl rfl (l' := #[.val (.ref ar), .val (.int (1 : Int32)), .val (.ref ar), .unset, .unset, .unset, .unset, .unset]) rfl k) ?_
  refine own_go (st' := s₁.setTop (mkF m 11 #[.val (.ref ar), .val (.int (1 : Int32)), .val (.ref ar), .unset, .unset, .unset, .unset, .unset] [(.ref ar)])) (fun _ k => XS.aloadN X0.here hx rfl (hb hby d3_10) rfl rfl k) ?_
  obtain ⟨cl1, Ar1, -, S1, M1, -, -⟩ := id pr1
  refine own_go (st' := s₁.setTop (mkF m 12 #[.val (.ref ar), .val (.int (1 : Int32)), .val (.ref ar), .unset, .unset, .unset, .unset, .unset] [(.int (1 : Int32))])) (fun t k => X0.arraylength hx (by rw [e0]; exact Ar1.1) (State.isArrayOf_alike hZ.alike Ar1.2.1) (g := (mkF m 11 #[.val (.ref ar), .val (.int (1 : Int32)), .val (.ref ar), .unset, .unset, .unset, .unset, .unset] [(.ref ar)])) rfl rfl (hb hby d3_11) t (by rw [len_of S1 M1]; exact k)) ?_
  refine own_go (st' := s₁.setTop (mkF m 13 #[.val (.ref ar), .val (.int (1 : Int32)), .val (.ref ar), .val (.int (1 : Int32)), .unset, .unset, .unset, .unset] [])) (fun _ k => XS.istoreN X0.here hx rfl (hb hby d3_12) rfl (l' := #[.val (.ref ar), .val (.int (1 : Int32)), .val (.ref ar), .val (.int (1 : Int32)), .unset, .unset, .unset, .unset]) rfl k) ?_
  refine own_go (st' := s₁.setTop (mkF m 14 #[.val (.ref ar), .val (.int (1 : Int32)), .val (.ref ar), .val (.int (1 : Int32)), .unset, .unset, .unset, .unset] [(.int (0 : Int32))])) (fun _ k => XS.iconst X0.here hx rfl (hb hby d3_13) k) ?_
  refine own_go (st' := s₁.setTop (mkF m 16 #[.val (.ref ar), .val (.int (1 : Int32)), .val (.ref ar), .val (.int (1 : Int32)), .val (.int (0 : Int32)), .unset, .unset, .unset] [])) (fun _ k => XS.istore X0.here hx rfl (hb hby d3_14) rfl (l' := #[.val (.ref ar), .val (.int (1 : Int32)), .val (.ref ar), .val (.int (1 : Int32)), .val (.int (0 : Int32)), .unset, .unset, .unset]) rfl k) ?_
  refine own_go (st' := s₁.setTop (mkF m 18 #[.val (.ref ar), .val (.int (1 : Int32)), .val (.ref ar), .val (.int (1 : Int32)), .val (.int (0 : Int32)), .unset, .unset, .unset] [(.int (0 : Int32))])) (fun _ k => XS.iload X0.here hx rfl (hb hby d3_16) rfl k) ?_
  refine own_go (st' := s₁.setTop (mkF m 19 #[.val (.ref ar), .val (.int (1 : Int32)), .val (.ref ar), .val (.int (1 : Int32)), .val (.int (0 : Int32)), .unset, .unset, .unset] [(.int (1 : Int32)), (.int (0 : Int32))])) (fun _ k => XS.iloadN X0.here hx rfl (hb hby d3_18) rfl k) ?_
  have hc2 : (0 : Int32) < (1 : Int32) := by decide
  refine own_go (st' := s₁.setTop (mkF m 22 #[.val (.ref ar), .val (.int (1 : Int32)), .val (.ref ar), .val (.int (1 : Int32)), .val (.int (0 : Int32)), .unset, .unset, .unset] [])) (fun _ k => XS.icmpNo X0.here hx rfl (hb hby d3_19) rfl (tlt hc2).2.1 k) ?_
  refine own_go (st' := s₁.setTop (mkF m 23 #[.val (.ref ar), .val (.int (1 : Int32)), .val (.ref ar), .val (.int (1 : Int32)), .val (.int (0 : Int32)), .unset, .unset, .unset] [(.ref ar)])) (fun _ k => XS.aloadN X0.here hx rfl (hb hby d3_22) rfl rfl k) ?_
  refine own_go (st' := s₁.setTop (mkF m 25 #[.val (.ref ar), .val (.int (1 : Int32)), .val (.ref ar), .val (.int (1 : Int32)), .val (.int (0 : Int32)), .unset, .unset, .unset] [(.int (0 : Int32)), (.ref ar)])) (fun _ k => XS.iload X0.here hx rfl (hb hby d3_23) rfl k) ?_
  obtain ⟨cl3, Ar3, -, S3, M3, H3, -⟩ := id pr1
  have hin3 : ¬ ((0 : Int32) < 0 ∨ cl3.slots.size ≤ ((0 : Int32)).toNatClampNeg) := (inb_of S3 ⟨by decide, by decide⟩)
  have hat3 : cl3.slots[((0 : Int32)).toNatClampNeg]? = some (.long q0) := (H3.at hin3 rfl)
  refine own_go (st' := s₁.setTop (mkF m 26 #[.val (.ref ar), .val (.int (1 : Int32)), .val (.ref ar), .val (.int (1 : Int32)), .val (.int (0 : Int32)), .unset, .unset, .unset] [(.long q0)])) (X0.laload hx (j := (0 : Int32)) (v := (.long q0)) (by rw [e0]; exact Ar3.1) (State.isArrayOf_alike hZ.alike Ar3.2.1) Ar3.2.2 hin3 hat3 (g := (mkF m 25 #[.val (.ref ar), .val (.int (1 : Int32)), .val (.ref ar), .val (.int (1 : Int32)), .val (.int (0 : Int32)), .unset, .unset, .unset] [(.int (0 : Int32)), (.ref ar)])) rfl rfl (hb hby d3_25)) ?_
  refine own_go (st' := s₁.setTop (mkF m 28 #[.val (.ref ar), .val (.int (1 : Int32)), .val (.ref ar), .val (.int (1 : Int32)), .val (.int (0 : Int32)), .val (.long q0), .second, .unset] [])) (fun _ k => XS.lstore X0.here hx rfl (hb hby d3_26) rfl (l' := #[.val (.ref ar), .val (.int (1 : Int32)), .val (.ref ar), .val (.int (1 : Int32)), .val (.int (0 : Int32)), .val (.long q0), .second, .unset]) rfl k) ?_
  refine own_go (st' := s₁.setTop (mkF m 30 #[.val (.ref ar), .val (.int (1 : Int32)), .val (.ref ar), .val (.int (1 : Int32)), .val (.int (0 : Int32)), .val (.long q0), .second, .unset] [(.long q0)])) (fun _ k => XS.lload X0.here hx rfl (hb hby d3_28) rfl k) ?_
  refine own_go (st' := s₁.setTop (mkF m 32 #[.val (.ref ar), .val (.int (1 : Int32)), .val (.ref ar), .val (.int (1 : Int32)), .val (.int (0 : Int32)), .val (.long q0), .second, .unset] [(.long q0), (.long q0)])) (fun _ k => XS.lload X0.here hx rfl (hb hby d3_30) rfl k) ?_
  refine own_go (st' := s₁.setTop (mkF m 34 #[.val (.ref ar), .val (.int (1 : Int32)), .val (.ref ar), .val (.int (1 : Int32)), .val (.int (0 : Int32)), .val (.long q0), .second, .unset] [(.int (32 : Int32)), (.long q0), (.long q0)])) (fun _ k => XS.bipush X0.here hx rfl (hb hby d3_32) k) ?_
  obtain ⟨x4, hx4⟩ : ∃ z : Int64, z = ((q0.toUInt64 >>> ((32 : Int32) &&& 0x3f).toInt64.toUInt64).toInt64) := ⟨_, rfl⟩
  refine own_go (st' := s₁.setTop (mkF m 35 #[.val (.ref ar), .val (.int (1 : Int32)), .val (.ref ar), .val (.int (1 : Int32)), .val (.int (0 : Int32)), .val (.long q0), .second, .unset] [(.long x4), (.long q0)])) (fun _ k => XS.lushr X0.here hx rfl (hb hby d3_34) rfl (by rw [hx4] at k; exact k)) ?_
  refine own_go (st' := s₁.setTop (mkF m 36 #[.val (.ref ar), .val (.int (1 : Int32)), .val (.ref ar), .val (.int (1 : Int32)), .val (.int (0 : Int32)), .val (.long q0), .second, .unset] [(.long (q0 ^^^ x4))])) (fun _ k => XS.lxor X0.here hx rfl (hb hby d3_35) rfl k) ?_
  refine own_go (st' := s₁.setTop (mkF m 37 #[.val (.ref ar), .val (.int (1 : Int32)), .val (.ref ar), .val (.int (1 : Int32)), .val (.int (0 : Int32)), .val (.long q0), .second, .unset] [(.int (q0 ^^^ x4).toInt32)])) (fun _ k => XS.l2i X0.here hx rfl (hb hby d3_36) rfl k) ?_
  refine own_go (st' := s₁.setTop (mkF m 39 #[.val (.ref ar), .val (.int (1 : Int32)), .val (.ref ar), .val (.int (1 : Int32)), .val (.int (0 : Int32)), .val (.long q0), .second, .val (.int (q0 ^^^ x4).toInt32)] [])) (fun _ k => XS.istore X0.here hx rfl (hb hby d3_37) rfl (l' := #[.val (.ref ar), .val (.int (1 : Int32)), .val (.ref ar), .val (.int (1 : Int32)), .val (.int (0 : Int32)), .val (.long q0), .second, .val (.int (q0 ^^^ x4).toInt32)]) rfl k) ?_
  refine own_go (st' := s₁.setTop (mkF m 41 #[.val (.ref ar), .val (.int (1 : Int32)), .val (.ref ar), .val (.int (1 : Int32)), .val (.int (0 : Int32)), .val (.long q0), .second, .val (.int (q0 ^^^ x4).toInt32)] [(.int (31 : Int32))])) (fun _ k => XS.bipush X0.here hx rfl (hb hby d3_39) k) ?_
  refine own_go (st' := s₁.setTop (mkF m 42 #[.val (.ref ar), .val (.int (1 : Int32)), .val (.ref ar), .val (.int (1 : Int32)), .val (.int (0 : Int32)), .val (.long q0), .second, .val (.int (q0 ^^^ x4).toInt32)] [(.int (1 : Int32)), (.int (31 : Int32))])) (fun _ k => XS.iloadN X0.here hx rfl (hb hby d3_41) rfl k) ?_
  refine own_go (st' := s₁.setTop (mkF m 43 #[.val (.ref ar), .val (.int (1 : Int32)), .val (.ref ar), .val (.int (1 : Int32)), .val (.int (0 : Int32)), .val (.long q0), .second, .val (.int (q0 ^^^ x4).toInt32)] [(.int (31 : Int32))])) (fun _ k => XS.imul X0.here hx rfl (hb hby d3_42) rfl (by rw [show ((31 : Int32) * (1 : Int32)) = (31 : Int32) by decide]; exact k)) ?_
  refine own_go (st' := s₁.setTop (mkF m 45 #[.val (.ref ar), .val (.int (1 : Int32)), .val (.ref ar), .val (.int (1 : Int32)), .val (.int (0 : Int32)), .val (.long q0), .second, .val (.int (q0 ^^^ x4).toInt32)] [(.int (q0 ^^^ x4).toInt32), (.int (31 : Int32))])) (fun _ k => XS.iload X0.here hx rfl (hb hby d3_43) rfl k) ?_
  refine own_go (st' := s₁.setTop (mkF m 46 #[.val (.ref ar), .val (.int (1 : Int32)), .val (.ref ar), .val (.int (1 : Int32)), .val (.int (0 : Int32)), .val (.long q0), .second, .val (.int (q0 ^^^ x4).toInt32)] [(.int ((31 : Int32) + (q0 ^^^ x4).toInt32))])) (fun _ k => XS.iadd X0.here hx rfl (hb hby d3_45) rfl k) ?_
  refine own_go (st' := s₁.setTop (mkF m 47 #[.val (.ref ar), .val (.int ((31 : Int32) + (q0 ^^^ x4).toInt32)), .val (.ref ar), .val (.int (1 : Int32)), .val (.int (0 : Int32)), .val (.long q0), .second, .val (.int (q0 ^^^ x4).toInt32)] [])) (fun _ k => XS.istoreN X0.here hx rfl (hb hby d3_46) rfl (l' := #[.val (.ref ar), .val (.int ((31 : Int32) + (q0 ^^^ x4).toInt32)), .val (.ref ar), .val (.int (1 : Int32)), .val (.int (0 : Int32)), .val (.long q0), .second, .val (.int (q0 ^^^ x4).toInt32)]) rfl k) ?_
  refine own_go (st' := s₁.setTop (mkF m 50 #[.val (.ref ar), .val (.int ((31 : Int32) + (q0 ^^^ x4).toInt32)), .val (.ref ar), .val (.int (1 : Int32)), .val (.int (1 : Int32)), .val (.long q0), .second, .val (.int (q0 ^^^ x4).toInt32)] [])) (fun _ k => XS.iinc X0.here hx rfl (hb hby d3_47) rfl (l' := #[.val (.ref ar), .val (.int ((31 : Int32) + (q0 ^^^ x4).toInt32)), .val (.ref ar), .val (.int (1 : Int32)), .val (.int (1 : Int32)), .val (.long q0), .second, .val (.int (q0 ^^^ x4).toInt32)]) (by rw [show ((0 : Int32) + Int32.ofInt 1) = (1 : Int32) by decide]; rfl) k) ?_
  refine own_go (st' := s₁.setTop (mkF m 16 #[.val (.ref ar), .val (.int ((31 : Int32) + (q0 ^^^ x4).toInt32)), .val (.ref ar), .val (.int (1 : Int32)), .val (.int (1 : Int32)), .val (.long q0), .second, .val (.int (q0 ^^^ x4).toInt32)] [])) (fun _ k => XS.goto X0.here hx rfl (pc0 := 50) (pc' := 16) rfl (hb hby d3_50) (by decide) (by decide) k) ?_
  refine own_go (st' := s₁.setTop (mkF m 18 #[.val (.ref ar), .val (.int ((31 : Int32) + (q0 ^^^ x4).toInt32)), .val (.ref ar), .val (.int (1 : Int32)), .val (.int (1 : Int32)), .val (.long q0), .second, .val (.int (q0 ^^^ x4).toInt32)] [(.int (1 : Int32))])) (fun _ k => XS.iload X0.here hx rfl (hb hby d3_16) rfl k) ?_
  refine own_go (st' := s₁.setTop (mkF m 19 #[.val (.ref ar), .val (.int ((31 : Int32) + (q0 ^^^ x4).toInt32)), .val (.ref ar), .val (.int (1 : Int32)), .val (.int (1 : Int32)), .val (.long q0), .second, .val (.int (q0 ^^^ x4).toInt32)] [(.int (1 : Int32)), (.int (1 : Int32))])) (fun _ k => XS.iloadN X0.here hx rfl (hb hby d3_18) rfl k) ?_
  have hc5 : ¬ ((1 : Int32) < (1 : Int32)) := by decide
  refine own_go (st' := s₁.setTop (mkF m 53 #[.val (.ref ar), .val (.int ((31 : Int32) + (q0 ^^^ x4).toInt32)), .val (.ref ar), .val (.int (1 : Int32)), .val (.int (1 : Int32)), .val (.long q0), .second, .val (.int (q0 ^^^ x4).toInt32)] [])) (fun _ k => XS.icmpYes X0.here hx rfl (pc0 := 19) (pc' := 53) rfl (hb hby d3_19) rfl (flt hc5).2.1 (by decide) (by decide) k) ?_
  refine own_go (st' := s₁.setTop (mkF m 54 #[.val (.ref ar), .val (.int ((31 : Int32) + (q0 ^^^ x4).toInt32)), .val (.ref ar), .val (.int (1 : Int32)), .val (.int (1 : Int32)), .val (.long q0), .second, .val (.int (q0 ^^^ x4).toInt32)] [(.int ((31 : Int32) + (q0 ^^^ x4).toInt32))])) (fun _ k => XS.iloadN X0.here hx rfl (hb hby d3_53) rfl k) ?_
  obtain ⟨fs, hr, hrun, hended, hW, hsame⟩ := X0.leave (v := some (.int ((31 : Int32) + (q0 ^^^ x4).toInt32))) (fun h => by rw [Bd.returns] at h; cases h)
  refine ⟨_, _, ?_, hP _ _ hrun hended ⟨_, _, rfl, ?_, ⟨_, rfl⟩, hW, hsame.mono (by decide) (by decide)⟩⟩
  · exact retOut X0 hx Bd.returns rfl (Or.inl ⟨rfl, Or.inl rfl, _, rfl⟩) (hb hby d3_54) hr
  · show Qrm3_1 Z ar ka q0 h0 n0 _ s₁.heap _
    rw [e0]
    exact ⟨((31 : Int32) + (q0 ^^^ x4).toInt32), rfl, N0, rfl⟩
theorem ef_rm1_1 (m : MethodId) (x0 : Addr) (x1 : Int32) (x2 : Addr) : entryFrame m #[(.ref x0), (.int x1), (.ref x2)] 3 = mkF m 0 #[.val (.ref x0), .val (.int x1), .val (.ref x2)] [] := by first | (simp [entryFrame, mkF, argsToLocals, Value.category]; done) | rfl
def Qrm1_1 (Z : State) (a1 : Addr) (p2 : Int32) (ar : Addr) (ka : ClassId) (u1 : Int32) (u2 : Int32) (q0 : Int64) (h0 : Heap) (n0 : Nat) (v : Option Value) (h : Heap) (L : List Loc) : Prop := (v = none) ∧ (Fr n0 L) ∧ (Keep h0 h [a1]) ∧ (Exa Z h a1 "com/example/millwright/millwright/cut/Pattern") ∧ (Fld Z h a1 "com/example/millwright/millwright/cut/Pattern" "counts" "[J" (.ref ar))
set_option maxRecDepth 65536 in
set_option maxHeartbeats 40000000 in
theorem rm1_1 (l : Launch) (Z : State) (a0 : Array Value) (hw : ∀ d ∈ tables_1, d.before a0 Z = true) (ws : List Jvm.Cond) (a1 : Addr) (p2 : Int32) (ar : Addr) (ka : ClassId) (u1 : Int32) (u2 : Int32) (q0 : Int64) (h0 : Heap) (n0 : Nat) (Z0 : n0 ≤ h0.size) (pr1 : Exa Z h0 a1 "com/example/millwright/millwright/cut/Pattern") (pr2 : Fld Z h0 a1 "com/example/millwright/millwright/cut/Pattern" "stock" "I" (.int u1)) (pr3 : Fld Z h0 a1 "com/example/millwright/millwright/cut/Pattern" "counts" "[J" .null) (pr4 : Fld Z h0 a1 "com/example/millwright/millwright/cut/Pattern" "hash" "I" (.int u2)) (pr5 : Arv Z h0 ar ka .long (1 : Int32) [(.long q0)] (.long (0 : Int64))) (pr6 : n0 ≤ a1) (pr7 : a1 ≠ ar) :
    MetFree l (⟨"com/example/millwright/millwright/cut/Pattern", "<init>", "(I[J)V"⟩ : MethodName) (head1 (Jvm.Cond.code (⟨"com/example/millwright/millwright/cut/Pattern", "<init>", "(I[J)V"⟩ : MethodName) prog_22_method_1_code 3 none :: ws) ({ frames := 1, cells := 0, slots := 0, locals := 21 } : Room)) (fun a U => a = #[(.ref a1), (.int p2), (.ref ar)] ∧ Z.Warmed39 U.vm ∧ U.heap = h0) (fun _ _ _ _ _ => True) (fun _ U o U' => ∃ v L, o = .returned v ∧ Qrm1_1 Z a1 p2 ar ka u1 u2 q0 h0 n0 v U'.heap L ∧ FrameEnd U o U' L ({ frames := 1, cells := 0, slots := 0, locals := 21 } : Room).cells ({ frames := 1, cells := 0, slots := 0, locals := 21 } : Room).slots) := by
  refine MetFree.of_bodySF (plainFor_of_name pn_1) hisR ?_
  intro p e s m args below meth c s₁ Bd hml0 hP0 hK
  obtain ⟨rfl, hZ, hh⟩ := hP0
  have hx := Bd.exec
  have hby := Bd.bytes
  have hml : c.maxLocals = 3 := hml0
  have hown : s.vm.findClass "com/example/millwright/millwright/cut/Pattern" = some m.cls := findClass_of_methodNamed Bd.named
  have hnm := (name_of_methodNamed Bd.named Bd.method).1
  have X0 : Stand p l e ({ frames := 1, cells := 0, slots := 0, locals := 21 } : Room) s m #[(.ref a1), (.int p2), (.ref ar)] below meth c s₁ [] 0 0 := Stand.of_body Bd
  have e0 : s₁.heap = h0 := by rw [← hh, Bd.state]; rfl
  have N0 := Fr.nil n0
  suffices own_H : ∀ (P : State → Outcome → Prop), (∀ U o, U.status = .running → Ended U below o → (∃ v L, o = .returned v ∧ Qrm1_1 Z a1 p2 ar ka u1 u2 q0 h0 n0 v U.heap L ∧ FrameEnd s o U L ({ frames := 1, cells := 0, slots := 0, locals := 21 } : Room).cells ({ frames := 1, cells := 0, slots := 0, locals := 21 } : Room).slots) → P U o) → own_Go p.tables e below P (s₁.setTop (mkF m 0 #[.val (.ref a1), .val (.int p2), .val (.ref ar)] [])) from own_go (fun _ k => castTop (ef_rm1_1 m a1 p2 ar) k) (own_H _ (fun U o h1 h2 h3 => ⟨h1, h2, h3⟩))
  intro P hP
  have lt_a1 : a1 < h0.size := pr1.lt
  have lt_ar : ar < h0.size := pr5.lt
  refine own_go (st' := s₁.setTop (mkF m 1 #[.val (.ref a1), .val (.int p2), .val (.ref ar)] [(.ref a1)])) (fun _ k => XS.aloadN X0.here hx rfl (hb hby d1_0) rfl rfl k) ?_
  obtain ⟨T1, X1, e1, st1⟩ := initO X0 hx hZ hown (hw _ (List.mem_of_getElem? (i := 8) rfl)) (hw _ (List.mem_of_getElem? (i := 9) rfl)) (hw _ (List.mem_of_getElem? (i := 10) rfl)) e0 (g := (mkF m 1 #[.val (.ref a1), .val (.int p2), .val (.ref ar)] [(.ref a1)])) rfl (by rw [hml]; rfl) rfl (hb hby d1_1) (by decide) (W := 0) (by show 2 * 0 + _ ≤ _; exact Nat.le_of_eq rfl) (by decide)
  refine own_go (st' := T1.setTop (mkF m 4 #[.val (.ref a1), .val (.int p2), .val (.ref ar)] [])) (st1) ?_
  refine own_go (st' := T1.setTop (mkF m 5 #[.val (.ref a1), .val (.int p2), .val (.ref ar)] [(.ref a1)])) (fun _ k => XS.aloadN X1.here hx rfl (hb hby d1_4) rfl rfl k) ?_
  refine own_go (st' := T1.setTop (mkF m 6 #[.val (.ref a1), .val (.int p2), .val (.ref ar)] [(.int p2), (.ref a1)])) (fun _ k => XS.iloadN X1.here hx rfl (hb hby d1_5) rfl k) ?_
  obtain ⟨T2, h2, X2, e2, W2, st2⟩ := putF X1 hx hZ hown (host := "") (Or.inl (hw _ (List.mem_of_getElem? (i := 11) rfl))) Via.refl e1 pr2 pr1 (Or.inr ⟨(hw _ (List.mem_of_getElem? (i := 12) rfl)), rfl, hnm⟩) (hw _ (List.mem_of_getElem? (i := 3) rfl)) (ty := .int) (by decide) rfl rfl (g := (mkF m 6 #[.val (.ref a1), .val (.int p2), .val (.ref ar)] [(.int p2), (.ref a1)])) rfl rfl (hb hby d1_6)
  have sz2 : h2.size = h0.size := W2.size
  have N2 := Fr.snoc X2 N0 (by omega)
  have f2 : Fld Z h2 a1 "com/example/millwright/millwright/cut/Pattern" "stock" "I" (.int p2) := pr2.same W2
  refine own_go (st' := T2.setTop (mkF m 9 #[.val (.ref a1), .val (.int p2), .val (.ref ar)] [])) (st2) ?_
  refine own_go (st' := T2.setTop (mkF m 10 #[.val (.ref a1), .val (.int p2), .val (.ref ar)] [(.ref a1)])) (fun _ k => XS.aloadN X2.here hx rfl (hb hby d1_9) rfl rfl k) ?_
  refine own_go (st' := T2.setTop (mkF m 11 #[.val (.ref a1), .val (.int p2), .val (.ref ar)] [(.ref ar), (.ref a1)])) (fun _ k => XS.aloadN X2.here hx rfl (hb hby d1_10) rfl rfl k) ?_
  have c3 : Fld Z h2 a1 "com/example/millwright/millwright/cut/Pattern" "counts" "[J" .null := (pr3.other W2 (Or.inr (slot_ne (Or.inr (hw _ (List.mem_of_getElem? (i := 14) rfl))) (Or.inr (hw _ (List.mem_of_getElem? (i := 12) rfl))) (by decide) (t := (.array .long)) (t' := .int) (by decide) (by decide))))
  have c4 : Exa Z h2 a1 "com/example/millwright/millwright/cut/Pattern" := (pr1.wr W2)
  obtain ⟨T5, h5, X5, e5, W5, st5⟩ := putF X2 hx hZ hown (host := "") (Or.inl (hw _ (List.mem_of_getElem? (i := 13) rfl))) Via.refl e2 c3 c4 (Or.inr ⟨(hw _ (List.mem_of_getElem? (i := 14) rfl)), rfl, hnm⟩) (hw _ (List.mem_of_getElem? (i := 3) rfl)) (ty := (.array .long)) (by decide) rfl rfl (g := (mkF m 11 #[.val (.ref a1), .val (.int p2), .val (.ref ar)] [(.ref ar), (.ref a1)])) rfl rfl (hb hby d1_11)
  have sz5 : h5.size = h2.size := W5.size
  have N5 := Fr.snoc X5 N2 (by omega)
  have f5 : Fld Z h5 a1 "com/example/millwright/millwright/cut/Pattern" "counts" "[J" (.ref ar) := c3.same W5
  refine own_go (st' := T5.setTop (mkF m 14 #[.val (.ref a1), .val (.int p2), .val (.ref ar)] [])) (st5) ?_
  refine own_go (st' := T5.setTop (mkF m 15 #[.val (.ref a1), .val (.int p2), .val (.ref ar)] [(.ref a1)])) (fun _ k => XS.aloadN X5.here hx rfl (hb hby d1_14) rfl rfl k) ?_
  refine own_go (st' := T5.setTop (mkF m 17 #[.val (.ref a1), .val (.int p2), .val (.ref ar)] [(.int (31 : Int32)), (.ref a1)])) (fun _ k => XS.bipush X5.here hx rfl (hb hby d1_15) k) ?_
  refine own_go (st' := T5.setTop (mkF m 18 #[.val (.ref a1), .val (.int p2), .val (.ref ar)] [(.int p2), (.int (31 : Int32)), (.ref a1)])) (fun _ k => XS.iloadN X5.here hx rfl (hb hby d1_17) rfl k) ?_
  refine own_go (st' := T5.setTop (mkF m 19 #[.val (.ref a1), .val (.int p2), .val (.ref ar)] [(.int ((31 : Int32) * p2)), (.ref a1)])) (fun _ k => XS.imul X5.here hx rfl (hb hby d1_18) rfl k) ?_
  refine own_go (st' := T5.setTop (mkF m 20 #[.val (.ref a1), .val (.int p2), .val (.ref ar)] [(.ref ar), (.int ((31 : Int32) * p2)), (.ref a1)])) (fun _ k => XS.aloadN X5.here hx rfl (hb hby d1_19) rfl rfl k) ?_
  have c7 : Arv Z h5 ar ka .long (1 : Int32) [(.long q0)] (.long (0 : Int64)) := ((pr5.other W2 (by first | assumption | exact Ne.symm (by assumption) | (apply Nat.ne_of_lt; omega) | (apply Nat.ne_of_gt; omega))).other W5 (by first | assumption | exact Ne.symm (by assumption) | (apply Nat.ne_of_lt; omega) | (apply Nat.ne_of_gt; omega)))
  obtain ⟨_, _, ⟨T6, LC6, kC6, nC6⟩, -, X6, ⟨Lc6, hQ6, lq6, yq6, zq6⟩, st6⟩ := Jvm.LawKit.callS X5 hx (y := (⟨"java/util/Arrays", "hashCode", "([J)I"⟩ : MethodName)) hown (mvT hZ (hw _ (List.mem_of_getElem? (i := 15) rfl))) (mvT hZ (hw _ (List.mem_of_getElem? (i := 16) rfl))) (mvT hZ (hw _ (List.mem_of_getElem? (i := 17) rfl))) (mvT hZ (hw _ (List.mem_of_getElem? (i := 18) rfl))) (by decide) (backOf (W := 2) (rm3_1 l Z a0 hw [] ar ka q0 h5 n0 (by omega) c7) hZ (hw _ (List.mem_of_getElem? (i := 18) rfl)) (hw _ (List.mem_of_getElem? (i := 17) rfl)) (by decide) (by decide)) (g := (mkF m 20 #[.val (.ref a1), .val (.int p2), .val (.ref ar)] [(.ref ar), (.int ((31 : Int32) * p2)), (.ref a1)])) rfl (by rw [hml]; rfl) (argsL := [(.ref ar)]) (rest := [(.int ((31 : Int32) * p2)), (.ref a1)]) (lenOf pd_0 rfl) rfl (by show 2 * 0 + _ ≤ _; exact Nat.le_of_eq rfl) (hb hby d1_20) (fun _ _ => ⟨rfl, e5, (by decide : 0 + 0 ≤ _), (by decide : 0 + 0 ≤ _)⟩)
  dsimp only [Pt.U, Pt.locs, Pt.cells, Pt.slots] at X6 lq6 yq6 zq6 st6 hQ6
  subst lq6 yq6 zq6
  obtain ⟨z_6, rfl, Nq6, eq6⟩ := hQ6
  have N6 := Fr.app N5 Nq6
  refine own_go (st' := T6.setTop (mkF m 23 #[.val (.ref a1), .val (.int p2), .val (.ref ar)] [(.int z_6), (.int ((31 : Int32) * p2)), (.ref a1)])) (fun t k => st6 t k) ?_
  refine own_go (st' := T6.setTop (mkF m 24 #[.val (.ref a1), .val (.int p2), .val (.ref ar)] [(.int (((31 : Int32) * p2) + z_6)), (.ref a1)])) (fun _ k => XS.iadd X6.here hx rfl (hb hby d1_23) rfl k) ?_
  have c8 : Fld Z h5 a1 "com/example/millwright/millwright/cut/Pattern" "hash" "I" (.int u2) := ((pr4.other W2 (Or.inr (slot_ne (Or.inr (hw _ (List.mem_of_getElem? (i := 20) rfl))) (Or.inr (hw _ (List.mem_of_getElem? (i := 12) rfl))) (by decide) (t := .int) (t' := .int) (by decide) (by decide)))).other W5 (Or.inr (slot_ne (Or.inr (hw _ (List.mem_of_getElem? (i := 20) rfl))) (Or.inr (hw _ (List.mem_of_getElem? (i := 14) rfl))) (by decide) (t := .int) (t' := (.array .long)) (by decide) (by decide))))
  have c9 : Exa Z h5 a1 "com/example/millwright/millwright/cut/Pattern" := (c4.wr W5)
  obtain ⟨T10, h10, X10, e10, W10, st10⟩ := putF X6 hx hZ hown (host := "") (Or.inl (hw _ (List.mem_of_getElem? (i := 19) rfl))) Via.refl eq6 c8 c9 (Or.inr ⟨(hw _ (List.mem_of_getElem? (i := 20) rfl)), rfl, hnm⟩) (hw _ (List.mem_of_getElem? (i := 3) rfl)) (ty := .int) (by decide) rfl rfl (g := (mkF m 24 #[.val (.ref a1), .val (.int p2), .val (.ref ar)] [(.int (((31 : Int32) * p2) + z_6)), (.ref a1)])) rfl rfl (hb hby d1_24)
  have sz10 : h10.size = h5.size := W10.size
  have N10 := Fr.snoc X10 N6 (by omega)
  have f10 : Fld Z h10 a1 "com/example/millwright/millwright/cut/Pattern" "hash" "I" (.int (((31 : Int32) * p2) + z_6)) := c8.same W10
  refine own_go (st' := T10.setTop (mkF m 27 #[.val (.ref a1), .val (.int p2), .val (.ref ar)] [])) (st10) ?_
  obtain ⟨fs, hr, hrun, hended, hW, hsame⟩ := X10.leave (v := none) (fun _ => rfl)
  refine ⟨_, _, ?_, hP _ _ hrun hended ⟨_, _, rfl, ?_, ⟨_, rfl⟩, hW, hsame.mono (by decide) (by decide)⟩⟩
  · exact X10.returnOut hx Bd.returns (hb hby d1_27) hr
  · show Qrm1_1 Z a1 p2 ar ka u1 u2 q0 h0 n0 _ T10.heap _
    have c12 : Exa Z h10 a1 "com/example/millwright/millwright/cut/Pattern" := (c9.wr W10)
    have c13 : Fld Z h10 a1 "com/example/millwright/millwright/cut/Pattern" "counts" "[J" (.ref ar) := (f5.other W10 (Or.inr (slot_ne (Or.inr (hw _ (List.mem_of_getElem? (i := 14) rfl))) (Or.inr (hw _ (List.mem_of_getElem? (i := 20) rfl))) (by decide) (t := (.array .long)) (t' := .int) (by decide) (by decide))))
    rw [e10]
    exact ⟨rfl, N10, ((((Keep.refl h0 [a1]).wr W2 (Or.inl (List.mem_of_getElem? (i := 0) rfl))).wr W5 (Or.inl (List.mem_of_getElem? (i := 0) rfl))).wr W10 (Or.inl (List.mem_of_getElem? (i := 0) rfl))), c12, c13⟩
theorem d4_21 : decode prog_22_method_4_code 21 = .ok (.aload_n 3, 1) := by decide +kernel
theorem d4_22 : decode prog_22_method_4_code 22 = .ok (.iload 5, 2) := by decide +kernel
theorem d4_24 : decode prog_22_method_4_code 24 = .ok (.laload, 1) := by decide +kernel
theorem d4_25 : decode prog_22_method_4_code 25 = .ok (.lstore 6, 2) := by decide +kernel
theorem d4_27 : decode prog_22_method_4_code 27 = .ok (.lload_n 1, 1) := by decide +kernel
theorem d4_28 : decode prog_22_method_4_code 28 = .ok (.lload 6, 2) := by decide +kernel
theorem d4_30 : decode prog_22_method_4_code 30 = .ok (.ladd, 1) := by decide +kernel
theorem d4_31 : decode prog_22_method_4_code 31 = .ok (.lstore_n 1, 1) := by decide +kernel
theorem d4_32 : decode prog_22_method_4_code 32 = .ok (.iinc 5 1, 3) := by decide +kernel
theorem d4_35 : decode prog_22_method_4_code 35 = .ok (.goto (-21), 3) := by decide +kernel
theorem ef_rm4_1 (m : MethodId) (x0 : Addr) : entryFrame m #[(.ref x0)] 8 = mkF m 0 #[.val (.ref x0), .unset, .unset, .unset, .unset, .unset, .unset, .unset] [] := by first | (simp [entryFrame, mkF, argsToLocals, Value.category]; done) | rfl
def Qrm4_1 (Z : State) (a1 : Addr) (ar : Addr) (ka : ClassId) (q0 : Int64) (h0 : Heap) (n0 : Nat) (v : Option Value) (h : Heap) (L : List Loc) : Prop := (v = some (.long ((0 : Int64) + q0))) ∧ (Fr n0 L) ∧ (h = h0)
set_option maxRecDepth 65536 in
set_option maxHeartbeats 40000000 in
theorem rm4_1 (l : Launch) (Z : State) (a0 : Array Value) (hw : ∀ d ∈ tables_1, d.before a0 Z = true) (ws : List Jvm.Cond) (a1 : Addr) (ar : Addr) (ka : ClassId) (q0 : Int64) (h0 : Heap) (n0 : Nat) (Z0 : n0 ≤ h0.size) (pr1 : Fld Z h0 a1 "com/example/millwright/millwright/cut/Pattern" "counts" "[J" (.ref ar)) (pr2 : Arv Z h0 ar ka .long (1 : Int32) [(.long q0)] (.long (0 : Int64))) :
    MetFree l (⟨"com/example/millwright/millwright/cut/Pattern", "pieceCount", "()J"⟩ : MethodName) (head1 (Jvm.Cond.code (⟨"com/example/millwright/millwright/cut/Pattern", "pieceCount", "()J"⟩ : MethodName) prog_22_method_4_code 8 (some .long) :: ws) ({ frames := 0, cells := 0, slots := 0, locals := 0 } : Room)) (fun a U => a = #[(.ref a1)] ∧ Z.Warmed39 U.vm ∧ U.heap = h0) (fun _ _ _ _ _ => True) (fun _ U o U' => ∃ v L, o = .returned v ∧ Qrm4_1 Z a1 ar ka q0 h0 n0 v U'.heap L ∧ FrameEnd U o U' L ({ frames := 0, cells := 0, slots := 0, locals := 0 } : Room).cells ({ frames := 0, cells := 0, slots := 0, locals := 0 } : Room).slots) := by
  refine MetFree.of_bodySF (plainFor_of_name pn_4) hisR ?_
  intro p e s m args below meth c s₁ Bd hml0 hP0 hK
  obtain ⟨rfl, hZ, hh⟩ := hP0
  have hx := Bd.exec
  have hby := Bd.bytes
  have hml : c.maxLocals = 8 := hml0
  have hown : s.vm.findClass "com/example/millwright/millwright/cut/Pattern" = some m.cls := findClass_of_methodNamed Bd.named
  have hnm := (name_of_methodNamed Bd.named Bd.method).1
  have X0 : Stand p l e ({ frames := 0, cells := 0, slots := 0, locals := 0 } : Room) s m #[(.ref a1)] below meth c s₁ [] 0 0 := Stand.of_body Bd
  have e0 : s₁.heap = h0 := by rw [← hh, Bd.state]; rfl
  have N0 := Fr.nil n0
  suffices own_H : ∀ (P : State → Outcome → Prop), (∀ U o, U.status = .running → Ended U below o → (∃ v L, o = .returned v ∧ Qrm4_1 Z a1 ar ka q0 h0 n0 v U.heap L ∧ FrameEnd s o U L ({ frames := 0, cells := 0, slots := 0, locals := 0 } : Room).cells ({ frames := 0, cells := 0, slots := 0, locals := 0 } : Room).slots) → P U o) → own_Go p.tables e below P (s₁.setTop (mkF m 0 #[.val (.ref a1), .unset, .unset, .unset, .unset, .unset, .unset, .unset] [])) from own_go (fun _ k => castTop (ef_rm4_1 m a1) k) (own_H _ (fun U o h1 h2 h3 => ⟨h1, h2, h3⟩))
  intro P hP
  have lt_a1 : a1 < h0.size := pr1.lt
  have lt_ar : ar < h0.size := pr2.lt
  refine own_go (st' := s₁.setTop (mkF m 1 #[.val (.ref a1), .unset, .unset, .unset, .unset, .unset, .unset, .unset] [(.long (0 : Int64))])) (fun _ k => XS.lconst X0.here hx rfl (hb hby d4_0) k) ?_
  refine own_go (st' := s₁.setTop (mkF m 2 #[.val (.ref a1), .val (.long (0 : Int64)), .second, .unset, .unset, .unset, .unset, .unset] [])) (fun _ k => XS.lstoreN X0.here hx rfl (hb hby d4_1) rfl (l' := #[.val (.ref a1), .val (.long (0 : Int64)), .second, .unset, .unset, .unset, .unset, .unset]) rfl k) ?_
  refine own_go (st' := s₁.setTop (mkF m 3 #[.val (.ref a1), .val (.long (0 : Int64)), .second, .unset, .unset, .unset, .unset, .unset] [(.ref a1)])) (fun _ k => XS.aloadN X0.here hx rfl (hb hby d4_2) rfl rfl k) ?_
  obtain ⟨T1, X1, e1, st1⟩ := getF X0 hx hZ hown (host := "") (Or.inl (hw _ (List.mem_of_getElem? (i := 13) rfl))) Via.refl e0 pr1 (g := (mkF m 3 #[.val (.ref a1), .val (.long (0 : Int64)), .second, .unset, .unset, .unset, .unset, .unset] [(.ref a1)])) rfl rfl (hb hby d4_3)
  refine own_go (st' := T1.setTop (mkF m 6 #[.val (.ref a1), .val (.long (0 : Int64)), .second, .unset, .unset, .unset, .unset, .unset] [(.ref ar)])) (st1) ?_
  refine own_go (st' := T1.setTop (mkF m 7 #[.val (.ref a1), .val (.long (0 : Int64)), .second, .val (.ref ar), .unset, .unset, .unset, .unset] [])) (fun _ k => XS.astoreN X1.here hx rfl (hb hby d4_6) rfl rfl (l' := #[.val (.ref a1), .val (.long (0 : Int64)), .second, .val (.ref ar), .unset, .unset, .unset, .unset]) rfl k) ?_
  refine own_go (st' := T1.setTop (mkF m 8 #[.val (.ref a1), .val (.long (0 : Int64)), .second, .val (.ref ar), .unset, .unset, .unset, .unset] [(.ref ar)])) (fun _ k => XS.aloadN X1.here hx rfl (hb hby d4_7) rfl rfl k) ?_
  obtain ⟨cl2, Ar2, -, S2, M2, -, -⟩ := id pr2
  refine own_go (st' := T1.setTop (mkF m 9 #[.val (.ref a1), .val (.long (0 : Int64)), .second, .val (.ref ar), .unset, .unset, .unset, .unset] [(.int (1 : Int32))])) (fun t k => X1.arraylength hx (by rw [e1]; exact Ar2.1) (State.isArrayOf_alike hZ.alike Ar2.2.1) (g := (mkF m 8 #[.val (.ref a1), .val (.long (0 : Int64)), .second, .val (.ref ar), .unset, .unset, .unset, .unset] [(.ref ar)])) rfl rfl (hb hby d4_8) t (by rw [len_of S2 M2]; exact k)) ?_
  refine own_go (st' := T1.setTop (mkF m 11 #[.val (.ref a1), .val (.long (0 : Int64)), .second, .val (.ref ar), .val (.int (1 : Int32)), .unset, .unset, .unset] [])) (fun _ k => XS.istore X1.here hx rfl (hb hby d4_9) rfl (l' := #[.val (.ref a1), .val (.long (0 : Int64)), .second, .val (.ref ar), .val (.int (1 : Int32)), .unset, .unset, .unset]) rfl k) ?_
  refine own_go (st' := T1.setTop (mkF m 12 #[.val (.ref a1), .val (.long (0 : Int64)), .second, .val (.ref ar), .val (.int (1 : Int32)), .unset, .unset, .unset] [(.int (0 : Int32))])) (fun _ k => XS.iconst X1.here hx rfl (hb hby d4_11) k) ?_
  refine own_go (st' := T1.setTop (mkF m 14 #[.val (.ref a1), .val (.long (0 : Int64)), .second, .val (.ref ar), .val (.int (1 : Int32)), .val (.int (0 : Int32)), .unset, .unset] [])) (fun _ k => XS.istore X1.here hx rfl (hb hby d4_12) rfl (l' := #[.val (.ref a1), .val (.long (0 : Int64)), .second, .val (.ref ar), .val (.int (1 : Int32)), .val (.int (0 : Int32)), .unset, .unset]) rfl k) ?_
  refine own_go (st' := T1.setTop (mkF m 16 #[.val (.ref a1), .val (.long (0 : Int64)), .second, .val (.ref ar), .val (.int (1 : Int32)), .val (.int (0 : Int32)), .unset, .unset] [(.int (0 : Int32))])) (fun _ k => XS.iload X1.here hx rfl (hb hby d4_14) rfl k) ?_
  refine own_go (st' := T1.setTop (mkF m 18 #[.val (.ref a1), .val (.long (0 : Int64)), .second, .val (.ref ar), .val (.int (1 : Int32)), .val (.int (0 : Int32)), .unset, .unset] [(.int (1 : Int32)), (.int (0 : Int32))])) (fun _ k => XS.iload X1.here hx rfl (hb hby d4_16) rfl k) ?_
  have hc3 : (0 : Int32) < (1 : Int32) := by decide
  refine own_go (st' := T1.setTop (mkF m 21 #[.val (.ref a1), .val (.long (0 : Int64)), .second, .val (.ref ar), .val (.int (1 : Int32)), .val (.int (0 : Int32)), .unset, .unset] [])) (fun _ k => XS.icmpNo X1.here hx rfl (hb hby d4_18) rfl (tlt hc3).2.1 k) ?_
  refine own_go (st' := T1.setTop (mkF m 22 #[.val (.ref a1), .val (.long (0 : Int64)), .second, .val (.ref ar), .val (.int (1 : Int32)), .val (.int (0 : Int32)), .unset, .unset] [(.ref ar)])) (fun _ k => XS.aloadN X1.here hx rfl (hb hby d4_21) rfl rfl k) ?_
  refine own_go (st' := T1.setTop (mkF m 24 #[.val (.ref a1), .val (.long (0 : Int64)), .second, .val (.ref ar), .val (.int (1 : Int32)), .val (.int (0 : Int32)), .unset, .unset] [(.int (0 : Int32)), (.ref ar)])) (fun _ k => XS.iload X1.here hx rfl (hb hby d4_22) rfl k) ?_
  obtain ⟨cl4, Ar4, -, S4, M4, H4, -⟩ := id pr2
  have hin4 : ¬ ((0 : Int32) < 0 ∨ cl4.slots.size ≤ ((0 : Int32)).toNatClampNeg) := (inb_of S4 ⟨by decide, by decide⟩)
  have hat4 : cl4.slots[((0 : Int32)).toNatClampNeg]? = some (.long q0) := (H4.at hin4 rfl)
  refine own_go (st' := T1.setTop (mkF m 25 #[.val (.ref a1), .val (.long (0 : Int64)), .second, .val (.ref ar), .val (.int (1 : Int32)), .val (.int (0 : Int32)), .unset, .unset] [(.long q0)])) (X1.laload hx (j := (0 : Int32)) (v := (.long q0)) (by rw [e1]; exact Ar4.1) (State.isArrayOf_alike hZ.alike Ar4.2.1) Ar4.2.2 hin4 hat4 (g := (mkF m 24 #[.val (.ref a1), .val (.long (0 : Int64)), .second, .val (.ref ar), .val (.int (1 : Int32)), .val (.int (0 : Int32)), .unset, .unset] [(.int (0 : Int32)), (.ref ar)])) rfl rfl (hb hby d4_24)) ?_
  refine own_go (st' := T1.setTop (mkF m 27 #[.val (.ref a1), .val (.long (0 : Int64)), .second, .val (.ref ar), .val (.int (1 : Int32)), .val (.int (0 : Int32)), .val (.long q0), .second] [])) (fun _ k => XS.lstore X1.here hx rfl (hb hby d4_25) rfl (l' := #[.val (.ref a1), .val (.long (0 : Int64)), .second, .val (.ref ar), .val (.int (1 : Int32)), .val (.int (0 : Int32)), .val (.long q0), .second]) rfl k) ?_
  refine own_go (st' := T1.setTop (mkF m 28 #[.val (.ref a1), .val (.long (0 : Int64)), .second, .val (.ref ar), .val (.int (1 : Int32)), .val (.int (0 : Int32)), .val (.long q0), .second] [(.long (0 : Int64))])) (fun _ k => XS.lloadN X1.here hx rfl (hb hby d4_27) rfl k) ?_
  refine own_go (st' := T1.setTop (mkF m 30 #[.val (.ref a1), .val (.long (0 : Int64)), .second, .val (.ref ar), .val (.int (1 : Int32)), .val (.int (0 : Int32)), .val (.long q0), .second] [(.long q0), (.long (0 : Int64))])) (fun _ k => XS.lload X1.here hx rfl (hb hby d4_28) rfl k) ?_
  refine own_go (st' := T1.setTop (mkF m 31 #[.val (.ref a1), .val (.long (0 : Int64)), .second, .val (.ref ar), .val (.int (1 : Int32)), .val (.int (0 : Int32)), .val (.long q0), .second] [(.long ((0 : Int64) + q0))])) (fun _ k => XS.ladd X1.here hx rfl (hb hby d4_30) rfl k) ?_
  refine own_go (st' := T1.setTop (mkF m 32 #[.val (.ref a1), .val (.long ((0 : Int64) + q0)), .second, .val (.ref ar), .val (.int (1 : Int32)), .val (.int (0 : Int32)), .val (.long q0), .second] [])) (fun _ k => XS.lstoreN X1.here hx rfl (hb hby d4_31) rfl (l' := #[.val (.ref a1), .val (.long ((0 : Int64) + q0)), .second, .val (.ref ar), .val (.int (1 : Int32)), .val (.int (0 : Int32)), .val (.long q0), .second]) rfl k) ?_
  refine own_go (st' := T1.setTop (mkF m 35 #[.val (.ref a1), .val (.long ((0 : Int64) + q0)), .second, .val (.ref ar), .val (.int (1 : Int32)), .val (.int (1 : Int32)), .val (.long q0), .second] [])) (fun _ k => XS.iinc X1.here hx rfl (hb hby d4_32) rfl (l' := #[.val (.ref a1), .val (.long ((0 : Int64) + q0)), .second, .val (.ref ar), .val (.int (1 : Int32)), .val (.int (1 : Int32)), .val (.long q0), .second]) (by rw [show ((0 : Int32) + Int32.ofInt 1) = (1 : Int32) by decide]; rfl) k) ?_
  refine own_go (st' := T1.setTop (mkF m 14 #[.val (.ref a1), .val (.long ((0 : Int64) + q0)), .second, .val (.ref ar), .val (.int (1 : Int32)), .val (.int (1 : Int32)), .val (.long q0), .second] [])) (fun _ k => XS.goto X1.here hx rfl (pc0 := 35) (pc' := 14) rfl (hb hby d4_35) (by decide) (by decide) k) ?_
  refine own_go (st' := T1.setTop (mkF m 16 #[.val (.ref a1), .val (.long ((0 : Int64) + q0)), .second, .val (.ref ar), .val (.int (1 : Int32)), .val (.int (1 : Int32)), .val (.long q0), .second] [(.int (1 : Int32))])) (fun _ k => XS.iload X1.here hx rfl (hb hby d4_14) rfl k) ?_
  refine own_go (st' := T1.setTop (mkF m 18 #[.val (.ref a1), .val (.long ((0 : Int64) + q0)), .second, .val (.ref ar), .val (.int (1 : Int32)), .val (.int (1 : Int32)), .val (.long q0), .second] [(.int (1 : Int32)), (.int (1 : Int32))])) (fun _ k => XS.iload X1.here hx rfl (hb hby d4_16) rfl k) ?_
  have hc5 : ¬ ((1 : Int32) < (1 : Int32)) := by decide
  refine own_go (st' := T1.setTop (mkF m 38 #[.val (.ref a1), .val (.long ((0 : Int64) + q0)), .second, .val (.ref ar), .val (.int (1 : Int32)), .val (.int (1 : Int32)), .val (.long q0), .second] [])) (fun _ k => XS.icmpYes X1.here hx rfl (pc0 := 18) (pc' := 38) rfl (hb hby d4_18) rfl (flt hc5).2.1 (by decide) (by decide) k) ?_
  refine own_go (st' := T1.setTop (mkF m 39 #[.val (.ref a1), .val (.long ((0 : Int64) + q0)), .second, .val (.ref ar), .val (.int (1 : Int32)), .val (.int (1 : Int32)), .val (.long q0), .second] [(.long ((0 : Int64) + q0))])) (fun _ k => XS.lloadN X1.here hx rfl (hb hby d4_38) rfl k) ?_
  obtain ⟨fs, hr, hrun, hended, hW, hsame⟩ := X1.leave (v := some (.long ((0 : Int64) + q0))) (fun h => by rw [Bd.returns] at h; cases h)
  refine ⟨_, _, ?_, hP _ _ hrun hended ⟨_, _, rfl, ?_, ⟨_, rfl⟩, hW, hsame.mono (by decide) (by decide)⟩⟩
  · exact retOut X1 hx Bd.returns rfl (Or.inr (Or.inl ⟨rfl, rfl, _, rfl⟩)) (hb hby d4_39) hr
  · show Qrm4_1 Z a1 ar ka q0 h0 n0 _ T1.heap _
    rw [e1]
    exact ⟨rfl, N0, rfl⟩
theorem ef_rm3_2 (m : MethodId) (x0 : Addr) : entryFrame m #[(.ref x0)] 8 = mkF m 0 #[.val (.ref x0), .unset, .unset, .unset, .unset, .unset, .unset, .unset] [] := by first | (simp [entryFrame, mkF, argsToLocals, Value.category]; done) | rfl
def Qrm3_2 (Z : State) (ar : Addr) (ka : ClassId) (q0 : Int64) (q1 : Int64) (h0 : Heap) (n0 : Nat) (v : Option Value) (h : Heap) (L : List Loc) : Prop := ∃ (z : Int32), (v = some (.int z)) ∧ (Fr n0 L) ∧ (h = h0)
set_option maxRecDepth 65536 in
set_option maxHeartbeats 40000000 in
theorem rm3_2 (l : Launch) (Z : State) (a0 : Array Value) (hw : ∀ d ∈ tables_1, d.before a0 Z = true) (ws : List Jvm.Cond) (ar : Addr) (ka : ClassId) (q0 : Int64) (q1 : Int64) (h0 : Heap) (n0 : Nat) (Z0 : n0 ≤ h0.size) (pr1 : Arv Z h0 ar ka .long (2 : Int32) [(.long q0), (.long q1)] (.long (0 : Int64))) :
    MetFree l (⟨"java/util/Arrays", "hashCode", "([J)I"⟩ : MethodName) (head1 (Jvm.Cond.code (⟨"java/util/Arrays", "hashCode", "([J)I"⟩ : MethodName) jdk_65_method_149_code 8 (some .int) :: ws) ({ frames := 0, cells := 0, slots := 0, locals := 0 } : Room)) (fun a U => a = #[(.ref ar)] ∧ Z.Warmed39 U.vm ∧ U.heap = h0) (fun _ _ _ _ _ => True) (fun _ U o U' => ∃ v L, o = .returned v ∧ Qrm3_2 Z ar ka q0 q1 h0 n0 v U'.heap L ∧ FrameEnd U o U' L ({ frames := 0, cells := 0, slots := 0, locals := 0 } : Room).cells ({ frames := 0, cells := 0, slots := 0, locals := 0 } : Room).slots) := by
  refine MetFree.of_bodySF (plainFor_of_name pn_3) hisR ?_
  intro p e s m args below meth c s₁ Bd hml0 hP0 hK
  obtain ⟨rfl, hZ, hh⟩ := hP0
  have hx := Bd.exec
  have hby := Bd.bytes
  have hml : c.maxLocals = 8 := hml0
  have hown : s.vm.findClass "java/util/Arrays" = some m.cls := findClass_of_methodNamed Bd.named
  have hnm := (name_of_methodNamed Bd.named Bd.method).1
  have X0 : Stand p l e ({ frames := 0, cells := 0, slots := 0, locals := 0 } : Room) s m #[(.ref ar)] below meth c s₁ [] 0 0 := Stand.of_body Bd
  have e0 : s₁.heap = h0 := by rw [← hh, Bd.state]; rfl
  have N0 := Fr.nil n0
  suffices own_H : ∀ (P : State → Outcome → Prop), (∀ U o, U.status = .running → Ended U below o → (∃ v L, o = .returned v ∧ Qrm3_2 Z ar ka q0 q1 h0 n0 v U.heap L ∧ FrameEnd s o U L ({ frames := 0, cells := 0, slots := 0, locals := 0 } : Room).cells ({ frames := 0, cells := 0, slots := 0, locals := 0 } : Room).slots) → P U o) → own_Go p.tables e below P (s₁.setTop (mkF m 0 #[.val (.ref ar), .unset, .unset, .unset, .unset, .unset, .unset, .unset] [])) from own_go (fun _ k => castTop (ef_rm3_2 m ar) k) (own_H _ (fun U o h1 h2 h3 => ⟨h1, h2, h3⟩))
  intro P hP
  have lt_ar : ar < h0.size := pr1.lt
  refine own_go (st' := s₁.setTop (mkF m 1 #[.val (.ref ar), .unset, .unset, .unset, .unset, .unset, .unset, .unset] [(.ref ar)])) (fun _ k => XS.aloadN X0.here hx rfl (hb hby d3_0) rfl rfl k) ?_
  refine own_go (st' := s₁.setTop (mkF m 6 #[.val (.ref ar), .unset, .unset, .unset, .unset, .unset, .unset, .unset] [])) (fun _ k => XS.ifnonnullYes X0.here hx rfl (pc0 := 1) (pc' := 6) rfl (hb hby d3_1) rfl (by decide) (by decide) k) ?_
  refine own_go (st' := s₁.setTop (mkF m 7 #[.val (.ref ar), .unset, .unset, .unset, .unset, .unset, .unset, .unset] [(.int (1 : Int32))])) (fun _ k => XS.iconst X0.here hx rfl (hb hby d3_6) k) ?_
  refine own_go (st' := s₁.setTop (mkF m 8 #[.val (.ref ar), .val (.int (1 : Int32)), .unset, .unset, .unset, .unset, .unset, .unset] [])) (fun _ k => XS.istoreN X0.here hx rfl (hb hby d3_7) rfl (l' := #[.val (.ref ar), .val (.int (1 : Int32)), .unset, .unset, .unset, .unset, .unset, .unset]) rfl k) ?_
  refine own_go (st' := s₁.setTop (mkF m 9 #[.val (.ref ar), .val (.int (1 : Int32)), .unset, .unset, .unset, .unset, .unset, .unset] [(.ref ar)])) (fun _ k => XS.aloadN X0.here hx rfl (hb hby d3_8) rfl rfl k) ?_
  refine own_go (st' := s₁.setTop (mkF m 10 #[.val (.ref ar), .val (.int (1 : Int32)), .val (.ref ar), .unset, .unset, .unset, .unset, .unset] [])) (fun _ k => XS.astoreN X0.here hx rfl (hb hby d3_9) rfl rfl (l' := #[.val (.ref ar), .val (.int (1 : Int32)), .val (.ref ar), .unset, .unset, .unset, .unset, .unset]) rfl k) ?_
  refine own_go (st' := s₁.setTop (mkF m 11 #[.val (.ref ar), .val (.int (1 : Int32)), .val (.ref ar), .unset, .unset, .unset, .unset, .unset] [(.ref ar)])) (fun _ k => XS.aloadN X0.here hx rfl (hb hby d3_10) rfl rfl k) ?_
  obtain ⟨cl1, Ar1, -, S1, M1, -, -⟩ := id pr1
  refine own_go (st' := s₁.setTop (mkF m 12 #[.val (.ref ar), .val (.int (1 : Int32)), .val (.ref ar), .unset, .unset, .unset, .unset, .unset] [(.int (2 : Int32))])) (fun t k => X0.arraylength hx (by rw [e0]; exact Ar1.1) (State.isArrayOf_alike hZ.alike Ar1.2.1) (g := (mkF m 11 #[.val (.ref ar), .val (.int (1 : Int32)), .val (.ref ar), .unset, .unset, .unset, .unset, .unset] [(.ref ar)])) rfl rfl (hb hby d3_11) t (by rw [len_of S1 M1]; exact k)) ?_
  refine own_go (st' := s₁.setTop (mkF m 13 #[.val (.ref ar), .val (.int (1 : Int32)), .val (.ref ar), .val (.int (2 : Int32)), .unset, .unset, .unset, .unset] [])) (fun _ k => XS.istoreN X0.here hx rfl (hb hby d3_12) rfl (l' := #[.val (.ref ar), .val (.int (1 : Int32)), .val (.ref ar), .val (.int (2 : Int32)), .unset, .unset, .unset, .unset]) rfl k) ?_
  refine own_go (st' := s₁.setTop (mkF m 14 #[.val (.ref ar), .val (.int (1 : Int32)), .val (.ref ar), .val (.int (2 : Int32)), .unset, .unset, .unset, .unset] [(.int (0 : Int32))])) (fun _ k => XS.iconst X0.here hx rfl (hb hby d3_13) k) ?_
  refine own_go (st' := s₁.setTop (mkF m 16 #[.val (.ref ar), .val (.int (1 : Int32)), .val (.ref ar), .val (.int (2 : Int32)), .val (.int (0 : Int32)), .unset, .unset, .unset] [])) (fun _ k => XS.istore X0.here hx rfl (hb hby d3_14) rfl (l' := #[.val (.ref ar), .val (.int (1 : Int32)), .val (.ref ar), .val (.int (2 : Int32)), .val (.int (0 : Int32)), .unset, .unset, .unset]) rfl k) ?_
  refine own_go (st' := s₁.setTop (mkF m 18 #[.val (.ref ar), .val (.int (1 : Int32)), .val (.ref ar), .val (.int (2 : Int32)), .val (.int (0 : Int32)), .unset, .unset, .unset] [(.int (0 : Int32))])) (fun _ k => XS.iload X0.here hx rfl (hb hby d3_16) rfl k) ?_
  refine own_go (st' := s₁.setTop (mkF m 19 #[.val (.ref ar), .val (.int (1 : Int32)), .val (.ref ar), .val (.int (2 : Int32)), .val (.int (0 : Int32)), .unset, .unset, .unset] [(.int (2 : Int32)), (.int (0 : Int32))])) (fun _ k => XS.iloadN X0.here hx rfl (hb hby d3_18) rfl k) ?_
  have hc2 : (0 : Int32) < (2 : Int32) := by decide
  refine own_go (st' := s₁.setTop (mkF m 22 #[.val (.ref ar), .val (.int (1 : Int32)), .val (.ref ar), .val (.int (2 : Int32)), .val (.int (0 : Int32)), .unset, .unset, .unset] [])) (fun _ k => XS.icmpNo X0.here hx rfl (hb hby d3_19) rfl (tlt hc2).2.1 k) ?_
  refine own_go (st' := s₁.setTop (mkF m 23 #[.val (.ref ar), .val (.int (1 : Int32)), .val (.ref ar), .val (.int (2 : Int32)), .val (.int (0 : Int32)), .unset, .unset, .unset] [(.ref ar)])) (fun _ k => XS.aloadN X0.here hx rfl (hb hby d3_22) rfl rfl k) ?_
  refine own_go (st' := s₁.setTop (mkF m 25 #[.val (.ref ar), .val (.int (1 : Int32)), .val (.ref ar), .val (.int (2 : Int32)), .val (.int (0 : Int32)), .unset, .unset, .unset] [(.int (0 : Int32)), (.ref ar)])) (fun _ k => XS.iload X0.here hx rfl (hb hby d3_23) rfl k) ?_
  obtain ⟨cl3, Ar3, -, S3, M3, H3, -⟩ := id pr1
  have hin3 : ¬ ((0 : Int32) < 0 ∨ cl3.slots.size ≤ ((0 : Int32)).toNatClampNeg) := (inb_of S3 ⟨by decide, by decide⟩)
  have hat3 : cl3.slots[((0 : Int32)).toNatClampNeg]? = some (.long q0) := (H3.at hin3 rfl)
  refine own_go (st' := s₁.setTop (mkF m 26 #[.val (.ref ar), .val (.int (1 : Int32)), .val (.ref ar), .val (.int (2 : Int32)), .val (.int (0 : Int32)), .unset, .unset, .unset] [(.long q0)])) (X0.laload hx (j := (0 : Int32)) (v := (.long q0)) (by rw [e0]; exact Ar3.1) (State.isArrayOf_alike hZ.alike Ar3.2.1) Ar3.2.2 hin3 hat3 (g := (mkF m 25 #[.val (.ref ar), .val (.int (1 : Int32)), .val (.ref ar), .val (.int (2 : Int32)), .val (.int (0 : Int32)), .unset, .unset, .unset] [(.int (0 : Int32)), (.ref ar)])) rfl rfl (hb hby d3_25)) ?_
  refine own_go (st' := s₁.setTop (mkF m 28 #[.val (.ref ar), .val (.int (1 : Int32)), .val (.ref ar), .val (.int (2 : Int32)), .val (.int (0 : Int32)), .val (.long q0), .second, .unset] [])) (fun _ k => XS.lstore X0.here hx rfl (hb hby d3_26) rfl (l' := #[.val (.ref ar), .val (.int (1 : Int32)), .val (.ref ar), .val (.int (2 : Int32)), .val (.int (0 : Int32)), .val (.long q0), .second, .unset]) rfl k) ?_
  refine own_go (st' := s₁.setTop (mkF m 30 #[.val (.ref ar), .val (.int (1 : Int32)), .val (.ref ar), .val (.int (2 : Int32)), .val (.int (0 : Int32)), .val (.long q0), .second, .unset] [(.long q0)])) (fun _ k => XS.lload X0.here hx rfl (hb hby d3_28) rfl k) ?_
  refine own_go (st' := s₁.setTop (mkF m 32 #[.val (.ref ar), .val (.int (1 : Int32)), .val (.ref ar), .val (.int (2 : Int32)), .val (.int (0 : Int32)), .val (.long q0), .second, .unset] [(.long q0), (.long q0)])) (fun _ k => XS.lload X0.here hx rfl (hb hby d3_30) rfl k) ?_
  refine own_go (st' := s₁.setTop (mkF m 34 #[.val (.ref ar), .val (.int (1 : Int32)), .val (.ref ar), .val (.int (2 : Int32)), .val (.int (0 : Int32)), .val (.long q0), .second, .unset] [(.int (32 : Int32)), (.long q0), (.long q0)])) (fun _ k => XS.bipush X0.here hx rfl (hb hby d3_32) k) ?_
  obtain ⟨x4, hx4⟩ : ∃ z : Int64, z = ((q0.toUInt64 >>> ((32 : Int32) &&& 0x3f).toInt64.toUInt64).toInt64) := ⟨_, rfl⟩
  refine own_go (st' := s₁.setTop (mkF m 35 #[.val (.ref ar), .val (.int (1 : Int32)), .val (.ref ar), .val (.int (2 : Int32)), .val (.int (0 : Int32)), .val (.long q0), .second, .unset] [(.long x4), (.long q0)])) (fun _ k => XS.lushr X0.here hx rfl (hb hby d3_34) rfl (by rw [hx4] at k; exact k)) ?_
  refine own_go (st' := s₁.setTop (mkF m 36 #[.val (.ref ar), .val (.int (1 : Int32)), .val (.ref ar), .val (.int (2 : Int32)), .val (.int (0 : Int32)), .val (.long q0), .second, .unset] [(.long (q0 ^^^ x4))])) (fun _ k => XS.lxor X0.here hx rfl (hb hby d3_35) rfl k) ?_
  refine own_go (st' := s₁.setTop (mkF m 37 #[.val (.ref ar), .val (.int (1 : Int32)), .val (.ref ar), .val (.int (2 : Int32)), .val (.int (0 : Int32)), .val (.long q0), .second, .unset] [(.int (q0 ^^^ x4).toInt32)])) (fun _ k => XS.l2i X0.here hx rfl (hb hby d3_36) rfl k) ?_
  refine own_go (st' := s₁.setTop (mkF m 39 #[.val (.ref ar), .val (.int (1 : Int32)), .val (.ref ar), .val (.int (2 : Int32)), .val (.int (0 : Int32)), .val (.long q0), .second, .val (.int (q0 ^^^ x4).toInt32)] [])) (fun _ k => XS.istore X0.here hx rfl (hb hby d3_37) rfl (l' := #[.val (.ref ar), .val (.int (1 : Int32)), .val (.ref ar), .val (.int (2 : Int32)), .val (.int (0 : Int32)), .val (.long q0), .second, .val (.int (q0 ^^^ x4).toInt32)]) rfl k) ?_
  refine own_go (st' := s₁.setTop (mkF m 41 #[.val (.ref ar), .val (.int (1 : Int32)), .val (.ref ar), .val (.int (2 : Int32)), .val (.int (0 : Int32)), .val (.long q0), .second, .val (.int (q0 ^^^ x4).toInt32)] [(.int (31 : Int32))])) (fun _ k => XS.bipush X0.here hx rfl (hb hby d3_39) k) ?_
  refine own_go (st' := s₁.setTop (mkF m 42 #[.val (.ref ar), .val (.int (1 : Int32)), .val (.ref ar), .val (.int (2 : Int32)), .val (.int (0 : Int32)), .val (.long q0), .second, .val (.int (q0 ^^^ x4).toInt32)] [(.int (1 : Int32)), (.int (31 : Int32))])) (fun _ k => XS.iloadN X0.here hx rfl (hb hby d3_41) rfl k) ?_
  refine own_go (st' := s₁.setTop (mkF m 43 #[.val (.ref ar), .val (.int (1 : Int32)), .val (.ref ar), .val (.int (2 : Int32)), .val (.int (0 : Int32)), .val (.long q0), .second, .val (.int (q0 ^^^ x4).toInt32)] [(.int (31 : Int32))])) (fun _ k => XS.imul X0.here hx rfl (hb hby d3_42) rfl (by rw [show ((31 : Int32) * (1 : Int32)) = (31 : Int32) by decide]; exact k)) ?_
  refine own_go (st' := s₁.setTop (mkF m 45 #[.val (.ref ar), .val (.int (1 : Int32)), .val (.ref ar), .val (.int (2 : Int32)), .val (.int (0 : Int32)), .val (.long q0), .second, .val (.int (q0 ^^^ x4).toInt32)] [(.int (q0 ^^^ x4).toInt32), (.int (31 : Int32))])) (fun _ k => XS.iload X0.here hx rfl (hb hby d3_43) rfl k) ?_
  refine own_go (st' := s₁.setTop (mkF m 46 #[.val (.ref ar), .val (.int (1 : Int32)), .val (.ref ar), .val (.int (2 : Int32)), .val (.int (0 : Int32)), .val (.long q0), .second, .val (.int (q0 ^^^ x4).toInt32)] [(.int ((31 : Int32) + (q0 ^^^ x4).toInt32))])) (fun _ k => XS.iadd X0.here hx rfl (hb hby d3_45) rfl k) ?_
  refine own_go (st' := s₁.setTop (mkF m 47 #[.val (.ref ar), .val (.int ((31 : Int32) + (q0 ^^^ x4).toInt32)), .val (.ref ar), .val (.int (2 : Int32)), .val (.int (0 : Int32)), .val (.long q0), .second, .val (.int (q0 ^^^ x4).toInt32)] [])) (fun _ k => XS.istoreN X0.here hx rfl (hb hby d3_46) rfl (l' := #[.val (.ref ar), .val (.int ((31 : Int32) + (q0 ^^^ x4).toInt32)), .val (.ref ar), .val (.int (2 : Int32)), .val (.int (0 : Int32)), .val (.long q0), .second, .val (.int (q0 ^^^ x4).toInt32)]) rfl k) ?_
  refine own_go (st' := s₁.setTop (mkF m 50 #[.val (.ref ar), .val (.int ((31 : Int32) + (q0 ^^^ x4).toInt32)), .val (.ref ar), .val (.int (2 : Int32)), .val (.int (1 : Int32)), .val (.long q0), .second, .val (.int (q0 ^^^ x4).toInt32)] [])) (fun _ k => XS.iinc X0.here hx rfl (hb hby d3_47) rfl (l' := #[.val (.ref ar), .val (.int ((31 : Int32) + (q0 ^^^ x4).toInt32)), .val (.ref ar), .val (.int (2 : Int32)), .val (.int (1 : Int32)), .val (.long q0), .second, .val (.int (q0 ^^^ x4).toInt32)]) (by rw [show ((0 : Int32) + Int32.ofInt 1) = (1 : Int32) by decide]; rfl) k) ?_
  refine own_go (st' := s₁.setTop (mkF m 16 #[.val (.ref ar), .val (.int ((31 : Int32) + (q0 ^^^ x4).toInt32)), .val (.ref ar), .val (.int (2 : Int32)), .val (.int (1 : Int32)), .val (.long q0), .second, .val (.int (q0 ^^^ x4).toInt32)] [])) (fun _ k => XS.goto X0.here hx rfl (pc0 := 50) (pc' := 16) rfl (hb hby d3_50) (by decide) (by decide) k) ?_
  refine own_go (st' := s₁.setTop (mkF m 18 #[.val (.ref ar), .val (.int ((31 : Int32) + (q0 ^^^ x4).toInt32)), .val (.ref ar), .val (.int (2 : Int32)), .val (.int (1 : Int32)), .val (.long q0), .second, .val (.int (q0 ^^^ x4).toInt32)] [(.int (1 : Int32))])) (fun _ k => XS.iload X0.here hx rfl (hb hby d3_16) rfl k) ?_
  refine own_go (st' := s₁.setTop (mkF m 19 #[.val (.ref ar), .val (.int ((31 : Int32) + (q0 ^^^ x4).toInt32)), .val (.ref ar), .val (.int (2 : Int32)), .val (.int (1 : Int32)), .val (.long q0), .second, .val (.int (q0 ^^^ x4).toInt32)] [(.int (2 : Int32)), (.int (1 : Int32))])) (fun _ k => XS.iloadN X0.here hx rfl (hb hby d3_18) rfl k) ?_
  have hc5 : (1 : Int32) < (2 : Int32) := by decide
  refine own_go (st' := s₁.setTop (mkF m 22 #[.val (.ref ar), .val (.int ((31 : Int32) + (q0 ^^^ x4).toInt32)), .val (.ref ar), .val (.int (2 : Int32)), .val (.int (1 : Int32)), .val (.long q0), .second, .val (.int (q0 ^^^ x4).toInt32)] [])) (fun _ k => XS.icmpNo X0.here hx rfl (hb hby d3_19) rfl (tlt hc5).2.1 k) ?_
  refine own_go (st' := s₁.setTop (mkF m 23 #[.val (.ref ar), .val (.int ((31 : Int32) + (q0 ^^^ x4).toInt32)), .val (.ref ar), .val (.int (2 : Int32)), .val (.int (1 : Int32)), .val (.long q0), .second, .val (.int (q0 ^^^ x4).toInt32)] [(.ref ar)])) (fun _ k => XS.aloadN X0.here hx rfl (hb hby d3_22) rfl rfl k) ?_
  refine own_go (st' := s₁.setTop (mkF m 25 #[.val (.ref ar), .val (.int ((31 : Int32) + (q0 ^^^ x4).toInt32)), .val (.ref ar), .val (.int (2 : Int32)), .val (.int (1 : Int32)), .val (.long q0), .second, .val (.int (q0 ^^^ x4).toInt32)] [(.int (1 : Int32)), (.ref ar)])) (fun _ k => XS.iload X0.here hx rfl (hb hby d3_23) rfl k) ?_
  obtain ⟨cl6, Ar6, -, S6, M6, H6, -⟩ := id pr1
  have hin6 : ¬ ((1 : Int32) < 0 ∨ cl6.slots.size ≤ ((1 : Int32)).toNatClampNeg) := (inb_of S6 ⟨by decide, by decide⟩)
  have hat6 : cl6.slots[((1 : Int32)).toNatClampNeg]? = some (.long q1) := (H6.at hin6 rfl)
  refine own_go (st' := s₁.setTop (mkF m 26 #[.val (.ref ar), .val (.int ((31 : Int32) + (q0 ^^^ x4).toInt32)), .val (.ref ar), .val (.int (2 : Int32)), .val (.int (1 : Int32)), .val (.long q0), .second, .val (.int (q0 ^^^ x4).toInt32)] [(.long q1)])) (X0.laload hx (j := (1 : Int32)) (v := (.long q1)) (by rw [e0]; exact Ar6.1) (State.isArrayOf_alike hZ.alike Ar6.2.1) Ar6.2.2 hin6 hat6 (g := (mkF m 25 #[.val (.ref ar), .val (.int ((31 : Int32) + (q0 ^^^ x4).toInt32)), .val (.ref ar), .val (.int (2 : Int32)), .val (.int (1 : Int32)), .val (.long q0), .second, .val (.int (q0 ^^^ x4).toInt32)] [(.int (1 : Int32)), (.ref ar)])) rfl rfl (hb hby d3_25)) ?_
  refine own_go (st' := s₁.setTop (mkF m 28 #[.val (.ref ar), .val (.int ((31 : Int32) + (q0 ^^^ x4).toInt32)), .val (.ref ar), .val (.int (2 : Int32)), .val (.int (1 : Int32)), .val (.long q1), .second, .val (.int (q0 ^^^ x4).toInt32)] [])) (fun _ k => XS.lstore X0.here hx rfl (hb hby d3_26) rfl (l' := #[.val (.ref ar), .val (.int ((31 : Int32) + (q0 ^^^ x4).toInt32)), .val (.ref ar), .val (.int (2 : Int32)), .val (.int (1 : Int32)), .val (.long q1), .second, .val (.int (q0 ^^^ x4).toInt32)]) rfl k) ?_
  refine own_go (st' := s₁.setTop (mkF m 30 #[.val (.ref ar), .val (.int ((31 : Int32) + (q0 ^^^ x4).toInt32)), .val (.ref ar), .val (.int (2 : Int32)), .val (.int (1 : Int32)), .val (.long q1), .second, .val (.int (q0 ^^^ x4).toInt32)] [(.long q1)])) (fun _ k => XS.lload X0.here hx rfl (hb hby d3_28) rfl k) ?_
  refine own_go (st' := s₁.setTop (mkF m 32 #[.val (.ref ar), .val (.int ((31 : Int32) + (q0 ^^^ x4).toInt32)), .val (.ref ar), .val (.int (2 : Int32)), .val (.int (1 : Int32)), .val (.long q1), .second, .val (.int (q0 ^^^ x4).toInt32)] [(.long q1), (.long q1)])) (fun _ k => XS.lload X0.here hx rfl (hb hby d3_30) rfl k) ?_
  refine own_go (st' := s₁.setTop (mkF m 34 #[.val (.ref ar), .val (.int ((31 : Int32) + (q0 ^^^ x4).toInt32)), .val (.ref ar), .val (.int (2 : Int32)), .val (.int (1 : Int32)), .val (.long q1), .second, .val (.int (q0 ^^^ x4).toInt32)] [(.int (32 : Int32)), (.long q1), (.long q1)])) (fun _ k => XS.bipush X0.here hx rfl (hb hby d3_32) k) ?_
  obtain ⟨x7, hx7⟩ : ∃ z : Int64, z = ((q1.toUInt64 >>> ((32 : Int32) &&& 0x3f).toInt64.toUInt64).toInt64) := ⟨_, rfl⟩
  refine own_go (st' := s₁.setTop (mkF m 35 #[.val (.ref ar), .val (.int ((31 : Int32) + (q0 ^^^ x4).toInt32)), .val (.ref ar), .val (.int (2 : Int32)), .val (.int (1 : Int32)), .val (.long q1), .second, .val (.int (q0 ^^^ x4).toInt32)] [(.long x7), (.long q1)])) (fun _ k => XS.lushr X0.here hx rfl (hb hby d3_34) rfl (by rw [hx7] at k; exact k)) ?_
  refine own_go (st' := s₁.setTop (mkF m 36 #[.val (.ref ar), .val (.int ((31 : Int32) + (q0 ^^^ x4).toInt32)), .val (.ref ar), .val (.int (2 : Int32)), .val (.int (1 : Int32)), .val (.long q1), .second, .val (.int (q0 ^^^ x4).toInt32)] [(.long (q1 ^^^ x7))])) (fun _ k => XS.lxor X0.here hx rfl (hb hby d3_35) rfl k) ?_
  refine own_go (st' := s₁.setTop (mkF m 37 #[.val (.ref ar), .val (.int ((31 : Int32) + (q0 ^^^ x4).toInt32)), .val (.ref ar), .val (.int (2 : Int32)), .val (.int (1 : Int32)), .val (.long q1), .second, .val (.int (q0 ^^^ x4).toInt32)] [(.int (q1 ^^^ x7).toInt32)])) (fun _ k => XS.l2i X0.here hx rfl (hb hby d3_36) rfl k) ?_
  refine own_go (st' := s₁.setTop (mkF m 39 #[.val (.ref ar), .val (.int ((31 : Int32) + (q0 ^^^ x4).toInt32)), .val (.ref ar), .val (.int (2 : Int32)), .val (.int (1 : Int32)), .val (.long q1), .second, .val (.int (q1 ^^^ x7).toInt32)] [])) (fun _ k => XS.istore X0.here hx rfl (hb hby d3_37) rfl (l' := #[.val (.ref ar), .val (.int ((31 : Int32) + (q0 ^^^ x4).toInt32)), .val (.ref ar), .val (.int (2 : Int32)), .val (.int (1 : Int32)), .val (.long q1), .second, .val (.int (q1 ^^^ x7).toInt32)]) rfl k) ?_
  refine own_go (st' := s₁.setTop (mkF m 41 #[.val (.ref ar), .val (.int ((31 : Int32) + (q0 ^^^ x4).toInt32)), .val (.ref ar), .val (.int (2 : Int32)), .val (.int (1 : Int32)), .val (.long q1), .second, .val (.int (q1 ^^^ x7).toInt32)] [(.int (31 : Int32))])) (fun _ k => XS.bipush X0.here hx rfl (hb hby d3_39) k) ?_
  refine own_go (st' := s₁.setTop (mkF m 42 #[.val (.ref ar), .val (.int ((31 : Int32) + (q0 ^^^ x4).toInt32)), .val (.ref ar), .val (.int (2 : Int32)), .val (.int (1 : Int32)), .val (.long q1), .second, .val (.int (q1 ^^^ x7).toInt32)] [(.int ((31 : Int32) + (q0 ^^^ x4).toInt32)), (.int (31 : Int32))])) (fun _ k => XS.iloadN X0.here hx rfl (hb hby d3_41) rfl k) ?_
  refine own_go (st' := s₁.setTop (mkF m 43 #[.val (.ref ar), .val (.int ((31 : Int32) + (q0 ^^^ x4).toInt32)), .val (.ref ar), .val (.int (2 : Int32)), .val (.int (1 : Int32)), .val (.long q1), .second, .val (.int (q1 ^^^ x7).toInt32)] [(.int ((31 : Int32) * ((31 : Int32) + (q0 ^^^ x4).toInt32)))])) (fun _ k => XS.imul X0.here hx rfl (hb hby d3_42) rfl k) ?_
  refine own_go (st' := s₁.setTop (mkF m 45 #[.val (.ref ar), .val (.int ((31 : Int32) + (q0 ^^^ x4).toInt32)), .val (.ref ar), .val (.int (2 : Int32)), .val (.int (1 : Int32)), .val (.long q1), .second, .val (.int (q1 ^^^ x7).toInt32)] [(.int (q1 ^^^ x7).toInt32), (.int ((31 : Int32) * ((31 : Int32) + (q0 ^^^ x4).toInt32)))])) (fun _ k => XS.iload X0.here hx rfl (hb hby d3_43) rfl k) ?_
  obtain ⟨x8, hx8⟩ : ∃ z : Int32, z = (((31 : Int32) * ((31 : Int32) + (q0 ^^^ x4).toInt32)) + (q1 ^^^ x7).toInt32) := ⟨_, rfl⟩
  refine own_go (st' := s₁.setTop (mkF m 46 #[.val (.ref ar), .val (.int ((31 : Int32) + (q0 ^^^ x4).toInt32)), .val (.ref ar), .val (.int (2 : Int32)), .val (.int (1 : Int32)), .val (.long q1), .second, .val (.int (q1 ^^^ x7).toInt32)] [(.int x8)])) (fun _ k => XS.iadd X0.here hx rfl (hb hby d3_45) rfl (by rw [hx8] at k; exact k)) ?_
  refine own_go (st' := s₁.setTop (mkF m 47 #[.val (.ref ar), .val (.int x8), .val (.ref ar), .val (.int (2 : Int32)), .val (.int (1 : Int32)), .val (.long q1), .second, .val (.int (q1 ^^^ x7).toInt32)] [])) (fun _ k => XS.istoreN X0.here hx rfl (hb hby d3_46) rfl (l' := #[.val (.ref ar), .val (.int x8), .val (.ref ar), .val (.int (2 : Int32)), .val (.int (1 : Int32)), .val (.long q1), .second, .val (.int (q1 ^^^ x7).toInt32)]) rfl k) ?_
  refine own_go (st' := s₁.setTop (mkF m 50 #[.val (.ref ar), .val (.int x8), .val (.ref ar), .val (.int (2 : Int32)), .val (.int (2 : Int32)), .val (.long q1), .second, .val (.int (q1 ^^^ x7).toInt32)] [])) (fun _ k => XS.iinc X0.here hx rfl (hb hby d3_47) rfl (l' := #[.val (.ref ar), .val (.int x8), .val (.ref ar), .val (.int (2 : Int32)), .val (.int (2 : Int32)), .val (.long q1), .second, .val (.int (q1 ^^^ x7).toInt32)]) (by rw [show ((1 : Int32) + Int32.ofInt 1) = (2 : Int32) by decide]; rfl) k) ?_
  refine own_go (st' := s₁.setTop (mkF m 16 #[.val (.ref ar), .val (.int x8), .val (.ref ar), .val (.int (2 : Int32)), .val (.int (2 : Int32)), .val (.long q1), .second, .val (.int (q1 ^^^ x7).toInt32)] [])) (fun _ k => XS.goto X0.here hx rfl (pc0 := 50) (pc' := 16) rfl (hb hby d3_50) (by decide) (by decide) k) ?_
  refine own_go (st' := s₁.setTop (mkF m 18 #[.val (.ref ar), .val (.int x8), .val (.ref ar), .val (.int (2 : Int32)), .val (.int (2 : Int32)), .val (.long q1), .second, .val (.int (q1 ^^^ x7).toInt32)] [(.int (2 : Int32))])) (fun _ k => XS.iload X0.here hx rfl (hb hby d3_16) rfl k) ?_
  refine own_go (st' := s₁.setTop (mkF m 19 #[.val (.ref ar), .val (.int x8), .val (.ref ar), .val (.int (2 : Int32)), .val (.int (2 : Int32)), .val (.long q1), .second, .val (.int (q1 ^^^ x7).toInt32)] [(.int (2 : Int32)), (.int (2 : Int32))])) (fun _ k => XS.iloadN X0.here hx rfl (hb hby d3_18) rfl k) ?_
  have hc9 : ¬ ((2 : Int32) < (2 : Int32)) := by decide
  refine own_go (st' := s₁.setTop (mkF m 53 #[.val (.ref ar), .val (.int x8), .val (.ref ar), .val (.int (2 : Int32)), .val (.int (2 : Int32)), .val (.long q1), .second, .val (.int (q1 ^^^ x7).toInt32)] [])) (fun _ k => XS.icmpYes X0.here hx rfl (pc0 := 19) (pc' := 53) rfl (hb hby d3_19) rfl (flt hc9).2.1 (by decide) (by decide) k) ?_
  refine own_go (st' := s₁.setTop (mkF m 54 #[.val (.ref ar), .val (.int x8), .val (.ref ar), .val (.int (2 : Int32)), .val (.int (2 : Int32)), .val (.long q1), .second, .val (.int (q1 ^^^ x7).toInt32)] [(.int x8)])) (fun _ k => XS.iloadN X0.here hx rfl (hb hby d3_53) rfl k) ?_
  obtain ⟨fs, hr, hrun, hended, hW, hsame⟩ := X0.leave (v := some (.int x8)) (fun h => by rw [Bd.returns] at h; cases h)
  refine ⟨_, _, ?_, hP _ _ hrun hended ⟨_, _, rfl, ?_, ⟨_, rfl⟩, hW, hsame.mono (by decide) (by decide)⟩⟩
  · exact retOut X0 hx Bd.returns rfl (Or.inl ⟨rfl, Or.inl rfl, _, rfl⟩) (hb hby d3_54) hr
  · show Qrm3_2 Z ar ka q0 q1 h0 n0 _ s₁.heap _
    rw [e0]
    exact ⟨x8, rfl, N0, rfl⟩
theorem ef_rm1_2 (m : MethodId) (x0 : Addr) (x1 : Int32) (x2 : Addr) : entryFrame m #[(.ref x0), (.int x1), (.ref x2)] 3 = mkF m 0 #[.val (.ref x0), .val (.int x1), .val (.ref x2)] [] := by first | (simp [entryFrame, mkF, argsToLocals, Value.category]; done) | rfl
def Qrm1_2 (Z : State) (a1 : Addr) (p2 : Int32) (ar : Addr) (ka : ClassId) (u1 : Int32) (u2 : Int32) (q0 : Int64) (q1 : Int64) (h0 : Heap) (n0 : Nat) (v : Option Value) (h : Heap) (L : List Loc) : Prop := (v = none) ∧ (Fr n0 L) ∧ (Keep h0 h [a1]) ∧ (Exa Z h a1 "com/example/millwright/millwright/cut/Pattern") ∧ (Fld Z h a1 "com/example/millwright/millwright/cut/Pattern" "counts" "[J" (.ref ar))
set_option maxRecDepth 65536 in
set_option maxHeartbeats 40000000 in
theorem rm1_2 (l : Launch) (Z : State) (a0 : Array Value) (hw : ∀ d ∈ tables_1, d.before a0 Z = true) (ws : List Jvm.Cond) (a1 : Addr) (p2 : Int32) (ar : Addr) (ka : ClassId) (u1 : Int32) (u2 : Int32) (q0 : Int64) (q1 : Int64) (h0 : Heap) (n0 : Nat) (Z0 : n0 ≤ h0.size) (pr1 : Exa Z h0 a1 "com/example/millwright/millwright/cut/Pattern") (pr2 : Fld Z h0 a1 "com/example/millwright/millwright/cut/Pattern" "stock" "I" (.int u1)) (pr3 : Fld Z h0 a1 "com/example/millwright/millwright/cut/Pattern" "counts" "[J" .null) (pr4 : Fld Z h0 a1 "com/example/millwright/millwright/cut/Pattern" "hash" "I" (.int u2)) (pr5 : Arv Z h0 ar ka .long (2 : Int32) [(.long q0), (.long q1)] (.long (0 : Int64))) (pr6 : n0 ≤ a1) (pr7 : a1 ≠ ar) :
    MetFree l (⟨"com/example/millwright/millwright/cut/Pattern", "<init>", "(I[J)V"⟩ : MethodName) (head1 (Jvm.Cond.code (⟨"com/example/millwright/millwright/cut/Pattern", "<init>", "(I[J)V"⟩ : MethodName) prog_22_method_1_code 3 none :: ws) ({ frames := 1, cells := 0, slots := 0, locals := 21 } : Room)) (fun a U => a = #[(.ref a1), (.int p2), (.ref ar)] ∧ Z.Warmed39 U.vm ∧ U.heap = h0) (fun _ _ _ _ _ => True) (fun _ U o U' => ∃ v L, o = .returned v ∧ Qrm1_2 Z a1 p2 ar ka u1 u2 q0 q1 h0 n0 v U'.heap L ∧ FrameEnd U o U' L ({ frames := 1, cells := 0, slots := 0, locals := 21 } : Room).cells ({ frames := 1, cells := 0, slots := 0, locals := 21 } : Room).slots) := by
  refine MetFree.of_bodySF (plainFor_of_name pn_1) hisR ?_
  intro p e s m args below meth c s₁ Bd hml0 hP0 hK
  obtain ⟨rfl, hZ, hh⟩ := hP0
  have hx := Bd.exec
  have hby := Bd.bytes
  have hml : c.maxLocals = 3 := hml0
  have hown : s.vm.findClass "com/example/millwright/millwright/cut/Pattern" = some m.cls := findClass_of_methodNamed Bd.named
  have hnm := (name_of_methodNamed Bd.named Bd.method).1
  have X0 : Stand p l e ({ frames := 1, cells := 0, slots := 0, locals := 21 } : Room) s m #[(.ref a1), (.int p2), (.ref ar)] below meth c s₁ [] 0 0 := Stand.of_body Bd
  have e0 : s₁.heap = h0 := by rw [← hh, Bd.state]; rfl
  have N0 := Fr.nil n0
  suffices own_H : ∀ (P : State → Outcome → Prop), (∀ U o, U.status = .running → Ended U below o → (∃ v L, o = .returned v ∧ Qrm1_2 Z a1 p2 ar ka u1 u2 q0 q1 h0 n0 v U.heap L ∧ FrameEnd s o U L ({ frames := 1, cells := 0, slots := 0, locals := 21 } : Room).cells ({ frames := 1, cells := 0, slots := 0, locals := 21 } : Room).slots) → P U o) → own_Go p.tables e below P (s₁.setTop (mkF m 0 #[.val (.ref a1), .val (.int p2), .val (.ref ar)] [])) from own_go (fun _ k => castTop (ef_rm1_2 m a1 p2 ar) k) (own_H _ (fun U o h1 h2 h3 => ⟨h1, h2, h3⟩))
  intro P hP
  have lt_a1 : a1 < h0.size := pr1.lt
  have lt_ar : ar < h0.size := pr5.lt
  refine own_go (st' := s₁.setTop (mkF m 1 #[.val (.ref a1), .val (.int p2), .val (.ref ar)] [(.ref a1)])) (fun _ k => XS.aloadN X0.here hx rfl (hb hby d1_0) rfl rfl k) ?_
  obtain ⟨T1, X1, e1, st1⟩ := initO X0 hx hZ hown (hw _ (List.mem_of_getElem? (i := 8) rfl)) (hw _ (List.mem_of_getElem? (i := 9) rfl)) (hw _ (List.mem_of_getElem? (i := 10) rfl)) e0 (g := (mkF m 1 #[.val (.ref a1), .val (.int p2), .val (.ref ar)] [(.ref a1)])) rfl (by rw [hml]; rfl) rfl (hb hby d1_1) (by decide) (W := 0) (by show 2 * 0 + _ ≤ _; exact Nat.le_of_eq rfl) (by decide)
  refine own_go (st' := T1.setTop (mkF m 4 #[.val (.ref a1), .val (.int p2), .val (.ref ar)] [])) (st1) ?_
  refine own_go (st' := T1.setTop (mkF m 5 #[.val (.ref a1), .val (.int p2), .val (.ref ar)] [(.ref a1)])) (fun _ k => XS.aloadN X1.here hx rfl (hb hby d1_4) rfl rfl k) ?_
  refine own_go (st' := T1.setTop (mkF m 6 #[.val (.ref a1), .val (.int p2), .val (.ref ar)] [(.int p2), (.ref a1)])) (fun _ k => XS.iloadN X1.here hx rfl (hb hby d1_5) rfl k) ?_
  obtain ⟨T2, h2, X2, e2, W2, st2⟩ := putF X1 hx hZ hown (host := "") (Or.inl (hw _ (List.mem_of_getElem? (i := 11) rfl))) Via.refl e1 pr2 pr1 (Or.inr ⟨(hw _ (List.mem_of_getElem? (i := 12) rfl)), rfl, hnm⟩) (hw _ (List.mem_of_getElem? (i := 3) rfl)) (ty := .int) (by decide) rfl rfl (g := (mkF m 6 #[.val (.ref a1), .val (.int p2), .val (.ref ar)] [(.int p2), (.ref a1)])) rfl rfl (hb hby d1_6)
  have sz2 : h2.size = h0.size := W2.size
  have N2 := Fr.snoc X2 N0 (by omega)
  have f2 : Fld Z h2 a1 "com/example/millwright/millwright/cut/Pattern" "stock" "I" (.int p2) := pr2.same W2
  refine own_go (st' := T2.setTop (mkF m 9 #[.val (.ref a1), .val (.int p2), .val (.ref ar)] [])) (st2) ?_
  refine own_go (st' := T2.setTop (mkF m 10 #[.val (.ref a1), .val (.int p2), .val (.ref ar)] [(.ref a1)])) (fun _ k => XS.aloadN X2.here hx rfl (hb hby d1_9) rfl rfl k) ?_
  refine own_go (st' := T2.setTop (mkF m 11 #[.val (.ref a1), .val (.int p2), .val (.ref ar)] [(.ref ar), (.ref a1)])) (fun _ k => XS.aloadN X2.here hx rfl (hb hby d1_10) rfl rfl k) ?_
  have c3 : Fld Z h2 a1 "com/example/millwright/millwright/cut/Pattern" "counts" "[J" .null := (pr3.other W2 (Or.inr (slot_ne (Or.inr (hw _ (List.mem_of_getElem? (i := 14) rfl))) (Or.inr (hw _ (List.mem_of_getElem? (i := 12) rfl))) (by decide) (t := (.array .long)) (t' := .int) (by decide) (by decide))))
  have c4 : Exa Z h2 a1 "com/example/millwright/millwright/cut/Pattern" := (pr1.wr W2)
  obtain ⟨T5, h5, X5, e5, W5, st5⟩ := putF X2 hx hZ hown (host := "") (Or.inl (hw _ (List.mem_of_getElem? (i := 13) rfl))) Via.refl e2 c3 c4 (Or.inr ⟨(hw _ (List.mem_of_getElem? (i := 14) rfl)), rfl, hnm⟩) (hw _ (List.mem_of_getElem? (i := 3) rfl)) (ty := (.array .long)) (by decide) rfl rfl (g := (mkF m 11 #[.val (.ref a1), .val (.int p2), .val (.ref ar)] [(.ref ar), (.ref a1)])) rfl rfl (hb hby d1_11)
  have sz5 : h5.size = h2.size := W5.size
  have N5 := Fr.snoc X5 N2 (by omega)
  have f5 : Fld Z h5 a1 "com/example/millwright/millwright/cut/Pattern" "counts" "[J" (.ref ar) := c3.same W5
  refine own_go (st' := T5.setTop (mkF m 14 #[.val (.ref a1), .val (.int p2), .val (.ref ar)] [])) (st5) ?_
  refine own_go (st' := T5.setTop (mkF m 15 #[.val (.ref a1), .val (.int p2), .val (.ref ar)] [(.ref a1)])) (fun _ k => XS.aloadN X5.here hx rfl (hb hby d1_14) rfl rfl k) ?_
  refine own_go (st' := T5.setTop (mkF m 17 #[.val (.ref a1), .val (.int p2), .val (.ref ar)] [(.int (31 : Int32)), (.ref a1)])) (fun _ k => XS.bipush X5.here hx rfl (hb hby d1_15) k) ?_
  refine own_go (st' := T5.setTop (mkF m 18 #[.val (.ref a1), .val (.int p2), .val (.ref ar)] [(.int p2), (.int (31 : Int32)), (.ref a1)])) (fun _ k => XS.iloadN X5.here hx rfl (hb hby d1_17) rfl k) ?_
  refine own_go (st' := T5.setTop (mkF m 19 #[.val (.ref a1), .val (.int p2), .val (.ref ar)] [(.int ((31 : Int32) * p2)), (.ref a1)])) (fun _ k => XS.imul X5.here hx rfl (hb hby d1_18) rfl k) ?_
  refine own_go (st' := T5.setTop (mkF m 20 #[.val (.ref a1), .val (.int p2), .val (.ref ar)] [(.ref ar), (.int ((31 : Int32) * p2)), (.ref a1)])) (fun _ k => XS.aloadN X5.here hx rfl (hb hby d1_19) rfl rfl k) ?_
  have c7 : Arv Z h5 ar ka .long (2 : Int32) [(.long q0), (.long q1)] (.long (0 : Int64)) := ((pr5.other W2 (by first | assumption | exact Ne.symm (by assumption) | (apply Nat.ne_of_lt; omega) | (apply Nat.ne_of_gt; omega))).other W5 (by first | assumption | exact Ne.symm (by assumption) | (apply Nat.ne_of_lt; omega) | (apply Nat.ne_of_gt; omega)))
  obtain ⟨_, _, ⟨T6, LC6, kC6, nC6⟩, -, X6, ⟨Lc6, hQ6, lq6, yq6, zq6⟩, st6⟩ := Jvm.LawKit.callS X5 hx (y := (⟨"java/util/Arrays", "hashCode", "([J)I"⟩ : MethodName)) hown (mvT hZ (hw _ (List.mem_of_getElem? (i := 15) rfl))) (mvT hZ (hw _ (List.mem_of_getElem? (i := 16) rfl))) (mvT hZ (hw _ (List.mem_of_getElem? (i := 17) rfl))) (mvT hZ (hw _ (List.mem_of_getElem? (i := 18) rfl))) (by decide) (backOf (W := 2) (rm3_2 l Z a0 hw [] ar ka q0 q1 h5 n0 (by omega) c7) hZ (hw _ (List.mem_of_getElem? (i := 18) rfl)) (hw _ (List.mem_of_getElem? (i := 17) rfl)) (by decide) (by decide)) (g := (mkF m 20 #[.val (.ref a1), .val (.int p2), .val (.ref ar)] [(.ref ar), (.int ((31 : Int32) * p2)), (.ref a1)])) rfl (by rw [hml]; rfl) (argsL := [(.ref ar)]) (rest := [(.int ((31 : Int32) * p2)), (.ref a1)]) (lenOf pd_0 rfl) rfl (by show 2 * 0 + _ ≤ _; exact Nat.le_of_eq rfl) (hb hby d1_20) (fun _ _ => ⟨rfl, e5, (by decide : 0 + 0 ≤ _), (by decide : 0 + 0 ≤ _)⟩)
  dsimp only [Pt.U, Pt.locs, Pt.cells, Pt.slots] at X6 lq6 yq6 zq6 st6 hQ6
  subst lq6 yq6 zq6
  obtain ⟨z_6, rfl, Nq6, eq6⟩ := hQ6
  have N6 := Fr.app N5 Nq6
  refine own_go (st' := T6.setTop (mkF m 23 #[.val (.ref a1), .val (.int p2), .val (.ref ar)] [(.int z_6), (.int ((31 : Int32) * p2)), (.ref a1)])) (fun t k => st6 t k) ?_
  refine own_go (st' := T6.setTop (mkF m 24 #[.val (.ref a1), .val (.int p2), .val (.ref ar)] [(.int (((31 : Int32) * p2) + z_6)), (.ref a1)])) (fun _ k => XS.iadd X6.here hx rfl (hb hby d1_23) rfl k) ?_
  have c8 : Fld Z h5 a1 "com/example/millwright/millwright/cut/Pattern" "hash" "I" (.int u2) := ((pr4.other W2 (Or.inr (slot_ne (Or.inr (hw _ (List.mem_of_getElem? (i := 20) rfl))) (Or.inr (hw _ (List.mem_of_getElem? (i := 12) rfl))) (by decide) (t := .int) (t' := .int) (by decide) (by decide)))).other W5 (Or.inr (slot_ne (Or.inr (hw _ (List.mem_of_getElem? (i := 20) rfl))) (Or.inr (hw _ (List.mem_of_getElem? (i := 14) rfl))) (by decide) (t := .int) (t' := (.array .long)) (by decide) (by decide))))
  have c9 : Exa Z h5 a1 "com/example/millwright/millwright/cut/Pattern" := (c4.wr W5)
  obtain ⟨T10, h10, X10, e10, W10, st10⟩ := putF X6 hx hZ hown (host := "") (Or.inl (hw _ (List.mem_of_getElem? (i := 19) rfl))) Via.refl eq6 c8 c9 (Or.inr ⟨(hw _ (List.mem_of_getElem? (i := 20) rfl)), rfl, hnm⟩) (hw _ (List.mem_of_getElem? (i := 3) rfl)) (ty := .int) (by decide) rfl rfl (g := (mkF m 24 #[.val (.ref a1), .val (.int p2), .val (.ref ar)] [(.int (((31 : Int32) * p2) + z_6)), (.ref a1)])) rfl rfl (hb hby d1_24)
  have sz10 : h10.size = h5.size := W10.size
  have N10 := Fr.snoc X10 N6 (by omega)
  have f10 : Fld Z h10 a1 "com/example/millwright/millwright/cut/Pattern" "hash" "I" (.int (((31 : Int32) * p2) + z_6)) := c8.same W10
  refine own_go (st' := T10.setTop (mkF m 27 #[.val (.ref a1), .val (.int p2), .val (.ref ar)] [])) (st10) ?_
  obtain ⟨fs, hr, hrun, hended, hW, hsame⟩ := X10.leave (v := none) (fun _ => rfl)
  refine ⟨_, _, ?_, hP _ _ hrun hended ⟨_, _, rfl, ?_, ⟨_, rfl⟩, hW, hsame.mono (by decide) (by decide)⟩⟩
  · exact X10.returnOut hx Bd.returns (hb hby d1_27) hr
  · show Qrm1_2 Z a1 p2 ar ka u1 u2 q0 q1 h0 n0 _ T10.heap _
    have c12 : Exa Z h10 a1 "com/example/millwright/millwright/cut/Pattern" := (c9.wr W10)
    have c13 : Fld Z h10 a1 "com/example/millwright/millwright/cut/Pattern" "counts" "[J" (.ref ar) := (f5.other W10 (Or.inr (slot_ne (Or.inr (hw _ (List.mem_of_getElem? (i := 14) rfl))) (Or.inr (hw _ (List.mem_of_getElem? (i := 20) rfl))) (by decide) (t := (.array .long)) (t' := .int) (by decide) (by decide))))
    rw [e10]
    exact ⟨rfl, N10, ((((Keep.refl h0 [a1]).wr W2 (Or.inl (List.mem_of_getElem? (i := 0) rfl))).wr W5 (Or.inl (List.mem_of_getElem? (i := 0) rfl))).wr W10 (Or.inl (List.mem_of_getElem? (i := 0) rfl))), c12, c13⟩
theorem ef_rm4_2 (m : MethodId) (x0 : Addr) : entryFrame m #[(.ref x0)] 8 = mkF m 0 #[.val (.ref x0), .unset, .unset, .unset, .unset, .unset, .unset, .unset] [] := by first | (simp [entryFrame, mkF, argsToLocals, Value.category]; done) | rfl
def Qrm4_2 (Z : State) (a1 : Addr) (ar : Addr) (ka : ClassId) (q0 : Int64) (q1 : Int64) (h0 : Heap) (n0 : Nat) (v : Option Value) (h : Heap) (L : List Loc) : Prop := (v = some (.long (((0 : Int64) + q0) + q1))) ∧ (Fr n0 L) ∧ (h = h0)
set_option maxRecDepth 65536 in
set_option maxHeartbeats 40000000 in
theorem rm4_2 (l : Launch) (Z : State) (a0 : Array Value) (hw : ∀ d ∈ tables_1, d.before a0 Z = true) (ws : List Jvm.Cond) (a1 : Addr) (ar : Addr) (ka : ClassId) (q0 : Int64) (q1 : Int64) (h0 : Heap) (n0 : Nat) (Z0 : n0 ≤ h0.size) (pr1 : Fld Z h0 a1 "com/example/millwright/millwright/cut/Pattern" "counts" "[J" (.ref ar)) (pr2 : Arv Z h0 ar ka .long (2 : Int32) [(.long q0), (.long q1)] (.long (0 : Int64))) :
    MetFree l (⟨"com/example/millwright/millwright/cut/Pattern", "pieceCount", "()J"⟩ : MethodName) (head1 (Jvm.Cond.code (⟨"com/example/millwright/millwright/cut/Pattern", "pieceCount", "()J"⟩ : MethodName) prog_22_method_4_code 8 (some .long) :: ws) ({ frames := 0, cells := 0, slots := 0, locals := 0 } : Room)) (fun a U => a = #[(.ref a1)] ∧ Z.Warmed39 U.vm ∧ U.heap = h0) (fun _ _ _ _ _ => True) (fun _ U o U' => ∃ v L, o = .returned v ∧ Qrm4_2 Z a1 ar ka q0 q1 h0 n0 v U'.heap L ∧ FrameEnd U o U' L ({ frames := 0, cells := 0, slots := 0, locals := 0 } : Room).cells ({ frames := 0, cells := 0, slots := 0, locals := 0 } : Room).slots) := by
  refine MetFree.of_bodySF (plainFor_of_name pn_4) hisR ?_
  intro p e s m args below meth c s₁ Bd hml0 hP0 hK
  obtain ⟨rfl, hZ, hh⟩ := hP0
  have hx := Bd.exec
  have hby := Bd.bytes
  have hml : c.maxLocals = 8 := hml0
  have hown : s.vm.findClass "com/example/millwright/millwright/cut/Pattern" = some m.cls := findClass_of_methodNamed Bd.named
  have hnm := (name_of_methodNamed Bd.named Bd.method).1
  have X0 : Stand p l e ({ frames := 0, cells := 0, slots := 0, locals := 0 } : Room) s m #[(.ref a1)] below meth c s₁ [] 0 0 := Stand.of_body Bd
  have e0 : s₁.heap = h0 := by rw [← hh, Bd.state]; rfl
  have N0 := Fr.nil n0
  suffices own_H : ∀ (P : State → Outcome → Prop), (∀ U o, U.status = .running → Ended U below o → (∃ v L, o = .returned v ∧ Qrm4_2 Z a1 ar ka q0 q1 h0 n0 v U.heap L ∧ FrameEnd s o U L ({ frames := 0, cells := 0, slots := 0, locals := 0 } : Room).cells ({ frames := 0, cells := 0, slots := 0, locals := 0 } : Room).slots) → P U o) → own_Go p.tables e below P (s₁.setTop (mkF m 0 #[.val (.ref a1), .unset, .unset, .unset, .unset, .unset, .unset, .unset] [])) from own_go (fun _ k => castTop (ef_rm4_2 m a1) k) (own_H _ (fun U o h1 h2 h3 => ⟨h1, h2, h3⟩))
  intro P hP
  have lt_a1 : a1 < h0.size := pr1.lt
  have lt_ar : ar < h0.size := pr2.lt
  refine own_go (st' := s₁.setTop (mkF m 1 #[.val (.ref a1), .unset, .unset, .unset, .unset, .unset, .unset, .unset] [(.long (0 : Int64))])) (fun _ k => XS.lconst X0.here hx rfl (hb hby d4_0) k) ?_
  refine own_go (st' := s₁.setTop (mkF m 2 #[.val (.ref a1), .val (.long (0 : Int64)), .second, .unset, .unset, .unset, .unset, .unset] [])) (fun _ k => XS.lstoreN X0.here hx rfl (hb hby d4_1) rfl (l' := #[.val (.ref a1), .val (.long (0 : Int64)), .second, .unset, .unset, .unset, .unset, .unset]) rfl k) ?_
  refine own_go (st' := s₁.setTop (mkF m 3 #[.val (.ref a1), .val (.long (0 : Int64)), .second, .unset, .unset, .unset, .unset, .unset] [(.ref a1)])) (fun _ k => XS.aloadN X0.here hx rfl (hb hby d4_2) rfl rfl k) ?_
  obtain ⟨T1, X1, e1, st1⟩ := getF X0 hx hZ hown (host := "") (Or.inl (hw _ (List.mem_of_getElem? (i := 13) rfl))) Via.refl e0 pr1 (g := (mkF m 3 #[.val (.ref a1), .val (.long (0 : Int64)), .second, .unset, .unset, .unset, .unset, .unset] [(.ref a1)])) rfl rfl (hb hby d4_3)
  refine own_go (st' := T1.setTop (mkF m 6 #[.val (.ref a1), .val (.long (0 : Int64)), .second, .unset, .unset, .unset, .unset, .unset] [(.ref ar)])) (st1) ?_
  refine own_go (st' := T1.setTop (mkF m 7 #[.val (.ref a1), .val (.long (0 : Int64)), .second, .val (.ref ar), .unset, .unset, .unset, .unset] [])) (fun _ k => XS.astoreN X1.here hx rfl (hb hby d4_6) rfl rfl (l' := #[.val (.ref a1), .val (.long (0 : Int64)), .second, .val (.ref ar), .unset, .unset, .unset, .unset]) rfl k) ?_
  refine own_go (st' := T1.setTop (mkF m 8 #[.val (.ref a1), .val (.long (0 : Int64)), .second, .val (.ref ar), .unset, .unset, .unset, .unset] [(.ref ar)])) (fun _ k => XS.aloadN X1.here hx rfl (hb hby d4_7) rfl rfl k) ?_
  obtain ⟨cl2, Ar2, -, S2, M2, -, -⟩ := id pr2
  refine own_go (st' := T1.setTop (mkF m 9 #[.val (.ref a1), .val (.long (0 : Int64)), .second, .val (.ref ar), .unset, .unset, .unset, .unset] [(.int (2 : Int32))])) (fun t k => X1.arraylength hx (by rw [e1]; exact Ar2.1) (State.isArrayOf_alike hZ.alike Ar2.2.1) (g := (mkF m 8 #[.val (.ref a1), .val (.long (0 : Int64)), .second, .val (.ref ar), .unset, .unset, .unset, .unset] [(.ref ar)])) rfl rfl (hb hby d4_8) t (by rw [len_of S2 M2]; exact k)) ?_
  refine own_go (st' := T1.setTop (mkF m 11 #[.val (.ref a1), .val (.long (0 : Int64)), .second, .val (.ref ar), .val (.int (2 : Int32)), .unset, .unset, .unset] [])) (fun _ k => XS.istore X1.here hx rfl (hb hby d4_9) rfl (l' := #[.val (.ref a1), .val (.long (0 : Int64)), .second, .val (.ref ar), .val (.int (2 : Int32)), .unset, .unset, .unset]) rfl k) ?_
  refine own_go (st' := T1.setTop (mkF m 12 #[.val (.ref a1), .val (.long (0 : Int64)), .second, .val (.ref ar), .val (.int (2 : Int32)), .unset, .unset, .unset] [(.int (0 : Int32))])) (fun _ k => XS.iconst X1.here hx rfl (hb hby d4_11) k) ?_
  refine own_go (st' := T1.setTop (mkF m 14 #[.val (.ref a1), .val (.long (0 : Int64)), .second, .val (.ref ar), .val (.int (2 : Int32)), .val (.int (0 : Int32)), .unset, .unset] [])) (fun _ k => XS.istore X1.here hx rfl (hb hby d4_12) rfl (l' := #[.val (.ref a1), .val (.long (0 : Int64)), .second, .val (.ref ar), .val (.int (2 : Int32)), .val (.int (0 : Int32)), .unset, .unset]) rfl k) ?_
  refine own_go (st' := T1.setTop (mkF m 16 #[.val (.ref a1), .val (.long (0 : Int64)), .second, .val (.ref ar), .val (.int (2 : Int32)), .val (.int (0 : Int32)), .unset, .unset] [(.int (0 : Int32))])) (fun _ k => XS.iload X1.here hx rfl (hb hby d4_14) rfl k) ?_
  refine own_go (st' := T1.setTop (mkF m 18 #[.val (.ref a1), .val (.long (0 : Int64)), .second, .val (.ref ar), .val (.int (2 : Int32)), .val (.int (0 : Int32)), .unset, .unset] [(.int (2 : Int32)), (.int (0 : Int32))])) (fun _ k => XS.iload X1.here hx rfl (hb hby d4_16) rfl k) ?_
  have hc3 : (0 : Int32) < (2 : Int32) := by decide
  refine own_go (st' := T1.setTop (mkF m 21 #[.val (.ref a1), .val (.long (0 : Int64)), .second, .val (.ref ar), .val (.int (2 : Int32)), .val (.int (0 : Int32)), .unset, .unset] [])) (fun _ k => XS.icmpNo X1.here hx rfl (hb hby d4_18) rfl (tlt hc3).2.1 k) ?_
  refine own_go (st' := T1.setTop (mkF m 22 #[.val (.ref a1), .val (.long (0 : Int64)), .second, .val (.ref ar), .val (.int (2 : Int32)), .val (.int (0 : Int32)), .unset, .unset] [(.ref ar)])) (fun _ k => XS.aloadN X1.here hx rfl (hb hby d4_21) rfl rfl k) ?_
  refine own_go (st' := T1.setTop (mkF m 24 #[.val (.ref a1), .val (.long (0 : Int64)), .second, .val (.ref ar), .val (.int (2 : Int32)), .val (.int (0 : Int32)), .unset, .unset] [(.int (0 : Int32)), (.ref ar)])) (fun _ k => XS.iload X1.here hx rfl (hb hby d4_22) rfl k) ?_
  obtain ⟨cl4, Ar4, -, S4, M4, H4, -⟩ := id pr2
  have hin4 : ¬ ((0 : Int32) < 0 ∨ cl4.slots.size ≤ ((0 : Int32)).toNatClampNeg) := (inb_of S4 ⟨by decide, by decide⟩)
  have hat4 : cl4.slots[((0 : Int32)).toNatClampNeg]? = some (.long q0) := (H4.at hin4 rfl)
  refine own_go (st' := T1.setTop (mkF m 25 #[.val (.ref a1), .val (.long (0 : Int64)), .second, .val (.ref ar), .val (.int (2 : Int32)), .val (.int (0 : Int32)), .unset, .unset] [(.long q0)])) (X1.laload hx (j := (0 : Int32)) (v := (.long q0)) (by rw [e1]; exact Ar4.1) (State.isArrayOf_alike hZ.alike Ar4.2.1) Ar4.2.2 hin4 hat4 (g := (mkF m 24 #[.val (.ref a1), .val (.long (0 : Int64)), .second, .val (.ref ar), .val (.int (2 : Int32)), .val (.int (0 : Int32)), .unset, .unset] [(.int (0 : Int32)), (.ref ar)])) rfl rfl (hb hby d4_24)) ?_
  refine own_go (st' := T1.setTop (mkF m 27 #[.val (.ref a1), .val (.long (0 : Int64)), .second, .val (.ref ar), .val (.int (2 : Int32)), .val (.int (0 : Int32)), .val (.long q0), .second] [])) (fun _ k => XS.lstore X1.here hx rfl (hb hby d4_25) rfl (l' := #[.val (.ref a1), .val (.long (0 : Int64)), .second, .val (.ref ar), .val (.int (2 : Int32)), .val (.int (0 : Int32)), .val (.long q0), .second]) rfl k) ?_
  refine own_go (st' := T1.setTop (mkF m 28 #[.val (.ref a1), .val (.long (0 : Int64)), .second, .val (.ref ar), .val (.int (2 : Int32)), .val (.int (0 : Int32)), .val (.long q0), .second] [(.long (0 : Int64))])) (fun _ k => XS.lloadN X1.here hx rfl (hb hby d4_27) rfl k) ?_
  refine own_go (st' := T1.setTop (mkF m 30 #[.val (.ref a1), .val (.long (0 : Int64)), .second, .val (.ref ar), .val (.int (2 : Int32)), .val (.int (0 : Int32)), .val (.long q0), .second] [(.long q0), (.long (0 : Int64))])) (fun _ k => XS.lload X1.here hx rfl (hb hby d4_28) rfl k) ?_
  refine own_go (st' := T1.setTop (mkF m 31 #[.val (.ref a1), .val (.long (0 : Int64)), .second, .val (.ref ar), .val (.int (2 : Int32)), .val (.int (0 : Int32)), .val (.long q0), .second] [(.long ((0 : Int64) + q0))])) (fun _ k => XS.ladd X1.here hx rfl (hb hby d4_30) rfl k) ?_
  refine own_go (st' := T1.setTop (mkF m 32 #[.val (.ref a1), .val (.long ((0 : Int64) + q0)), .second, .val (.ref ar), .val (.int (2 : Int32)), .val (.int (0 : Int32)), .val (.long q0), .second] [])) (fun _ k => XS.lstoreN X1.here hx rfl (hb hby d4_31) rfl (l' := #[.val (.ref a1), .val (.long ((0 : Int64) + q0)), .second, .val (.ref ar), .val (.int (2 : Int32)), .val (.int (0 : Int32)), .val (.long q0), .second]) rfl k) ?_
  refine own_go (st' := T1.setTop (mkF m 35 #[.val (.ref a1), .val (.long ((0 : Int64) + q0)), .second, .val (.ref ar), .val (.int (2 : Int32)), .val (.int (1 : Int32)), .val (.long q0), .second] [])) (fun _ k => XS.iinc X1.here hx rfl (hb hby d4_32) rfl (l' := #[.val (.ref a1), .val (.long ((0 : Int64) + q0)), .second, .val (.ref ar), .val (.int (2 : Int32)), .val (.int (1 : Int32)), .val (.long q0), .second]) (by rw [show ((0 : Int32) + Int32.ofInt 1) = (1 : Int32) by decide]; rfl) k) ?_
  refine own_go (st' := T1.setTop (mkF m 14 #[.val (.ref a1), .val (.long ((0 : Int64) + q0)), .second, .val (.ref ar), .val (.int (2 : Int32)), .val (.int (1 : Int32)), .val (.long q0), .second] [])) (fun _ k => XS.goto X1.here hx rfl (pc0 := 35) (pc' := 14) rfl (hb hby d4_35) (by decide) (by decide) k) ?_
  refine own_go (st' := T1.setTop (mkF m 16 #[.val (.ref a1), .val (.long ((0 : Int64) + q0)), .second, .val (.ref ar), .val (.int (2 : Int32)), .val (.int (1 : Int32)), .val (.long q0), .second] [(.int (1 : Int32))])) (fun _ k => XS.iload X1.here hx rfl (hb hby d4_14) rfl k) ?_
  refine own_go (st' := T1.setTop (mkF m 18 #[.val (.ref a1), .val (.long ((0 : Int64) + q0)), .second, .val (.ref ar), .val (.int (2 : Int32)), .val (.int (1 : Int32)), .val (.long q0), .second] [(.int (2 : Int32)), (.int (1 : Int32))])) (fun _ k => XS.iload X1.here hx rfl (hb hby d4_16) rfl k) ?_
  have hc5 : (1 : Int32) < (2 : Int32) := by decide
  refine own_go (st' := T1.setTop (mkF m 21 #[.val (.ref a1), .val (.long ((0 : Int64) + q0)), .second, .val (.ref ar), .val (.int (2 : Int32)), .val (.int (1 : Int32)), .val (.long q0), .second] [])) (fun _ k => XS.icmpNo X1.here hx rfl (hb hby d4_18) rfl (tlt hc5).2.1 k) ?_
  refine own_go (st' := T1.setTop (mkF m 22 #[.val (.ref a1), .val (.long ((0 : Int64) + q0)), .second, .val (.ref ar), .val (.int (2 : Int32)), .val (.int (1 : Int32)), .val (.long q0), .second] [(.ref ar)])) (fun _ k => XS.aloadN X1.here hx rfl (hb hby d4_21) rfl rfl k) ?_
  refine own_go (st' := T1.setTop (mkF m 24 #[.val (.ref a1), .val (.long ((0 : Int64) + q0)), .second, .val (.ref ar), .val (.int (2 : Int32)), .val (.int (1 : Int32)), .val (.long q0), .second] [(.int (1 : Int32)), (.ref ar)])) (fun _ k => XS.iload X1.here hx rfl (hb hby d4_22) rfl k) ?_
  obtain ⟨cl6, Ar6, -, S6, M6, H6, -⟩ := id pr2
  have hin6 : ¬ ((1 : Int32) < 0 ∨ cl6.slots.size ≤ ((1 : Int32)).toNatClampNeg) := (inb_of S6 ⟨by decide, by decide⟩)
  have hat6 : cl6.slots[((1 : Int32)).toNatClampNeg]? = some (.long q1) := (H6.at hin6 rfl)
  refine own_go (st' := T1.setTop (mkF m 25 #[.val (.ref a1), .val (.long ((0 : Int64) + q0)), .second, .val (.ref ar), .val (.int (2 : Int32)), .val (.int (1 : Int32)), .val (.long q0), .second] [(.long q1)])) (X1.laload hx (j := (1 : Int32)) (v := (.long q1)) (by rw [e1]; exact Ar6.1) (State.isArrayOf_alike hZ.alike Ar6.2.1) Ar6.2.2 hin6 hat6 (g := (mkF m 24 #[.val (.ref a1), .val (.long ((0 : Int64) + q0)), .second, .val (.ref ar), .val (.int (2 : Int32)), .val (.int (1 : Int32)), .val (.long q0), .second] [(.int (1 : Int32)), (.ref ar)])) rfl rfl (hb hby d4_24)) ?_
  refine own_go (st' := T1.setTop (mkF m 27 #[.val (.ref a1), .val (.long ((0 : Int64) + q0)), .second, .val (.ref ar), .val (.int (2 : Int32)), .val (.int (1 : Int32)), .val (.long q1), .second] [])) (fun _ k => XS.lstore X1.here hx rfl (hb hby d4_25) rfl (l' := #[.val (.ref a1), .val (.long ((0 : Int64) + q0)), .second, .val (.ref ar), .val (.int (2 : Int32)), .val (.int (1 : Int32)), .val (.long q1), .second]) rfl k) ?_
  refine own_go (st' := T1.setTop (mkF m 28 #[.val (.ref a1), .val (.long ((0 : Int64) + q0)), .second, .val (.ref ar), .val (.int (2 : Int32)), .val (.int (1 : Int32)), .val (.long q1), .second] [(.long ((0 : Int64) + q0))])) (fun _ k => XS.lloadN X1.here hx rfl (hb hby d4_27) rfl k) ?_
  refine own_go (st' := T1.setTop (mkF m 30 #[.val (.ref a1), .val (.long ((0 : Int64) + q0)), .second, .val (.ref ar), .val (.int (2 : Int32)), .val (.int (1 : Int32)), .val (.long q1), .second] [(.long q1), (.long ((0 : Int64) + q0))])) (fun _ k => XS.lload X1.here hx rfl (hb hby d4_28) rfl k) ?_
  refine own_go (st' := T1.setTop (mkF m 31 #[.val (.ref a1), .val (.long ((0 : Int64) + q0)), .second, .val (.ref ar), .val (.int (2 : Int32)), .val (.int (1 : Int32)), .val (.long q1), .second] [(.long (((0 : Int64) + q0) + q1))])) (fun _ k => XS.ladd X1.here hx rfl (hb hby d4_30) rfl k) ?_
  refine own_go (st' := T1.setTop (mkF m 32 #[.val (.ref a1), .val (.long (((0 : Int64) + q0) + q1)), .second, .val (.ref ar), .val (.int (2 : Int32)), .val (.int (1 : Int32)), .val (.long q1), .second] [])) (fun _ k => XS.lstoreN X1.here hx rfl (hb hby d4_31) rfl (l' := #[.val (.ref a1), .val (.long (((0 : Int64) + q0) + q1)), .second, .val (.ref ar), .val (.int (2 : Int32)), .val (.int (1 : Int32)), .val (.long q1), .second]) rfl k) ?_
  refine own_go (st' := T1.setTop (mkF m 35 #[.val (.ref a1), .val (.long (((0 : Int64) + q0) + q1)), .second, .val (.ref ar), .val (.int (2 : Int32)), .val (.int (2 : Int32)), .val (.long q1), .second] [])) (fun _ k => XS.iinc X1.here hx rfl (hb hby d4_32) rfl (l' := #[.val (.ref a1), .val (.long (((0 : Int64) + q0) + q1)), .second, .val (.ref ar), .val (.int (2 : Int32)), .val (.int (2 : Int32)), .val (.long q1), .second]) (by rw [show ((1 : Int32) + Int32.ofInt 1) = (2 : Int32) by decide]; rfl) k) ?_
  refine own_go (st' := T1.setTop (mkF m 14 #[.val (.ref a1), .val (.long (((0 : Int64) + q0) + q1)), .second, .val (.ref ar), .val (.int (2 : Int32)), .val (.int (2 : Int32)), .val (.long q1), .second] [])) (fun _ k => XS.goto X1.here hx rfl (pc0 := 35) (pc' := 14) rfl (hb hby d4_35) (by decide) (by decide) k) ?_
  refine own_go (st' := T1.setTop (mkF m 16 #[.val (.ref a1), .val (.long (((0 : Int64) + q0) + q1)), .second, .val (.ref ar), .val (.int (2 : Int32)), .val (.int (2 : Int32)), .val (.long q1), .second] [(.int (2 : Int32))])) (fun _ k => XS.iload X1.here hx rfl (hb hby d4_14) rfl k) ?_
  refine own_go (st' := T1.setTop (mkF m 18 #[.val (.ref a1), .val (.long (((0 : Int64) + q0) + q1)), .second, .val (.ref ar), .val (.int (2 : Int32)), .val (.int (2 : Int32)), .val (.long q1), .second] [(.int (2 : Int32)), (.int (2 : Int32))])) (fun _ k => XS.iload X1.here hx rfl (hb hby d4_16) rfl k) ?_
  have hc7 : ¬ ((2 : Int32) < (2 : Int32)) := by decide
  refine own_go (st' := T1.setTop (mkF m 38 #[.val (.ref a1), .val (.long (((0 : Int64) + q0) + q1)), .second, .val (.ref ar), .val (.int (2 : Int32)), .val (.int (2 : Int32)), .val (.long q1), .second] [])) (fun _ k => XS.icmpYes X1.here hx rfl (pc0 := 18) (pc' := 38) rfl (hb hby d4_18) rfl (flt hc7).2.1 (by decide) (by decide) k) ?_
  refine own_go (st' := T1.setTop (mkF m 39 #[.val (.ref a1), .val (.long (((0 : Int64) + q0) + q1)), .second, .val (.ref ar), .val (.int (2 : Int32)), .val (.int (2 : Int32)), .val (.long q1), .second] [(.long (((0 : Int64) + q0) + q1))])) (fun _ k => XS.lloadN X1.here hx rfl (hb hby d4_38) rfl k) ?_
  obtain ⟨fs, hr, hrun, hended, hW, hsame⟩ := X1.leave (v := some (.long (((0 : Int64) + q0) + q1))) (fun h => by rw [Bd.returns] at h; cases h)
  refine ⟨_, _, ?_, hP _ _ hrun hended ⟨_, _, rfl, ?_, ⟨_, rfl⟩, hW, hsame.mono (by decide) (by decide)⟩⟩
  · exact retOut X1 hx Bd.returns rfl (Or.inr (Or.inl ⟨rfl, rfl, _, rfl⟩)) (hb hby d4_39) hr
  · show Qrm4_2 Z a1 ar ka q0 q1 h0 n0 _ T1.heap _
    rw [e1]
    exact ⟨rfl, N0, rfl⟩
theorem ef_rm3_3 (m : MethodId) (x0 : Addr) : entryFrame m #[(.ref x0)] 8 = mkF m 0 #[.val (.ref x0), .unset, .unset, .unset, .unset, .unset, .unset, .unset] [] := by first | (simp [entryFrame, mkF, argsToLocals, Value.category]; done) | rfl
def Qrm3_3 (Z : State) (ar : Addr) (ka : ClassId) (q0 : Int64) (q1 : Int64) (q2 : Int64) (h0 : Heap) (n0 : Nat) (v : Option Value) (h : Heap) (L : List Loc) : Prop := ∃ (z : Int32), (v = some (.int z)) ∧ (Fr n0 L) ∧ (h = h0)
set_option maxRecDepth 65536 in
set_option maxHeartbeats 40000000 in
theorem rm3_3 (l : Launch) (Z : State) (a0 : Array Value) (hw : ∀ d ∈ tables_1, d.before a0 Z = true) (ws : List Jvm.Cond) (ar : Addr) (ka : ClassId) (q0 : Int64) (q1 : Int64) (q2 : Int64) (h0 : Heap) (n0 : Nat) (Z0 : n0 ≤ h0.size) (pr1 : Arv Z h0 ar ka .long (3 : Int32) [(.long q0), (.long q1), (.long q2)] (.long (0 : Int64))) :
    MetFree l (⟨"java/util/Arrays", "hashCode", "([J)I"⟩ : MethodName) (head1 (Jvm.Cond.code (⟨"java/util/Arrays", "hashCode", "([J)I"⟩ : MethodName) jdk_65_method_149_code 8 (some .int) :: ws) ({ frames := 0, cells := 0, slots := 0, locals := 0 } : Room)) (fun a U => a = #[(.ref ar)] ∧ Z.Warmed39 U.vm ∧ U.heap = h0) (fun _ _ _ _ _ => True) (fun _ U o U' => ∃ v L, o = .returned v ∧ Qrm3_3 Z ar ka q0 q1 q2 h0 n0 v U'.heap L ∧ FrameEnd U o U' L ({ frames := 0, cells := 0, slots := 0, locals := 0 } : Room).cells ({ frames := 0, cells := 0, slots := 0, locals := 0 } : Room).slots) := by
  refine MetFree.of_bodySF (plainFor_of_name pn_3) hisR ?_
  intro p e s m args below meth c s₁ Bd hml0 hP0 hK
  obtain ⟨rfl, hZ, hh⟩ := hP0
  have hx := Bd.exec
  have hby := Bd.bytes
  have hml : c.maxLocals = 8 := hml0
  have hown : s.vm.findClass "java/util/Arrays" = some m.cls := findClass_of_methodNamed Bd.named
  have hnm := (name_of_methodNamed Bd.named Bd.method).1
  have X0 : Stand p l e ({ frames := 0, cells := 0, slots := 0, locals := 0 } : Room) s m #[(.ref ar)] below meth c s₁ [] 0 0 := Stand.of_body Bd
  have e0 : s₁.heap = h0 := by rw [← hh, Bd.state]; rfl
  have N0 := Fr.nil n0
  suffices own_H : ∀ (P : State → Outcome → Prop), (∀ U o, U.status = .running → Ended U below o → (∃ v L, o = .returned v ∧ Qrm3_3 Z ar ka q0 q1 q2 h0 n0 v U.heap L ∧ FrameEnd s o U L ({ frames := 0, cells := 0, slots := 0, locals := 0 } : Room).cells ({ frames := 0, cells := 0, slots := 0, locals := 0 } : Room).slots) → P U o) → own_Go p.tables e below P (s₁.setTop (mkF m 0 #[.val (.ref ar), .unset, .unset, .unset, .unset, .unset, .unset, .unset] [])) from own_go (fun _ k => castTop (ef_rm3_3 m ar) k) (own_H _ (fun U o h1 h2 h3 => ⟨h1, h2, h3⟩))
  intro P hP
  have lt_ar : ar < h0.size := pr1.lt
  refine own_go (st' := s₁.setTop (mkF m 1 #[.val (.ref ar), .unset, .unset, .unset, .unset, .unset, .unset, .unset] [(.ref ar)])) (fun _ k => XS.aloadN X0.here hx rfl (hb hby d3_0) rfl rfl k) ?_
  refine own_go (st' := s₁.setTop (mkF m 6 #[.val (.ref ar), .unset, .unset, .unset, .unset, .unset, .unset, .unset] [])) (fun _ k => XS.ifnonnullYes X0.here hx rfl (pc0 := 1) (pc' := 6) rfl (hb hby d3_1) rfl (by decide) (by decide) k) ?_
  refine own_go (st' := s₁.setTop (mkF m 7 #[.val (.ref ar), .unset, .unset, .unset, .unset, .unset, .unset, .unset] [(.int (1 : Int32))])) (fun _ k => XS.iconst X0.here hx rfl (hb hby d3_6) k) ?_
  refine own_go (st' := s₁.setTop (mkF m 8 #[.val (.ref ar), .val (.int (1 : Int32)), .unset, .unset, .unset, .unset, .unset, .unset] [])) (fun _ k => XS.istoreN X0.here hx rfl (hb hby d3_7) rfl (l' := #[.val (.ref ar), .val (.int (1 : Int32)), .unset, .unset, .unset, .unset, .unset, .unset]) rfl k) ?_
  refine own_go (st' := s₁.setTop (mkF m 9 #[.val (.ref ar), .val (.int (1 : Int32)), .unset, .unset, .unset, .unset, .unset, .unset] [(.ref ar)])) (fun _ k => XS.aloadN X0.here hx rfl (hb hby d3_8) rfl rfl k) ?_
  refine own_go (st' := s₁.setTop (mkF m 10 #[.val (.ref ar), .val (.int (1 : Int32)), .val (.ref ar), .unset, .unset, .unset, .unset, .unset] [])) (fun _ k => XS.astoreN X0.here hx rfl (hb hby d3_9) rfl rfl (l' := #[.val (.ref ar), .val (.int (1 : Int32)), .val (.ref ar), .unset, .unset, .unset, .unset, .unset]) rfl k) ?_
  refine own_go (st' := s₁.setTop (mkF m 11 #[.val (.ref ar), .val (.int (1 : Int32)), .val (.ref ar), .unset, .unset, .unset, .unset, .unset] [(.ref ar)])) (fun _ k => XS.aloadN X0.here hx rfl (hb hby d3_10) rfl rfl k) ?_
  obtain ⟨cl1, Ar1, -, S1, M1, -, -⟩ := id pr1
  refine own_go (st' := s₁.setTop (mkF m 12 #[.val (.ref ar), .val (.int (1 : Int32)), .val (.ref ar), .unset, .unset, .unset, .unset, .unset] [(.int (3 : Int32))])) (fun t k => X0.arraylength hx (by rw [e0]; exact Ar1.1) (State.isArrayOf_alike hZ.alike Ar1.2.1) (g := (mkF m 11 #[.val (.ref ar), .val (.int (1 : Int32)), .val (.ref ar), .unset, .unset, .unset, .unset, .unset] [(.ref ar)])) rfl rfl (hb hby d3_11) t (by rw [len_of S1 M1]; exact k)) ?_
  refine own_go (st' := s₁.setTop (mkF m 13 #[.val (.ref ar), .val (.int (1 : Int32)), .val (.ref ar), .val (.int (3 : Int32)), .unset, .unset, .unset, .unset] [])) (fun _ k => XS.istoreN X0.here hx rfl (hb hby d3_12) rfl (l' := #[.val (.ref ar), .val (.int (1 : Int32)), .val (.ref ar), .val (.int (3 : Int32)), .unset, .unset, .unset, .unset]) rfl k) ?_
  refine own_go (st' := s₁.setTop (mkF m 14 #[.val (.ref ar), .val (.int (1 : Int32)), .val (.ref ar), .val (.int (3 : Int32)), .unset, .unset, .unset, .unset] [(.int (0 : Int32))])) (fun _ k => XS.iconst X0.here hx rfl (hb hby d3_13) k) ?_
  refine own_go (st' := s₁.setTop (mkF m 16 #[.val (.ref ar), .val (.int (1 : Int32)), .val (.ref ar), .val (.int (3 : Int32)), .val (.int (0 : Int32)), .unset, .unset, .unset] [])) (fun _ k => XS.istore X0.here hx rfl (hb hby d3_14) rfl (l' := #[.val (.ref ar), .val (.int (1 : Int32)), .val (.ref ar), .val (.int (3 : Int32)), .val (.int (0 : Int32)), .unset, .unset, .unset]) rfl k) ?_
  refine own_go (st' := s₁.setTop (mkF m 18 #[.val (.ref ar), .val (.int (1 : Int32)), .val (.ref ar), .val (.int (3 : Int32)), .val (.int (0 : Int32)), .unset, .unset, .unset] [(.int (0 : Int32))])) (fun _ k => XS.iload X0.here hx rfl (hb hby d3_16) rfl k) ?_
  refine own_go (st' := s₁.setTop (mkF m 19 #[.val (.ref ar), .val (.int (1 : Int32)), .val (.ref ar), .val (.int (3 : Int32)), .val (.int (0 : Int32)), .unset, .unset, .unset] [(.int (3 : Int32)), (.int (0 : Int32))])) (fun _ k => XS.iloadN X0.here hx rfl (hb hby d3_18) rfl k) ?_
  have hc2 : (0 : Int32) < (3 : Int32) := by decide
  refine own_go (st' := s₁.setTop (mkF m 22 #[.val (.ref ar), .val (.int (1 : Int32)), .val (.ref ar), .val (.int (3 : Int32)), .val (.int (0 : Int32)), .unset, .unset, .unset] [])) (fun _ k => XS.icmpNo X0.here hx rfl (hb hby d3_19) rfl (tlt hc2).2.1 k) ?_
  refine own_go (st' := s₁.setTop (mkF m 23 #[.val (.ref ar), .val (.int (1 : Int32)), .val (.ref ar), .val (.int (3 : Int32)), .val (.int (0 : Int32)), .unset, .unset, .unset] [(.ref ar)])) (fun _ k => XS.aloadN X0.here hx rfl (hb hby d3_22) rfl rfl k) ?_
  refine own_go (st' := s₁.setTop (mkF m 25 #[.val (.ref ar), .val (.int (1 : Int32)), .val (.ref ar), .val (.int (3 : Int32)), .val (.int (0 : Int32)), .unset, .unset, .unset] [(.int (0 : Int32)), (.ref ar)])) (fun _ k => XS.iload X0.here hx rfl (hb hby d3_23) rfl k) ?_
  obtain ⟨cl3, Ar3, -, S3, M3, H3, -⟩ := id pr1
  have hin3 : ¬ ((0 : Int32) < 0 ∨ cl3.slots.size ≤ ((0 : Int32)).toNatClampNeg) := (inb_of S3 ⟨by decide, by decide⟩)
  have hat3 : cl3.slots[((0 : Int32)).toNatClampNeg]? = some (.long q0) := (H3.at hin3 rfl)
  refine own_go (st' := s₁.setTop (mkF m 26 #[.val (.ref ar), .val (.int (1 : Int32)), .val (.ref ar), .val (.int (3 : Int32)), .val (.int (0 : Int32)), .unset, .unset, .unset] [(.long q0)])) (X0.laload hx (j := (0 : Int32)) (v := (.long q0)) (by rw [e0]; exact Ar3.1) (State.isArrayOf_alike hZ.alike Ar3.2.1) Ar3.2.2 hin3 hat3 (g := (mkF m 25 #[.val (.ref ar), .val (.int (1 : Int32)), .val (.ref ar), .val (.int (3 : Int32)), .val (.int (0 : Int32)), .unset, .unset, .unset] [(.int (0 : Int32)), (.ref ar)])) rfl rfl (hb hby d3_25)) ?_
  refine own_go (st' := s₁.setTop (mkF m 28 #[.val (.ref ar), .val (.int (1 : Int32)), .val (.ref ar), .val (.int (3 : Int32)), .val (.int (0 : Int32)), .val (.long q0), .second, .unset] [])) (fun _ k => XS.lstore X0.here hx rfl (hb hby d3_26) rfl (l' := #[.val (.ref ar), .val (.int (1 : Int32)), .val (.ref ar), .val (.int (3 : Int32)), .val (.int (0 : Int32)), .val (.long q0), .second, .unset]) rfl k) ?_
  refine own_go (st' := s₁.setTop (mkF m 30 #[.val (.ref ar), .val (.int (1 : Int32)), .val (.ref ar), .val (.int (3 : Int32)), .val (.int (0 : Int32)), .val (.long q0), .second, .unset] [(.long q0)])) (fun _ k => XS.lload X0.here hx rfl (hb hby d3_28) rfl k) ?_
  refine own_go (st' := s₁.setTop (mkF m 32 #[.val (.ref ar), .val (.int (1 : Int32)), .val (.ref ar), .val (.int (3 : Int32)), .val (.int (0 : Int32)), .val (.long q0), .second, .unset] [(.long q0), (.long q0)])) (fun _ k => XS.lload X0.here hx rfl (hb hby d3_30) rfl k) ?_
  refine own_go (st' := s₁.setTop (mkF m 34 #[.val (.ref ar), .val (.int (1 : Int32)), .val (.ref ar), .val (.int (3 : Int32)), .val (.int (0 : Int32)), .val (.long q0), .second, .unset] [(.int (32 : Int32)), (.long q0), (.long q0)])) (fun _ k => XS.bipush X0.here hx rfl (hb hby d3_32) k) ?_
  obtain ⟨x4, hx4⟩ : ∃ z : Int64, z = ((q0.toUInt64 >>> ((32 : Int32) &&& 0x3f).toInt64.toUInt64).toInt64) := ⟨_, rfl⟩
  refine own_go (st' := s₁.setTop (mkF m 35 #[.val (.ref ar), .val (.int (1 : Int32)), .val (.ref ar), .val (.int (3 : Int32)), .val (.int (0 : Int32)), .val (.long q0), .second, .unset] [(.long x4), (.long q0)])) (fun _ k => XS.lushr X0.here hx rfl (hb hby d3_34) rfl (by rw [hx4] at k; exact k)) ?_
  refine own_go (st' := s₁.setTop (mkF m 36 #[.val (.ref ar), .val (.int (1 : Int32)), .val (.ref ar), .val (.int (3 : Int32)), .val (.int (0 : Int32)), .val (.long q0), .second, .unset] [(.long (q0 ^^^ x4))])) (fun _ k => XS.lxor X0.here hx rfl (hb hby d3_35) rfl k) ?_
  refine own_go (st' := s₁.setTop (mkF m 37 #[.val (.ref ar), .val (.int (1 : Int32)), .val (.ref ar), .val (.int (3 : Int32)), .val (.int (0 : Int32)), .val (.long q0), .second, .unset] [(.int (q0 ^^^ x4).toInt32)])) (fun _ k => XS.l2i X0.here hx rfl (hb hby d3_36) rfl k) ?_
  refine own_go (st' := s₁.setTop (mkF m 39 #[.val (.ref ar), .val (.int (1 : Int32)), .val (.ref ar), .val (.int (3 : Int32)), .val (.int (0 : Int32)), .val (.long q0), .second, .val (.int (q0 ^^^ x4).toInt32)] [])) (fun _ k => XS.istore X0.here hx rfl (hb hby d3_37) rfl (l' := #[.val (.ref ar), .val (.int (1 : Int32)), .val (.ref ar), .val (.int (3 : Int32)), .val (.int (0 : Int32)), .val (.long q0), .second, .val (.int (q0 ^^^ x4).toInt32)]) rfl k) ?_
  refine own_go (st' := s₁.setTop (mkF m 41 #[.val (.ref ar), .val (.int (1 : Int32)), .val (.ref ar), .val (.int (3 : Int32)), .val (.int (0 : Int32)), .val (.long q0), .second, .val (.int (q0 ^^^ x4).toInt32)] [(.int (31 : Int32))])) (fun _ k => XS.bipush X0.here hx rfl (hb hby d3_39) k) ?_
  refine own_go (st' := s₁.setTop (mkF m 42 #[.val (.ref ar), .val (.int (1 : Int32)), .val (.ref ar), .val (.int (3 : Int32)), .val (.int (0 : Int32)), .val (.long q0), .second, .val (.int (q0 ^^^ x4).toInt32)] [(.int (1 : Int32)), (.int (31 : Int32))])) (fun _ k => XS.iloadN X0.here hx rfl (hb hby d3_41) rfl k) ?_
  refine own_go (st' := s₁.setTop (mkF m 43 #[.val (.ref ar), .val (.int (1 : Int32)), .val (.ref ar), .val (.int (3 : Int32)), .val (.int (0 : Int32)), .val (.long q0), .second, .val (.int (q0 ^^^ x4).toInt32)] [(.int (31 : Int32))])) (fun _ k => XS.imul X0.here hx rfl (hb hby d3_42) rfl (by rw [show ((31 : Int32) * (1 : Int32)) = (31 : Int32) by decide]; exact k)) ?_
  refine own_go (st' := s₁.setTop (mkF m 45 #[.val (.ref ar), .val (.int (1 : Int32)), .val (.ref ar), .val (.int (3 : Int32)), .val (.int (0 : Int32)), .val (.long q0), .second, .val (.int (q0 ^^^ x4).toInt32)] [(.int (q0 ^^^ x4).toInt32), (.int (31 : Int32))])) (fun _ k => XS.iload X0.here hx rfl (hb hby d3_43) rfl k) ?_
  refine own_go (st' := s₁.setTop (mkF m 46 #[.val (.ref ar), .val (.int (1 : Int32)), .val (.ref ar), .val (.int (3 : Int32)), .val (.int (0 : Int32)), .val (.long q0), .second, .val (.int (q0 ^^^ x4).toInt32)] [(.int ((31 : Int32) + (q0 ^^^ x4).toInt32))])) (fun _ k => XS.iadd X0.here hx rfl (hb hby d3_45) rfl k) ?_
  refine own_go (st' := s₁.setTop (mkF m 47 #[.val (.ref ar), .val (.int ((31 : Int32) + (q0 ^^^ x4).toInt32)), .val (.ref ar), .val (.int (3 : Int32)), .val (.int (0 : Int32)), .val (.long q0), .second, .val (.int (q0 ^^^ x4).toInt32)] [])) (fun _ k => XS.istoreN X0.here hx rfl (hb hby d3_46) rfl (l' := #[.val (.ref ar), .val (.int ((31 : Int32) + (q0 ^^^ x4).toInt32)), .val (.ref ar), .val (.int (3 : Int32)), .val (.int (0 : Int32)), .val (.long q0), .second, .val (.int (q0 ^^^ x4).toInt32)]) rfl k) ?_
  refine own_go (st' := s₁.setTop (mkF m 50 #[.val (.ref ar), .val (.int ((31 : Int32) + (q0 ^^^ x4).toInt32)), .val (.ref ar), .val (.int (3 : Int32)), .val (.int (1 : Int32)), .val (.long q0), .second, .val (.int (q0 ^^^ x4).toInt32)] [])) (fun _ k => XS.iinc X0.here hx rfl (hb hby d3_47) rfl (l' := #[.val (.ref ar), .val (.int ((31 : Int32) + (q0 ^^^ x4).toInt32)), .val (.ref ar), .val (.int (3 : Int32)), .val (.int (1 : Int32)), .val (.long q0), .second, .val (.int (q0 ^^^ x4).toInt32)]) (by rw [show ((0 : Int32) + Int32.ofInt 1) = (1 : Int32) by decide]; rfl) k) ?_
  refine own_go (st' := s₁.setTop (mkF m 16 #[.val (.ref ar), .val (.int ((31 : Int32) + (q0 ^^^ x4).toInt32)), .val (.ref ar), .val (.int (3 : Int32)), .val (.int (1 : Int32)), .val (.long q0), .second, .val (.int (q0 ^^^ x4).toInt32)] [])) (fun _ k => XS.goto X0.here hx rfl (pc0 := 50) (pc' := 16) rfl (hb hby d3_50) (by decide) (by decide) k) ?_
  refine own_go (st' := s₁.setTop (mkF m 18 #[.val (.ref ar), .val (.int ((31 : Int32) + (q0 ^^^ x4).toInt32)), .val (.ref ar), .val (.int (3 : Int32)), .val (.int (1 : Int32)), .val (.long q0), .second, .val (.int (q0 ^^^ x4).toInt32)] [(.int (1 : Int32))])) (fun _ k => XS.iload X0.here hx rfl (hb hby d3_16) rfl k) ?_
  refine own_go (st' := s₁.setTop (mkF m 19 #[.val (.ref ar), .val (.int ((31 : Int32) + (q0 ^^^ x4).toInt32)), .val (.ref ar), .val (.int (3 : Int32)), .val (.int (1 : Int32)), .val (.long q0), .second, .val (.int (q0 ^^^ x4).toInt32)] [(.int (3 : Int32)), (.int (1 : Int32))])) (fun _ k => XS.iloadN X0.here hx rfl (hb hby d3_18) rfl k) ?_
  have hc5 : (1 : Int32) < (3 : Int32) := by decide
  refine own_go (st' := s₁.setTop (mkF m 22 #[.val (.ref ar), .val (.int ((31 : Int32) + (q0 ^^^ x4).toInt32)), .val (.ref ar), .val (.int (3 : Int32)), .val (.int (1 : Int32)), .val (.long q0), .second, .val (.int (q0 ^^^ x4).toInt32)] [])) (fun _ k => XS.icmpNo X0.here hx rfl (hb hby d3_19) rfl (tlt hc5).2.1 k) ?_
  refine own_go (st' := s₁.setTop (mkF m 23 #[.val (.ref ar), .val (.int ((31 : Int32) + (q0 ^^^ x4).toInt32)), .val (.ref ar), .val (.int (3 : Int32)), .val (.int (1 : Int32)), .val (.long q0), .second, .val (.int (q0 ^^^ x4).toInt32)] [(.ref ar)])) (fun _ k => XS.aloadN X0.here hx rfl (hb hby d3_22) rfl rfl k) ?_
  refine own_go (st' := s₁.setTop (mkF m 25 #[.val (.ref ar), .val (.int ((31 : Int32) + (q0 ^^^ x4).toInt32)), .val (.ref ar), .val (.int (3 : Int32)), .val (.int (1 : Int32)), .val (.long q0), .second, .val (.int (q0 ^^^ x4).toInt32)] [(.int (1 : Int32)), (.ref ar)])) (fun _ k => XS.iload X0.here hx rfl (hb hby d3_23) rfl k) ?_
  obtain ⟨cl6, Ar6, -, S6, M6, H6, -⟩ := id pr1
  have hin6 : ¬ ((1 : Int32) < 0 ∨ cl6.slots.size ≤ ((1 : Int32)).toNatClampNeg) := (inb_of S6 ⟨by decide, by decide⟩)
  have hat6 : cl6.slots[((1 : Int32)).toNatClampNeg]? = some (.long q1) := (H6.at hin6 rfl)
  refine own_go (st' := s₁.setTop (mkF m 26 #[.val (.ref ar), .val (.int ((31 : Int32) + (q0 ^^^ x4).toInt32)), .val (.ref ar), .val (.int (3 : Int32)), .val (.int (1 : Int32)), .val (.long q0), .second, .val (.int (q0 ^^^ x4).toInt32)] [(.long q1)])) (X0.laload hx (j := (1 : Int32)) (v := (.long q1)) (by rw [e0]; exact Ar6.1) (State.isArrayOf_alike hZ.alike Ar6.2.1) Ar6.2.2 hin6 hat6 (g := (mkF m 25 #[.val (.ref ar), .val (.int ((31 : Int32) + (q0 ^^^ x4).toInt32)), .val (.ref ar), .val (.int (3 : Int32)), .val (.int (1 : Int32)), .val (.long q0), .second, .val (.int (q0 ^^^ x4).toInt32)] [(.int (1 : Int32)), (.ref ar)])) rfl rfl (hb hby d3_25)) ?_
  refine own_go (st' := s₁.setTop (mkF m 28 #[.val (.ref ar), .val (.int ((31 : Int32) + (q0 ^^^ x4).toInt32)), .val (.ref ar), .val (.int (3 : Int32)), .val (.int (1 : Int32)), .val (.long q1), .second, .val (.int (q0 ^^^ x4).toInt32)] [])) (fun _ k => XS.lstore X0.here hx rfl (hb hby d3_26) rfl (l' := #[.val (.ref ar), .val (.int ((31 : Int32) + (q0 ^^^ x4).toInt32)), .val (.ref ar), .val (.int (3 : Int32)), .val (.int (1 : Int32)), .val (.long q1), .second, .val (.int (q0 ^^^ x4).toInt32)]) rfl k) ?_
  refine own_go (st' := s₁.setTop (mkF m 30 #[.val (.ref ar), .val (.int ((31 : Int32) + (q0 ^^^ x4).toInt32)), .val (.ref ar), .val (.int (3 : Int32)), .val (.int (1 : Int32)), .val (.long q1), .second, .val (.int (q0 ^^^ x4).toInt32)] [(.long q1)])) (fun _ k => XS.lload X0.here hx rfl (hb hby d3_28) rfl k) ?_
  refine own_go (st' := s₁.setTop (mkF m 32 #[.val (.ref ar), .val (.int ((31 : Int32) + (q0 ^^^ x4).toInt32)), .val (.ref ar), .val (.int (3 : Int32)), .val (.int (1 : Int32)), .val (.long q1), .second, .val (.int (q0 ^^^ x4).toInt32)] [(.long q1), (.long q1)])) (fun _ k => XS.lload X0.here hx rfl (hb hby d3_30) rfl k) ?_
  refine own_go (st' := s₁.setTop (mkF m 34 #[.val (.ref ar), .val (.int ((31 : Int32) + (q0 ^^^ x4).toInt32)), .val (.ref ar), .val (.int (3 : Int32)), .val (.int (1 : Int32)), .val (.long q1), .second, .val (.int (q0 ^^^ x4).toInt32)] [(.int (32 : Int32)), (.long q1), (.long q1)])) (fun _ k => XS.bipush X0.here hx rfl (hb hby d3_32) k) ?_
  obtain ⟨x7, hx7⟩ : ∃ z : Int64, z = ((q1.toUInt64 >>> ((32 : Int32) &&& 0x3f).toInt64.toUInt64).toInt64) := ⟨_, rfl⟩
  refine own_go (st' := s₁.setTop (mkF m 35 #[.val (.ref ar), .val (.int ((31 : Int32) + (q0 ^^^ x4).toInt32)), .val (.ref ar), .val (.int (3 : Int32)), .val (.int (1 : Int32)), .val (.long q1), .second, .val (.int (q0 ^^^ x4).toInt32)] [(.long x7), (.long q1)])) (fun _ k => XS.lushr X0.here hx rfl (hb hby d3_34) rfl (by rw [hx7] at k; exact k)) ?_
  refine own_go (st' := s₁.setTop (mkF m 36 #[.val (.ref ar), .val (.int ((31 : Int32) + (q0 ^^^ x4).toInt32)), .val (.ref ar), .val (.int (3 : Int32)), .val (.int (1 : Int32)), .val (.long q1), .second, .val (.int (q0 ^^^ x4).toInt32)] [(.long (q1 ^^^ x7))])) (fun _ k => XS.lxor X0.here hx rfl (hb hby d3_35) rfl k) ?_
  refine own_go (st' := s₁.setTop (mkF m 37 #[.val (.ref ar), .val (.int ((31 : Int32) + (q0 ^^^ x4).toInt32)), .val (.ref ar), .val (.int (3 : Int32)), .val (.int (1 : Int32)), .val (.long q1), .second, .val (.int (q0 ^^^ x4).toInt32)] [(.int (q1 ^^^ x7).toInt32)])) (fun _ k => XS.l2i X0.here hx rfl (hb hby d3_36) rfl k) ?_
  refine own_go (st' := s₁.setTop (mkF m 39 #[.val (.ref ar), .val (.int ((31 : Int32) + (q0 ^^^ x4).toInt32)), .val (.ref ar), .val (.int (3 : Int32)), .val (.int (1 : Int32)), .val (.long q1), .second, .val (.int (q1 ^^^ x7).toInt32)] [])) (fun _ k => XS.istore X0.here hx rfl (hb hby d3_37) rfl (l' := #[.val (.ref ar), .val (.int ((31 : Int32) + (q0 ^^^ x4).toInt32)), .val (.ref ar), .val (.int (3 : Int32)), .val (.int (1 : Int32)), .val (.long q1), .second, .val (.int (q1 ^^^ x7).toInt32)]) rfl k) ?_
  refine own_go (st' := s₁.setTop (mkF m 41 #[.val (.ref ar), .val (.int ((31 : Int32) + (q0 ^^^ x4).toInt32)), .val (.ref ar), .val (.int (3 : Int32)), .val (.int (1 : Int32)), .val (.long q1), .second, .val (.int (q1 ^^^ x7).toInt32)] [(.int (31 : Int32))])) (fun _ k => XS.bipush X0.here hx rfl (hb hby d3_39) k) ?_
  refine own_go (st' := s₁.setTop (mkF m 42 #[.val (.ref ar), .val (.int ((31 : Int32) + (q0 ^^^ x4).toInt32)), .val (.ref ar), .val (.int (3 : Int32)), .val (.int (1 : Int32)), .val (.long q1), .second, .val (.int (q1 ^^^ x7).toInt32)] [(.int ((31 : Int32) + (q0 ^^^ x4).toInt32)), (.int (31 : Int32))])) (fun _ k => XS.iloadN X0.here hx rfl (hb hby d3_41) rfl k) ?_
  refine own_go (st' := s₁.setTop (mkF m 43 #[.val (.ref ar), .val (.int ((31 : Int32) + (q0 ^^^ x4).toInt32)), .val (.ref ar), .val (.int (3 : Int32)), .val (.int (1 : Int32)), .val (.long q1), .second, .val (.int (q1 ^^^ x7).toInt32)] [(.int ((31 : Int32) * ((31 : Int32) + (q0 ^^^ x4).toInt32)))])) (fun _ k => XS.imul X0.here hx rfl (hb hby d3_42) rfl k) ?_
  refine own_go (st' := s₁.setTop (mkF m 45 #[.val (.ref ar), .val (.int ((31 : Int32) + (q0 ^^^ x4).toInt32)), .val (.ref ar), .val (.int (3 : Int32)), .val (.int (1 : Int32)), .val (.long q1), .second, .val (.int (q1 ^^^ x7).toInt32)] [(.int (q1 ^^^ x7).toInt32), (.int ((31 : Int32) * ((31 : Int32) + (q0 ^^^ x4).toInt32)))])) (fun _ k => XS.iload X0.here hx rfl (hb hby d3_43) rfl k) ?_
  obtain ⟨x8, hx8⟩ : ∃ z : Int32, z = (((31 : Int32) * ((31 : Int32) + (q0 ^^^ x4).toInt32)) + (q1 ^^^ x7).toInt32) := ⟨_, rfl⟩
  refine own_go (st' := s₁.setTop (mkF m 46 #[.val (.ref ar), .val (.int ((31 : Int32) + (q0 ^^^ x4).toInt32)), .val (.ref ar), .val (.int (3 : Int32)), .val (.int (1 : Int32)), .val (.long q1), .second, .val (.int (q1 ^^^ x7).toInt32)] [(.int x8)])) (fun _ k => XS.iadd X0.here hx rfl (hb hby d3_45) rfl (by rw [hx8] at k; exact k)) ?_
  refine own_go (st' := s₁.setTop (mkF m 47 #[.val (.ref ar), .val (.int x8), .val (.ref ar), .val (.int (3 : Int32)), .val (.int (1 : Int32)), .val (.long q1), .second, .val (.int (q1 ^^^ x7).toInt32)] [])) (fun _ k => XS.istoreN X0.here hx rfl (hb hby d3_46) rfl (l' := #[.val (.ref ar), .val (.int x8), .val (.ref ar), .val (.int (3 : Int32)), .val (.int (1 : Int32)), .val (.long q1), .second, .val (.int (q1 ^^^ x7).toInt32)]) rfl k) ?_
  refine own_go (st' := s₁.setTop (mkF m 50 #[.val (.ref ar), .val (.int x8), .val (.ref ar), .val (.int (3 : Int32)), .val (.int (2 : Int32)), .val (.long q1), .second, .val (.int (q1 ^^^ x7).toInt32)] [])) (fun _ k => XS.iinc X0.here hx rfl (hb hby d3_47) rfl (l' := #[.val (.ref ar), .val (.int x8), .val (.ref ar), .val (.int (3 : Int32)), .val (.int (2 : Int32)), .val (.long q1), .second, .val (.int (q1 ^^^ x7).toInt32)]) (by rw [show ((1 : Int32) + Int32.ofInt 1) = (2 : Int32) by decide]; rfl) k) ?_
  refine own_go (st' := s₁.setTop (mkF m 16 #[.val (.ref ar), .val (.int x8), .val (.ref ar), .val (.int (3 : Int32)), .val (.int (2 : Int32)), .val (.long q1), .second, .val (.int (q1 ^^^ x7).toInt32)] [])) (fun _ k => XS.goto X0.here hx rfl (pc0 := 50) (pc' := 16) rfl (hb hby d3_50) (by decide) (by decide) k) ?_
  refine own_go (st' := s₁.setTop (mkF m 18 #[.val (.ref ar), .val (.int x8), .val (.ref ar), .val (.int (3 : Int32)), .val (.int (2 : Int32)), .val (.long q1), .second, .val (.int (q1 ^^^ x7).toInt32)] [(.int (2 : Int32))])) (fun _ k => XS.iload X0.here hx rfl (hb hby d3_16) rfl k) ?_
  refine own_go (st' := s₁.setTop (mkF m 19 #[.val (.ref ar), .val (.int x8), .val (.ref ar), .val (.int (3 : Int32)), .val (.int (2 : Int32)), .val (.long q1), .second, .val (.int (q1 ^^^ x7).toInt32)] [(.int (3 : Int32)), (.int (2 : Int32))])) (fun _ k => XS.iloadN X0.here hx rfl (hb hby d3_18) rfl k) ?_
  have hc9 : (2 : Int32) < (3 : Int32) := by decide
  refine own_go (st' := s₁.setTop (mkF m 22 #[.val (.ref ar), .val (.int x8), .val (.ref ar), .val (.int (3 : Int32)), .val (.int (2 : Int32)), .val (.long q1), .second, .val (.int (q1 ^^^ x7).toInt32)] [])) (fun _ k => XS.icmpNo X0.here hx rfl (hb hby d3_19) rfl (tlt hc9).2.1 k) ?_
  refine own_go (st' := s₁.setTop (mkF m 23 #[.val (.ref ar), .val (.int x8), .val (.ref ar), .val (.int (3 : Int32)), .val (.int (2 : Int32)), .val (.long q1), .second, .val (.int (q1 ^^^ x7).toInt32)] [(.ref ar)])) (fun _ k => XS.aloadN X0.here hx rfl (hb hby d3_22) rfl rfl k) ?_
  refine own_go (st' := s₁.setTop (mkF m 25 #[.val (.ref ar), .val (.int x8), .val (.ref ar), .val (.int (3 : Int32)), .val (.int (2 : Int32)), .val (.long q1), .second, .val (.int (q1 ^^^ x7).toInt32)] [(.int (2 : Int32)), (.ref ar)])) (fun _ k => XS.iload X0.here hx rfl (hb hby d3_23) rfl k) ?_
  obtain ⟨cl10, Ar10, -, S10, M10, H10, -⟩ := id pr1
  have hin10 : ¬ ((2 : Int32) < 0 ∨ cl10.slots.size ≤ ((2 : Int32)).toNatClampNeg) := (inb_of S10 ⟨by decide, by decide⟩)
  have hat10 : cl10.slots[((2 : Int32)).toNatClampNeg]? = some (.long q2) := (H10.at hin10 rfl)
  refine own_go (st' := s₁.setTop (mkF m 26 #[.val (.ref ar), .val (.int x8), .val (.ref ar), .val (.int (3 : Int32)), .val (.int (2 : Int32)), .val (.long q1), .second, .val (.int (q1 ^^^ x7).toInt32)] [(.long q2)])) (X0.laload hx (j := (2 : Int32)) (v := (.long q2)) (by rw [e0]; exact Ar10.1) (State.isArrayOf_alike hZ.alike Ar10.2.1) Ar10.2.2 hin10 hat10 (g := (mkF m 25 #[.val (.ref ar), .val (.int x8), .val (.ref ar), .val (.int (3 : Int32)), .val (.int (2 : Int32)), .val (.long q1), .second, .val (.int (q1 ^^^ x7).toInt32)] [(.int (2 : Int32)), (.ref ar)])) rfl rfl (hb hby d3_25)) ?_
  refine own_go (st' := s₁.setTop (mkF m 28 #[.val (.ref ar), .val (.int x8), .val (.ref ar), .val (.int (3 : Int32)), .val (.int (2 : Int32)), .val (.long q2), .second, .val (.int (q1 ^^^ x7).toInt32)] [])) (fun _ k => XS.lstore X0.here hx rfl (hb hby d3_26) rfl (l' := #[.val (.ref ar), .val (.int x8), .val (.ref ar), .val (.int (3 : Int32)), .val (.int (2 : Int32)), .val (.long q2), .second, .val (.int (q1 ^^^ x7).toInt32)]) rfl k) ?_
  refine own_go (st' := s₁.setTop (mkF m 30 #[.val (.ref ar), .val (.int x8), .val (.ref ar), .val (.int (3 : Int32)), .val (.int (2 : Int32)), .val (.long q2), .second, .val (.int (q1 ^^^ x7).toInt32)] [(.long q2)])) (fun _ k => XS.lload X0.here hx rfl (hb hby d3_28) rfl k) ?_
  refine own_go (st' := s₁.setTop (mkF m 32 #[.val (.ref ar), .val (.int x8), .val (.ref ar), .val (.int (3 : Int32)), .val (.int (2 : Int32)), .val (.long q2), .second, .val (.int (q1 ^^^ x7).toInt32)] [(.long q2), (.long q2)])) (fun _ k => XS.lload X0.here hx rfl (hb hby d3_30) rfl k) ?_
  refine own_go (st' := s₁.setTop (mkF m 34 #[.val (.ref ar), .val (.int x8), .val (.ref ar), .val (.int (3 : Int32)), .val (.int (2 : Int32)), .val (.long q2), .second, .val (.int (q1 ^^^ x7).toInt32)] [(.int (32 : Int32)), (.long q2), (.long q2)])) (fun _ k => XS.bipush X0.here hx rfl (hb hby d3_32) k) ?_
  obtain ⟨x11, hx11⟩ : ∃ z : Int64, z = ((q2.toUInt64 >>> ((32 : Int32) &&& 0x3f).toInt64.toUInt64).toInt64) := ⟨_, rfl⟩
  refine own_go (st' := s₁.setTop (mkF m 35 #[.val (.ref ar), .val (.int x8), .val (.ref ar), .val (.int (3 : Int32)), .val (.int (2 : Int32)), .val (.long q2), .second, .val (.int (q1 ^^^ x7).toInt32)] [(.long x11), (.long q2)])) (fun _ k => XS.lushr X0.here hx rfl (hb hby d3_34) rfl (by rw [hx11] at k; exact k)) ?_
  refine own_go (st' := s₁.setTop (mkF m 36 #[.val (.ref ar), .val (.int x8), .val (.ref ar), .val (.int (3 : Int32)), .val (.int (2 : Int32)), .val (.long q2), .second, .val (.int (q1 ^^^ x7).toInt32)] [(.long (q2 ^^^ x11))])) (fun _ k => XS.lxor X0.here hx rfl (hb hby d3_35) rfl k) ?_
  refine own_go (st' := s₁.setTop (mkF m 37 #[.val (.ref ar), .val (.int x8), .val (.ref ar), .val (.int (3 : Int32)), .val (.int (2 : Int32)), .val (.long q2), .second, .val (.int (q1 ^^^ x7).toInt32)] [(.int (q2 ^^^ x11).toInt32)])) (fun _ k => XS.l2i X0.here hx rfl (hb hby d3_36) rfl k) ?_
  refine own_go (st' := s₁.setTop (mkF m 39 #[.val (.ref ar), .val (.int x8), .val (.ref ar), .val (.int (3 : Int32)), .val (.int (2 : Int32)), .val (.long q2), .second, .val (.int (q2 ^^^ x11).toInt32)] [])) (fun _ k => XS.istore X0.here hx rfl (hb hby d3_37) rfl (l' := #[.val (.ref ar), .val (.int x8), .val (.ref ar), .val (.int (3 : Int32)), .val (.int (2 : Int32)), .val (.long q2), .second, .val (.int (q2 ^^^ x11).toInt32)]) rfl k) ?_
  refine own_go (st' := s₁.setTop (mkF m 41 #[.val (.ref ar), .val (.int x8), .val (.ref ar), .val (.int (3 : Int32)), .val (.int (2 : Int32)), .val (.long q2), .second, .val (.int (q2 ^^^ x11).toInt32)] [(.int (31 : Int32))])) (fun _ k => XS.bipush X0.here hx rfl (hb hby d3_39) k) ?_
  refine own_go (st' := s₁.setTop (mkF m 42 #[.val (.ref ar), .val (.int x8), .val (.ref ar), .val (.int (3 : Int32)), .val (.int (2 : Int32)), .val (.long q2), .second, .val (.int (q2 ^^^ x11).toInt32)] [(.int x8), (.int (31 : Int32))])) (fun _ k => XS.iloadN X0.here hx rfl (hb hby d3_41) rfl k) ?_
  refine own_go (st' := s₁.setTop (mkF m 43 #[.val (.ref ar), .val (.int x8), .val (.ref ar), .val (.int (3 : Int32)), .val (.int (2 : Int32)), .val (.long q2), .second, .val (.int (q2 ^^^ x11).toInt32)] [(.int ((31 : Int32) * x8))])) (fun _ k => XS.imul X0.here hx rfl (hb hby d3_42) rfl k) ?_
  refine own_go (st' := s₁.setTop (mkF m 45 #[.val (.ref ar), .val (.int x8), .val (.ref ar), .val (.int (3 : Int32)), .val (.int (2 : Int32)), .val (.long q2), .second, .val (.int (q2 ^^^ x11).toInt32)] [(.int (q2 ^^^ x11).toInt32), (.int ((31 : Int32) * x8))])) (fun _ k => XS.iload X0.here hx rfl (hb hby d3_43) rfl k) ?_
  refine own_go (st' := s₁.setTop (mkF m 46 #[.val (.ref ar), .val (.int x8), .val (.ref ar), .val (.int (3 : Int32)), .val (.int (2 : Int32)), .val (.long q2), .second, .val (.int (q2 ^^^ x11).toInt32)] [(.int (((31 : Int32) * x8) + (q2 ^^^ x11).toInt32))])) (fun _ k => XS.iadd X0.here hx rfl (hb hby d3_45) rfl k) ?_
  refine own_go (st' := s₁.setTop (mkF m 47 #[.val (.ref ar), .val (.int (((31 : Int32) * x8) + (q2 ^^^ x11).toInt32)), .val (.ref ar), .val (.int (3 : Int32)), .val (.int (2 : Int32)), .val (.long q2), .second, .val (.int (q2 ^^^ x11).toInt32)] [])) (fun _ k => XS.istoreN X0.here hx rfl (hb hby d3_46) rfl (l' := #[.val (.ref ar), .val (.int (((31 : Int32) * x8) + (q2 ^^^ x11).toInt32)), .val (.ref ar), .val (.int (3 : Int32)), .val (.int (2 : Int32)), .val (.long q2), .second, .val (.int (q2 ^^^ x11).toInt32)]) rfl k) ?_
  refine own_go (st' := s₁.setTop (mkF m 50 #[.val (.ref ar), .val (.int (((31 : Int32) * x8) + (q2 ^^^ x11).toInt32)), .val (.ref ar), .val (.int (3 : Int32)), .val (.int (3 : Int32)), .val (.long q2), .second, .val (.int (q2 ^^^ x11).toInt32)] [])) (fun _ k => XS.iinc X0.here hx rfl (hb hby d3_47) rfl (l' := #[.val (.ref ar), .val (.int (((31 : Int32) * x8) + (q2 ^^^ x11).toInt32)), .val (.ref ar), .val (.int (3 : Int32)), .val (.int (3 : Int32)), .val (.long q2), .second, .val (.int (q2 ^^^ x11).toInt32)]) (by rw [show ((2 : Int32) + Int32.ofInt 1) = (3 : Int32) by decide]; rfl) k) ?_
  refine own_go (st' := s₁.setTop (mkF m 16 #[.val (.ref ar), .val (.int (((31 : Int32) * x8) + (q2 ^^^ x11).toInt32)), .val (.ref ar), .val (.int (3 : Int32)), .val (.int (3 : Int32)), .val (.long q2), .second, .val (.int (q2 ^^^ x11).toInt32)] [])) (fun _ k => XS.goto X0.here hx rfl (pc0 := 50) (pc' := 16) rfl (hb hby d3_50) (by decide) (by decide) k) ?_
  refine own_go (st' := s₁.setTop (mkF m 18 #[.val (.ref ar), .val (.int (((31 : Int32) * x8) + (q2 ^^^ x11).toInt32)), .val (.ref ar), .val (.int (3 : Int32)), .val (.int (3 : Int32)), .val (.long q2), .second, .val (.int (q2 ^^^ x11).toInt32)] [(.int (3 : Int32))])) (fun _ k => XS.iload X0.here hx rfl (hb hby d3_16) rfl k) ?_
  refine own_go (st' := s₁.setTop (mkF m 19 #[.val (.ref ar), .val (.int (((31 : Int32) * x8) + (q2 ^^^ x11).toInt32)), .val (.ref ar), .val (.int (3 : Int32)), .val (.int (3 : Int32)), .val (.long q2), .second, .val (.int (q2 ^^^ x11).toInt32)] [(.int (3 : Int32)), (.int (3 : Int32))])) (fun _ k => XS.iloadN X0.here hx rfl (hb hby d3_18) rfl k) ?_
  have hc12 : ¬ ((3 : Int32) < (3 : Int32)) := by decide
  refine own_go (st' := s₁.setTop (mkF m 53 #[.val (.ref ar), .val (.int (((31 : Int32) * x8) + (q2 ^^^ x11).toInt32)), .val (.ref ar), .val (.int (3 : Int32)), .val (.int (3 : Int32)), .val (.long q2), .second, .val (.int (q2 ^^^ x11).toInt32)] [])) (fun _ k => XS.icmpYes X0.here hx rfl (pc0 := 19) (pc' := 53) rfl (hb hby d3_19) rfl (flt hc12).2.1 (by decide) (by decide) k) ?_
  refine own_go (st' := s₁.setTop (mkF m 54 #[.val (.ref ar), .val (.int (((31 : Int32) * x8) + (q2 ^^^ x11).toInt32)), .val (.ref ar), .val (.int (3 : Int32)), .val (.int (3 : Int32)), .val (.long q2), .second, .val (.int (q2 ^^^ x11).toInt32)] [(.int (((31 : Int32) * x8) + (q2 ^^^ x11).toInt32))])) (fun _ k => XS.iloadN X0.here hx rfl (hb hby d3_53) rfl k) ?_
  obtain ⟨fs, hr, hrun, hended, hW, hsame⟩ := X0.leave (v := some (.int (((31 : Int32) * x8) + (q2 ^^^ x11).toInt32))) (fun h => by rw [Bd.returns] at h; cases h)
  refine ⟨_, _, ?_, hP _ _ hrun hended ⟨_, _, rfl, ?_, ⟨_, rfl⟩, hW, hsame.mono (by decide) (by decide)⟩⟩
  · exact retOut X0 hx Bd.returns rfl (Or.inl ⟨rfl, Or.inl rfl, _, rfl⟩) (hb hby d3_54) hr
  · show Qrm3_3 Z ar ka q0 q1 q2 h0 n0 _ s₁.heap _
    rw [e0]
    exact ⟨(((31 : Int32) * x8) + (q2 ^^^ x11).toInt32), rfl, N0, rfl⟩
theorem ef_rm1_3 (m : MethodId) (x0 : Addr) (x1 : Int32) (x2 : Addr) : entryFrame m #[(.ref x0), (.int x1), (.ref x2)] 3 = mkF m 0 #[.val (.ref x0), .val (.int x1), .val (.ref x2)] [] := by first | (simp [entryFrame, mkF, argsToLocals, Value.category]; done) | rfl
def Qrm1_3 (Z : State) (a1 : Addr) (p2 : Int32) (ar : Addr) (ka : ClassId) (u1 : Int32) (u2 : Int32) (q0 : Int64) (q1 : Int64) (q2 : Int64) (h0 : Heap) (n0 : Nat) (v : Option Value) (h : Heap) (L : List Loc) : Prop := (v = none) ∧ (Fr n0 L) ∧ (Keep h0 h [a1]) ∧ (Exa Z h a1 "com/example/millwright/millwright/cut/Pattern") ∧ (Fld Z h a1 "com/example/millwright/millwright/cut/Pattern" "counts" "[J" (.ref ar))
set_option maxRecDepth 65536 in
set_option maxHeartbeats 40000000 in
theorem rm1_3 (l : Launch) (Z : State) (a0 : Array Value) (hw : ∀ d ∈ tables_1, d.before a0 Z = true) (ws : List Jvm.Cond) (a1 : Addr) (p2 : Int32) (ar : Addr) (ka : ClassId) (u1 : Int32) (u2 : Int32) (q0 : Int64) (q1 : Int64) (q2 : Int64) (h0 : Heap) (n0 : Nat) (Z0 : n0 ≤ h0.size) (pr1 : Exa Z h0 a1 "com/example/millwright/millwright/cut/Pattern") (pr2 : Fld Z h0 a1 "com/example/millwright/millwright/cut/Pattern" "stock" "I" (.int u1)) (pr3 : Fld Z h0 a1 "com/example/millwright/millwright/cut/Pattern" "counts" "[J" .null) (pr4 : Fld Z h0 a1 "com/example/millwright/millwright/cut/Pattern" "hash" "I" (.int u2)) (pr5 : Arv Z h0 ar ka .long (3 : Int32) [(.long q0), (.long q1), (.long q2)] (.long (0 : Int64))) (pr6 : n0 ≤ a1) (pr7 : a1 ≠ ar) :
    MetFree l (⟨"com/example/millwright/millwright/cut/Pattern", "<init>", "(I[J)V"⟩ : MethodName) (head1 (Jvm.Cond.code (⟨"com/example/millwright/millwright/cut/Pattern", "<init>", "(I[J)V"⟩ : MethodName) prog_22_method_1_code 3 none :: ws) ({ frames := 1, cells := 0, slots := 0, locals := 21 } : Room)) (fun a U => a = #[(.ref a1), (.int p2), (.ref ar)] ∧ Z.Warmed39 U.vm ∧ U.heap = h0) (fun _ _ _ _ _ => True) (fun _ U o U' => ∃ v L, o = .returned v ∧ Qrm1_3 Z a1 p2 ar ka u1 u2 q0 q1 q2 h0 n0 v U'.heap L ∧ FrameEnd U o U' L ({ frames := 1, cells := 0, slots := 0, locals := 21 } : Room).cells ({ frames := 1, cells := 0, slots := 0, locals := 21 } : Room).slots) := by
  refine MetFree.of_bodySF (plainFor_of_name pn_1) hisR ?_
  intro p e s m args below meth c s₁ Bd hml0 hP0 hK
  obtain ⟨rfl, hZ, hh⟩ := hP0
  have hx := Bd.exec
  have hby := Bd.bytes
  have hml : c.maxLocals = 3 := hml0
  have hown : s.vm.findClass "com/example/millwright/millwright/cut/Pattern" = some m.cls := findClass_of_methodNamed Bd.named
  have hnm := (name_of_methodNamed Bd.named Bd.method).1
  have X0 : Stand p l e ({ frames := 1, cells := 0, slots := 0, locals := 21 } : Room) s m #[(.ref a1), (.int p2), (.ref ar)] below meth c s₁ [] 0 0 := Stand.of_body Bd
  have e0 : s₁.heap = h0 := by rw [← hh, Bd.state]; rfl
  have N0 := Fr.nil n0
  suffices own_H : ∀ (P : State → Outcome → Prop), (∀ U o, U.status = .running → Ended U below o → (∃ v L, o = .returned v ∧ Qrm1_3 Z a1 p2 ar ka u1 u2 q0 q1 q2 h0 n0 v U.heap L ∧ FrameEnd s o U L ({ frames := 1, cells := 0, slots := 0, locals := 21 } : Room).cells ({ frames := 1, cells := 0, slots := 0, locals := 21 } : Room).slots) → P U o) → own_Go p.tables e below P (s₁.setTop (mkF m 0 #[.val (.ref a1), .val (.int p2), .val (.ref ar)] [])) from own_go (fun _ k => castTop (ef_rm1_3 m a1 p2 ar) k) (own_H _ (fun U o h1 h2 h3 => ⟨h1, h2, h3⟩))
  intro P hP
  have lt_a1 : a1 < h0.size := pr1.lt
  have lt_ar : ar < h0.size := pr5.lt
  refine own_go (st' := s₁.setTop (mkF m 1 #[.val (.ref a1), .val (.int p2), .val (.ref ar)] [(.ref a1)])) (fun _ k => XS.aloadN X0.here hx rfl (hb hby d1_0) rfl rfl k) ?_
  obtain ⟨T1, X1, e1, st1⟩ := initO X0 hx hZ hown (hw _ (List.mem_of_getElem? (i := 8) rfl)) (hw _ (List.mem_of_getElem? (i := 9) rfl)) (hw _ (List.mem_of_getElem? (i := 10) rfl)) e0 (g := (mkF m 1 #[.val (.ref a1), .val (.int p2), .val (.ref ar)] [(.ref a1)])) rfl (by rw [hml]; rfl) rfl (hb hby d1_1) (by decide) (W := 0) (by show 2 * 0 + _ ≤ _; exact Nat.le_of_eq rfl) (by decide)
  refine own_go (st' := T1.setTop (mkF m 4 #[.val (.ref a1), .val (.int p2), .val (.ref ar)] [])) (st1) ?_
  refine own_go (st' := T1.setTop (mkF m 5 #[.val (.ref a1), .val (.int p2), .val (.ref ar)] [(.ref a1)])) (fun _ k => XS.aloadN X1.here hx rfl (hb hby d1_4) rfl rfl k) ?_
  refine own_go (st' := T1.setTop (mkF m 6 #[.val (.ref a1), .val (.int p2), .val (.ref ar)] [(.int p2), (.ref a1)])) (fun _ k => XS.iloadN X1.here hx rfl (hb hby d1_5) rfl k) ?_
  obtain ⟨T2, h2, X2, e2, W2, st2⟩ := putF X1 hx hZ hown (host := "") (Or.inl (hw _ (List.mem_of_getElem? (i := 11) rfl))) Via.refl e1 pr2 pr1 (Or.inr ⟨(hw _ (List.mem_of_getElem? (i := 12) rfl)), rfl, hnm⟩) (hw _ (List.mem_of_getElem? (i := 3) rfl)) (ty := .int) (by decide) rfl rfl (g := (mkF m 6 #[.val (.ref a1), .val (.int p2), .val (.ref ar)] [(.int p2), (.ref a1)])) rfl rfl (hb hby d1_6)
  have sz2 : h2.size = h0.size := W2.size
  have N2 := Fr.snoc X2 N0 (by omega)
  have f2 : Fld Z h2 a1 "com/example/millwright/millwright/cut/Pattern" "stock" "I" (.int p2) := pr2.same W2
  refine own_go (st' := T2.setTop (mkF m 9 #[.val (.ref a1), .val (.int p2), .val (.ref ar)] [])) (st2) ?_
  refine own_go (st' := T2.setTop (mkF m 10 #[.val (.ref a1), .val (.int p2), .val (.ref ar)] [(.ref a1)])) (fun _ k => XS.aloadN X2.here hx rfl (hb hby d1_9) rfl rfl k) ?_
  refine own_go (st' := T2.setTop (mkF m 11 #[.val (.ref a1), .val (.int p2), .val (.ref ar)] [(.ref ar), (.ref a1)])) (fun _ k => XS.aloadN X2.here hx rfl (hb hby d1_10) rfl rfl k) ?_
  have c3 : Fld Z h2 a1 "com/example/millwright/millwright/cut/Pattern" "counts" "[J" .null := (pr3.other W2 (Or.inr (slot_ne (Or.inr (hw _ (List.mem_of_getElem? (i := 14) rfl))) (Or.inr (hw _ (List.mem_of_getElem? (i := 12) rfl))) (by decide) (t := (.array .long)) (t' := .int) (by decide) (by decide))))
  have c4 : Exa Z h2 a1 "com/example/millwright/millwright/cut/Pattern" := (pr1.wr W2)
  obtain ⟨T5, h5, X5, e5, W5, st5⟩ := putF X2 hx hZ hown (host := "") (Or.inl (hw _ (List.mem_of_getElem? (i := 13) rfl))) Via.refl e2 c3 c4 (Or.inr ⟨(hw _ (List.mem_of_getElem? (i := 14) rfl)), rfl, hnm⟩) (hw _ (List.mem_of_getElem? (i := 3) rfl)) (ty := (.array .long)) (by decide) rfl rfl (g := (mkF m 11 #[.val (.ref a1), .val (.int p2), .val (.ref ar)] [(.ref ar), (.ref a1)])) rfl rfl (hb hby d1_11)
  have sz5 : h5.size = h2.size := W5.size
  have N5 := Fr.snoc X5 N2 (by omega)
  have f5 : Fld Z h5 a1 "com/example/millwright/millwright/cut/Pattern" "counts" "[J" (.ref ar) := c3.same W5
  refine own_go (st' := T5.setTop (mkF m 14 #[.val (.ref a1), .val (.int p2), .val (.ref ar)] [])) (st5) ?_
  refine own_go (st' := T5.setTop (mkF m 15 #[.val (.ref a1), .val (.int p2), .val (.ref ar)] [(.ref a1)])) (fun _ k => XS.aloadN X5.here hx rfl (hb hby d1_14) rfl rfl k) ?_
  refine own_go (st' := T5.setTop (mkF m 17 #[.val (.ref a1), .val (.int p2), .val (.ref ar)] [(.int (31 : Int32)), (.ref a1)])) (fun _ k => XS.bipush X5.here hx rfl (hb hby d1_15) k) ?_
  refine own_go (st' := T5.setTop (mkF m 18 #[.val (.ref a1), .val (.int p2), .val (.ref ar)] [(.int p2), (.int (31 : Int32)), (.ref a1)])) (fun _ k => XS.iloadN X5.here hx rfl (hb hby d1_17) rfl k) ?_
  refine own_go (st' := T5.setTop (mkF m 19 #[.val (.ref a1), .val (.int p2), .val (.ref ar)] [(.int ((31 : Int32) * p2)), (.ref a1)])) (fun _ k => XS.imul X5.here hx rfl (hb hby d1_18) rfl k) ?_
  refine own_go (st' := T5.setTop (mkF m 20 #[.val (.ref a1), .val (.int p2), .val (.ref ar)] [(.ref ar), (.int ((31 : Int32) * p2)), (.ref a1)])) (fun _ k => XS.aloadN X5.here hx rfl (hb hby d1_19) rfl rfl k) ?_
  have c7 : Arv Z h5 ar ka .long (3 : Int32) [(.long q0), (.long q1), (.long q2)] (.long (0 : Int64)) := ((pr5.other W2 (by first | assumption | exact Ne.symm (by assumption) | (apply Nat.ne_of_lt; omega) | (apply Nat.ne_of_gt; omega))).other W5 (by first | assumption | exact Ne.symm (by assumption) | (apply Nat.ne_of_lt; omega) | (apply Nat.ne_of_gt; omega)))
  obtain ⟨_, _, ⟨T6, LC6, kC6, nC6⟩, -, X6, ⟨Lc6, hQ6, lq6, yq6, zq6⟩, st6⟩ := Jvm.LawKit.callS X5 hx (y := (⟨"java/util/Arrays", "hashCode", "([J)I"⟩ : MethodName)) hown (mvT hZ (hw _ (List.mem_of_getElem? (i := 15) rfl))) (mvT hZ (hw _ (List.mem_of_getElem? (i := 16) rfl))) (mvT hZ (hw _ (List.mem_of_getElem? (i := 17) rfl))) (mvT hZ (hw _ (List.mem_of_getElem? (i := 18) rfl))) (by decide) (backOf (W := 2) (rm3_3 l Z a0 hw [] ar ka q0 q1 q2 h5 n0 (by omega) c7) hZ (hw _ (List.mem_of_getElem? (i := 18) rfl)) (hw _ (List.mem_of_getElem? (i := 17) rfl)) (by decide) (by decide)) (g := (mkF m 20 #[.val (.ref a1), .val (.int p2), .val (.ref ar)] [(.ref ar), (.int ((31 : Int32) * p2)), (.ref a1)])) rfl (by rw [hml]; rfl) (argsL := [(.ref ar)]) (rest := [(.int ((31 : Int32) * p2)), (.ref a1)]) (lenOf pd_0 rfl) rfl (by show 2 * 0 + _ ≤ _; exact Nat.le_of_eq rfl) (hb hby d1_20) (fun _ _ => ⟨rfl, e5, (by decide : 0 + 0 ≤ _), (by decide : 0 + 0 ≤ _)⟩)
  dsimp only [Pt.U, Pt.locs, Pt.cells, Pt.slots] at X6 lq6 yq6 zq6 st6 hQ6
  subst lq6 yq6 zq6
  obtain ⟨z_6, rfl, Nq6, eq6⟩ := hQ6
  have N6 := Fr.app N5 Nq6
  refine own_go (st' := T6.setTop (mkF m 23 #[.val (.ref a1), .val (.int p2), .val (.ref ar)] [(.int z_6), (.int ((31 : Int32) * p2)), (.ref a1)])) (fun t k => st6 t k) ?_
  refine own_go (st' := T6.setTop (mkF m 24 #[.val (.ref a1), .val (.int p2), .val (.ref ar)] [(.int (((31 : Int32) * p2) + z_6)), (.ref a1)])) (fun _ k => XS.iadd X6.here hx rfl (hb hby d1_23) rfl k) ?_
  have c8 : Fld Z h5 a1 "com/example/millwright/millwright/cut/Pattern" "hash" "I" (.int u2) := ((pr4.other W2 (Or.inr (slot_ne (Or.inr (hw _ (List.mem_of_getElem? (i := 20) rfl))) (Or.inr (hw _ (List.mem_of_getElem? (i := 12) rfl))) (by decide) (t := .int) (t' := .int) (by decide) (by decide)))).other W5 (Or.inr (slot_ne (Or.inr (hw _ (List.mem_of_getElem? (i := 20) rfl))) (Or.inr (hw _ (List.mem_of_getElem? (i := 14) rfl))) (by decide) (t := .int) (t' := (.array .long)) (by decide) (by decide))))
  have c9 : Exa Z h5 a1 "com/example/millwright/millwright/cut/Pattern" := (c4.wr W5)
  obtain ⟨T10, h10, X10, e10, W10, st10⟩ := putF X6 hx hZ hown (host := "") (Or.inl (hw _ (List.mem_of_getElem? (i := 19) rfl))) Via.refl eq6 c8 c9 (Or.inr ⟨(hw _ (List.mem_of_getElem? (i := 20) rfl)), rfl, hnm⟩) (hw _ (List.mem_of_getElem? (i := 3) rfl)) (ty := .int) (by decide) rfl rfl (g := (mkF m 24 #[.val (.ref a1), .val (.int p2), .val (.ref ar)] [(.int (((31 : Int32) * p2) + z_6)), (.ref a1)])) rfl rfl (hb hby d1_24)
  have sz10 : h10.size = h5.size := W10.size
  have N10 := Fr.snoc X10 N6 (by omega)
  have f10 : Fld Z h10 a1 "com/example/millwright/millwright/cut/Pattern" "hash" "I" (.int (((31 : Int32) * p2) + z_6)) := c8.same W10
  refine own_go (st' := T10.setTop (mkF m 27 #[.val (.ref a1), .val (.int p2), .val (.ref ar)] [])) (st10) ?_
  obtain ⟨fs, hr, hrun, hended, hW, hsame⟩ := X10.leave (v := none) (fun _ => rfl)
  refine ⟨_, _, ?_, hP _ _ hrun hended ⟨_, _, rfl, ?_, ⟨_, rfl⟩, hW, hsame.mono (by decide) (by decide)⟩⟩
  · exact X10.returnOut hx Bd.returns (hb hby d1_27) hr
  · show Qrm1_3 Z a1 p2 ar ka u1 u2 q0 q1 q2 h0 n0 _ T10.heap _
    have c12 : Exa Z h10 a1 "com/example/millwright/millwright/cut/Pattern" := (c9.wr W10)
    have c13 : Fld Z h10 a1 "com/example/millwright/millwright/cut/Pattern" "counts" "[J" (.ref ar) := (f5.other W10 (Or.inr (slot_ne (Or.inr (hw _ (List.mem_of_getElem? (i := 14) rfl))) (Or.inr (hw _ (List.mem_of_getElem? (i := 20) rfl))) (by decide) (t := (.array .long)) (t' := .int) (by decide) (by decide))))
    rw [e10]
    exact ⟨rfl, N10, ((((Keep.refl h0 [a1]).wr W2 (Or.inl (List.mem_of_getElem? (i := 0) rfl))).wr W5 (Or.inl (List.mem_of_getElem? (i := 0) rfl))).wr W10 (Or.inl (List.mem_of_getElem? (i := 0) rfl))), c12, c13⟩
theorem ef_rm4_3 (m : MethodId) (x0 : Addr) : entryFrame m #[(.ref x0)] 8 = mkF m 0 #[.val (.ref x0), .unset, .unset, .unset, .unset, .unset, .unset, .unset] [] := by first | (simp [entryFrame, mkF, argsToLocals, Value.category]; done) | rfl
def Qrm4_3 (Z : State) (a1 : Addr) (ar : Addr) (ka : ClassId) (q0 : Int64) (q1 : Int64) (q2 : Int64) (h0 : Heap) (n0 : Nat) (v : Option Value) (h : Heap) (L : List Loc) : Prop := (v = some (.long ((((0 : Int64) + q0) + q1) + q2))) ∧ (Fr n0 L) ∧ (h = h0)
set_option maxRecDepth 65536 in
set_option maxHeartbeats 40000000 in
theorem rm4_3 (l : Launch) (Z : State) (a0 : Array Value) (hw : ∀ d ∈ tables_1, d.before a0 Z = true) (ws : List Jvm.Cond) (a1 : Addr) (ar : Addr) (ka : ClassId) (q0 : Int64) (q1 : Int64) (q2 : Int64) (h0 : Heap) (n0 : Nat) (Z0 : n0 ≤ h0.size) (pr1 : Fld Z h0 a1 "com/example/millwright/millwright/cut/Pattern" "counts" "[J" (.ref ar)) (pr2 : Arv Z h0 ar ka .long (3 : Int32) [(.long q0), (.long q1), (.long q2)] (.long (0 : Int64))) :
    MetFree l (⟨"com/example/millwright/millwright/cut/Pattern", "pieceCount", "()J"⟩ : MethodName) (head1 (Jvm.Cond.code (⟨"com/example/millwright/millwright/cut/Pattern", "pieceCount", "()J"⟩ : MethodName) prog_22_method_4_code 8 (some .long) :: ws) ({ frames := 0, cells := 0, slots := 0, locals := 0 } : Room)) (fun a U => a = #[(.ref a1)] ∧ Z.Warmed39 U.vm ∧ U.heap = h0) (fun _ _ _ _ _ => True) (fun _ U o U' => ∃ v L, o = .returned v ∧ Qrm4_3 Z a1 ar ka q0 q1 q2 h0 n0 v U'.heap L ∧ FrameEnd U o U' L ({ frames := 0, cells := 0, slots := 0, locals := 0 } : Room).cells ({ frames := 0, cells := 0, slots := 0, locals := 0 } : Room).slots) := by
  refine MetFree.of_bodySF (plainFor_of_name pn_4) hisR ?_
  intro p e s m args below meth c s₁ Bd hml0 hP0 hK
  obtain ⟨rfl, hZ, hh⟩ := hP0
  have hx := Bd.exec
  have hby := Bd.bytes
  have hml : c.maxLocals = 8 := hml0
  have hown : s.vm.findClass "com/example/millwright/millwright/cut/Pattern" = some m.cls := findClass_of_methodNamed Bd.named
  have hnm := (name_of_methodNamed Bd.named Bd.method).1
  have X0 : Stand p l e ({ frames := 0, cells := 0, slots := 0, locals := 0 } : Room) s m #[(.ref a1)] below meth c s₁ [] 0 0 := Stand.of_body Bd
  have e0 : s₁.heap = h0 := by rw [← hh, Bd.state]; rfl
  have N0 := Fr.nil n0
  suffices own_H : ∀ (P : State → Outcome → Prop), (∀ U o, U.status = .running → Ended U below o → (∃ v L, o = .returned v ∧ Qrm4_3 Z a1 ar ka q0 q1 q2 h0 n0 v U.heap L ∧ FrameEnd s o U L ({ frames := 0, cells := 0, slots := 0, locals := 0 } : Room).cells ({ frames := 0, cells := 0, slots := 0, locals := 0 } : Room).slots) → P U o) → own_Go p.tables e below P (s₁.setTop (mkF m 0 #[.val (.ref a1), .unset, .unset, .unset, .unset, .unset, .unset, .unset] [])) from own_go (fun _ k => castTop (ef_rm4_3 m a1) k) (own_H _ (fun U o h1 h2 h3 => ⟨h1, h2, h3⟩))
  intro P hP
  have lt_a1 : a1 < h0.size := pr1.lt
  have lt_ar : ar < h0.size := pr2.lt
  refine own_go (st' := s₁.setTop (mkF m 1 #[.val (.ref a1), .unset, .unset, .unset, .unset, .unset, .unset, .unset] [(.long (0 : Int64))])) (fun _ k => XS.lconst X0.here hx rfl (hb hby d4_0) k) ?_
  refine own_go (st' := s₁.setTop (mkF m 2 #[.val (.ref a1), .val (.long (0 : Int64)), .second, .unset, .unset, .unset, .unset, .unset] [])) (fun _ k => XS.lstoreN X0.here hx rfl (hb hby d4_1) rfl (l' := #[.val (.ref a1), .val (.long (0 : Int64)), .second, .unset, .unset, .unset, .unset, .unset]) rfl k) ?_
  refine own_go (st' := s₁.setTop (mkF m 3 #[.val (.ref a1), .val (.long (0 : Int64)), .second, .unset, .unset, .unset, .unset, .unset] [(.ref a1)])) (fun _ k => XS.aloadN X0.here hx rfl (hb hby d4_2) rfl rfl k) ?_
  obtain ⟨T1, X1, e1, st1⟩ := getF X0 hx hZ hown (host := "") (Or.inl (hw _ (List.mem_of_getElem? (i := 13) rfl))) Via.refl e0 pr1 (g := (mkF m 3 #[.val (.ref a1), .val (.long (0 : Int64)), .second, .unset, .unset, .unset, .unset, .unset] [(.ref a1)])) rfl rfl (hb hby d4_3)
  refine own_go (st' := T1.setTop (mkF m 6 #[.val (.ref a1), .val (.long (0 : Int64)), .second, .unset, .unset, .unset, .unset, .unset] [(.ref ar)])) (st1) ?_
  refine own_go (st' := T1.setTop (mkF m 7 #[.val (.ref a1), .val (.long (0 : Int64)), .second, .val (.ref ar), .unset, .unset, .unset, .unset] [])) (fun _ k => XS.astoreN X1.here hx rfl (hb hby d4_6) rfl rfl (l' := #[.val (.ref a1), .val (.long (0 : Int64)), .second, .val (.ref ar), .unset, .unset, .unset, .unset]) rfl k) ?_
  refine own_go (st' := T1.setTop (mkF m 8 #[.val (.ref a1), .val (.long (0 : Int64)), .second, .val (.ref ar), .unset, .unset, .unset, .unset] [(.ref ar)])) (fun _ k => XS.aloadN X1.here hx rfl (hb hby d4_7) rfl rfl k) ?_
  obtain ⟨cl2, Ar2, -, S2, M2, -, -⟩ := id pr2
  refine own_go (st' := T1.setTop (mkF m 9 #[.val (.ref a1), .val (.long (0 : Int64)), .second, .val (.ref ar), .unset, .unset, .unset, .unset] [(.int (3 : Int32))])) (fun t k => X1.arraylength hx (by rw [e1]; exact Ar2.1) (State.isArrayOf_alike hZ.alike Ar2.2.1) (g := (mkF m 8 #[.val (.ref a1), .val (.long (0 : Int64)), .second, .val (.ref ar), .unset, .unset, .unset, .unset] [(.ref ar)])) rfl rfl (hb hby d4_8) t (by rw [len_of S2 M2]; exact k)) ?_
  refine own_go (st' := T1.setTop (mkF m 11 #[.val (.ref a1), .val (.long (0 : Int64)), .second, .val (.ref ar), .val (.int (3 : Int32)), .unset, .unset, .unset] [])) (fun _ k => XS.istore X1.here hx rfl (hb hby d4_9) rfl (l' := #[.val (.ref a1), .val (.long (0 : Int64)), .second, .val (.ref ar), .val (.int (3 : Int32)), .unset, .unset, .unset]) rfl k) ?_
  refine own_go (st' := T1.setTop (mkF m 12 #[.val (.ref a1), .val (.long (0 : Int64)), .second, .val (.ref ar), .val (.int (3 : Int32)), .unset, .unset, .unset] [(.int (0 : Int32))])) (fun _ k => XS.iconst X1.here hx rfl (hb hby d4_11) k) ?_
  refine own_go (st' := T1.setTop (mkF m 14 #[.val (.ref a1), .val (.long (0 : Int64)), .second, .val (.ref ar), .val (.int (3 : Int32)), .val (.int (0 : Int32)), .unset, .unset] [])) (fun _ k => XS.istore X1.here hx rfl (hb hby d4_12) rfl (l' := #[.val (.ref a1), .val (.long (0 : Int64)), .second, .val (.ref ar), .val (.int (3 : Int32)), .val (.int (0 : Int32)), .unset, .unset]) rfl k) ?_
  refine own_go (st' := T1.setTop (mkF m 16 #[.val (.ref a1), .val (.long (0 : Int64)), .second, .val (.ref ar), .val (.int (3 : Int32)), .val (.int (0 : Int32)), .unset, .unset] [(.int (0 : Int32))])) (fun _ k => XS.iload X1.here hx rfl (hb hby d4_14) rfl k) ?_
  refine own_go (st' := T1.setTop (mkF m 18 #[.val (.ref a1), .val (.long (0 : Int64)), .second, .val (.ref ar), .val (.int (3 : Int32)), .val (.int (0 : Int32)), .unset, .unset] [(.int (3 : Int32)), (.int (0 : Int32))])) (fun _ k => XS.iload X1.here hx rfl (hb hby d4_16) rfl k) ?_
  have hc3 : (0 : Int32) < (3 : Int32) := by decide
  refine own_go (st' := T1.setTop (mkF m 21 #[.val (.ref a1), .val (.long (0 : Int64)), .second, .val (.ref ar), .val (.int (3 : Int32)), .val (.int (0 : Int32)), .unset, .unset] [])) (fun _ k => XS.icmpNo X1.here hx rfl (hb hby d4_18) rfl (tlt hc3).2.1 k) ?_
  refine own_go (st' := T1.setTop (mkF m 22 #[.val (.ref a1), .val (.long (0 : Int64)), .second, .val (.ref ar), .val (.int (3 : Int32)), .val (.int (0 : Int32)), .unset, .unset] [(.ref ar)])) (fun _ k => XS.aloadN X1.here hx rfl (hb hby d4_21) rfl rfl k) ?_
  refine own_go (st' := T1.setTop (mkF m 24 #[.val (.ref a1), .val (.long (0 : Int64)), .second, .val (.ref ar), .val (.int (3 : Int32)), .val (.int (0 : Int32)), .unset, .unset] [(.int (0 : Int32)), (.ref ar)])) (fun _ k => XS.iload X1.here hx rfl (hb hby d4_22) rfl k) ?_
  obtain ⟨cl4, Ar4, -, S4, M4, H4, -⟩ := id pr2
  have hin4 : ¬ ((0 : Int32) < 0 ∨ cl4.slots.size ≤ ((0 : Int32)).toNatClampNeg) := (inb_of S4 ⟨by decide, by decide⟩)
  have hat4 : cl4.slots[((0 : Int32)).toNatClampNeg]? = some (.long q0) := (H4.at hin4 rfl)
  refine own_go (st' := T1.setTop (mkF m 25 #[.val (.ref a1), .val (.long (0 : Int64)), .second, .val (.ref ar), .val (.int (3 : Int32)), .val (.int (0 : Int32)), .unset, .unset] [(.long q0)])) (X1.laload hx (j := (0 : Int32)) (v := (.long q0)) (by rw [e1]; exact Ar4.1) (State.isArrayOf_alike hZ.alike Ar4.2.1) Ar4.2.2 hin4 hat4 (g := (mkF m 24 #[.val (.ref a1), .val (.long (0 : Int64)), .second, .val (.ref ar), .val (.int (3 : Int32)), .val (.int (0 : Int32)), .unset, .unset] [(.int (0 : Int32)), (.ref ar)])) rfl rfl (hb hby d4_24)) ?_
  refine own_go (st' := T1.setTop (mkF m 27 #[.val (.ref a1), .val (.long (0 : Int64)), .second, .val (.ref ar), .val (.int (3 : Int32)), .val (.int (0 : Int32)), .val (.long q0), .second] [])) (fun _ k => XS.lstore X1.here hx rfl (hb hby d4_25) rfl (l' := #[.val (.ref a1), .val (.long (0 : Int64)), .second, .val (.ref ar), .val (.int (3 : Int32)), .val (.int (0 : Int32)), .val (.long q0), .second]) rfl k) ?_
  refine own_go (st' := T1.setTop (mkF m 28 #[.val (.ref a1), .val (.long (0 : Int64)), .second, .val (.ref ar), .val (.int (3 : Int32)), .val (.int (0 : Int32)), .val (.long q0), .second] [(.long (0 : Int64))])) (fun _ k => XS.lloadN X1.here hx rfl (hb hby d4_27) rfl k) ?_
  refine own_go (st' := T1.setTop (mkF m 30 #[.val (.ref a1), .val (.long (0 : Int64)), .second, .val (.ref ar), .val (.int (3 : Int32)), .val (.int (0 : Int32)), .val (.long q0), .second] [(.long q0), (.long (0 : Int64))])) (fun _ k => XS.lload X1.here hx rfl (hb hby d4_28) rfl k) ?_
  refine own_go (st' := T1.setTop (mkF m 31 #[.val (.ref a1), .val (.long (0 : Int64)), .second, .val (.ref ar), .val (.int (3 : Int32)), .val (.int (0 : Int32)), .val (.long q0), .second] [(.long ((0 : Int64) + q0))])) (fun _ k => XS.ladd X1.here hx rfl (hb hby d4_30) rfl k) ?_
  refine own_go (st' := T1.setTop (mkF m 32 #[.val (.ref a1), .val (.long ((0 : Int64) + q0)), .second, .val (.ref ar), .val (.int (3 : Int32)), .val (.int (0 : Int32)), .val (.long q0), .second] [])) (fun _ k => XS.lstoreN X1.here hx rfl (hb hby d4_31) rfl (l' := #[.val (.ref a1), .val (.long ((0 : Int64) + q0)), .second, .val (.ref ar), .val (.int (3 : Int32)), .val (.int (0 : Int32)), .val (.long q0), .second]) rfl k) ?_
  refine own_go (st' := T1.setTop (mkF m 35 #[.val (.ref a1), .val (.long ((0 : Int64) + q0)), .second, .val (.ref ar), .val (.int (3 : Int32)), .val (.int (1 : Int32)), .val (.long q0), .second] [])) (fun _ k => XS.iinc X1.here hx rfl (hb hby d4_32) rfl (l' := #[.val (.ref a1), .val (.long ((0 : Int64) + q0)), .second, .val (.ref ar), .val (.int (3 : Int32)), .val (.int (1 : Int32)), .val (.long q0), .second]) (by rw [show ((0 : Int32) + Int32.ofInt 1) = (1 : Int32) by decide]; rfl) k) ?_
  refine own_go (st' := T1.setTop (mkF m 14 #[.val (.ref a1), .val (.long ((0 : Int64) + q0)), .second, .val (.ref ar), .val (.int (3 : Int32)), .val (.int (1 : Int32)), .val (.long q0), .second] [])) (fun _ k => XS.goto X1.here hx rfl (pc0 := 35) (pc' := 14) rfl (hb hby d4_35) (by decide) (by decide) k) ?_
  refine own_go (st' := T1.setTop (mkF m 16 #[.val (.ref a1), .val (.long ((0 : Int64) + q0)), .second, .val (.ref ar), .val (.int (3 : Int32)), .val (.int (1 : Int32)), .val (.long q0), .second] [(.int (1 : Int32))])) (fun _ k => XS.iload X1.here hx rfl (hb hby d4_14) rfl k) ?_
  refine own_go (st' := T1.setTop (mkF m 18 #[.val (.ref a1), .val (.long ((0 : Int64) + q0)), .second, .val (.ref ar), .val (.int (3 : Int32)), .val (.int (1 : Int32)), .val (.long q0), .second] [(.int (3 : Int32)), (.int (1 : Int32))])) (fun _ k => XS.iload X1.here hx rfl (hb hby d4_16) rfl k) ?_
  have hc5 : (1 : Int32) < (3 : Int32) := by decide
  refine own_go (st' := T1.setTop (mkF m 21 #[.val (.ref a1), .val (.long ((0 : Int64) + q0)), .second, .val (.ref ar), .val (.int (3 : Int32)), .val (.int (1 : Int32)), .val (.long q0), .second] [])) (fun _ k => XS.icmpNo X1.here hx rfl (hb hby d4_18) rfl (tlt hc5).2.1 k) ?_
  refine own_go (st' := T1.setTop (mkF m 22 #[.val (.ref a1), .val (.long ((0 : Int64) + q0)), .second, .val (.ref ar), .val (.int (3 : Int32)), .val (.int (1 : Int32)), .val (.long q0), .second] [(.ref ar)])) (fun _ k => XS.aloadN X1.here hx rfl (hb hby d4_21) rfl rfl k) ?_
  refine own_go (st' := T1.setTop (mkF m 24 #[.val (.ref a1), .val (.long ((0 : Int64) + q0)), .second, .val (.ref ar), .val (.int (3 : Int32)), .val (.int (1 : Int32)), .val (.long q0), .second] [(.int (1 : Int32)), (.ref ar)])) (fun _ k => XS.iload X1.here hx rfl (hb hby d4_22) rfl k) ?_
  obtain ⟨cl6, Ar6, -, S6, M6, H6, -⟩ := id pr2
  have hin6 : ¬ ((1 : Int32) < 0 ∨ cl6.slots.size ≤ ((1 : Int32)).toNatClampNeg) := (inb_of S6 ⟨by decide, by decide⟩)
  have hat6 : cl6.slots[((1 : Int32)).toNatClampNeg]? = some (.long q1) := (H6.at hin6 rfl)
  refine own_go (st' := T1.setTop (mkF m 25 #[.val (.ref a1), .val (.long ((0 : Int64) + q0)), .second, .val (.ref ar), .val (.int (3 : Int32)), .val (.int (1 : Int32)), .val (.long q0), .second] [(.long q1)])) (X1.laload hx (j := (1 : Int32)) (v := (.long q1)) (by rw [e1]; exact Ar6.1) (State.isArrayOf_alike hZ.alike Ar6.2.1) Ar6.2.2 hin6 hat6 (g := (mkF m 24 #[.val (.ref a1), .val (.long ((0 : Int64) + q0)), .second, .val (.ref ar), .val (.int (3 : Int32)), .val (.int (1 : Int32)), .val (.long q0), .second] [(.int (1 : Int32)), (.ref ar)])) rfl rfl (hb hby d4_24)) ?_
  refine own_go (st' := T1.setTop (mkF m 27 #[.val (.ref a1), .val (.long ((0 : Int64) + q0)), .second, .val (.ref ar), .val (.int (3 : Int32)), .val (.int (1 : Int32)), .val (.long q1), .second] [])) (fun _ k => XS.lstore X1.here hx rfl (hb hby d4_25) rfl (l' := #[.val (.ref a1), .val (.long ((0 : Int64) + q0)), .second, .val (.ref ar), .val (.int (3 : Int32)), .val (.int (1 : Int32)), .val (.long q1), .second]) rfl k) ?_
  refine own_go (st' := T1.setTop (mkF m 28 #[.val (.ref a1), .val (.long ((0 : Int64) + q0)), .second, .val (.ref ar), .val (.int (3 : Int32)), .val (.int (1 : Int32)), .val (.long q1), .second] [(.long ((0 : Int64) + q0))])) (fun _ k => XS.lloadN X1.here hx rfl (hb hby d4_27) rfl k) ?_
  refine own_go (st' := T1.setTop (mkF m 30 #[.val (.ref a1), .val (.long ((0 : Int64) + q0)), .second, .val (.ref ar), .val (.int (3 : Int32)), .val (.int (1 : Int32)), .val (.long q1), .second] [(.long q1), (.long ((0 : Int64) + q0))])) (fun _ k => XS.lload X1.here hx rfl (hb hby d4_28) rfl k) ?_
  refine own_go (st' := T1.setTop (mkF m 31 #[.val (.ref a1), .val (.long ((0 : Int64) + q0)), .second, .val (.ref ar), .val (.int (3 : Int32)), .val (.int (1 : Int32)), .val (.long q1), .second] [(.long (((0 : Int64) + q0) + q1))])) (fun _ k => XS.ladd X1.here hx rfl (hb hby d4_30) rfl k) ?_
  refine own_go (st' := T1.setTop (mkF m 32 #[.val (.ref a1), .val (.long (((0 : Int64) + q0) + q1)), .second, .val (.ref ar), .val (.int (3 : Int32)), .val (.int (1 : Int32)), .val (.long q1), .second] [])) (fun _ k => XS.lstoreN X1.here hx rfl (hb hby d4_31) rfl (l' := #[.val (.ref a1), .val (.long (((0 : Int64) + q0) + q1)), .second, .val (.ref ar), .val (.int (3 : Int32)), .val (.int (1 : Int32)), .val (.long q1), .second]) rfl k) ?_
  refine own_go (st' := T1.setTop (mkF m 35 #[.val (.ref a1), .val (.long (((0 : Int64) + q0) + q1)), .second, .val (.ref ar), .val (.int (3 : Int32)), .val (.int (2 : Int32)), .val (.long q1), .second] [])) (fun _ k => XS.iinc X1.here hx rfl (hb hby d4_32) rfl (l' := #[.val (.ref a1), .val (.long (((0 : Int64) + q0) + q1)), .second, .val (.ref ar), .val (.int (3 : Int32)), .val (.int (2 : Int32)), .val (.long q1), .second]) (by rw [show ((1 : Int32) + Int32.ofInt 1) = (2 : Int32) by decide]; rfl) k) ?_
  refine own_go (st' := T1.setTop (mkF m 14 #[.val (.ref a1), .val (.long (((0 : Int64) + q0) + q1)), .second, .val (.ref ar), .val (.int (3 : Int32)), .val (.int (2 : Int32)), .val (.long q1), .second] [])) (fun _ k => XS.goto X1.here hx rfl (pc0 := 35) (pc' := 14) rfl (hb hby d4_35) (by decide) (by decide) k) ?_
  refine own_go (st' := T1.setTop (mkF m 16 #[.val (.ref a1), .val (.long (((0 : Int64) + q0) + q1)), .second, .val (.ref ar), .val (.int (3 : Int32)), .val (.int (2 : Int32)), .val (.long q1), .second] [(.int (2 : Int32))])) (fun _ k => XS.iload X1.here hx rfl (hb hby d4_14) rfl k) ?_
  refine own_go (st' := T1.setTop (mkF m 18 #[.val (.ref a1), .val (.long (((0 : Int64) + q0) + q1)), .second, .val (.ref ar), .val (.int (3 : Int32)), .val (.int (2 : Int32)), .val (.long q1), .second] [(.int (3 : Int32)), (.int (2 : Int32))])) (fun _ k => XS.iload X1.here hx rfl (hb hby d4_16) rfl k) ?_
  have hc7 : (2 : Int32) < (3 : Int32) := by decide
  refine own_go (st' := T1.setTop (mkF m 21 #[.val (.ref a1), .val (.long (((0 : Int64) + q0) + q1)), .second, .val (.ref ar), .val (.int (3 : Int32)), .val (.int (2 : Int32)), .val (.long q1), .second] [])) (fun _ k => XS.icmpNo X1.here hx rfl (hb hby d4_18) rfl (tlt hc7).2.1 k) ?_
  refine own_go (st' := T1.setTop (mkF m 22 #[.val (.ref a1), .val (.long (((0 : Int64) + q0) + q1)), .second, .val (.ref ar), .val (.int (3 : Int32)), .val (.int (2 : Int32)), .val (.long q1), .second] [(.ref ar)])) (fun _ k => XS.aloadN X1.here hx rfl (hb hby d4_21) rfl rfl k) ?_
  refine own_go (st' := T1.setTop (mkF m 24 #[.val (.ref a1), .val (.long (((0 : Int64) + q0) + q1)), .second, .val (.ref ar), .val (.int (3 : Int32)), .val (.int (2 : Int32)), .val (.long q1), .second] [(.int (2 : Int32)), (.ref ar)])) (fun _ k => XS.iload X1.here hx rfl (hb hby d4_22) rfl k) ?_
  obtain ⟨cl8, Ar8, -, S8, M8, H8, -⟩ := id pr2
  have hin8 : ¬ ((2 : Int32) < 0 ∨ cl8.slots.size ≤ ((2 : Int32)).toNatClampNeg) := (inb_of S8 ⟨by decide, by decide⟩)
  have hat8 : cl8.slots[((2 : Int32)).toNatClampNeg]? = some (.long q2) := (H8.at hin8 rfl)
  refine own_go (st' := T1.setTop (mkF m 25 #[.val (.ref a1), .val (.long (((0 : Int64) + q0) + q1)), .second, .val (.ref ar), .val (.int (3 : Int32)), .val (.int (2 : Int32)), .val (.long q1), .second] [(.long q2)])) (X1.laload hx (j := (2 : Int32)) (v := (.long q2)) (by rw [e1]; exact Ar8.1) (State.isArrayOf_alike hZ.alike Ar8.2.1) Ar8.2.2 hin8 hat8 (g := (mkF m 24 #[.val (.ref a1), .val (.long (((0 : Int64) + q0) + q1)), .second, .val (.ref ar), .val (.int (3 : Int32)), .val (.int (2 : Int32)), .val (.long q1), .second] [(.int (2 : Int32)), (.ref ar)])) rfl rfl (hb hby d4_24)) ?_
  refine own_go (st' := T1.setTop (mkF m 27 #[.val (.ref a1), .val (.long (((0 : Int64) + q0) + q1)), .second, .val (.ref ar), .val (.int (3 : Int32)), .val (.int (2 : Int32)), .val (.long q2), .second] [])) (fun _ k => XS.lstore X1.here hx rfl (hb hby d4_25) rfl (l' := #[.val (.ref a1), .val (.long (((0 : Int64) + q0) + q1)), .second, .val (.ref ar), .val (.int (3 : Int32)), .val (.int (2 : Int32)), .val (.long q2), .second]) rfl k) ?_
  refine own_go (st' := T1.setTop (mkF m 28 #[.val (.ref a1), .val (.long (((0 : Int64) + q0) + q1)), .second, .val (.ref ar), .val (.int (3 : Int32)), .val (.int (2 : Int32)), .val (.long q2), .second] [(.long (((0 : Int64) + q0) + q1))])) (fun _ k => XS.lloadN X1.here hx rfl (hb hby d4_27) rfl k) ?_
  refine own_go (st' := T1.setTop (mkF m 30 #[.val (.ref a1), .val (.long (((0 : Int64) + q0) + q1)), .second, .val (.ref ar), .val (.int (3 : Int32)), .val (.int (2 : Int32)), .val (.long q2), .second] [(.long q2), (.long (((0 : Int64) + q0) + q1))])) (fun _ k => XS.lload X1.here hx rfl (hb hby d4_28) rfl k) ?_
  refine own_go (st' := T1.setTop (mkF m 31 #[.val (.ref a1), .val (.long (((0 : Int64) + q0) + q1)), .second, .val (.ref ar), .val (.int (3 : Int32)), .val (.int (2 : Int32)), .val (.long q2), .second] [(.long ((((0 : Int64) + q0) + q1) + q2))])) (fun _ k => XS.ladd X1.here hx rfl (hb hby d4_30) rfl k) ?_
  refine own_go (st' := T1.setTop (mkF m 32 #[.val (.ref a1), .val (.long ((((0 : Int64) + q0) + q1) + q2)), .second, .val (.ref ar), .val (.int (3 : Int32)), .val (.int (2 : Int32)), .val (.long q2), .second] [])) (fun _ k => XS.lstoreN X1.here hx rfl (hb hby d4_31) rfl (l' := #[.val (.ref a1), .val (.long ((((0 : Int64) + q0) + q1) + q2)), .second, .val (.ref ar), .val (.int (3 : Int32)), .val (.int (2 : Int32)), .val (.long q2), .second]) rfl k) ?_
  refine own_go (st' := T1.setTop (mkF m 35 #[.val (.ref a1), .val (.long ((((0 : Int64) + q0) + q1) + q2)), .second, .val (.ref ar), .val (.int (3 : Int32)), .val (.int (3 : Int32)), .val (.long q2), .second] [])) (fun _ k => XS.iinc X1.here hx rfl (hb hby d4_32) rfl (l' := #[.val (.ref a1), .val (.long ((((0 : Int64) + q0) + q1) + q2)), .second, .val (.ref ar), .val (.int (3 : Int32)), .val (.int (3 : Int32)), .val (.long q2), .second]) (by rw [show ((2 : Int32) + Int32.ofInt 1) = (3 : Int32) by decide]; rfl) k) ?_
  refine own_go (st' := T1.setTop (mkF m 14 #[.val (.ref a1), .val (.long ((((0 : Int64) + q0) + q1) + q2)), .second, .val (.ref ar), .val (.int (3 : Int32)), .val (.int (3 : Int32)), .val (.long q2), .second] [])) (fun _ k => XS.goto X1.here hx rfl (pc0 := 35) (pc' := 14) rfl (hb hby d4_35) (by decide) (by decide) k) ?_
  refine own_go (st' := T1.setTop (mkF m 16 #[.val (.ref a1), .val (.long ((((0 : Int64) + q0) + q1) + q2)), .second, .val (.ref ar), .val (.int (3 : Int32)), .val (.int (3 : Int32)), .val (.long q2), .second] [(.int (3 : Int32))])) (fun _ k => XS.iload X1.here hx rfl (hb hby d4_14) rfl k) ?_
  refine own_go (st' := T1.setTop (mkF m 18 #[.val (.ref a1), .val (.long ((((0 : Int64) + q0) + q1) + q2)), .second, .val (.ref ar), .val (.int (3 : Int32)), .val (.int (3 : Int32)), .val (.long q2), .second] [(.int (3 : Int32)), (.int (3 : Int32))])) (fun _ k => XS.iload X1.here hx rfl (hb hby d4_16) rfl k) ?_
  have hc9 : ¬ ((3 : Int32) < (3 : Int32)) := by decide
  refine own_go (st' := T1.setTop (mkF m 38 #[.val (.ref a1), .val (.long ((((0 : Int64) + q0) + q1) + q2)), .second, .val (.ref ar), .val (.int (3 : Int32)), .val (.int (3 : Int32)), .val (.long q2), .second] [])) (fun _ k => XS.icmpYes X1.here hx rfl (pc0 := 18) (pc' := 38) rfl (hb hby d4_18) rfl (flt hc9).2.1 (by decide) (by decide) k) ?_
  refine own_go (st' := T1.setTop (mkF m 39 #[.val (.ref a1), .val (.long ((((0 : Int64) + q0) + q1) + q2)), .second, .val (.ref ar), .val (.int (3 : Int32)), .val (.int (3 : Int32)), .val (.long q2), .second] [(.long ((((0 : Int64) + q0) + q1) + q2))])) (fun _ k => XS.lloadN X1.here hx rfl (hb hby d4_38) rfl k) ?_
  obtain ⟨fs, hr, hrun, hended, hW, hsame⟩ := X1.leave (v := some (.long ((((0 : Int64) + q0) + q1) + q2))) (fun h => by rw [Bd.returns] at h; cases h)
  refine ⟨_, _, ?_, hP _ _ hrun hended ⟨_, _, rfl, ?_, ⟨_, rfl⟩, hW, hsame.mono (by decide) (by decide)⟩⟩
  · exact retOut X1 hx Bd.returns rfl (Or.inr (Or.inl ⟨rfl, rfl, _, rfl⟩)) (hb hby d4_39) hr
  · show Qrm4_3 Z a1 ar ka q0 q1 q2 h0 n0 _ T1.heap _
    rw [e1]
    exact ⟨rfl, N0, rfl⟩
theorem ef_rm3_4 (m : MethodId) (x0 : Addr) : entryFrame m #[(.ref x0)] 8 = mkF m 0 #[.val (.ref x0), .unset, .unset, .unset, .unset, .unset, .unset, .unset] [] := by first | (simp [entryFrame, mkF, argsToLocals, Value.category]; done) | rfl
def Qrm3_4 (Z : State) (ar : Addr) (ka : ClassId) (q0 : Int64) (q1 : Int64) (q2 : Int64) (q3 : Int64) (h0 : Heap) (n0 : Nat) (v : Option Value) (h : Heap) (L : List Loc) : Prop := ∃ (z : Int32), (v = some (.int z)) ∧ (Fr n0 L) ∧ (h = h0)
set_option maxRecDepth 65536 in
set_option maxHeartbeats 40000000 in
theorem rm3_4 (l : Launch) (Z : State) (a0 : Array Value) (hw : ∀ d ∈ tables_1, d.before a0 Z = true) (ws : List Jvm.Cond) (ar : Addr) (ka : ClassId) (q0 : Int64) (q1 : Int64) (q2 : Int64) (q3 : Int64) (h0 : Heap) (n0 : Nat) (Z0 : n0 ≤ h0.size) (pr1 : Arv Z h0 ar ka .long (4 : Int32) [(.long q0), (.long q1), (.long q2), (.long q3)] (.long (0 : Int64))) :
    MetFree l (⟨"java/util/Arrays", "hashCode", "([J)I"⟩ : MethodName) (head1 (Jvm.Cond.code (⟨"java/util/Arrays", "hashCode", "([J)I"⟩ : MethodName) jdk_65_method_149_code 8 (some .int) :: ws) ({ frames := 0, cells := 0, slots := 0, locals := 0 } : Room)) (fun a U => a = #[(.ref ar)] ∧ Z.Warmed39 U.vm ∧ U.heap = h0) (fun _ _ _ _ _ => True) (fun _ U o U' => ∃ v L, o = .returned v ∧ Qrm3_4 Z ar ka q0 q1 q2 q3 h0 n0 v U'.heap L ∧ FrameEnd U o U' L ({ frames := 0, cells := 0, slots := 0, locals := 0 } : Room).cells ({ frames := 0, cells := 0, slots := 0, locals := 0 } : Room).slots) := by
  refine MetFree.of_bodySF (plainFor_of_name pn_3) hisR ?_
  intro p e s m args below meth c s₁ Bd hml0 hP0 hK
  obtain ⟨rfl, hZ, hh⟩ := hP0
  have hx := Bd.exec
  have hby := Bd.bytes
  have hml : c.maxLocals = 8 := hml0
  have hown : s.vm.findClass "java/util/Arrays" = some m.cls := findClass_of_methodNamed Bd.named
  have hnm := (name_of_methodNamed Bd.named Bd.method).1
  have X0 : Stand p l e ({ frames := 0, cells := 0, slots := 0, locals := 0 } : Room) s m #[(.ref ar)] below meth c s₁ [] 0 0 := Stand.of_body Bd
  have e0 : s₁.heap = h0 := by rw [← hh, Bd.state]; rfl
  have N0 := Fr.nil n0
  suffices own_H : ∀ (P : State → Outcome → Prop), (∀ U o, U.status = .running → Ended U below o → (∃ v L, o = .returned v ∧ Qrm3_4 Z ar ka q0 q1 q2 q3 h0 n0 v U.heap L ∧ FrameEnd s o U L ({ frames := 0, cells := 0, slots := 0, locals := 0 } : Room).cells ({ frames := 0, cells := 0, slots := 0, locals := 0 } : Room).slots) → P U o) → own_Go p.tables e below P (s₁.setTop (mkF m 0 #[.val (.ref ar), .unset, .unset, .unset, .unset, .unset, .unset, .unset] [])) from own_go (fun _ k => castTop (ef_rm3_4 m ar) k) (own_H _ (fun U o h1 h2 h3 => ⟨h1, h2, h3⟩))
  intro P hP
  have lt_ar : ar < h0.size := pr1.lt
  refine own_go (st' := s₁.setTop (mkF m 1 #[.val (.ref ar), .unset, .unset, .unset, .unset, .unset, .unset, .unset] [(.ref ar)])) (fun _ k => XS.aloadN X0.here hx rfl (hb hby d3_0) rfl rfl k) ?_
  refine own_go (st' := s₁.setTop (mkF m 6 #[.val (.ref ar), .unset, .unset, .unset, .unset, .unset, .unset, .unset] [])) (fun _ k => XS.ifnonnullYes X0.here hx rfl (pc0 := 1) (pc' := 6) rfl (hb hby d3_1) rfl (by decide) (by decide) k) ?_
  refine own_go (st' := s₁.setTop (mkF m 7 #[.val (.ref ar), .unset, .unset, .unset, .unset, .unset, .unset, .unset] [(.int (1 : Int32))])) (fun _ k => XS.iconst X0.here hx rfl (hb hby d3_6) k) ?_
  refine own_go (st' := s₁.setTop (mkF m 8 #[.val (.ref ar), .val (.int (1 : Int32)), .unset, .unset, .unset, .unset, .unset, .unset] [])) (fun _ k => XS.istoreN X0.here hx rfl (hb hby d3_7) rfl (l' := #[.val (.ref ar), .val (.int (1 : Int32)), .unset, .unset, .unset, .unset, .unset, .unset]) rfl k) ?_
  refine own_go (st' := s₁.setTop (mkF m 9 #[.val (.ref ar), .val (.int (1 : Int32)), .unset, .unset, .unset, .unset, .unset, .unset] [(.ref ar)])) (fun _ k => XS.aloadN X0.here hx rfl (hb hby d3_8) rfl rfl k) ?_
  refine own_go (st' := s₁.setTop (mkF m 10 #[.val (.ref ar), .val (.int (1 : Int32)), .val (.ref ar), .unset, .unset, .unset, .unset, .unset] [])) (fun _ k => XS.astoreN X0.here hx rfl (hb hby d3_9) rfl rfl (l' := #[.val (.ref ar), .val (.int (1 : Int32)), .val (.ref ar), .unset, .unset, .unset, .unset, .unset]) rfl k) ?_
  refine own_go (st' := s₁.setTop (mkF m 11 #[.val (.ref ar), .val (.int (1 : Int32)), .val (.ref ar), .unset, .unset, .unset, .unset, .unset] [(.ref ar)])) (fun _ k => XS.aloadN X0.here hx rfl (hb hby d3_10) rfl rfl k) ?_
  obtain ⟨cl1, Ar1, -, S1, M1, -, -⟩ := id pr1
  refine own_go (st' := s₁.setTop (mkF m 12 #[.val (.ref ar), .val (.int (1 : Int32)), .val (.ref ar), .unset, .unset, .unset, .unset, .unset] [(.int (4 : Int32))])) (fun t k => X0.arraylength hx (by rw [e0]; exact Ar1.1) (State.isArrayOf_alike hZ.alike Ar1.2.1) (g := (mkF m 11 #[.val (.ref ar), .val (.int (1 : Int32)), .val (.ref ar), .unset, .unset, .unset, .unset, .unset] [(.ref ar)])) rfl rfl (hb hby d3_11) t (by rw [len_of S1 M1]; exact k)) ?_
  refine own_go (st' := s₁.setTop (mkF m 13 #[.val (.ref ar), .val (.int (1 : Int32)), .val (.ref ar), .val (.int (4 : Int32)), .unset, .unset, .unset, .unset] [])) (fun _ k => XS.istoreN X0.here hx rfl (hb hby d3_12) rfl (l' := #[.val (.ref ar), .val (.int (1 : Int32)), .val (.ref ar), .val (.int (4 : Int32)), .unset, .unset, .unset, .unset]) rfl k) ?_
  refine own_go (st' := s₁.setTop (mkF m 14 #[.val (.ref ar), .val (.int (1 : Int32)), .val (.ref ar), .val (.int (4 : Int32)), .unset, .unset, .unset, .unset] [(.int (0 : Int32))])) (fun _ k => XS.iconst X0.here hx rfl (hb hby d3_13) k) ?_
  refine own_go (st' := s₁.setTop (mkF m 16 #[.val (.ref ar), .val (.int (1 : Int32)), .val (.ref ar), .val (.int (4 : Int32)), .val (.int (0 : Int32)), .unset, .unset, .unset] [])) (fun _ k => XS.istore X0.here hx rfl (hb hby d3_14) rfl (l' := #[.val (.ref ar), .val (.int (1 : Int32)), .val (.ref ar), .val (.int (4 : Int32)), .val (.int (0 : Int32)), .unset, .unset, .unset]) rfl k) ?_
  refine own_go (st' := s₁.setTop (mkF m 18 #[.val (.ref ar), .val (.int (1 : Int32)), .val (.ref ar), .val (.int (4 : Int32)), .val (.int (0 : Int32)), .unset, .unset, .unset] [(.int (0 : Int32))])) (fun _ k => XS.iload X0.here hx rfl (hb hby d3_16) rfl k) ?_
  refine own_go (st' := s₁.setTop (mkF m 19 #[.val (.ref ar), .val (.int (1 : Int32)), .val (.ref ar), .val (.int (4 : Int32)), .val (.int (0 : Int32)), .unset, .unset, .unset] [(.int (4 : Int32)), (.int (0 : Int32))])) (fun _ k => XS.iloadN X0.here hx rfl (hb hby d3_18) rfl k) ?_
  have hc2 : (0 : Int32) < (4 : Int32) := by decide
  refine own_go (st' := s₁.setTop (mkF m 22 #[.val (.ref ar), .val (.int (1 : Int32)), .val (.ref ar), .val (.int (4 : Int32)), .val (.int (0 : Int32)), .unset, .unset, .unset] [])) (fun _ k => XS.icmpNo X0.here hx rfl (hb hby d3_19) rfl (tlt hc2).2.1 k) ?_
  refine own_go (st' := s₁.setTop (mkF m 23 #[.val (.ref ar), .val (.int (1 : Int32)), .val (.ref ar), .val (.int (4 : Int32)), .val (.int (0 : Int32)), .unset, .unset, .unset] [(.ref ar)])) (fun _ k => XS.aloadN X0.here hx rfl (hb hby d3_22) rfl rfl k) ?_
  refine own_go (st' := s₁.setTop (mkF m 25 #[.val (.ref ar), .val (.int (1 : Int32)), .val (.ref ar), .val (.int (4 : Int32)), .val (.int (0 : Int32)), .unset, .unset, .unset] [(.int (0 : Int32)), (.ref ar)])) (fun _ k => XS.iload X0.here hx rfl (hb hby d3_23) rfl k) ?_
  obtain ⟨cl3, Ar3, -, S3, M3, H3, -⟩ := id pr1
  have hin3 : ¬ ((0 : Int32) < 0 ∨ cl3.slots.size ≤ ((0 : Int32)).toNatClampNeg) := (inb_of S3 ⟨by decide, by decide⟩)
  have hat3 : cl3.slots[((0 : Int32)).toNatClampNeg]? = some (.long q0) := (H3.at hin3 rfl)
  refine own_go (st' := s₁.setTop (mkF m 26 #[.val (.ref ar), .val (.int (1 : Int32)), .val (.ref ar), .val (.int (4 : Int32)), .val (.int (0 : Int32)), .unset, .unset, .unset] [(.long q0)])) (X0.laload hx (j := (0 : Int32)) (v := (.long q0)) (by rw [e0]; exact Ar3.1) (State.isArrayOf_alike hZ.alike Ar3.2.1) Ar3.2.2 hin3 hat3 (g := (mkF m 25 #[.val (.ref ar), .val (.int (1 : Int32)), .val (.ref ar), .val (.int (4 : Int32)), .val (.int (0 : Int32)), .unset, .unset, .unset] [(.int (0 : Int32)), (.ref ar)])) rfl rfl (hb hby d3_25)) ?_
  refine own_go (st' := s₁.setTop (mkF m 28 #[.val (.ref ar), .val (.int (1 : Int32)), .val (.ref ar), .val (.int (4 : Int32)), .val (.int (0 : Int32)), .val (.long q0), .second, .unset] [])) (fun _ k => XS.lstore X0.here hx rfl (hb hby d3_26) rfl (l' := #[.val (.ref ar), .val (.int (1 : Int32)), .val (.ref ar), .val (.int (4 : Int32)), .val (.int (0 : Int32)), .val (.long q0), .second, .unset]) rfl k) ?_
  refine own_go (st' := s₁.setTop (mkF m 30 #[.val (.ref ar), .val (.int (1 : Int32)), .val (.ref ar), .val (.int (4 : Int32)), .val (.int (0 : Int32)), .val (.long q0), .second, .unset] [(.long q0)])) (fun _ k => XS.lload X0.here hx rfl (hb hby d3_28) rfl k) ?_
  refine own_go (st' := s₁.setTop (mkF m 32 #[.val (.ref ar), .val (.int (1 : Int32)), .val (.ref ar), .val (.int (4 : Int32)), .val (.int (0 : Int32)), .val (.long q0), .second, .unset] [(.long q0), (.long q0)])) (fun _ k => XS.lload X0.here hx rfl (hb hby d3_30) rfl k) ?_
  refine own_go (st' := s₁.setTop (mkF m 34 #[.val (.ref ar), .val (.int (1 : Int32)), .val (.ref ar), .val (.int (4 : Int32)), .val (.int (0 : Int32)), .val (.long q0), .second, .unset] [(.int (32 : Int32)), (.long q0), (.long q0)])) (fun _ k => XS.bipush X0.here hx rfl (hb hby d3_32) k) ?_
  obtain ⟨x4, hx4⟩ : ∃ z : Int64, z = ((q0.toUInt64 >>> ((32 : Int32) &&& 0x3f).toInt64.toUInt64).toInt64) := ⟨_, rfl⟩
  refine own_go (st' := s₁.setTop (mkF m 35 #[.val (.ref ar), .val (.int (1 : Int32)), .val (.ref ar), .val (.int (4 : Int32)), .val (.int (0 : Int32)), .val (.long q0), .second, .unset] [(.long x4), (.long q0)])) (fun _ k => XS.lushr X0.here hx rfl (hb hby d3_34) rfl (by rw [hx4] at k; exact k)) ?_
  refine own_go (st' := s₁.setTop (mkF m 36 #[.val (.ref ar), .val (.int (1 : Int32)), .val (.ref ar), .val (.int (4 : Int32)), .val (.int (0 : Int32)), .val (.long q0), .second, .unset] [(.long (q0 ^^^ x4))])) (fun _ k => XS.lxor X0.here hx rfl (hb hby d3_35) rfl k) ?_
  refine own_go (st' := s₁.setTop (mkF m 37 #[.val (.ref ar), .val (.int (1 : Int32)), .val (.ref ar), .val (.int (4 : Int32)), .val (.int (0 : Int32)), .val (.long q0), .second, .unset] [(.int (q0 ^^^ x4).toInt32)])) (fun _ k => XS.l2i X0.here hx rfl (hb hby d3_36) rfl k) ?_
  refine own_go (st' := s₁.setTop (mkF m 39 #[.val (.ref ar), .val (.int (1 : Int32)), .val (.ref ar), .val (.int (4 : Int32)), .val (.int (0 : Int32)), .val (.long q0), .second, .val (.int (q0 ^^^ x4).toInt32)] [])) (fun _ k => XS.istore X0.here hx rfl (hb hby d3_37) rfl (l' := #[.val (.ref ar), .val (.int (1 : Int32)), .val (.ref ar), .val (.int (4 : Int32)), .val (.int (0 : Int32)), .val (.long q0), .second, .val (.int (q0 ^^^ x4).toInt32)]) rfl k) ?_
  refine own_go (st' := s₁.setTop (mkF m 41 #[.val (.ref ar), .val (.int (1 : Int32)), .val (.ref ar), .val (.int (4 : Int32)), .val (.int (0 : Int32)), .val (.long q0), .second, .val (.int (q0 ^^^ x4).toInt32)] [(.int (31 : Int32))])) (fun _ k => XS.bipush X0.here hx rfl (hb hby d3_39) k) ?_
  refine own_go (st' := s₁.setTop (mkF m 42 #[.val (.ref ar), .val (.int (1 : Int32)), .val (.ref ar), .val (.int (4 : Int32)), .val (.int (0 : Int32)), .val (.long q0), .second, .val (.int (q0 ^^^ x4).toInt32)] [(.int (1 : Int32)), (.int (31 : Int32))])) (fun _ k => XS.iloadN X0.here hx rfl (hb hby d3_41) rfl k) ?_
  refine own_go (st' := s₁.setTop (mkF m 43 #[.val (.ref ar), .val (.int (1 : Int32)), .val (.ref ar), .val (.int (4 : Int32)), .val (.int (0 : Int32)), .val (.long q0), .second, .val (.int (q0 ^^^ x4).toInt32)] [(.int (31 : Int32))])) (fun _ k => XS.imul X0.here hx rfl (hb hby d3_42) rfl (by rw [show ((31 : Int32) * (1 : Int32)) = (31 : Int32) by decide]; exact k)) ?_
  refine own_go (st' := s₁.setTop (mkF m 45 #[.val (.ref ar), .val (.int (1 : Int32)), .val (.ref ar), .val (.int (4 : Int32)), .val (.int (0 : Int32)), .val (.long q0), .second, .val (.int (q0 ^^^ x4).toInt32)] [(.int (q0 ^^^ x4).toInt32), (.int (31 : Int32))])) (fun _ k => XS.iload X0.here hx rfl (hb hby d3_43) rfl k) ?_
  refine own_go (st' := s₁.setTop (mkF m 46 #[.val (.ref ar), .val (.int (1 : Int32)), .val (.ref ar), .val (.int (4 : Int32)), .val (.int (0 : Int32)), .val (.long q0), .second, .val (.int (q0 ^^^ x4).toInt32)] [(.int ((31 : Int32) + (q0 ^^^ x4).toInt32))])) (fun _ k => XS.iadd X0.here hx rfl (hb hby d3_45) rfl k) ?_
  refine own_go (st' := s₁.setTop (mkF m 47 #[.val (.ref ar), .val (.int ((31 : Int32) + (q0 ^^^ x4).toInt32)), .val (.ref ar), .val (.int (4 : Int32)), .val (.int (0 : Int32)), .val (.long q0), .second, .val (.int (q0 ^^^ x4).toInt32)] [])) (fun _ k => XS.istoreN X0.here hx rfl (hb hby d3_46) rfl (l' := #[.val (.ref ar), .val (.int ((31 : Int32) + (q0 ^^^ x4).toInt32)), .val (.ref ar), .val (.int (4 : Int32)), .val (.int (0 : Int32)), .val (.long q0), .second, .val (.int (q0 ^^^ x4).toInt32)]) rfl k) ?_
  refine own_go (st' := s₁.setTop (mkF m 50 #[.val (.ref ar), .val (.int ((31 : Int32) + (q0 ^^^ x4).toInt32)), .val (.ref ar), .val (.int (4 : Int32)), .val (.int (1 : Int32)), .val (.long q0), .second, .val (.int (q0 ^^^ x4).toInt32)] [])) (fun _ k => XS.iinc X0.here hx rfl (hb hby d3_47) rfl (l' := #[.val (.ref ar), .val (.int ((31 : Int32) + (q0 ^^^ x4).toInt32)), .val (.ref ar), .val (.int (4 : Int32)), .val (.int (1 : Int32)), .val (.long q0), .second, .val (.int (q0 ^^^ x4).toInt32)]) (by rw [show ((0 : Int32) + Int32.ofInt 1) = (1 : Int32) by decide]; rfl) k) ?_
  refine own_go (st' := s₁.setTop (mkF m 16 #[.val (.ref ar), .val (.int ((31 : Int32) + (q0 ^^^ x4).toInt32)), .val (.ref ar), .val (.int (4 : Int32)), .val (.int (1 : Int32)), .val (.long q0), .second, .val (.int (q0 ^^^ x4).toInt32)] [])) (fun _ k => XS.goto X0.here hx rfl (pc0 := 50) (pc' := 16) rfl (hb hby d3_50) (by decide) (by decide) k) ?_
  refine own_go (st' := s₁.setTop (mkF m 18 #[.val (.ref ar), .val (.int ((31 : Int32) + (q0 ^^^ x4).toInt32)), .val (.ref ar), .val (.int (4 : Int32)), .val (.int (1 : Int32)), .val (.long q0), .second, .val (.int (q0 ^^^ x4).toInt32)] [(.int (1 : Int32))])) (fun _ k => XS.iload X0.here hx rfl (hb hby d3_16) rfl k) ?_
  refine own_go (st' := s₁.setTop (mkF m 19 #[.val (.ref ar), .val (.int ((31 : Int32) + (q0 ^^^ x4).toInt32)), .val (.ref ar), .val (.int (4 : Int32)), .val (.int (1 : Int32)), .val (.long q0), .second, .val (.int (q0 ^^^ x4).toInt32)] [(.int (4 : Int32)), (.int (1 : Int32))])) (fun _ k => XS.iloadN X0.here hx rfl (hb hby d3_18) rfl k) ?_
  have hc5 : (1 : Int32) < (4 : Int32) := by decide
  refine own_go (st' := s₁.setTop (mkF m 22 #[.val (.ref ar), .val (.int ((31 : Int32) + (q0 ^^^ x4).toInt32)), .val (.ref ar), .val (.int (4 : Int32)), .val (.int (1 : Int32)), .val (.long q0), .second, .val (.int (q0 ^^^ x4).toInt32)] [])) (fun _ k => XS.icmpNo X0.here hx rfl (hb hby d3_19) rfl (tlt hc5).2.1 k) ?_
  refine own_go (st' := s₁.setTop (mkF m 23 #[.val (.ref ar), .val (.int ((31 : Int32) + (q0 ^^^ x4).toInt32)), .val (.ref ar), .val (.int (4 : Int32)), .val (.int (1 : Int32)), .val (.long q0), .second, .val (.int (q0 ^^^ x4).toInt32)] [(.ref ar)])) (fun _ k => XS.aloadN X0.here hx rfl (hb hby d3_22) rfl rfl k) ?_
  refine own_go (st' := s₁.setTop (mkF m 25 #[.val (.ref ar), .val (.int ((31 : Int32) + (q0 ^^^ x4).toInt32)), .val (.ref ar), .val (.int (4 : Int32)), .val (.int (1 : Int32)), .val (.long q0), .second, .val (.int (q0 ^^^ x4).toInt32)] [(.int (1 : Int32)), (.ref ar)])) (fun _ k => XS.iload X0.here hx rfl (hb hby d3_23) rfl k) ?_
  obtain ⟨cl6, Ar6, -, S6, M6, H6, -⟩ := id pr1
  have hin6 : ¬ ((1 : Int32) < 0 ∨ cl6.slots.size ≤ ((1 : Int32)).toNatClampNeg) := (inb_of S6 ⟨by decide, by decide⟩)
  have hat6 : cl6.slots[((1 : Int32)).toNatClampNeg]? = some (.long q1) := (H6.at hin6 rfl)
  refine own_go (st' := s₁.setTop (mkF m 26 #[.val (.ref ar), .val (.int ((31 : Int32) + (q0 ^^^ x4).toInt32)), .val (.ref ar), .val (.int (4 : Int32)), .val (.int (1 : Int32)), .val (.long q0), .second, .val (.int (q0 ^^^ x4).toInt32)] [(.long q1)])) (X0.laload hx (j := (1 : Int32)) (v := (.long q1)) (by rw [e0]; exact Ar6.1) (State.isArrayOf_alike hZ.alike Ar6.2.1) Ar6.2.2 hin6 hat6 (g := (mkF m 25 #[.val (.ref ar), .val (.int ((31 : Int32) + (q0 ^^^ x4).toInt32)), .val (.ref ar), .val (.int (4 : Int32)), .val (.int (1 : Int32)), .val (.long q0), .second, .val (.int (q0 ^^^ x4).toInt32)] [(.int (1 : Int32)), (.ref ar)])) rfl rfl (hb hby d3_25)) ?_
  refine own_go (st' := s₁.setTop (mkF m 28 #[.val (.ref ar), .val (.int ((31 : Int32) + (q0 ^^^ x4).toInt32)), .val (.ref ar), .val (.int (4 : Int32)), .val (.int (1 : Int32)), .val (.long q1), .second, .val (.int (q0 ^^^ x4).toInt32)] [])) (fun _ k => XS.lstore X0.here hx rfl (hb hby d3_26) rfl (l' := #[.val (.ref ar), .val (.int ((31 : Int32) + (q0 ^^^ x4).toInt32)), .val (.ref ar), .val (.int (4 : Int32)), .val (.int (1 : Int32)), .val (.long q1), .second, .val (.int (q0 ^^^ x4).toInt32)]) rfl k) ?_
  refine own_go (st' := s₁.setTop (mkF m 30 #[.val (.ref ar), .val (.int ((31 : Int32) + (q0 ^^^ x4).toInt32)), .val (.ref ar), .val (.int (4 : Int32)), .val (.int (1 : Int32)), .val (.long q1), .second, .val (.int (q0 ^^^ x4).toInt32)] [(.long q1)])) (fun _ k => XS.lload X0.here hx rfl (hb hby d3_28) rfl k) ?_
  refine own_go (st' := s₁.setTop (mkF m 32 #[.val (.ref ar), .val (.int ((31 : Int32) + (q0 ^^^ x4).toInt32)), .val (.ref ar), .val (.int (4 : Int32)), .val (.int (1 : Int32)), .val (.long q1), .second, .val (.int (q0 ^^^ x4).toInt32)] [(.long q1), (.long q1)])) (fun _ k => XS.lload X0.here hx rfl (hb hby d3_30) rfl k) ?_
  refine own_go (st' := s₁.setTop (mkF m 34 #[.val (.ref ar), .val (.int ((31 : Int32) + (q0 ^^^ x4).toInt32)), .val (.ref ar), .val (.int (4 : Int32)), .val (.int (1 : Int32)), .val (.long q1), .second, .val (.int (q0 ^^^ x4).toInt32)] [(.int (32 : Int32)), (.long q1), (.long q1)])) (fun _ k => XS.bipush X0.here hx rfl (hb hby d3_32) k) ?_
  obtain ⟨x7, hx7⟩ : ∃ z : Int64, z = ((q1.toUInt64 >>> ((32 : Int32) &&& 0x3f).toInt64.toUInt64).toInt64) := ⟨_, rfl⟩
  refine own_go (st' := s₁.setTop (mkF m 35 #[.val (.ref ar), .val (.int ((31 : Int32) + (q0 ^^^ x4).toInt32)), .val (.ref ar), .val (.int (4 : Int32)), .val (.int (1 : Int32)), .val (.long q1), .second, .val (.int (q0 ^^^ x4).toInt32)] [(.long x7), (.long q1)])) (fun _ k => XS.lushr X0.here hx rfl (hb hby d3_34) rfl (by rw [hx7] at k; exact k)) ?_
  refine own_go (st' := s₁.setTop (mkF m 36 #[.val (.ref ar), .val (.int ((31 : Int32) + (q0 ^^^ x4).toInt32)), .val (.ref ar), .val (.int (4 : Int32)), .val (.int (1 : Int32)), .val (.long q1), .second, .val (.int (q0 ^^^ x4).toInt32)] [(.long (q1 ^^^ x7))])) (fun _ k => XS.lxor X0.here hx rfl (hb hby d3_35) rfl k) ?_
  refine own_go (st' := s₁.setTop (mkF m 37 #[.val (.ref ar), .val (.int ((31 : Int32) + (q0 ^^^ x4).toInt32)), .val (.ref ar), .val (.int (4 : Int32)), .val (.int (1 : Int32)), .val (.long q1), .second, .val (.int (q0 ^^^ x4).toInt32)] [(.int (q1 ^^^ x7).toInt32)])) (fun _ k => XS.l2i X0.here hx rfl (hb hby d3_36) rfl k) ?_
  refine own_go (st' := s₁.setTop (mkF m 39 #[.val (.ref ar), .val (.int ((31 : Int32) + (q0 ^^^ x4).toInt32)), .val (.ref ar), .val (.int (4 : Int32)), .val (.int (1 : Int32)), .val (.long q1), .second, .val (.int (q1 ^^^ x7).toInt32)] [])) (fun _ k => XS.istore X0.here hx rfl (hb hby d3_37) rfl (l' := #[.val (.ref ar), .val (.int ((31 : Int32) + (q0 ^^^ x4).toInt32)), .val (.ref ar), .val (.int (4 : Int32)), .val (.int (1 : Int32)), .val (.long q1), .second, .val (.int (q1 ^^^ x7).toInt32)]) rfl k) ?_
  refine own_go (st' := s₁.setTop (mkF m 41 #[.val (.ref ar), .val (.int ((31 : Int32) + (q0 ^^^ x4).toInt32)), .val (.ref ar), .val (.int (4 : Int32)), .val (.int (1 : Int32)), .val (.long q1), .second, .val (.int (q1 ^^^ x7).toInt32)] [(.int (31 : Int32))])) (fun _ k => XS.bipush X0.here hx rfl (hb hby d3_39) k) ?_
  refine own_go (st' := s₁.setTop (mkF m 42 #[.val (.ref ar), .val (.int ((31 : Int32) + (q0 ^^^ x4).toInt32)), .val (.ref ar), .val (.int (4 : Int32)), .val (.int (1 : Int32)), .val (.long q1), .second, .val (.int (q1 ^^^ x7).toInt32)] [(.int ((31 : Int32) + (q0 ^^^ x4).toInt32)), (.int (31 : Int32))])) (fun _ k => XS.iloadN X0.here hx rfl (hb hby d3_41) rfl k) ?_
  refine own_go (st' := s₁.setTop (mkF m 43 #[.val (.ref ar), .val (.int ((31 : Int32) + (q0 ^^^ x4).toInt32)), .val (.ref ar), .val (.int (4 : Int32)), .val (.int (1 : Int32)), .val (.long q1), .second, .val (.int (q1 ^^^ x7).toInt32)] [(.int ((31 : Int32) * ((31 : Int32) + (q0 ^^^ x4).toInt32)))])) (fun _ k => XS.imul X0.here hx rfl (hb hby d3_42) rfl k) ?_
  refine own_go (st' := s₁.setTop (mkF m 45 #[.val (.ref ar), .val (.int ((31 : Int32) + (q0 ^^^ x4).toInt32)), .val (.ref ar), .val (.int (4 : Int32)), .val (.int (1 : Int32)), .val (.long q1), .second, .val (.int (q1 ^^^ x7).toInt32)] [(.int (q1 ^^^ x7).toInt32), (.int ((31 : Int32) * ((31 : Int32) + (q0 ^^^ x4).toInt32)))])) (fun _ k => XS.iload X0.here hx rfl (hb hby d3_43) rfl k) ?_
  obtain ⟨x8, hx8⟩ : ∃ z : Int32, z = (((31 : Int32) * ((31 : Int32) + (q0 ^^^ x4).toInt32)) + (q1 ^^^ x7).toInt32) := ⟨_, rfl⟩
  refine own_go (st' := s₁.setTop (mkF m 46 #[.val (.ref ar), .val (.int ((31 : Int32) + (q0 ^^^ x4).toInt32)), .val (.ref ar), .val (.int (4 : Int32)), .val (.int (1 : Int32)), .val (.long q1), .second, .val (.int (q1 ^^^ x7).toInt32)] [(.int x8)])) (fun _ k => XS.iadd X0.here hx rfl (hb hby d3_45) rfl (by rw [hx8] at k; exact k)) ?_
  refine own_go (st' := s₁.setTop (mkF m 47 #[.val (.ref ar), .val (.int x8), .val (.ref ar), .val (.int (4 : Int32)), .val (.int (1 : Int32)), .val (.long q1), .second, .val (.int (q1 ^^^ x7).toInt32)] [])) (fun _ k => XS.istoreN X0.here hx rfl (hb hby d3_46) rfl (l' := #[.val (.ref ar), .val (.int x8), .val (.ref ar), .val (.int (4 : Int32)), .val (.int (1 : Int32)), .val (.long q1), .second, .val (.int (q1 ^^^ x7).toInt32)]) rfl k) ?_
  refine own_go (st' := s₁.setTop (mkF m 50 #[.val (.ref ar), .val (.int x8), .val (.ref ar), .val (.int (4 : Int32)), .val (.int (2 : Int32)), .val (.long q1), .second, .val (.int (q1 ^^^ x7).toInt32)] [])) (fun _ k => XS.iinc X0.here hx rfl (hb hby d3_47) rfl (l' := #[.val (.ref ar), .val (.int x8), .val (.ref ar), .val (.int (4 : Int32)), .val (.int (2 : Int32)), .val (.long q1), .second, .val (.int (q1 ^^^ x7).toInt32)]) (by rw [show ((1 : Int32) + Int32.ofInt 1) = (2 : Int32) by decide]; rfl) k) ?_
  refine own_go (st' := s₁.setTop (mkF m 16 #[.val (.ref ar), .val (.int x8), .val (.ref ar), .val (.int (4 : Int32)), .val (.int (2 : Int32)), .val (.long q1), .second, .val (.int (q1 ^^^ x7).toInt32)] [])) (fun _ k => XS.goto X0.here hx rfl (pc0 := 50) (pc' := 16) rfl (hb hby d3_50) (by decide) (by decide) k) ?_
  refine own_go (st' := s₁.setTop (mkF m 18 #[.val (.ref ar), .val (.int x8), .val (.ref ar), .val (.int (4 : Int32)), .val (.int (2 : Int32)), .val (.long q1), .second, .val (.int (q1 ^^^ x7).toInt32)] [(.int (2 : Int32))])) (fun _ k => XS.iload X0.here hx rfl (hb hby d3_16) rfl k) ?_
  refine own_go (st' := s₁.setTop (mkF m 19 #[.val (.ref ar), .val (.int x8), .val (.ref ar), .val (.int (4 : Int32)), .val (.int (2 : Int32)), .val (.long q1), .second, .val (.int (q1 ^^^ x7).toInt32)] [(.int (4 : Int32)), (.int (2 : Int32))])) (fun _ k => XS.iloadN X0.here hx rfl (hb hby d3_18) rfl k) ?_
  have hc9 : (2 : Int32) < (4 : Int32) := by decide
  refine own_go (st' := s₁.setTop (mkF m 22 #[.val (.ref ar), .val (.int x8), .val (.ref ar), .val (.int (4 : Int32)), .val (.int (2 : Int32)), .val (.long q1), .second, .val (.int (q1 ^^^ x7).toInt32)] [])) (fun _ k => XS.icmpNo X0.here hx rfl (hb hby d3_19) rfl (tlt hc9).2.1 k) ?_
  refine own_go (st' := s₁.setTop (mkF m 23 #[.val (.ref ar), .val (.int x8), .val (.ref ar), .val (.int (4 : Int32)), .val (.int (2 : Int32)), .val (.long q1), .second, .val (.int (q1 ^^^ x7).toInt32)] [(.ref ar)])) (fun _ k => XS.aloadN X0.here hx rfl (hb hby d3_22) rfl rfl k) ?_
  refine own_go (st' := s₁.setTop (mkF m 25 #[.val (.ref ar), .val (.int x8), .val (.ref ar), .val (.int (4 : Int32)), .val (.int (2 : Int32)), .val (.long q1), .second, .val (.int (q1 ^^^ x7).toInt32)] [(.int (2 : Int32)), (.ref ar)])) (fun _ k => XS.iload X0.here hx rfl (hb hby d3_23) rfl k) ?_
  obtain ⟨cl10, Ar10, -, S10, M10, H10, -⟩ := id pr1
  have hin10 : ¬ ((2 : Int32) < 0 ∨ cl10.slots.size ≤ ((2 : Int32)).toNatClampNeg) := (inb_of S10 ⟨by decide, by decide⟩)
  have hat10 : cl10.slots[((2 : Int32)).toNatClampNeg]? = some (.long q2) := (H10.at hin10 rfl)
  refine own_go (st' := s₁.setTop (mkF m 26 #[.val (.ref ar), .val (.int x8), .val (.ref ar), .val (.int (4 : Int32)), .val (.int (2 : Int32)), .val (.long q1), .second, .val (.int (q1 ^^^ x7).toInt32)] [(.long q2)])) (X0.laload hx (j := (2 : Int32)) (v := (.long q2)) (by rw [e0]; exact Ar10.1) (State.isArrayOf_alike hZ.alike Ar10.2.1) Ar10.2.2 hin10 hat10 (g := (mkF m 25 #[.val (.ref ar), .val (.int x8), .val (.ref ar), .val (.int (4 : Int32)), .val (.int (2 : Int32)), .val (.long q1), .second, .val (.int (q1 ^^^ x7).toInt32)] [(.int (2 : Int32)), (.ref ar)])) rfl rfl (hb hby d3_25)) ?_
  refine own_go (st' := s₁.setTop (mkF m 28 #[.val (.ref ar), .val (.int x8), .val (.ref ar), .val (.int (4 : Int32)), .val (.int (2 : Int32)), .val (.long q2), .second, .val (.int (q1 ^^^ x7).toInt32)] [])) (fun _ k => XS.lstore X0.here hx rfl (hb hby d3_26) rfl (l' := #[.val (.ref ar), .val (.int x8), .val (.ref ar), .val (.int (4 : Int32)), .val (.int (2 : Int32)), .val (.long q2), .second, .val (.int (q1 ^^^ x7).toInt32)]) rfl k) ?_
  refine own_go (st' := s₁.setTop (mkF m 30 #[.val (.ref ar), .val (.int x8), .val (.ref ar), .val (.int (4 : Int32)), .val (.int (2 : Int32)), .val (.long q2), .second, .val (.int (q1 ^^^ x7).toInt32)] [(.long q2)])) (fun _ k => XS.lload X0.here hx rfl (hb hby d3_28) rfl k) ?_
  refine own_go (st' := s₁.setTop (mkF m 32 #[.val (.ref ar), .val (.int x8), .val (.ref ar), .val (.int (4 : Int32)), .val (.int (2 : Int32)), .val (.long q2), .second, .val (.int (q1 ^^^ x7).toInt32)] [(.long q2), (.long q2)])) (fun _ k => XS.lload X0.here hx rfl (hb hby d3_30) rfl k) ?_
  refine own_go (st' := s₁.setTop (mkF m 34 #[.val (.ref ar), .val (.int x8), .val (.ref ar), .val (.int (4 : Int32)), .val (.int (2 : Int32)), .val (.long q2), .second, .val (.int (q1 ^^^ x7).toInt32)] [(.int (32 : Int32)), (.long q2), (.long q2)])) (fun _ k => XS.bipush X0.here hx rfl (hb hby d3_32) k) ?_
  obtain ⟨x11, hx11⟩ : ∃ z : Int64, z = ((q2.toUInt64 >>> ((32 : Int32) &&& 0x3f).toInt64.toUInt64).toInt64) := ⟨_, rfl⟩
  refine own_go (st' := s₁.setTop (mkF m 35 #[.val (.ref ar), .val (.int x8), .val (.ref ar), .val (.int (4 : Int32)), .val (.int (2 : Int32)), .val (.long q2), .second, .val (.int (q1 ^^^ x7).toInt32)] [(.long x11), (.long q2)])) (fun _ k => XS.lushr X0.here hx rfl (hb hby d3_34) rfl (by rw [hx11] at k; exact k)) ?_
  refine own_go (st' := s₁.setTop (mkF m 36 #[.val (.ref ar), .val (.int x8), .val (.ref ar), .val (.int (4 : Int32)), .val (.int (2 : Int32)), .val (.long q2), .second, .val (.int (q1 ^^^ x7).toInt32)] [(.long (q2 ^^^ x11))])) (fun _ k => XS.lxor X0.here hx rfl (hb hby d3_35) rfl k) ?_
  refine own_go (st' := s₁.setTop (mkF m 37 #[.val (.ref ar), .val (.int x8), .val (.ref ar), .val (.int (4 : Int32)), .val (.int (2 : Int32)), .val (.long q2), .second, .val (.int (q1 ^^^ x7).toInt32)] [(.int (q2 ^^^ x11).toInt32)])) (fun _ k => XS.l2i X0.here hx rfl (hb hby d3_36) rfl k) ?_
  refine own_go (st' := s₁.setTop (mkF m 39 #[.val (.ref ar), .val (.int x8), .val (.ref ar), .val (.int (4 : Int32)), .val (.int (2 : Int32)), .val (.long q2), .second, .val (.int (q2 ^^^ x11).toInt32)] [])) (fun _ k => XS.istore X0.here hx rfl (hb hby d3_37) rfl (l' := #[.val (.ref ar), .val (.int x8), .val (.ref ar), .val (.int (4 : Int32)), .val (.int (2 : Int32)), .val (.long q2), .second, .val (.int (q2 ^^^ x11).toInt32)]) rfl k) ?_
  refine own_go (st' := s₁.setTop (mkF m 41 #[.val (.ref ar), .val (.int x8), .val (.ref ar), .val (.int (4 : Int32)), .val (.int (2 : Int32)), .val (.long q2), .second, .val (.int (q2 ^^^ x11).toInt32)] [(.int (31 : Int32))])) (fun _ k => XS.bipush X0.here hx rfl (hb hby d3_39) k) ?_
  refine own_go (st' := s₁.setTop (mkF m 42 #[.val (.ref ar), .val (.int x8), .val (.ref ar), .val (.int (4 : Int32)), .val (.int (2 : Int32)), .val (.long q2), .second, .val (.int (q2 ^^^ x11).toInt32)] [(.int x8), (.int (31 : Int32))])) (fun _ k => XS.iloadN X0.here hx rfl (hb hby d3_41) rfl k) ?_
  refine own_go (st' := s₁.setTop (mkF m 43 #[.val (.ref ar), .val (.int x8), .val (.ref ar), .val (.int (4 : Int32)), .val (.int (2 : Int32)), .val (.long q2), .second, .val (.int (q2 ^^^ x11).toInt32)] [(.int ((31 : Int32) * x8))])) (fun _ k => XS.imul X0.here hx rfl (hb hby d3_42) rfl k) ?_
  refine own_go (st' := s₁.setTop (mkF m 45 #[.val (.ref ar), .val (.int x8), .val (.ref ar), .val (.int (4 : Int32)), .val (.int (2 : Int32)), .val (.long q2), .second, .val (.int (q2 ^^^ x11).toInt32)] [(.int (q2 ^^^ x11).toInt32), (.int ((31 : Int32) * x8))])) (fun _ k => XS.iload X0.here hx rfl (hb hby d3_43) rfl k) ?_
  refine own_go (st' := s₁.setTop (mkF m 46 #[.val (.ref ar), .val (.int x8), .val (.ref ar), .val (.int (4 : Int32)), .val (.int (2 : Int32)), .val (.long q2), .second, .val (.int (q2 ^^^ x11).toInt32)] [(.int (((31 : Int32) * x8) + (q2 ^^^ x11).toInt32))])) (fun _ k => XS.iadd X0.here hx rfl (hb hby d3_45) rfl k) ?_
  refine own_go (st' := s₁.setTop (mkF m 47 #[.val (.ref ar), .val (.int (((31 : Int32) * x8) + (q2 ^^^ x11).toInt32)), .val (.ref ar), .val (.int (4 : Int32)), .val (.int (2 : Int32)), .val (.long q2), .second, .val (.int (q2 ^^^ x11).toInt32)] [])) (fun _ k => XS.istoreN X0.here hx rfl (hb hby d3_46) rfl (l' := #[.val (.ref ar), .val (.int (((31 : Int32) * x8) + (q2 ^^^ x11).toInt32)), .val (.ref ar), .val (.int (4 : Int32)), .val (.int (2 : Int32)), .val (.long q2), .second, .val (.int (q2 ^^^ x11).toInt32)]) rfl k) ?_
  refine own_go (st' := s₁.setTop (mkF m 50 #[.val (.ref ar), .val (.int (((31 : Int32) * x8) + (q2 ^^^ x11).toInt32)), .val (.ref ar), .val (.int (4 : Int32)), .val (.int (3 : Int32)), .val (.long q2), .second, .val (.int (q2 ^^^ x11).toInt32)] [])) (fun _ k => XS.iinc X0.here hx rfl (hb hby d3_47) rfl (l' := #[.val (.ref ar), .val (.int (((31 : Int32) * x8) + (q2 ^^^ x11).toInt32)), .val (.ref ar), .val (.int (4 : Int32)), .val (.int (3 : Int32)), .val (.long q2), .second, .val (.int (q2 ^^^ x11).toInt32)]) (by rw [show ((2 : Int32) + Int32.ofInt 1) = (3 : Int32) by decide]; rfl) k) ?_
  refine own_go (st' := s₁.setTop (mkF m 16 #[.val (.ref ar), .val (.int (((31 : Int32) * x8) + (q2 ^^^ x11).toInt32)), .val (.ref ar), .val (.int (4 : Int32)), .val (.int (3 : Int32)), .val (.long q2), .second, .val (.int (q2 ^^^ x11).toInt32)] [])) (fun _ k => XS.goto X0.here hx rfl (pc0 := 50) (pc' := 16) rfl (hb hby d3_50) (by decide) (by decide) k) ?_
  refine own_go (st' := s₁.setTop (mkF m 18 #[.val (.ref ar), .val (.int (((31 : Int32) * x8) + (q2 ^^^ x11).toInt32)), .val (.ref ar), .val (.int (4 : Int32)), .val (.int (3 : Int32)), .val (.long q2), .second, .val (.int (q2 ^^^ x11).toInt32)] [(.int (3 : Int32))])) (fun _ k => XS.iload X0.here hx rfl (hb hby d3_16) rfl k) ?_
  refine own_go (st' := s₁.setTop (mkF m 19 #[.val (.ref ar), .val (.int (((31 : Int32) * x8) + (q2 ^^^ x11).toInt32)), .val (.ref ar), .val (.int (4 : Int32)), .val (.int (3 : Int32)), .val (.long q2), .second, .val (.int (q2 ^^^ x11).toInt32)] [(.int (4 : Int32)), (.int (3 : Int32))])) (fun _ k => XS.iloadN X0.here hx rfl (hb hby d3_18) rfl k) ?_
  have hc12 : (3 : Int32) < (4 : Int32) := by decide
  refine own_go (st' := s₁.setTop (mkF m 22 #[.val (.ref ar), .val (.int (((31 : Int32) * x8) + (q2 ^^^ x11).toInt32)), .val (.ref ar), .val (.int (4 : Int32)), .val (.int (3 : Int32)), .val (.long q2), .second, .val (.int (q2 ^^^ x11).toInt32)] [])) (fun _ k => XS.icmpNo X0.here hx rfl (hb hby d3_19) rfl (tlt hc12).2.1 k) ?_
  refine own_go (st' := s₁.setTop (mkF m 23 #[.val (.ref ar), .val (.int (((31 : Int32) * x8) + (q2 ^^^ x11).toInt32)), .val (.ref ar), .val (.int (4 : Int32)), .val (.int (3 : Int32)), .val (.long q2), .second, .val (.int (q2 ^^^ x11).toInt32)] [(.ref ar)])) (fun _ k => XS.aloadN X0.here hx rfl (hb hby d3_22) rfl rfl k) ?_
  refine own_go (st' := s₁.setTop (mkF m 25 #[.val (.ref ar), .val (.int (((31 : Int32) * x8) + (q2 ^^^ x11).toInt32)), .val (.ref ar), .val (.int (4 : Int32)), .val (.int (3 : Int32)), .val (.long q2), .second, .val (.int (q2 ^^^ x11).toInt32)] [(.int (3 : Int32)), (.ref ar)])) (fun _ k => XS.iload X0.here hx rfl (hb hby d3_23) rfl k) ?_
  obtain ⟨cl13, Ar13, -, S13, M13, H13, -⟩ := id pr1
  have hin13 : ¬ ((3 : Int32) < 0 ∨ cl13.slots.size ≤ ((3 : Int32)).toNatClampNeg) := (inb_of S13 ⟨by decide, by decide⟩)
  have hat13 : cl13.slots[((3 : Int32)).toNatClampNeg]? = some (.long q3) := (H13.at hin13 rfl)
  refine own_go (st' := s₁.setTop (mkF m 26 #[.val (.ref ar), .val (.int (((31 : Int32) * x8) + (q2 ^^^ x11).toInt32)), .val (.ref ar), .val (.int (4 : Int32)), .val (.int (3 : Int32)), .val (.long q2), .second, .val (.int (q2 ^^^ x11).toInt32)] [(.long q3)])) (X0.laload hx (j := (3 : Int32)) (v := (.long q3)) (by rw [e0]; exact Ar13.1) (State.isArrayOf_alike hZ.alike Ar13.2.1) Ar13.2.2 hin13 hat13 (g := (mkF m 25 #[.val (.ref ar), .val (.int (((31 : Int32) * x8) + (q2 ^^^ x11).toInt32)), .val (.ref ar), .val (.int (4 : Int32)), .val (.int (3 : Int32)), .val (.long q2), .second, .val (.int (q2 ^^^ x11).toInt32)] [(.int (3 : Int32)), (.ref ar)])) rfl rfl (hb hby d3_25)) ?_
  refine own_go (st' := s₁.setTop (mkF m 28 #[.val (.ref ar), .val (.int (((31 : Int32) * x8) + (q2 ^^^ x11).toInt32)), .val (.ref ar), .val (.int (4 : Int32)), .val (.int (3 : Int32)), .val (.long q3), .second, .val (.int (q2 ^^^ x11).toInt32)] [])) (fun _ k => XS.lstore X0.here hx rfl (hb hby d3_26) rfl (l' := #[.val (.ref ar), .val (.int (((31 : Int32) * x8) + (q2 ^^^ x11).toInt32)), .val (.ref ar), .val (.int (4 : Int32)), .val (.int (3 : Int32)), .val (.long q3), .second, .val (.int (q2 ^^^ x11).toInt32)]) rfl k) ?_
  refine own_go (st' := s₁.setTop (mkF m 30 #[.val (.ref ar), .val (.int (((31 : Int32) * x8) + (q2 ^^^ x11).toInt32)), .val (.ref ar), .val (.int (4 : Int32)), .val (.int (3 : Int32)), .val (.long q3), .second, .val (.int (q2 ^^^ x11).toInt32)] [(.long q3)])) (fun _ k => XS.lload X0.here hx rfl (hb hby d3_28) rfl k) ?_
  refine own_go (st' := s₁.setTop (mkF m 32 #[.val (.ref ar), .val (.int (((31 : Int32) * x8) + (q2 ^^^ x11).toInt32)), .val (.ref ar), .val (.int (4 : Int32)), .val (.int (3 : Int32)), .val (.long q3), .second, .val (.int (q2 ^^^ x11).toInt32)] [(.long q3), (.long q3)])) (fun _ k => XS.lload X0.here hx rfl (hb hby d3_30) rfl k) ?_
  refine own_go (st' := s₁.setTop (mkF m 34 #[.val (.ref ar), .val (.int (((31 : Int32) * x8) + (q2 ^^^ x11).toInt32)), .val (.ref ar), .val (.int (4 : Int32)), .val (.int (3 : Int32)), .val (.long q3), .second, .val (.int (q2 ^^^ x11).toInt32)] [(.int (32 : Int32)), (.long q3), (.long q3)])) (fun _ k => XS.bipush X0.here hx rfl (hb hby d3_32) k) ?_
  obtain ⟨x14, hx14⟩ : ∃ z : Int64, z = ((q3.toUInt64 >>> ((32 : Int32) &&& 0x3f).toInt64.toUInt64).toInt64) := ⟨_, rfl⟩
  refine own_go (st' := s₁.setTop (mkF m 35 #[.val (.ref ar), .val (.int (((31 : Int32) * x8) + (q2 ^^^ x11).toInt32)), .val (.ref ar), .val (.int (4 : Int32)), .val (.int (3 : Int32)), .val (.long q3), .second, .val (.int (q2 ^^^ x11).toInt32)] [(.long x14), (.long q3)])) (fun _ k => XS.lushr X0.here hx rfl (hb hby d3_34) rfl (by rw [hx14] at k; exact k)) ?_
  refine own_go (st' := s₁.setTop (mkF m 36 #[.val (.ref ar), .val (.int (((31 : Int32) * x8) + (q2 ^^^ x11).toInt32)), .val (.ref ar), .val (.int (4 : Int32)), .val (.int (3 : Int32)), .val (.long q3), .second, .val (.int (q2 ^^^ x11).toInt32)] [(.long (q3 ^^^ x14))])) (fun _ k => XS.lxor X0.here hx rfl (hb hby d3_35) rfl k) ?_
  refine own_go (st' := s₁.setTop (mkF m 37 #[.val (.ref ar), .val (.int (((31 : Int32) * x8) + (q2 ^^^ x11).toInt32)), .val (.ref ar), .val (.int (4 : Int32)), .val (.int (3 : Int32)), .val (.long q3), .second, .val (.int (q2 ^^^ x11).toInt32)] [(.int (q3 ^^^ x14).toInt32)])) (fun _ k => XS.l2i X0.here hx rfl (hb hby d3_36) rfl k) ?_
  refine own_go (st' := s₁.setTop (mkF m 39 #[.val (.ref ar), .val (.int (((31 : Int32) * x8) + (q2 ^^^ x11).toInt32)), .val (.ref ar), .val (.int (4 : Int32)), .val (.int (3 : Int32)), .val (.long q3), .second, .val (.int (q3 ^^^ x14).toInt32)] [])) (fun _ k => XS.istore X0.here hx rfl (hb hby d3_37) rfl (l' := #[.val (.ref ar), .val (.int (((31 : Int32) * x8) + (q2 ^^^ x11).toInt32)), .val (.ref ar), .val (.int (4 : Int32)), .val (.int (3 : Int32)), .val (.long q3), .second, .val (.int (q3 ^^^ x14).toInt32)]) rfl k) ?_
  refine own_go (st' := s₁.setTop (mkF m 41 #[.val (.ref ar), .val (.int (((31 : Int32) * x8) + (q2 ^^^ x11).toInt32)), .val (.ref ar), .val (.int (4 : Int32)), .val (.int (3 : Int32)), .val (.long q3), .second, .val (.int (q3 ^^^ x14).toInt32)] [(.int (31 : Int32))])) (fun _ k => XS.bipush X0.here hx rfl (hb hby d3_39) k) ?_
  refine own_go (st' := s₁.setTop (mkF m 42 #[.val (.ref ar), .val (.int (((31 : Int32) * x8) + (q2 ^^^ x11).toInt32)), .val (.ref ar), .val (.int (4 : Int32)), .val (.int (3 : Int32)), .val (.long q3), .second, .val (.int (q3 ^^^ x14).toInt32)] [(.int (((31 : Int32) * x8) + (q2 ^^^ x11).toInt32)), (.int (31 : Int32))])) (fun _ k => XS.iloadN X0.here hx rfl (hb hby d3_41) rfl k) ?_
  obtain ⟨x15, hx15⟩ : ∃ z : Int32, z = ((31 : Int32) * (((31 : Int32) * x8) + (q2 ^^^ x11).toInt32)) := ⟨_, rfl⟩
  refine own_go (st' := s₁.setTop (mkF m 43 #[.val (.ref ar), .val (.int (((31 : Int32) * x8) + (q2 ^^^ x11).toInt32)), .val (.ref ar), .val (.int (4 : Int32)), .val (.int (3 : Int32)), .val (.long q3), .second, .val (.int (q3 ^^^ x14).toInt32)] [(.int x15)])) (fun _ k => XS.imul X0.here hx rfl (hb hby d3_42) rfl (by rw [hx15] at k; exact k)) ?_
  refine own_go (st' := s₁.setTop (mkF m 45 #[.val (.ref ar), .val (.int (((31 : Int32) * x8) + (q2 ^^^ x11).toInt32)), .val (.ref ar), .val (.int (4 : Int32)), .val (.int (3 : Int32)), .val (.long q3), .second, .val (.int (q3 ^^^ x14).toInt32)] [(.int (q3 ^^^ x14).toInt32), (.int x15)])) (fun _ k => XS.iload X0.here hx rfl (hb hby d3_43) rfl k) ?_
  refine own_go (st' := s₁.setTop (mkF m 46 #[.val (.ref ar), .val (.int (((31 : Int32) * x8) + (q2 ^^^ x11).toInt32)), .val (.ref ar), .val (.int (4 : Int32)), .val (.int (3 : Int32)), .val (.long q3), .second, .val (.int (q3 ^^^ x14).toInt32)] [(.int (x15 + (q3 ^^^ x14).toInt32))])) (fun _ k => XS.iadd X0.here hx rfl (hb hby d3_45) rfl k) ?_
  refine own_go (st' := s₁.setTop (mkF m 47 #[.val (.ref ar), .val (.int (x15 + (q3 ^^^ x14).toInt32)), .val (.ref ar), .val (.int (4 : Int32)), .val (.int (3 : Int32)), .val (.long q3), .second, .val (.int (q3 ^^^ x14).toInt32)] [])) (fun _ k => XS.istoreN X0.here hx rfl (hb hby d3_46) rfl (l' := #[.val (.ref ar), .val (.int (x15 + (q3 ^^^ x14).toInt32)), .val (.ref ar), .val (.int (4 : Int32)), .val (.int (3 : Int32)), .val (.long q3), .second, .val (.int (q3 ^^^ x14).toInt32)]) rfl k) ?_
  refine own_go (st' := s₁.setTop (mkF m 50 #[.val (.ref ar), .val (.int (x15 + (q3 ^^^ x14).toInt32)), .val (.ref ar), .val (.int (4 : Int32)), .val (.int (4 : Int32)), .val (.long q3), .second, .val (.int (q3 ^^^ x14).toInt32)] [])) (fun _ k => XS.iinc X0.here hx rfl (hb hby d3_47) rfl (l' := #[.val (.ref ar), .val (.int (x15 + (q3 ^^^ x14).toInt32)), .val (.ref ar), .val (.int (4 : Int32)), .val (.int (4 : Int32)), .val (.long q3), .second, .val (.int (q3 ^^^ x14).toInt32)]) (by rw [show ((3 : Int32) + Int32.ofInt 1) = (4 : Int32) by decide]; rfl) k) ?_
  refine own_go (st' := s₁.setTop (mkF m 16 #[.val (.ref ar), .val (.int (x15 + (q3 ^^^ x14).toInt32)), .val (.ref ar), .val (.int (4 : Int32)), .val (.int (4 : Int32)), .val (.long q3), .second, .val (.int (q3 ^^^ x14).toInt32)] [])) (fun _ k => XS.goto X0.here hx rfl (pc0 := 50) (pc' := 16) rfl (hb hby d3_50) (by decide) (by decide) k) ?_
  refine own_go (st' := s₁.setTop (mkF m 18 #[.val (.ref ar), .val (.int (x15 + (q3 ^^^ x14).toInt32)), .val (.ref ar), .val (.int (4 : Int32)), .val (.int (4 : Int32)), .val (.long q3), .second, .val (.int (q3 ^^^ x14).toInt32)] [(.int (4 : Int32))])) (fun _ k => XS.iload X0.here hx rfl (hb hby d3_16) rfl k) ?_
  refine own_go (st' := s₁.setTop (mkF m 19 #[.val (.ref ar), .val (.int (x15 + (q3 ^^^ x14).toInt32)), .val (.ref ar), .val (.int (4 : Int32)), .val (.int (4 : Int32)), .val (.long q3), .second, .val (.int (q3 ^^^ x14).toInt32)] [(.int (4 : Int32)), (.int (4 : Int32))])) (fun _ k => XS.iloadN X0.here hx rfl (hb hby d3_18) rfl k) ?_
  have hc16 : ¬ ((4 : Int32) < (4 : Int32)) := by decide
  refine own_go (st' := s₁.setTop (mkF m 53 #[.val (.ref ar), .val (.int (x15 + (q3 ^^^ x14).toInt32)), .val (.ref ar), .val (.int (4 : Int32)), .val (.int (4 : Int32)), .val (.long q3), .second, .val (.int (q3 ^^^ x14).toInt32)] [])) (fun _ k => XS.icmpYes X0.here hx rfl (pc0 := 19) (pc' := 53) rfl (hb hby d3_19) rfl (flt hc16).2.1 (by decide) (by decide) k) ?_
  refine own_go (st' := s₁.setTop (mkF m 54 #[.val (.ref ar), .val (.int (x15 + (q3 ^^^ x14).toInt32)), .val (.ref ar), .val (.int (4 : Int32)), .val (.int (4 : Int32)), .val (.long q3), .second, .val (.int (q3 ^^^ x14).toInt32)] [(.int (x15 + (q3 ^^^ x14).toInt32))])) (fun _ k => XS.iloadN X0.here hx rfl (hb hby d3_53) rfl k) ?_
  obtain ⟨fs, hr, hrun, hended, hW, hsame⟩ := X0.leave (v := some (.int (x15 + (q3 ^^^ x14).toInt32))) (fun h => by rw [Bd.returns] at h; cases h)
  refine ⟨_, _, ?_, hP _ _ hrun hended ⟨_, _, rfl, ?_, ⟨_, rfl⟩, hW, hsame.mono (by decide) (by decide)⟩⟩
  · exact retOut X0 hx Bd.returns rfl (Or.inl ⟨rfl, Or.inl rfl, _, rfl⟩) (hb hby d3_54) hr
  · show Qrm3_4 Z ar ka q0 q1 q2 q3 h0 n0 _ s₁.heap _
    rw [e0]
    exact ⟨(x15 + (q3 ^^^ x14).toInt32), rfl, N0, rfl⟩
theorem ef_rm1_4 (m : MethodId) (x0 : Addr) (x1 : Int32) (x2 : Addr) : entryFrame m #[(.ref x0), (.int x1), (.ref x2)] 3 = mkF m 0 #[.val (.ref x0), .val (.int x1), .val (.ref x2)] [] := by first | (simp [entryFrame, mkF, argsToLocals, Value.category]; done) | rfl
def Qrm1_4 (Z : State) (a1 : Addr) (p2 : Int32) (ar : Addr) (ka : ClassId) (u1 : Int32) (u2 : Int32) (q0 : Int64) (q1 : Int64) (q2 : Int64) (q3 : Int64) (h0 : Heap) (n0 : Nat) (v : Option Value) (h : Heap) (L : List Loc) : Prop := (v = none) ∧ (Fr n0 L) ∧ (Keep h0 h [a1]) ∧ (Exa Z h a1 "com/example/millwright/millwright/cut/Pattern") ∧ (Fld Z h a1 "com/example/millwright/millwright/cut/Pattern" "counts" "[J" (.ref ar))
set_option maxRecDepth 65536 in
set_option maxHeartbeats 40000000 in
theorem rm1_4 (l : Launch) (Z : State) (a0 : Array Value) (hw : ∀ d ∈ tables_1, d.before a0 Z = true) (ws : List Jvm.Cond) (a1 : Addr) (p2 : Int32) (ar : Addr) (ka : ClassId) (u1 : Int32) (u2 : Int32) (q0 : Int64) (q1 : Int64) (q2 : Int64) (q3 : Int64) (h0 : Heap) (n0 : Nat) (Z0 : n0 ≤ h0.size) (pr1 : Exa Z h0 a1 "com/example/millwright/millwright/cut/Pattern") (pr2 : Fld Z h0 a1 "com/example/millwright/millwright/cut/Pattern" "stock" "I" (.int u1)) (pr3 : Fld Z h0 a1 "com/example/millwright/millwright/cut/Pattern" "counts" "[J" .null) (pr4 : Fld Z h0 a1 "com/example/millwright/millwright/cut/Pattern" "hash" "I" (.int u2)) (pr5 : Arv Z h0 ar ka .long (4 : Int32) [(.long q0), (.long q1), (.long q2), (.long q3)] (.long (0 : Int64))) (pr6 : n0 ≤ a1) (pr7 : a1 ≠ ar) :
    MetFree l (⟨"com/example/millwright/millwright/cut/Pattern", "<init>", "(I[J)V"⟩ : MethodName) (head1 (Jvm.Cond.code (⟨"com/example/millwright/millwright/cut/Pattern", "<init>", "(I[J)V"⟩ : MethodName) prog_22_method_1_code 3 none :: ws) ({ frames := 1, cells := 0, slots := 0, locals := 21 } : Room)) (fun a U => a = #[(.ref a1), (.int p2), (.ref ar)] ∧ Z.Warmed39 U.vm ∧ U.heap = h0) (fun _ _ _ _ _ => True) (fun _ U o U' => ∃ v L, o = .returned v ∧ Qrm1_4 Z a1 p2 ar ka u1 u2 q0 q1 q2 q3 h0 n0 v U'.heap L ∧ FrameEnd U o U' L ({ frames := 1, cells := 0, slots := 0, locals := 21 } : Room).cells ({ frames := 1, cells := 0, slots := 0, locals := 21 } : Room).slots) := by
  refine MetFree.of_bodySF (plainFor_of_name pn_1) hisR ?_
  intro p e s m args below meth c s₁ Bd hml0 hP0 hK
  obtain ⟨rfl, hZ, hh⟩ := hP0
  have hx := Bd.exec
  have hby := Bd.bytes
  have hml : c.maxLocals = 3 := hml0
  have hown : s.vm.findClass "com/example/millwright/millwright/cut/Pattern" = some m.cls := findClass_of_methodNamed Bd.named
  have hnm := (name_of_methodNamed Bd.named Bd.method).1
  have X0 : Stand p l e ({ frames := 1, cells := 0, slots := 0, locals := 21 } : Room) s m #[(.ref a1), (.int p2), (.ref ar)] below meth c s₁ [] 0 0 := Stand.of_body Bd
  have e0 : s₁.heap = h0 := by rw [← hh, Bd.state]; rfl
  have N0 := Fr.nil n0
  suffices own_H : ∀ (P : State → Outcome → Prop), (∀ U o, U.status = .running → Ended U below o → (∃ v L, o = .returned v ∧ Qrm1_4 Z a1 p2 ar ka u1 u2 q0 q1 q2 q3 h0 n0 v U.heap L ∧ FrameEnd s o U L ({ frames := 1, cells := 0, slots := 0, locals := 21 } : Room).cells ({ frames := 1, cells := 0, slots := 0, locals := 21 } : Room).slots) → P U o) → own_Go p.tables e below P (s₁.setTop (mkF m 0 #[.val (.ref a1), .val (.int p2), .val (.ref ar)] [])) from own_go (fun _ k => castTop (ef_rm1_4 m a1 p2 ar) k) (own_H _ (fun U o h1 h2 h3 => ⟨h1, h2, h3⟩))
  intro P hP
  have lt_a1 : a1 < h0.size := pr1.lt
  have lt_ar : ar < h0.size := pr5.lt
  refine own_go (st' := s₁.setTop (mkF m 1 #[.val (.ref a1), .val (.int p2), .val (.ref ar)] [(.ref a1)])) (fun _ k => XS.aloadN X0.here hx rfl (hb hby d1_0) rfl rfl k) ?_
  obtain ⟨T1, X1, e1, st1⟩ := initO X0 hx hZ hown (hw _ (List.mem_of_getElem? (i := 8) rfl)) (hw _ (List.mem_of_getElem? (i := 9) rfl)) (hw _ (List.mem_of_getElem? (i := 10) rfl)) e0 (g := (mkF m 1 #[.val (.ref a1), .val (.int p2), .val (.ref ar)] [(.ref a1)])) rfl (by rw [hml]; rfl) rfl (hb hby d1_1) (by decide) (W := 0) (by show 2 * 0 + _ ≤ _; exact Nat.le_of_eq rfl) (by decide)
  refine own_go (st' := T1.setTop (mkF m 4 #[.val (.ref a1), .val (.int p2), .val (.ref ar)] [])) (st1) ?_
  refine own_go (st' := T1.setTop (mkF m 5 #[.val (.ref a1), .val (.int p2), .val (.ref ar)] [(.ref a1)])) (fun _ k => XS.aloadN X1.here hx rfl (hb hby d1_4) rfl rfl k) ?_
  refine own_go (st' := T1.setTop (mkF m 6 #[.val (.ref a1), .val (.int p2), .val (.ref ar)] [(.int p2), (.ref a1)])) (fun _ k => XS.iloadN X1.here hx rfl (hb hby d1_5) rfl k) ?_
  obtain ⟨T2, h2, X2, e2, W2, st2⟩ := putF X1 hx hZ hown (host := "") (Or.inl (hw _ (List.mem_of_getElem? (i := 11) rfl))) Via.refl e1 pr2 pr1 (Or.inr ⟨(hw _ (List.mem_of_getElem? (i := 12) rfl)), rfl, hnm⟩) (hw _ (List.mem_of_getElem? (i := 3) rfl)) (ty := .int) (by decide) rfl rfl (g := (mkF m 6 #[.val (.ref a1), .val (.int p2), .val (.ref ar)] [(.int p2), (.ref a1)])) rfl rfl (hb hby d1_6)
  have sz2 : h2.size = h0.size := W2.size
  have N2 := Fr.snoc X2 N0 (by omega)
  have f2 : Fld Z h2 a1 "com/example/millwright/millwright/cut/Pattern" "stock" "I" (.int p2) := pr2.same W2
  refine own_go (st' := T2.setTop (mkF m 9 #[.val (.ref a1), .val (.int p2), .val (.ref ar)] [])) (st2) ?_
  refine own_go (st' := T2.setTop (mkF m 10 #[.val (.ref a1), .val (.int p2), .val (.ref ar)] [(.ref a1)])) (fun _ k => XS.aloadN X2.here hx rfl (hb hby d1_9) rfl rfl k) ?_
  refine own_go (st' := T2.setTop (mkF m 11 #[.val (.ref a1), .val (.int p2), .val (.ref ar)] [(.ref ar), (.ref a1)])) (fun _ k => XS.aloadN X2.here hx rfl (hb hby d1_10) rfl rfl k) ?_
  have c3 : Fld Z h2 a1 "com/example/millwright/millwright/cut/Pattern" "counts" "[J" .null := (pr3.other W2 (Or.inr (slot_ne (Or.inr (hw _ (List.mem_of_getElem? (i := 14) rfl))) (Or.inr (hw _ (List.mem_of_getElem? (i := 12) rfl))) (by decide) (t := (.array .long)) (t' := .int) (by decide) (by decide))))
  have c4 : Exa Z h2 a1 "com/example/millwright/millwright/cut/Pattern" := (pr1.wr W2)
  obtain ⟨T5, h5, X5, e5, W5, st5⟩ := putF X2 hx hZ hown (host := "") (Or.inl (hw _ (List.mem_of_getElem? (i := 13) rfl))) Via.refl e2 c3 c4 (Or.inr ⟨(hw _ (List.mem_of_getElem? (i := 14) rfl)), rfl, hnm⟩) (hw _ (List.mem_of_getElem? (i := 3) rfl)) (ty := (.array .long)) (by decide) rfl rfl (g := (mkF m 11 #[.val (.ref a1), .val (.int p2), .val (.ref ar)] [(.ref ar), (.ref a1)])) rfl rfl (hb hby d1_11)
  have sz5 : h5.size = h2.size := W5.size
  have N5 := Fr.snoc X5 N2 (by omega)
  have f5 : Fld Z h5 a1 "com/example/millwright/millwright/cut/Pattern" "counts" "[J" (.ref ar) := c3.same W5
  refine own_go (st' := T5.setTop (mkF m 14 #[.val (.ref a1), .val (.int p2), .val (.ref ar)] [])) (st5) ?_
  refine own_go (st' := T5.setTop (mkF m 15 #[.val (.ref a1), .val (.int p2), .val (.ref ar)] [(.ref a1)])) (fun _ k => XS.aloadN X5.here hx rfl (hb hby d1_14) rfl rfl k) ?_
  refine own_go (st' := T5.setTop (mkF m 17 #[.val (.ref a1), .val (.int p2), .val (.ref ar)] [(.int (31 : Int32)), (.ref a1)])) (fun _ k => XS.bipush X5.here hx rfl (hb hby d1_15) k) ?_
  refine own_go (st' := T5.setTop (mkF m 18 #[.val (.ref a1), .val (.int p2), .val (.ref ar)] [(.int p2), (.int (31 : Int32)), (.ref a1)])) (fun _ k => XS.iloadN X5.here hx rfl (hb hby d1_17) rfl k) ?_
  refine own_go (st' := T5.setTop (mkF m 19 #[.val (.ref a1), .val (.int p2), .val (.ref ar)] [(.int ((31 : Int32) * p2)), (.ref a1)])) (fun _ k => XS.imul X5.here hx rfl (hb hby d1_18) rfl k) ?_
  refine own_go (st' := T5.setTop (mkF m 20 #[.val (.ref a1), .val (.int p2), .val (.ref ar)] [(.ref ar), (.int ((31 : Int32) * p2)), (.ref a1)])) (fun _ k => XS.aloadN X5.here hx rfl (hb hby d1_19) rfl rfl k) ?_
  have c7 : Arv Z h5 ar ka .long (4 : Int32) [(.long q0), (.long q1), (.long q2), (.long q3)] (.long (0 : Int64)) := ((pr5.other W2 (by first | assumption | exact Ne.symm (by assumption) | (apply Nat.ne_of_lt; omega) | (apply Nat.ne_of_gt; omega))).other W5 (by first | assumption | exact Ne.symm (by assumption) | (apply Nat.ne_of_lt; omega) | (apply Nat.ne_of_gt; omega)))
  obtain ⟨_, _, ⟨T6, LC6, kC6, nC6⟩, -, X6, ⟨Lc6, hQ6, lq6, yq6, zq6⟩, st6⟩ := Jvm.LawKit.callS X5 hx (y := (⟨"java/util/Arrays", "hashCode", "([J)I"⟩ : MethodName)) hown (mvT hZ (hw _ (List.mem_of_getElem? (i := 15) rfl))) (mvT hZ (hw _ (List.mem_of_getElem? (i := 16) rfl))) (mvT hZ (hw _ (List.mem_of_getElem? (i := 17) rfl))) (mvT hZ (hw _ (List.mem_of_getElem? (i := 18) rfl))) (by decide) (backOf (W := 2) (rm3_4 l Z a0 hw [] ar ka q0 q1 q2 q3 h5 n0 (by omega) c7) hZ (hw _ (List.mem_of_getElem? (i := 18) rfl)) (hw _ (List.mem_of_getElem? (i := 17) rfl)) (by decide) (by decide)) (g := (mkF m 20 #[.val (.ref a1), .val (.int p2), .val (.ref ar)] [(.ref ar), (.int ((31 : Int32) * p2)), (.ref a1)])) rfl (by rw [hml]; rfl) (argsL := [(.ref ar)]) (rest := [(.int ((31 : Int32) * p2)), (.ref a1)]) (lenOf pd_0 rfl) rfl (by show 2 * 0 + _ ≤ _; exact Nat.le_of_eq rfl) (hb hby d1_20) (fun _ _ => ⟨rfl, e5, (by decide : 0 + 0 ≤ _), (by decide : 0 + 0 ≤ _)⟩)
  dsimp only [Pt.U, Pt.locs, Pt.cells, Pt.slots] at X6 lq6 yq6 zq6 st6 hQ6
  subst lq6 yq6 zq6
  obtain ⟨z_6, rfl, Nq6, eq6⟩ := hQ6
  have N6 := Fr.app N5 Nq6
  refine own_go (st' := T6.setTop (mkF m 23 #[.val (.ref a1), .val (.int p2), .val (.ref ar)] [(.int z_6), (.int ((31 : Int32) * p2)), (.ref a1)])) (fun t k => st6 t k) ?_
  refine own_go (st' := T6.setTop (mkF m 24 #[.val (.ref a1), .val (.int p2), .val (.ref ar)] [(.int (((31 : Int32) * p2) + z_6)), (.ref a1)])) (fun _ k => XS.iadd X6.here hx rfl (hb hby d1_23) rfl k) ?_
  have c8 : Fld Z h5 a1 "com/example/millwright/millwright/cut/Pattern" "hash" "I" (.int u2) := ((pr4.other W2 (Or.inr (slot_ne (Or.inr (hw _ (List.mem_of_getElem? (i := 20) rfl))) (Or.inr (hw _ (List.mem_of_getElem? (i := 12) rfl))) (by decide) (t := .int) (t' := .int) (by decide) (by decide)))).other W5 (Or.inr (slot_ne (Or.inr (hw _ (List.mem_of_getElem? (i := 20) rfl))) (Or.inr (hw _ (List.mem_of_getElem? (i := 14) rfl))) (by decide) (t := .int) (t' := (.array .long)) (by decide) (by decide))))
  have c9 : Exa Z h5 a1 "com/example/millwright/millwright/cut/Pattern" := (c4.wr W5)
  obtain ⟨T10, h10, X10, e10, W10, st10⟩ := putF X6 hx hZ hown (host := "") (Or.inl (hw _ (List.mem_of_getElem? (i := 19) rfl))) Via.refl eq6 c8 c9 (Or.inr ⟨(hw _ (List.mem_of_getElem? (i := 20) rfl)), rfl, hnm⟩) (hw _ (List.mem_of_getElem? (i := 3) rfl)) (ty := .int) (by decide) rfl rfl (g := (mkF m 24 #[.val (.ref a1), .val (.int p2), .val (.ref ar)] [(.int (((31 : Int32) * p2) + z_6)), (.ref a1)])) rfl rfl (hb hby d1_24)
  have sz10 : h10.size = h5.size := W10.size
  have N10 := Fr.snoc X10 N6 (by omega)
  have f10 : Fld Z h10 a1 "com/example/millwright/millwright/cut/Pattern" "hash" "I" (.int (((31 : Int32) * p2) + z_6)) := c8.same W10
  refine own_go (st' := T10.setTop (mkF m 27 #[.val (.ref a1), .val (.int p2), .val (.ref ar)] [])) (st10) ?_
  obtain ⟨fs, hr, hrun, hended, hW, hsame⟩ := X10.leave (v := none) (fun _ => rfl)
  refine ⟨_, _, ?_, hP _ _ hrun hended ⟨_, _, rfl, ?_, ⟨_, rfl⟩, hW, hsame.mono (by decide) (by decide)⟩⟩
  · exact X10.returnOut hx Bd.returns (hb hby d1_27) hr
  · show Qrm1_4 Z a1 p2 ar ka u1 u2 q0 q1 q2 q3 h0 n0 _ T10.heap _
    have c12 : Exa Z h10 a1 "com/example/millwright/millwright/cut/Pattern" := (c9.wr W10)
    have c13 : Fld Z h10 a1 "com/example/millwright/millwright/cut/Pattern" "counts" "[J" (.ref ar) := (f5.other W10 (Or.inr (slot_ne (Or.inr (hw _ (List.mem_of_getElem? (i := 14) rfl))) (Or.inr (hw _ (List.mem_of_getElem? (i := 20) rfl))) (by decide) (t := (.array .long)) (t' := .int) (by decide) (by decide))))
    rw [e10]
    exact ⟨rfl, N10, ((((Keep.refl h0 [a1]).wr W2 (Or.inl (List.mem_of_getElem? (i := 0) rfl))).wr W5 (Or.inl (List.mem_of_getElem? (i := 0) rfl))).wr W10 (Or.inl (List.mem_of_getElem? (i := 0) rfl))), c12, c13⟩
theorem ef_rm4_4 (m : MethodId) (x0 : Addr) : entryFrame m #[(.ref x0)] 8 = mkF m 0 #[.val (.ref x0), .unset, .unset, .unset, .unset, .unset, .unset, .unset] [] := by first | (simp [entryFrame, mkF, argsToLocals, Value.category]; done) | rfl
def Qrm4_4 (Z : State) (a1 : Addr) (ar : Addr) (ka : ClassId) (q0 : Int64) (q1 : Int64) (q2 : Int64) (q3 : Int64) (h0 : Heap) (n0 : Nat) (v : Option Value) (h : Heap) (L : List Loc) : Prop := (v = some (.long (((((0 : Int64) + q0) + q1) + q2) + q3))) ∧ (Fr n0 L) ∧ (h = h0)
set_option maxRecDepth 65536 in
set_option maxHeartbeats 40000000 in
theorem rm4_4 (l : Launch) (Z : State) (a0 : Array Value) (hw : ∀ d ∈ tables_1, d.before a0 Z = true) (ws : List Jvm.Cond) (a1 : Addr) (ar : Addr) (ka : ClassId) (q0 : Int64) (q1 : Int64) (q2 : Int64) (q3 : Int64) (h0 : Heap) (n0 : Nat) (Z0 : n0 ≤ h0.size) (pr1 : Fld Z h0 a1 "com/example/millwright/millwright/cut/Pattern" "counts" "[J" (.ref ar)) (pr2 : Arv Z h0 ar ka .long (4 : Int32) [(.long q0), (.long q1), (.long q2), (.long q3)] (.long (0 : Int64))) :
    MetFree l (⟨"com/example/millwright/millwright/cut/Pattern", "pieceCount", "()J"⟩ : MethodName) (head1 (Jvm.Cond.code (⟨"com/example/millwright/millwright/cut/Pattern", "pieceCount", "()J"⟩ : MethodName) prog_22_method_4_code 8 (some .long) :: ws) ({ frames := 0, cells := 0, slots := 0, locals := 0 } : Room)) (fun a U => a = #[(.ref a1)] ∧ Z.Warmed39 U.vm ∧ U.heap = h0) (fun _ _ _ _ _ => True) (fun _ U o U' => ∃ v L, o = .returned v ∧ Qrm4_4 Z a1 ar ka q0 q1 q2 q3 h0 n0 v U'.heap L ∧ FrameEnd U o U' L ({ frames := 0, cells := 0, slots := 0, locals := 0 } : Room).cells ({ frames := 0, cells := 0, slots := 0, locals := 0 } : Room).slots) := by
  refine MetFree.of_bodySF (plainFor_of_name pn_4) hisR ?_
  intro p e s m args below meth c s₁ Bd hml0 hP0 hK
  obtain ⟨rfl, hZ, hh⟩ := hP0
  have hx := Bd.exec
  have hby := Bd.bytes
  have hml : c.maxLocals = 8 := hml0
  have hown : s.vm.findClass "com/example/millwright/millwright/cut/Pattern" = some m.cls := findClass_of_methodNamed Bd.named
  have hnm := (name_of_methodNamed Bd.named Bd.method).1
  have X0 : Stand p l e ({ frames := 0, cells := 0, slots := 0, locals := 0 } : Room) s m #[(.ref a1)] below meth c s₁ [] 0 0 := Stand.of_body Bd
  have e0 : s₁.heap = h0 := by rw [← hh, Bd.state]; rfl
  have N0 := Fr.nil n0
  suffices own_H : ∀ (P : State → Outcome → Prop), (∀ U o, U.status = .running → Ended U below o → (∃ v L, o = .returned v ∧ Qrm4_4 Z a1 ar ka q0 q1 q2 q3 h0 n0 v U.heap L ∧ FrameEnd s o U L ({ frames := 0, cells := 0, slots := 0, locals := 0 } : Room).cells ({ frames := 0, cells := 0, slots := 0, locals := 0 } : Room).slots) → P U o) → own_Go p.tables e below P (s₁.setTop (mkF m 0 #[.val (.ref a1), .unset, .unset, .unset, .unset, .unset, .unset, .unset] [])) from own_go (fun _ k => castTop (ef_rm4_4 m a1) k) (own_H _ (fun U o h1 h2 h3 => ⟨h1, h2, h3⟩))
  intro P hP
  have lt_a1 : a1 < h0.size := pr1.lt
  have lt_ar : ar < h0.size := pr2.lt
  refine own_go (st' := s₁.setTop (mkF m 1 #[.val (.ref a1), .unset, .unset, .unset, .unset, .unset, .unset, .unset] [(.long (0 : Int64))])) (fun _ k => XS.lconst X0.here hx rfl (hb hby d4_0) k) ?_
  refine own_go (st' := s₁.setTop (mkF m 2 #[.val (.ref a1), .val (.long (0 : Int64)), .second, .unset, .unset, .unset, .unset, .unset] [])) (fun _ k => XS.lstoreN X0.here hx rfl (hb hby d4_1) rfl (l' := #[.val (.ref a1), .val (.long (0 : Int64)), .second, .unset, .unset, .unset, .unset, .unset]) rfl k) ?_
  refine own_go (st' := s₁.setTop (mkF m 3 #[.val (.ref a1), .val (.long (0 : Int64)), .second, .unset, .unset, .unset, .unset, .unset] [(.ref a1)])) (fun _ k => XS.aloadN X0.here hx rfl (hb hby d4_2) rfl rfl k) ?_
  obtain ⟨T1, X1, e1, st1⟩ := getF X0 hx hZ hown (host := "") (Or.inl (hw _ (List.mem_of_getElem? (i := 13) rfl))) Via.refl e0 pr1 (g := (mkF m 3 #[.val (.ref a1), .val (.long (0 : Int64)), .second, .unset, .unset, .unset, .unset, .unset] [(.ref a1)])) rfl rfl (hb hby d4_3)
  refine own_go (st' := T1.setTop (mkF m 6 #[.val (.ref a1), .val (.long (0 : Int64)), .second, .unset, .unset, .unset, .unset, .unset] [(.ref ar)])) (st1) ?_
  refine own_go (st' := T1.setTop (mkF m 7 #[.val (.ref a1), .val (.long (0 : Int64)), .second, .val (.ref ar), .unset, .unset, .unset, .unset] [])) (fun _ k => XS.astoreN X1.here hx rfl (hb hby d4_6) rfl rfl (l' := #[.val (.ref a1), .val (.long (0 : Int64)), .second, .val (.ref ar), .unset, .unset, .unset, .unset]) rfl k) ?_
  refine own_go (st' := T1.setTop (mkF m 8 #[.val (.ref a1), .val (.long (0 : Int64)), .second, .val (.ref ar), .unset, .unset, .unset, .unset] [(.ref ar)])) (fun _ k => XS.aloadN X1.here hx rfl (hb hby d4_7) rfl rfl k) ?_
  obtain ⟨cl2, Ar2, -, S2, M2, -, -⟩ := id pr2
  refine own_go (st' := T1.setTop (mkF m 9 #[.val (.ref a1), .val (.long (0 : Int64)), .second, .val (.ref ar), .unset, .unset, .unset, .unset] [(.int (4 : Int32))])) (fun t k => X1.arraylength hx (by rw [e1]; exact Ar2.1) (State.isArrayOf_alike hZ.alike Ar2.2.1) (g := (mkF m 8 #[.val (.ref a1), .val (.long (0 : Int64)), .second, .val (.ref ar), .unset, .unset, .unset, .unset] [(.ref ar)])) rfl rfl (hb hby d4_8) t (by rw [len_of S2 M2]; exact k)) ?_
  refine own_go (st' := T1.setTop (mkF m 11 #[.val (.ref a1), .val (.long (0 : Int64)), .second, .val (.ref ar), .val (.int (4 : Int32)), .unset, .unset, .unset] [])) (fun _ k => XS.istore X1.here hx rfl (hb hby d4_9) rfl (l' := #[.val (.ref a1), .val (.long (0 : Int64)), .second, .val (.ref ar), .val (.int (4 : Int32)), .unset, .unset, .unset]) rfl k) ?_
  refine own_go (st' := T1.setTop (mkF m 12 #[.val (.ref a1), .val (.long (0 : Int64)), .second, .val (.ref ar), .val (.int (4 : Int32)), .unset, .unset, .unset] [(.int (0 : Int32))])) (fun _ k => XS.iconst X1.here hx rfl (hb hby d4_11) k) ?_
  refine own_go (st' := T1.setTop (mkF m 14 #[.val (.ref a1), .val (.long (0 : Int64)), .second, .val (.ref ar), .val (.int (4 : Int32)), .val (.int (0 : Int32)), .unset, .unset] [])) (fun _ k => XS.istore X1.here hx rfl (hb hby d4_12) rfl (l' := #[.val (.ref a1), .val (.long (0 : Int64)), .second, .val (.ref ar), .val (.int (4 : Int32)), .val (.int (0 : Int32)), .unset, .unset]) rfl k) ?_
  refine own_go (st' := T1.setTop (mkF m 16 #[.val (.ref a1), .val (.long (0 : Int64)), .second, .val (.ref ar), .val (.int (4 : Int32)), .val (.int (0 : Int32)), .unset, .unset] [(.int (0 : Int32))])) (fun _ k => XS.iload X1.here hx rfl (hb hby d4_14) rfl k) ?_
  refine own_go (st' := T1.setTop (mkF m 18 #[.val (.ref a1), .val (.long (0 : Int64)), .second, .val (.ref ar), .val (.int (4 : Int32)), .val (.int (0 : Int32)), .unset, .unset] [(.int (4 : Int32)), (.int (0 : Int32))])) (fun _ k => XS.iload X1.here hx rfl (hb hby d4_16) rfl k) ?_
  have hc3 : (0 : Int32) < (4 : Int32) := by decide
  refine own_go (st' := T1.setTop (mkF m 21 #[.val (.ref a1), .val (.long (0 : Int64)), .second, .val (.ref ar), .val (.int (4 : Int32)), .val (.int (0 : Int32)), .unset, .unset] [])) (fun _ k => XS.icmpNo X1.here hx rfl (hb hby d4_18) rfl (tlt hc3).2.1 k) ?_
  refine own_go (st' := T1.setTop (mkF m 22 #[.val (.ref a1), .val (.long (0 : Int64)), .second, .val (.ref ar), .val (.int (4 : Int32)), .val (.int (0 : Int32)), .unset, .unset] [(.ref ar)])) (fun _ k => XS.aloadN X1.here hx rfl (hb hby d4_21) rfl rfl k) ?_
  refine own_go (st' := T1.setTop (mkF m 24 #[.val (.ref a1), .val (.long (0 : Int64)), .second, .val (.ref ar), .val (.int (4 : Int32)), .val (.int (0 : Int32)), .unset, .unset] [(.int (0 : Int32)), (.ref ar)])) (fun _ k => XS.iload X1.here hx rfl (hb hby d4_22) rfl k) ?_
  obtain ⟨cl4, Ar4, -, S4, M4, H4, -⟩ := id pr2
  have hin4 : ¬ ((0 : Int32) < 0 ∨ cl4.slots.size ≤ ((0 : Int32)).toNatClampNeg) := (inb_of S4 ⟨by decide, by decide⟩)
  have hat4 : cl4.slots[((0 : Int32)).toNatClampNeg]? = some (.long q0) := (H4.at hin4 rfl)
  refine own_go (st' := T1.setTop (mkF m 25 #[.val (.ref a1), .val (.long (0 : Int64)), .second, .val (.ref ar), .val (.int (4 : Int32)), .val (.int (0 : Int32)), .unset, .unset] [(.long q0)])) (X1.laload hx (j := (0 : Int32)) (v := (.long q0)) (by rw [e1]; exact Ar4.1) (State.isArrayOf_alike hZ.alike Ar4.2.1) Ar4.2.2 hin4 hat4 (g := (mkF m 24 #[.val (.ref a1), .val (.long (0 : Int64)), .second, .val (.ref ar), .val (.int (4 : Int32)), .val (.int (0 : Int32)), .unset, .unset] [(.int (0 : Int32)), (.ref ar)])) rfl rfl (hb hby d4_24)) ?_
  refine own_go (st' := T1.setTop (mkF m 27 #[.val (.ref a1), .val (.long (0 : Int64)), .second, .val (.ref ar), .val (.int (4 : Int32)), .val (.int (0 : Int32)), .val (.long q0), .second] [])) (fun _ k => XS.lstore X1.here hx rfl (hb hby d4_25) rfl (l' := #[.val (.ref a1), .val (.long (0 : Int64)), .second, .val (.ref ar), .val (.int (4 : Int32)), .val (.int (0 : Int32)), .val (.long q0), .second]) rfl k) ?_
  refine own_go (st' := T1.setTop (mkF m 28 #[.val (.ref a1), .val (.long (0 : Int64)), .second, .val (.ref ar), .val (.int (4 : Int32)), .val (.int (0 : Int32)), .val (.long q0), .second] [(.long (0 : Int64))])) (fun _ k => XS.lloadN X1.here hx rfl (hb hby d4_27) rfl k) ?_
  refine own_go (st' := T1.setTop (mkF m 30 #[.val (.ref a1), .val (.long (0 : Int64)), .second, .val (.ref ar), .val (.int (4 : Int32)), .val (.int (0 : Int32)), .val (.long q0), .second] [(.long q0), (.long (0 : Int64))])) (fun _ k => XS.lload X1.here hx rfl (hb hby d4_28) rfl k) ?_
  refine own_go (st' := T1.setTop (mkF m 31 #[.val (.ref a1), .val (.long (0 : Int64)), .second, .val (.ref ar), .val (.int (4 : Int32)), .val (.int (0 : Int32)), .val (.long q0), .second] [(.long ((0 : Int64) + q0))])) (fun _ k => XS.ladd X1.here hx rfl (hb hby d4_30) rfl k) ?_
  refine own_go (st' := T1.setTop (mkF m 32 #[.val (.ref a1), .val (.long ((0 : Int64) + q0)), .second, .val (.ref ar), .val (.int (4 : Int32)), .val (.int (0 : Int32)), .val (.long q0), .second] [])) (fun _ k => XS.lstoreN X1.here hx rfl (hb hby d4_31) rfl (l' := #[.val (.ref a1), .val (.long ((0 : Int64) + q0)), .second, .val (.ref ar), .val (.int (4 : Int32)), .val (.int (0 : Int32)), .val (.long q0), .second]) rfl k) ?_
  refine own_go (st' := T1.setTop (mkF m 35 #[.val (.ref a1), .val (.long ((0 : Int64) + q0)), .second, .val (.ref ar), .val (.int (4 : Int32)), .val (.int (1 : Int32)), .val (.long q0), .second] [])) (fun _ k => XS.iinc X1.here hx rfl (hb hby d4_32) rfl (l' := #[.val (.ref a1), .val (.long ((0 : Int64) + q0)), .second, .val (.ref ar), .val (.int (4 : Int32)), .val (.int (1 : Int32)), .val (.long q0), .second]) (by rw [show ((0 : Int32) + Int32.ofInt 1) = (1 : Int32) by decide]; rfl) k) ?_
  refine own_go (st' := T1.setTop (mkF m 14 #[.val (.ref a1), .val (.long ((0 : Int64) + q0)), .second, .val (.ref ar), .val (.int (4 : Int32)), .val (.int (1 : Int32)), .val (.long q0), .second] [])) (fun _ k => XS.goto X1.here hx rfl (pc0 := 35) (pc' := 14) rfl (hb hby d4_35) (by decide) (by decide) k) ?_
  refine own_go (st' := T1.setTop (mkF m 16 #[.val (.ref a1), .val (.long ((0 : Int64) + q0)), .second, .val (.ref ar), .val (.int (4 : Int32)), .val (.int (1 : Int32)), .val (.long q0), .second] [(.int (1 : Int32))])) (fun _ k => XS.iload X1.here hx rfl (hb hby d4_14) rfl k) ?_
  refine own_go (st' := T1.setTop (mkF m 18 #[.val (.ref a1), .val (.long ((0 : Int64) + q0)), .second, .val (.ref ar), .val (.int (4 : Int32)), .val (.int (1 : Int32)), .val (.long q0), .second] [(.int (4 : Int32)), (.int (1 : Int32))])) (fun _ k => XS.iload X1.here hx rfl (hb hby d4_16) rfl k) ?_
  have hc5 : (1 : Int32) < (4 : Int32) := by decide
  refine own_go (st' := T1.setTop (mkF m 21 #[.val (.ref a1), .val (.long ((0 : Int64) + q0)), .second, .val (.ref ar), .val (.int (4 : Int32)), .val (.int (1 : Int32)), .val (.long q0), .second] [])) (fun _ k => XS.icmpNo X1.here hx rfl (hb hby d4_18) rfl (tlt hc5).2.1 k) ?_
  refine own_go (st' := T1.setTop (mkF m 22 #[.val (.ref a1), .val (.long ((0 : Int64) + q0)), .second, .val (.ref ar), .val (.int (4 : Int32)), .val (.int (1 : Int32)), .val (.long q0), .second] [(.ref ar)])) (fun _ k => XS.aloadN X1.here hx rfl (hb hby d4_21) rfl rfl k) ?_
  refine own_go (st' := T1.setTop (mkF m 24 #[.val (.ref a1), .val (.long ((0 : Int64) + q0)), .second, .val (.ref ar), .val (.int (4 : Int32)), .val (.int (1 : Int32)), .val (.long q0), .second] [(.int (1 : Int32)), (.ref ar)])) (fun _ k => XS.iload X1.here hx rfl (hb hby d4_22) rfl k) ?_
  obtain ⟨cl6, Ar6, -, S6, M6, H6, -⟩ := id pr2
  have hin6 : ¬ ((1 : Int32) < 0 ∨ cl6.slots.size ≤ ((1 : Int32)).toNatClampNeg) := (inb_of S6 ⟨by decide, by decide⟩)
  have hat6 : cl6.slots[((1 : Int32)).toNatClampNeg]? = some (.long q1) := (H6.at hin6 rfl)
  refine own_go (st' := T1.setTop (mkF m 25 #[.val (.ref a1), .val (.long ((0 : Int64) + q0)), .second, .val (.ref ar), .val (.int (4 : Int32)), .val (.int (1 : Int32)), .val (.long q0), .second] [(.long q1)])) (X1.laload hx (j := (1 : Int32)) (v := (.long q1)) (by rw [e1]; exact Ar6.1) (State.isArrayOf_alike hZ.alike Ar6.2.1) Ar6.2.2 hin6 hat6 (g := (mkF m 24 #[.val (.ref a1), .val (.long ((0 : Int64) + q0)), .second, .val (.ref ar), .val (.int (4 : Int32)), .val (.int (1 : Int32)), .val (.long q0), .second] [(.int (1 : Int32)), (.ref ar)])) rfl rfl (hb hby d4_24)) ?_
  refine own_go (st' := T1.setTop (mkF m 27 #[.val (.ref a1), .val (.long ((0 : Int64) + q0)), .second, .val (.ref ar), .val (.int (4 : Int32)), .val (.int (1 : Int32)), .val (.long q1), .second] [])) (fun _ k => XS.lstore X1.here hx rfl (hb hby d4_25) rfl (l' := #[.val (.ref a1), .val (.long ((0 : Int64) + q0)), .second, .val (.ref ar), .val (.int (4 : Int32)), .val (.int (1 : Int32)), .val (.long q1), .second]) rfl k) ?_
  refine own_go (st' := T1.setTop (mkF m 28 #[.val (.ref a1), .val (.long ((0 : Int64) + q0)), .second, .val (.ref ar), .val (.int (4 : Int32)), .val (.int (1 : Int32)), .val (.long q1), .second] [(.long ((0 : Int64) + q0))])) (fun _ k => XS.lloadN X1.here hx rfl (hb hby d4_27) rfl k) ?_
  refine own_go (st' := T1.setTop (mkF m 30 #[.val (.ref a1), .val (.long ((0 : Int64) + q0)), .second, .val (.ref ar), .val (.int (4 : Int32)), .val (.int (1 : Int32)), .val (.long q1), .second] [(.long q1), (.long ((0 : Int64) + q0))])) (fun _ k => XS.lload X1.here hx rfl (hb hby d4_28) rfl k) ?_
  refine own_go (st' := T1.setTop (mkF m 31 #[.val (.ref a1), .val (.long ((0 : Int64) + q0)), .second, .val (.ref ar), .val (.int (4 : Int32)), .val (.int (1 : Int32)), .val (.long q1), .second] [(.long (((0 : Int64) + q0) + q1))])) (fun _ k => XS.ladd X1.here hx rfl (hb hby d4_30) rfl k) ?_
  refine own_go (st' := T1.setTop (mkF m 32 #[.val (.ref a1), .val (.long (((0 : Int64) + q0) + q1)), .second, .val (.ref ar), .val (.int (4 : Int32)), .val (.int (1 : Int32)), .val (.long q1), .second] [])) (fun _ k => XS.lstoreN X1.here hx rfl (hb hby d4_31) rfl (l' := #[.val (.ref a1), .val (.long (((0 : Int64) + q0) + q1)), .second, .val (.ref ar), .val (.int (4 : Int32)), .val (.int (1 : Int32)), .val (.long q1), .second]) rfl k) ?_
  refine own_go (st' := T1.setTop (mkF m 35 #[.val (.ref a1), .val (.long (((0 : Int64) + q0) + q1)), .second, .val (.ref ar), .val (.int (4 : Int32)), .val (.int (2 : Int32)), .val (.long q1), .second] [])) (fun _ k => XS.iinc X1.here hx rfl (hb hby d4_32) rfl (l' := #[.val (.ref a1), .val (.long (((0 : Int64) + q0) + q1)), .second, .val (.ref ar), .val (.int (4 : Int32)), .val (.int (2 : Int32)), .val (.long q1), .second]) (by rw [show ((1 : Int32) + Int32.ofInt 1) = (2 : Int32) by decide]; rfl) k) ?_
  refine own_go (st' := T1.setTop (mkF m 14 #[.val (.ref a1), .val (.long (((0 : Int64) + q0) + q1)), .second, .val (.ref ar), .val (.int (4 : Int32)), .val (.int (2 : Int32)), .val (.long q1), .second] [])) (fun _ k => XS.goto X1.here hx rfl (pc0 := 35) (pc' := 14) rfl (hb hby d4_35) (by decide) (by decide) k) ?_
  refine own_go (st' := T1.setTop (mkF m 16 #[.val (.ref a1), .val (.long (((0 : Int64) + q0) + q1)), .second, .val (.ref ar), .val (.int (4 : Int32)), .val (.int (2 : Int32)), .val (.long q1), .second] [(.int (2 : Int32))])) (fun _ k => XS.iload X1.here hx rfl (hb hby d4_14) rfl k) ?_
  refine own_go (st' := T1.setTop (mkF m 18 #[.val (.ref a1), .val (.long (((0 : Int64) + q0) + q1)), .second, .val (.ref ar), .val (.int (4 : Int32)), .val (.int (2 : Int32)), .val (.long q1), .second] [(.int (4 : Int32)), (.int (2 : Int32))])) (fun _ k => XS.iload X1.here hx rfl (hb hby d4_16) rfl k) ?_
  have hc7 : (2 : Int32) < (4 : Int32) := by decide
  refine own_go (st' := T1.setTop (mkF m 21 #[.val (.ref a1), .val (.long (((0 : Int64) + q0) + q1)), .second, .val (.ref ar), .val (.int (4 : Int32)), .val (.int (2 : Int32)), .val (.long q1), .second] [])) (fun _ k => XS.icmpNo X1.here hx rfl (hb hby d4_18) rfl (tlt hc7).2.1 k) ?_
  refine own_go (st' := T1.setTop (mkF m 22 #[.val (.ref a1), .val (.long (((0 : Int64) + q0) + q1)), .second, .val (.ref ar), .val (.int (4 : Int32)), .val (.int (2 : Int32)), .val (.long q1), .second] [(.ref ar)])) (fun _ k => XS.aloadN X1.here hx rfl (hb hby d4_21) rfl rfl k) ?_
  refine own_go (st' := T1.setTop (mkF m 24 #[.val (.ref a1), .val (.long (((0 : Int64) + q0) + q1)), .second, .val (.ref ar), .val (.int (4 : Int32)), .val (.int (2 : Int32)), .val (.long q1), .second] [(.int (2 : Int32)), (.ref ar)])) (fun _ k => XS.iload X1.here hx rfl (hb hby d4_22) rfl k) ?_
  obtain ⟨cl8, Ar8, -, S8, M8, H8, -⟩ := id pr2
  have hin8 : ¬ ((2 : Int32) < 0 ∨ cl8.slots.size ≤ ((2 : Int32)).toNatClampNeg) := (inb_of S8 ⟨by decide, by decide⟩)
  have hat8 : cl8.slots[((2 : Int32)).toNatClampNeg]? = some (.long q2) := (H8.at hin8 rfl)
  refine own_go (st' := T1.setTop (mkF m 25 #[.val (.ref a1), .val (.long (((0 : Int64) + q0) + q1)), .second, .val (.ref ar), .val (.int (4 : Int32)), .val (.int (2 : Int32)), .val (.long q1), .second] [(.long q2)])) (X1.laload hx (j := (2 : Int32)) (v := (.long q2)) (by rw [e1]; exact Ar8.1) (State.isArrayOf_alike hZ.alike Ar8.2.1) Ar8.2.2 hin8 hat8 (g := (mkF m 24 #[.val (.ref a1), .val (.long (((0 : Int64) + q0) + q1)), .second, .val (.ref ar), .val (.int (4 : Int32)), .val (.int (2 : Int32)), .val (.long q1), .second] [(.int (2 : Int32)), (.ref ar)])) rfl rfl (hb hby d4_24)) ?_
  refine own_go (st' := T1.setTop (mkF m 27 #[.val (.ref a1), .val (.long (((0 : Int64) + q0) + q1)), .second, .val (.ref ar), .val (.int (4 : Int32)), .val (.int (2 : Int32)), .val (.long q2), .second] [])) (fun _ k => XS.lstore X1.here hx rfl (hb hby d4_25) rfl (l' := #[.val (.ref a1), .val (.long (((0 : Int64) + q0) + q1)), .second, .val (.ref ar), .val (.int (4 : Int32)), .val (.int (2 : Int32)), .val (.long q2), .second]) rfl k) ?_
  refine own_go (st' := T1.setTop (mkF m 28 #[.val (.ref a1), .val (.long (((0 : Int64) + q0) + q1)), .second, .val (.ref ar), .val (.int (4 : Int32)), .val (.int (2 : Int32)), .val (.long q2), .second] [(.long (((0 : Int64) + q0) + q1))])) (fun _ k => XS.lloadN X1.here hx rfl (hb hby d4_27) rfl k) ?_
  refine own_go (st' := T1.setTop (mkF m 30 #[.val (.ref a1), .val (.long (((0 : Int64) + q0) + q1)), .second, .val (.ref ar), .val (.int (4 : Int32)), .val (.int (2 : Int32)), .val (.long q2), .second] [(.long q2), (.long (((0 : Int64) + q0) + q1))])) (fun _ k => XS.lload X1.here hx rfl (hb hby d4_28) rfl k) ?_
  refine own_go (st' := T1.setTop (mkF m 31 #[.val (.ref a1), .val (.long (((0 : Int64) + q0) + q1)), .second, .val (.ref ar), .val (.int (4 : Int32)), .val (.int (2 : Int32)), .val (.long q2), .second] [(.long ((((0 : Int64) + q0) + q1) + q2))])) (fun _ k => XS.ladd X1.here hx rfl (hb hby d4_30) rfl k) ?_
  refine own_go (st' := T1.setTop (mkF m 32 #[.val (.ref a1), .val (.long ((((0 : Int64) + q0) + q1) + q2)), .second, .val (.ref ar), .val (.int (4 : Int32)), .val (.int (2 : Int32)), .val (.long q2), .second] [])) (fun _ k => XS.lstoreN X1.here hx rfl (hb hby d4_31) rfl (l' := #[.val (.ref a1), .val (.long ((((0 : Int64) + q0) + q1) + q2)), .second, .val (.ref ar), .val (.int (4 : Int32)), .val (.int (2 : Int32)), .val (.long q2), .second]) rfl k) ?_
  refine own_go (st' := T1.setTop (mkF m 35 #[.val (.ref a1), .val (.long ((((0 : Int64) + q0) + q1) + q2)), .second, .val (.ref ar), .val (.int (4 : Int32)), .val (.int (3 : Int32)), .val (.long q2), .second] [])) (fun _ k => XS.iinc X1.here hx rfl (hb hby d4_32) rfl (l' := #[.val (.ref a1), .val (.long ((((0 : Int64) + q0) + q1) + q2)), .second, .val (.ref ar), .val (.int (4 : Int32)), .val (.int (3 : Int32)), .val (.long q2), .second]) (by rw [show ((2 : Int32) + Int32.ofInt 1) = (3 : Int32) by decide]; rfl) k) ?_
  refine own_go (st' := T1.setTop (mkF m 14 #[.val (.ref a1), .val (.long ((((0 : Int64) + q0) + q1) + q2)), .second, .val (.ref ar), .val (.int (4 : Int32)), .val (.int (3 : Int32)), .val (.long q2), .second] [])) (fun _ k => XS.goto X1.here hx rfl (pc0 := 35) (pc' := 14) rfl (hb hby d4_35) (by decide) (by decide) k) ?_
  refine own_go (st' := T1.setTop (mkF m 16 #[.val (.ref a1), .val (.long ((((0 : Int64) + q0) + q1) + q2)), .second, .val (.ref ar), .val (.int (4 : Int32)), .val (.int (3 : Int32)), .val (.long q2), .second] [(.int (3 : Int32))])) (fun _ k => XS.iload X1.here hx rfl (hb hby d4_14) rfl k) ?_
  refine own_go (st' := T1.setTop (mkF m 18 #[.val (.ref a1), .val (.long ((((0 : Int64) + q0) + q1) + q2)), .second, .val (.ref ar), .val (.int (4 : Int32)), .val (.int (3 : Int32)), .val (.long q2), .second] [(.int (4 : Int32)), (.int (3 : Int32))])) (fun _ k => XS.iload X1.here hx rfl (hb hby d4_16) rfl k) ?_
  have hc9 : (3 : Int32) < (4 : Int32) := by decide
  refine own_go (st' := T1.setTop (mkF m 21 #[.val (.ref a1), .val (.long ((((0 : Int64) + q0) + q1) + q2)), .second, .val (.ref ar), .val (.int (4 : Int32)), .val (.int (3 : Int32)), .val (.long q2), .second] [])) (fun _ k => XS.icmpNo X1.here hx rfl (hb hby d4_18) rfl (tlt hc9).2.1 k) ?_
  refine own_go (st' := T1.setTop (mkF m 22 #[.val (.ref a1), .val (.long ((((0 : Int64) + q0) + q1) + q2)), .second, .val (.ref ar), .val (.int (4 : Int32)), .val (.int (3 : Int32)), .val (.long q2), .second] [(.ref ar)])) (fun _ k => XS.aloadN X1.here hx rfl (hb hby d4_21) rfl rfl k) ?_
  refine own_go (st' := T1.setTop (mkF m 24 #[.val (.ref a1), .val (.long ((((0 : Int64) + q0) + q1) + q2)), .second, .val (.ref ar), .val (.int (4 : Int32)), .val (.int (3 : Int32)), .val (.long q2), .second] [(.int (3 : Int32)), (.ref ar)])) (fun _ k => XS.iload X1.here hx rfl (hb hby d4_22) rfl k) ?_
  obtain ⟨cl10, Ar10, -, S10, M10, H10, -⟩ := id pr2
  have hin10 : ¬ ((3 : Int32) < 0 ∨ cl10.slots.size ≤ ((3 : Int32)).toNatClampNeg) := (inb_of S10 ⟨by decide, by decide⟩)
  have hat10 : cl10.slots[((3 : Int32)).toNatClampNeg]? = some (.long q3) := (H10.at hin10 rfl)
  refine own_go (st' := T1.setTop (mkF m 25 #[.val (.ref a1), .val (.long ((((0 : Int64) + q0) + q1) + q2)), .second, .val (.ref ar), .val (.int (4 : Int32)), .val (.int (3 : Int32)), .val (.long q2), .second] [(.long q3)])) (X1.laload hx (j := (3 : Int32)) (v := (.long q3)) (by rw [e1]; exact Ar10.1) (State.isArrayOf_alike hZ.alike Ar10.2.1) Ar10.2.2 hin10 hat10 (g := (mkF m 24 #[.val (.ref a1), .val (.long ((((0 : Int64) + q0) + q1) + q2)), .second, .val (.ref ar), .val (.int (4 : Int32)), .val (.int (3 : Int32)), .val (.long q2), .second] [(.int (3 : Int32)), (.ref ar)])) rfl rfl (hb hby d4_24)) ?_
  refine own_go (st' := T1.setTop (mkF m 27 #[.val (.ref a1), .val (.long ((((0 : Int64) + q0) + q1) + q2)), .second, .val (.ref ar), .val (.int (4 : Int32)), .val (.int (3 : Int32)), .val (.long q3), .second] [])) (fun _ k => XS.lstore X1.here hx rfl (hb hby d4_25) rfl (l' := #[.val (.ref a1), .val (.long ((((0 : Int64) + q0) + q1) + q2)), .second, .val (.ref ar), .val (.int (4 : Int32)), .val (.int (3 : Int32)), .val (.long q3), .second]) rfl k) ?_
  refine own_go (st' := T1.setTop (mkF m 28 #[.val (.ref a1), .val (.long ((((0 : Int64) + q0) + q1) + q2)), .second, .val (.ref ar), .val (.int (4 : Int32)), .val (.int (3 : Int32)), .val (.long q3), .second] [(.long ((((0 : Int64) + q0) + q1) + q2))])) (fun _ k => XS.lloadN X1.here hx rfl (hb hby d4_27) rfl k) ?_
  refine own_go (st' := T1.setTop (mkF m 30 #[.val (.ref a1), .val (.long ((((0 : Int64) + q0) + q1) + q2)), .second, .val (.ref ar), .val (.int (4 : Int32)), .val (.int (3 : Int32)), .val (.long q3), .second] [(.long q3), (.long ((((0 : Int64) + q0) + q1) + q2))])) (fun _ k => XS.lload X1.here hx rfl (hb hby d4_28) rfl k) ?_
  refine own_go (st' := T1.setTop (mkF m 31 #[.val (.ref a1), .val (.long ((((0 : Int64) + q0) + q1) + q2)), .second, .val (.ref ar), .val (.int (4 : Int32)), .val (.int (3 : Int32)), .val (.long q3), .second] [(.long (((((0 : Int64) + q0) + q1) + q2) + q3))])) (fun _ k => XS.ladd X1.here hx rfl (hb hby d4_30) rfl k) ?_
  refine own_go (st' := T1.setTop (mkF m 32 #[.val (.ref a1), .val (.long (((((0 : Int64) + q0) + q1) + q2) + q3)), .second, .val (.ref ar), .val (.int (4 : Int32)), .val (.int (3 : Int32)), .val (.long q3), .second] [])) (fun _ k => XS.lstoreN X1.here hx rfl (hb hby d4_31) rfl (l' := #[.val (.ref a1), .val (.long (((((0 : Int64) + q0) + q1) + q2) + q3)), .second, .val (.ref ar), .val (.int (4 : Int32)), .val (.int (3 : Int32)), .val (.long q3), .second]) rfl k) ?_
  refine own_go (st' := T1.setTop (mkF m 35 #[.val (.ref a1), .val (.long (((((0 : Int64) + q0) + q1) + q2) + q3)), .second, .val (.ref ar), .val (.int (4 : Int32)), .val (.int (4 : Int32)), .val (.long q3), .second] [])) (fun _ k => XS.iinc X1.here hx rfl (hb hby d4_32) rfl (l' := #[.val (.ref a1), .val (.long (((((0 : Int64) + q0) + q1) + q2) + q3)), .second, .val (.ref ar), .val (.int (4 : Int32)), .val (.int (4 : Int32)), .val (.long q3), .second]) (by rw [show ((3 : Int32) + Int32.ofInt 1) = (4 : Int32) by decide]; rfl) k) ?_
  refine own_go (st' := T1.setTop (mkF m 14 #[.val (.ref a1), .val (.long (((((0 : Int64) + q0) + q1) + q2) + q3)), .second, .val (.ref ar), .val (.int (4 : Int32)), .val (.int (4 : Int32)), .val (.long q3), .second] [])) (fun _ k => XS.goto X1.here hx rfl (pc0 := 35) (pc' := 14) rfl (hb hby d4_35) (by decide) (by decide) k) ?_
  refine own_go (st' := T1.setTop (mkF m 16 #[.val (.ref a1), .val (.long (((((0 : Int64) + q0) + q1) + q2) + q3)), .second, .val (.ref ar), .val (.int (4 : Int32)), .val (.int (4 : Int32)), .val (.long q3), .second] [(.int (4 : Int32))])) (fun _ k => XS.iload X1.here hx rfl (hb hby d4_14) rfl k) ?_
  refine own_go (st' := T1.setTop (mkF m 18 #[.val (.ref a1), .val (.long (((((0 : Int64) + q0) + q1) + q2) + q3)), .second, .val (.ref ar), .val (.int (4 : Int32)), .val (.int (4 : Int32)), .val (.long q3), .second] [(.int (4 : Int32)), (.int (4 : Int32))])) (fun _ k => XS.iload X1.here hx rfl (hb hby d4_16) rfl k) ?_
  have hc11 : ¬ ((4 : Int32) < (4 : Int32)) := by decide
  refine own_go (st' := T1.setTop (mkF m 38 #[.val (.ref a1), .val (.long (((((0 : Int64) + q0) + q1) + q2) + q3)), .second, .val (.ref ar), .val (.int (4 : Int32)), .val (.int (4 : Int32)), .val (.long q3), .second] [])) (fun _ k => XS.icmpYes X1.here hx rfl (pc0 := 18) (pc' := 38) rfl (hb hby d4_18) rfl (flt hc11).2.1 (by decide) (by decide) k) ?_
  refine own_go (st' := T1.setTop (mkF m 39 #[.val (.ref a1), .val (.long (((((0 : Int64) + q0) + q1) + q2) + q3)), .second, .val (.ref ar), .val (.int (4 : Int32)), .val (.int (4 : Int32)), .val (.long q3), .second] [(.long (((((0 : Int64) + q0) + q1) + q2) + q3))])) (fun _ k => XS.lloadN X1.here hx rfl (hb hby d4_38) rfl k) ?_
  obtain ⟨fs, hr, hrun, hended, hW, hsame⟩ := X1.leave (v := some (.long (((((0 : Int64) + q0) + q1) + q2) + q3))) (fun h => by rw [Bd.returns] at h; cases h)
  refine ⟨_, _, ?_, hP _ _ hrun hended ⟨_, _, rfl, ?_, ⟨_, rfl⟩, hW, hsame.mono (by decide) (by decide)⟩⟩
  · exact retOut X1 hx Bd.returns rfl (Or.inr (Or.inl ⟨rfl, rfl, _, rfl⟩)) (hb hby d4_39) hr
  · show Qrm4_4 Z a1 ar ka q0 q1 q2 q3 h0 n0 _ T1.heap _
    rw [e1]
    exact ⟨rfl, N0, rfl⟩
theorem pd_1 : parseMethodDescriptor "(I[J)V" = some ⟨[.int, (.array .long)], none⟩ := by decide +kernel
theorem pd_2 : parseMethodDescriptor "()J" = some ⟨[], some .long⟩ := by decide +kernel
theorem pn_0 : plainName "com/example/millwright/millwright/cut/PatternPieceCountPinLaw" = true := by first | (simp [plainName, overriddenIn]; done) | decide +kernel
theorem ef_rm0 (m : MethodId) (x0 : Int32) (x1 : Int32) (x2 : Int64) (x3 : Int64) (x4 : Int64) (x5 : Int64) : entryFrame m #[(.int x0), (.int x1), (.long x2), (.long x3), (.long x4), (.long x5)] maxLocals = mkF m 0 #[.val (.int x0), .val (.int x1), .val (.long x2), .second, .val (.long x3), .second, .val (.long x4), .second, .val (.long x5), .second, .unset, .unset, .unset, .unset, .unset] [] := by first | (simp [entryFrame, mkF, argsToLocals, Value.category, maxLocals]; done) | rfl
def Qrm0 (Z : State) (st : Int32) (sz : Int32) (ja : Int64) (jb : Int64) (jc : Int64) (jd : Int64) (h0 : Heap) (n0 : Nat) (v : Option Value) (h : Heap) (L : List Loc) : Prop := v = some (.int 1) ∧ Fr n0 L ∧ True
set_option maxRecDepth 65536 in
set_option maxHeartbeats 40000000 in
theorem rm0 (l : Launch) (Z : State) (a0 : Array Value) (hw : ∀ d ∈ tables_1, d.before a0 Z = true) (ws : List Jvm.Cond) (st : Int32) (sz : Int32) (ja : Int64) (jb : Int64) (jc : Int64) (jd : Int64) (h0 : Heap) (n0 : Nat) (Z0 : n0 ≤ h0.size)  :
    MetFree l x (head1 (Jvm.Cond.code x code maxLocals ret :: ws) room_1) (fun a U => a = #[(.int st), (.int sz), (.long ja), (.long jb), (.long jc), (.long jd)] ∧ Z.Warmed39 U.vm ∧ U.heap = h0) (fun _ _ _ _ _ => True) (fun _ U o U' => ∃ v L, o = .returned v ∧ Qrm0 Z st sz ja jb jc jd h0 n0 v U'.heap L ∧ FrameEnd U o U' L 16 128) := by
  refine MetFree.of_bodySF (plainFor_of_name pn_0) hisR ?_
  intro p e s m args below meth c s₁ Bd hml0 hP0 hK
  obtain ⟨rfl, hZ, hh⟩ := hP0
  have hx := Bd.exec
  have hby := Bd.bytes
  have hml : c.maxLocals = 15 := hml0
  have hown : s.vm.findClass "com/example/millwright/millwright/cut/PatternPieceCountPinLaw" = some m.cls := findClass_of_methodNamed Bd.named
  have hnm := (name_of_methodNamed Bd.named Bd.method).1
  have X0 : Stand p l e room_1 s m #[(.int st), (.int sz), (.long ja), (.long jb), (.long jc), (.long jd)] below meth c s₁ [] 0 0 := Stand.of_body Bd
  have e0 : s₁.heap = h0 := by rw [← hh, Bd.state]; rfl
  have N0 := Fr.nil n0
  suffices own_H : ∀ (P : State → Outcome → Prop), (∀ U o, U.status = .running → Ended U below o → (∃ v L, o = .returned v ∧ Qrm0 Z st sz ja jb jc jd h0 n0 v U.heap L ∧ FrameEnd s o U L 16 128) → P U o) → own_Go p.tables e below P (s₁.setTop (mkF m 0 #[.val (.int st), .val (.int sz), .val (.long ja), .second, .val (.long jb), .second, .val (.long jc), .second, .val (.long jd), .second, .unset, .unset, .unset, .unset, .unset] [])) from own_go (fun _ k => castTop (ef_rm0 m st sz ja jb jc jd) k) (own_H _ (fun U o h1 h2 h3 => ⟨h1, h2, h3⟩))
  intro P hP
  refine own_go (st' := s₁.setTop (mkF m 1 #[.val (.int st), .val (.int sz), .val (.long ja), .second, .val (.long jb), .second, .val (.long jc), .second, .val (.long jd), .second, .unset, .unset, .unset, .unset, .unset] [(.int sz)])) (fun _ k => XS.iloadN X0.here hx rfl (hb hby at_0) rfl k) ?_
  refine own_go (st' := s₁.setTop (mkF m 3 #[.val (.int st), .val (.int sz), .val (.long ja), .second, .val (.long jb), .second, .val (.long jc), .second, .val (.long jd), .second, .unset, .unset, .unset, .unset, .unset] [(.int (2147483647 : Int32)), (.int sz)])) (X0.ldcInt hx hown (mvT hZ (hw _ (List.mem_of_getElem? (i := 0) rfl))) (g := (mkF m 1 #[.val (.int st), .val (.int sz), .val (.long ja), .second, .val (.long jb), .second, .val (.long jc), .second, .val (.long jd), .second, .unset, .unset, .unset, .unset, .unset] [(.int sz)])) rfl (hb hby at_1)) ?_
  refine own_go (st' := s₁.setTop (mkF m 4 #[.val (.int st), .val (.int sz), .val (.long ja), .second, .val (.long jb), .second, .val (.long jc), .second, .val (.long jd), .second, .unset, .unset, .unset, .unset, .unset] [(.int (sz &&& (2147483647 : Int32)))])) (fun _ k => XS.iand X0.here hx rfl (hb hby at_3) rfl k) ?_
  refine own_go (st' := s₁.setTop (mkF m 5 #[.val (.int st), .val (.int sz), .val (.long ja), .second, .val (.long jb), .second, .val (.long jc), .second, .val (.long jd), .second, .unset, .unset, .unset, .unset, .unset] [(.int (5 : Int32)), (.int (sz &&& (2147483647 : Int32)))])) (fun _ k => XS.iconst X0.here hx rfl (hb hby at_4) k) ?_
  refine own_go (st' := s₁.setTop (mkF m 6 #[.val (.int st), .val (.int sz), .val (.long ja), .second, .val (.long jb), .second, .val (.long jc), .second, .val (.long jd), .second, .unset, .unset, .unset, .unset, .unset] [(.int ((sz &&& (2147483647 : Int32)) % (5 : Int32)))])) (fun _ k => iremM X0 hx rfl (hb hby at_5) rfl (by decide) k) ?_
  rcases own_mod5 (sz &&& (2147483647 : Int32)) with hm | hm | hm | hm | hm | hm
  · --
    rw [hm]
    refine own_go (st' := s₁.setTop (mkF m 8 #[.val (.int st), .val (.int sz), .val (.long ja), .second, .val (.long jb), .second, .val (.long jc), .second, .val (.long jd), .second, .val (.int (0 : Int32)), .unset, .unset, .unset, .unset] [])) (fun _ k => XS.istore X0.here hx rfl (hb hby at_6) rfl (l' := #[.val (.int st), .val (.int sz), .val (.long ja), .second, .val (.long jb), .second, .val (.long jc), .second, .val (.long jd), .second, .val (.int (0 : Int32)), .unset, .unset, .unset, .unset]) rfl k) ?_
    refine own_go (st' := s₁.setTop (mkF m 10 #[.val (.int st), .val (.int sz), .val (.long ja), .second, .val (.long jb), .second, .val (.long jc), .second, .val (.long jd), .second, .val (.int (0 : Int32)), .unset, .unset, .unset, .unset] [(.int (0 : Int32))])) (fun _ k => XS.iload X0.here hx rfl (hb hby at_8) rfl k) ?_
    obtain ⟨T1, h1, k1, X1, e1, E1, A1, st1⟩ := newP X0 hx hZ (hw _ (List.mem_of_getElem? (i := 1) rfl)) e0 (g := (mkF m 10 #[.val (.int st), .val (.int sz), .val (.long ja), .second, .val (.long jb), .second, .val (.long jc), .second, .val (.long jd), .second, .val (.int (0 : Int32)), .unset, .unset, .unset, .unset] [(.int (0 : Int32))])) rfl (hb hby at_10) rfl (by decide) (cap := 0) (by decide) (by decide) (by decide) (by decide)
    obtain ⟨b1, g1⟩ : ∃ z, z = h0.size := ⟨_, rfl⟩
    rw [← g1] at A1 st1
    have sz1 : h0.size ≤ h1.size := E1.1
    have lt1 : b1 < h1.size := A1.lt
    have v1 : Arv Z h1 b1 k1 .long (0 : Int32) [] (.long (0 : Int64)) := (Arv.new A1 (by decide)).pad (pad_rep [] (.long (0 : Int64)) 0)
    refine own_go (st' := T1.setTop (mkF m 12 #[.val (.int st), .val (.int sz), .val (.long ja), .second, .val (.long jb), .second, .val (.long jc), .second, .val (.long jd), .second, .val (.int (0 : Int32)), .unset, .unset, .unset, .unset] [(.ref b1)])) (st1) ?_
    refine own_go (st' := T1.setTop (mkF m 14 #[.val (.int st), .val (.int sz), .val (.long ja), .second, .val (.long jb), .second, .val (.long jc), .second, .val (.long jd), .second, .val (.int (0 : Int32)), .val (.ref b1), .unset, .unset, .unset] [])) (fun _ k => XS.astore X1.here hx rfl (hb hby at_12) rfl rfl (l' := #[.val (.int st), .val (.int sz), .val (.long ja), .second, .val (.long jb), .second, .val (.long jc), .second, .val (.long jd), .second, .val (.int (0 : Int32)), .val (.ref b1), .unset, .unset, .unset]) rfl k) ?_
    refine own_go (st' := T1.setTop (mkF m 15 #[.val (.int st), .val (.int sz), .val (.long ja), .second, .val (.long jb), .second, .val (.long jc), .second, .val (.long jd), .second, .val (.int (0 : Int32)), .val (.ref b1), .unset, .unset, .unset] [(.long (0 : Int64))])) (fun _ k => XS.lconst X1.here hx rfl (hb hby at_14) k) ?_
    refine own_go (st' := T1.setTop (mkF m 17 #[.val (.int st), .val (.int sz), .val (.long ja), .second, .val (.long jb), .second, .val (.long jc), .second, .val (.long jd), .second, .val (.int (0 : Int32)), .val (.ref b1), .val (.long (0 : Int64)), .second, .unset] [])) (fun _ k => XS.lstore X1.here hx rfl (hb hby at_15) rfl (l' := #[.val (.int st), .val (.int sz), .val (.long ja), .second, .val (.long jb), .second, .val (.long jc), .second, .val (.long jd), .second, .val (.int (0 : Int32)), .val (.ref b1), .val (.long (0 : Int64)), .second, .unset]) rfl k) ?_
    refine own_go (st' := T1.setTop (mkF m 19 #[.val (.int st), .val (.int sz), .val (.long ja), .second, .val (.long jb), .second, .val (.long jc), .second, .val (.long jd), .second, .val (.int (0 : Int32)), .val (.ref b1), .val (.long (0 : Int64)), .second, .unset] [(.int (0 : Int32))])) (fun _ k => XS.iload X1.here hx rfl (hb hby at_17) rfl k) ?_
    have hc2 : ¬ ((0 : Int32) < (0 : Int32)) := by decide
    refine own_go (st' := T1.setTop (mkF m 30 #[.val (.int st), .val (.int sz), .val (.long ja), .second, .val (.long jb), .second, .val (.long jc), .second, .val (.long jd), .second, .val (.int (0 : Int32)), .val (.ref b1), .val (.long (0 : Int64)), .second, .unset] [])) (fun _ k => XS.ifYes X1.here hx rfl (pc0 := 19) (pc' := 30) rfl (hb hby at_19) rfl ((if0 _ _).trans (flt hc2).2.2.2) (by decide) (by decide) k) ?_
    refine own_go (st' := T1.setTop (mkF m 32 #[.val (.int st), .val (.int sz), .val (.long ja), .second, .val (.long jb), .second, .val (.long jc), .second, .val (.long jd), .second, .val (.int (0 : Int32)), .val (.ref b1), .val (.long (0 : Int64)), .second, .unset] [(.int (0 : Int32))])) (fun _ k => XS.iload X1.here hx rfl (hb hby at_30) rfl k) ?_
    refine own_go (st' := T1.setTop (mkF m 33 #[.val (.int st), .val (.int sz), .val (.long ja), .second, .val (.long jb), .second, .val (.long jc), .second, .val (.long jd), .second, .val (.int (0 : Int32)), .val (.ref b1), .val (.long (0 : Int64)), .second, .unset] [(.int (1 : Int32)), (.int (0 : Int32))])) (fun _ k => XS.iconst X1.here hx rfl (hb hby at_32) k) ?_
    have hc3 : ¬ ((1 : Int32) < (0 : Int32)) := by decide
    refine own_go (st' := T1.setTop (mkF m 49 #[.val (.int st), .val (.int sz), .val (.long ja), .second, .val (.long jb), .second, .val (.long jc), .second, .val (.long jd), .second, .val (.int (0 : Int32)), .val (.ref b1), .val (.long (0 : Int64)), .second, .unset] [])) (fun _ k => XS.icmpYes X1.here hx rfl (pc0 := 33) (pc' := 49) rfl (hb hby at_33) rfl (flt hc3).2.2.2 (by decide) (by decide) k) ?_
    refine own_go (st' := T1.setTop (mkF m 51 #[.val (.int st), .val (.int sz), .val (.long ja), .second, .val (.long jb), .second, .val (.long jc), .second, .val (.long jd), .second, .val (.int (0 : Int32)), .val (.ref b1), .val (.long (0 : Int64)), .second, .unset] [(.int (0 : Int32))])) (fun _ k => XS.iload X1.here hx rfl (hb hby at_49) rfl k) ?_
    refine own_go (st' := T1.setTop (mkF m 52 #[.val (.int st), .val (.int sz), .val (.long ja), .second, .val (.long jb), .second, .val (.long jc), .second, .val (.long jd), .second, .val (.int (0 : Int32)), .val (.ref b1), .val (.long (0 : Int64)), .second, .unset] [(.int (2 : Int32)), (.int (0 : Int32))])) (fun _ k => XS.iconst X1.here hx rfl (hb hby at_51) k) ?_
    have hc4 : ¬ ((2 : Int32) < (0 : Int32)) := by decide
    refine own_go (st' := T1.setTop (mkF m 68 #[.val (.int st), .val (.int sz), .val (.long ja), .second, .val (.long jb), .second, .val (.long jc), .second, .val (.long jd), .second, .val (.int (0 : Int32)), .val (.ref b1), .val (.long (0 : Int64)), .second, .unset] [])) (fun _ k => XS.icmpYes X1.here hx rfl (pc0 := 52) (pc' := 68) rfl (hb hby at_52) rfl (flt hc4).2.2.2 (by decide) (by decide) k) ?_
    refine own_go (st' := T1.setTop (mkF m 70 #[.val (.int st), .val (.int sz), .val (.long ja), .second, .val (.long jb), .second, .val (.long jc), .second, .val (.long jd), .second, .val (.int (0 : Int32)), .val (.ref b1), .val (.long (0 : Int64)), .second, .unset] [(.int (0 : Int32))])) (fun _ k => XS.iload X1.here hx rfl (hb hby at_68) rfl k) ?_
    refine own_go (st' := T1.setTop (mkF m 71 #[.val (.int st), .val (.int sz), .val (.long ja), .second, .val (.long jb), .second, .val (.long jc), .second, .val (.long jd), .second, .val (.int (0 : Int32)), .val (.ref b1), .val (.long (0 : Int64)), .second, .unset] [(.int (3 : Int32)), (.int (0 : Int32))])) (fun _ k => XS.iconst X1.here hx rfl (hb hby at_70) k) ?_
    have hc5 : ¬ ((3 : Int32) < (0 : Int32)) := by decide
    refine own_go (st' := T1.setTop (mkF m 87 #[.val (.int st), .val (.int sz), .val (.long ja), .second, .val (.long jb), .second, .val (.long jc), .second, .val (.long jd), .second, .val (.int (0 : Int32)), .val (.ref b1), .val (.long (0 : Int64)), .second, .unset] [])) (fun _ k => XS.icmpYes X1.here hx rfl (pc0 := 71) (pc' := 87) rfl (hb hby at_71) rfl (flt hc5).2.2.2 (by decide) (by decide) k) ?_
    obtain ⟨T6, h6, X6, e6, E6, A6, D6, -, st6⟩ := newO X1 hx hZ hown (hw _ (List.mem_of_getElem? (i := 2) rfl)) (hw _ (List.mem_of_getElem? (i := 3) rfl)) (hw _ (List.mem_of_getElem? (i := 4) rfl)) e1 (g := (mkF m 87 #[.val (.int st), .val (.int sz), .val (.long ja), .second, .val (.long jb), .second, .val (.long jc), .second, .val (.long jd), .second, .val (.int (0 : Int32)), .val (.ref b1), .val (.long (0 : Int64)), .second, .unset] [])) rfl (hb hby at_87) (by decide) (by decide)
    obtain ⟨b6, g6⟩ : ∃ z, z = h1.size := ⟨_, rfl⟩
    rw [← g6] at A6 D6 st6
    have sz6 : h1.size ≤ h6.size := E6.1
    have lt6 : b6 < h6.size := A6.lt
    have f7 : Fld Z h6 b6 "com/example/millwright/millwright/cut/Pattern" "stock" "I" (.int (0 : Int32)) := D6 (Or.inr (hw _ (List.mem_of_getElem? (i := 12) rfl))) (ty := .int) (by decide)
    have f8 : Fld Z h6 b6 "com/example/millwright/millwright/cut/Pattern" "counts" "[J" .null := D6 (Or.inr (hw _ (List.mem_of_getElem? (i := 14) rfl))) (ty := (.array .long)) (by decide)
    have f9 : Fld Z h6 b6 "com/example/millwright/millwright/cut/Pattern" "hash" "I" (.int (0 : Int32)) := D6 (Or.inr (hw _ (List.mem_of_getElem? (i := 20) rfl))) (ty := .int) (by decide)
    refine own_go (st' := T6.setTop (mkF m 90 #[.val (.int st), .val (.int sz), .val (.long ja), .second, .val (.long jb), .second, .val (.long jc), .second, .val (.long jd), .second, .val (.int (0 : Int32)), .val (.ref b1), .val (.long (0 : Int64)), .second, .unset] [(.ref b6)])) (st6) ?_
    refine own_go (st' := T6.setTop (mkF m 91 #[.val (.int st), .val (.int sz), .val (.long ja), .second, .val (.long jb), .second, .val (.long jc), .second, .val (.long jd), .second, .val (.int (0 : Int32)), .val (.ref b1), .val (.long (0 : Int64)), .second, .unset] [(.ref b6), (.ref b6)])) (fun _ k => XS.dup X6.here hx rfl (hb hby at_90) rfl rfl k) ?_
    refine own_go (st' := T6.setTop (mkF m 92 #[.val (.int st), .val (.int sz), .val (.long ja), .second, .val (.long jb), .second, .val (.long jc), .second, .val (.long jd), .second, .val (.int (0 : Int32)), .val (.ref b1), .val (.long (0 : Int64)), .second, .unset] [(.int st), (.ref b6), (.ref b6)])) (fun _ k => XS.iloadN X6.here hx rfl (hb hby at_91) rfl k) ?_
    refine own_go (st' := T6.setTop (mkF m 94 #[.val (.int st), .val (.int sz), .val (.long ja), .second, .val (.long jb), .second, .val (.long jc), .second, .val (.long jd), .second, .val (.int (0 : Int32)), .val (.ref b1), .val (.long (0 : Int64)), .second, .unset] [(.ref b1), (.int st), (.ref b6), (.ref b6)])) (fun _ k => XS.aload X6.here hx rfl (hb hby at_92) rfl rfl k) ?_
    have c11 : Arv Z h6 b1 k1 .long (0 : Int32) [] (.long (0 : Int64)) := (v1.ext E6)
    obtain ⟨_, _, ⟨T10, LC10, kC10, nC10⟩, -, X10, ⟨Lc10, hQ10, lq10, yq10, zq10⟩, st10⟩ := X6.specialBack hx (y := (⟨"com/example/millwright/millwright/cut/Pattern", "<init>", "(I[J)V"⟩ : MethodName)) rfl hown (mvT hZ (hw _ (List.mem_of_getElem? (i := 5) rfl))) (mvT hZ (hw _ (List.mem_of_getElem? (i := 6) rfl))) (mvT hZ (hw _ (List.mem_of_getElem? (i := 7) rfl))) (by decide) (backOf (W := 1) (rm1_0 l Z a0 hw [] b6 st b1 k1 (0 : Int32) (0 : Int32) h6 n0 (by omega) A6 f7 f8 f9 c11 (by omega) (by first | assumption | exact Ne.symm (by assumption) | (apply Nat.ne_of_lt; omega) | (apply Nat.ne_of_gt; omega))) hZ (hw _ (List.mem_of_getElem? (i := 7) rfl)) (hw _ (List.mem_of_getElem? (i := 4) rfl)) (by decide) (by decide)) (g := (mkF m 94 #[.val (.int st), .val (.int sz), .val (.long ja), .second, .val (.long jb), .second, .val (.long jc), .second, .val (.long jd), .second, .val (.int (0 : Int32)), .val (.ref b1), .val (.long (0 : Int64)), .second, .unset] [(.ref b1), (.int st), (.ref b6), (.ref b6)])) rfl (by rw [hml]; rfl) (Steps.refl _) (a := b6) (argsL := [(.int st), (.ref b1)]) (rest := [(.ref b6)]) (lenOf pd_1 rfl) rfl (by show 2 * 0 + _ ≤ _; exact Nat.le_of_eq rfl) (hb hby at_94) (fun _ _ => ⟨rfl, e6, (by decide : 2 + 0 ≤ _), (by decide : 3 + 0 ≤ _)⟩)
    dsimp only [Pt.U, Pt.locs, Pt.cells, Pt.slots] at X10 lq10 yq10 zq10 st10 hQ10
    subst lq10 yq10 zq10
    obtain ⟨h10, e10⟩ : ∃ z, T10.heap = z := ⟨_, rfl⟩
    rw [e10] at hQ10
    obtain ⟨rfl, Nq10, K10, g10_0, g10_1⟩ := hQ10
    have sz10 : h6.size ≤ h10.size := K10.1
    have N10 := Fr.app N0 Nq10
    have lt10_1 : b6 < h10.size := g10_0.lt
    refine own_go (st' := T10.setTop (mkF m 97 #[.val (.int st), .val (.int sz), .val (.long ja), .second, .val (.long jb), .second, .val (.long jc), .second, .val (.long jd), .second, .val (.int (0 : Int32)), .val (.ref b1), .val (.long (0 : Int64)), .second, .unset] [(.ref b6)])) (fun _ k => st10.trans k) ?_
    refine own_go (st' := T10.setTop (mkF m 99 #[.val (.int st), .val (.int sz), .val (.long ja), .second, .val (.long jb), .second, .val (.long jc), .second, .val (.long jd), .second, .val (.int (0 : Int32)), .val (.ref b1), .val (.long (0 : Int64)), .second, .val (.ref b6)] [])) (fun _ k => XS.astore X10.here hx rfl (hb hby at_97) rfl rfl (l' := #[.val (.int st), .val (.int sz), .val (.long ja), .second, .val (.long jb), .second, .val (.long jc), .second, .val (.long jd), .second, .val (.int (0 : Int32)), .val (.ref b1), .val (.long (0 : Int64)), .second, .val (.ref b6)]) rfl k) ?_
    refine own_go (st' := T10.setTop (mkF m 101 #[.val (.int st), .val (.int sz), .val (.long ja), .second, .val (.long jb), .second, .val (.long jc), .second, .val (.long jd), .second, .val (.int (0 : Int32)), .val (.ref b1), .val (.long (0 : Int64)), .second, .val (.ref b6)] [(.ref b6)])) (fun _ k => XS.aload X10.here hx rfl (hb hby at_99) rfl rfl k) ?_
    have c13 : Arv Z h10 b1 k1 .long (0 : Int32) [] (.long (0 : Int64)) := (c11.keep K10 (ninS (by first | assumption | exact Ne.symm (by assumption) | (apply Nat.ne_of_lt; omega) | (apply Nat.ne_of_gt; omega)) nin0))
    obtain ⟨cq12, kq12, q12a, q12b, q12c⟩ := isOf hZ e10 g10_0
    obtain ⟨_, _, ⟨T12, LC12, kC12, nC12⟩, -, X12, ⟨Lc12, hQ12, lq12, yq12, zq12⟩, st12⟩ := X10.virtualBack hx (y := (⟨"com/example/millwright/millwright/cut/Pattern", "pieceCount", "()J"⟩ : MethodName)) (z := (⟨"com/example/millwright/millwright/cut/Pattern", "pieceCount", "()J"⟩ : MethodName)) hown (mvT hZ (hw _ (List.mem_of_getElem? (i := 21) rfl))) (mvT hZ (hw _ (List.mem_of_getElem? (i := 22) rfl))) (notFace_of_selects (args := #[]) (mvT hZ (hw _ (List.mem_of_getElem? (i := 24) rfl)))) (mvT hZ (hw _ (List.mem_of_getElem? (i := 24) rfl))) (mvT hZ (hw _ (List.mem_of_getElem? (i := 23) rfl))) (by decide) (backOf (W := 0) (rm4_0 l Z a0 hw [] b6 b1 k1 h10 n0 (by omega) g10_1 c13) hZ (hw _ (List.mem_of_getElem? (i := 25) rfl)) (hw _ (List.mem_of_getElem? (i := 4) rfl)) (by decide) (by decide)) q12a q12c (g := (mkF m 101 #[.val (.int st), .val (.int sz), .val (.long ja), .second, .val (.long jb), .second, .val (.long jc), .second, .val (.long jd), .second, .val (.int (0 : Int32)), .val (.ref b1), .val (.long (0 : Int64)), .second, .val (.ref b6)] [(.ref b6)])) rfl (by rw [hml]; rfl) (Steps.refl _) (argsL := []) (rest := []) (lenOf pd_2 rfl) rfl (by show 2 * 0 + _ ≤ _; exact Nat.le_of_eq rfl) (hb hby at_101) (fun _ _ => ⟨rfl, e10, (by decide : 2 + 0 ≤ _), (by decide : 3 + 0 ≤ _)⟩)
    dsimp only [Pt.U, Pt.locs, Pt.cells, Pt.slots] at X12 lq12 yq12 zq12 st12 hQ12
    subst lq12 yq12 zq12
    obtain ⟨rfl, Nq12, eq12⟩ := hQ12
    have N12 := Fr.app N10 Nq12
    refine own_go (st' := T12.setTop (mkF m 104 #[.val (.int st), .val (.int sz), .val (.long ja), .second, .val (.long jb), .second, .val (.long jc), .second, .val (.long jd), .second, .val (.int (0 : Int32)), .val (.ref b1), .val (.long (0 : Int64)), .second, .val (.ref b6)] [(.long (0 : Int64))])) (fun _ k => st12.trans k) ?_
    refine own_go (st' := T12.setTop (mkF m 106 #[.val (.int st), .val (.int sz), .val (.long ja), .second, .val (.long jb), .second, .val (.long jc), .second, .val (.long jd), .second, .val (.int (0 : Int32)), .val (.ref b1), .val (.long (0 : Int64)), .second, .val (.ref b6)] [(.long (0 : Int64)), (.long (0 : Int64))])) (fun _ k => XS.lload X12.here hx rfl (hb hby at_104) rfl k) ?_
    refine own_go (st' := T12.setTop (mkF m 107 #[.val (.int st), .val (.int sz), .val (.long ja), .second, .val (.long jb), .second, .val (.long jc), .second, .val (.long jd), .second, .val (.int (0 : Int32)), .val (.ref b1), .val (.long (0 : Int64)), .second, .val (.ref b6)] [(.int (lcmpW (0 : Int64) (0 : Int64)))])) (fun _ k => XS.lcmp X12.here hx rfl (hb hby at_106) rfl k) ?_
    have hc14 : (0 : Int64) = (0 : Int64) := rfl
    refine own_go (st' := T12.setTop (mkF m 110 #[.val (.int st), .val (.int sz), .val (.long ja), .second, .val (.long jb), .second, .val (.long jc), .second, .val (.long jd), .second, .val (.int (0 : Int32)), .val (.ref b1), .val (.long (0 : Int64)), .second, .val (.ref b6)] [])) (fun _ k => XS.ifNo X12.here hx rfl (hb hby at_107) rfl ((if0 _ _).trans (teq ((lw_eq (0 : Int64) (0 : Int64)).mpr hc14)).2) k) ?_
    refine own_go (st' := T12.setTop (mkF m 111 #[.val (.int st), .val (.int sz), .val (.long ja), .second, .val (.long jb), .second, .val (.long jc), .second, .val (.long jd), .second, .val (.int (0 : Int32)), .val (.ref b1), .val (.long (0 : Int64)), .second, .val (.ref b6)] [(.int (1 : Int32))])) (fun _ k => XS.iconst X12.here hx rfl (hb hby at_110) k) ?_
    refine own_go (st' := T12.setTop (mkF m 115 #[.val (.int st), .val (.int sz), .val (.long ja), .second, .val (.long jb), .second, .val (.long jc), .second, .val (.long jd), .second, .val (.int (0 : Int32)), .val (.ref b1), .val (.long (0 : Int64)), .second, .val (.ref b6)] [(.int (1 : Int32))])) (fun _ k => XS.goto X12.here hx rfl (pc0 := 111) (pc' := 115) rfl (hb hby at_111) (by decide) (by decide) k) ?_
    obtain ⟨fs, hr, hrun, hended, hW, hsame⟩ := X12.leave (v := some (.int (1 : Int32))) (fun h => by rw [Bd.returns] at h; cases h)
    refine ⟨_, _, ?_, hP _ _ hrun hended ⟨_, _, rfl, ?_, ⟨_, rfl⟩, hW, hsame.mono (by decide) (by decide)⟩⟩
    · exact retN X12 hx (t := .boolean) Bd.returns (by simp) (hb hby at_115) hr
    · show Qrm0 Z st sz ja jb jc jd h0 n0 _ T12.heap _
      rw [eq12]
      exact ⟨rfl, N12, trivial⟩
  · --
    rw [hm]
    refine own_go (st' := s₁.setTop (mkF m 8 #[.val (.int st), .val (.int sz), .val (.long ja), .second, .val (.long jb), .second, .val (.long jc), .second, .val (.long jd), .second, .val (.int (1 : Int32)), .unset, .unset, .unset, .unset] [])) (fun _ k => XS.istore X0.here hx rfl (hb hby at_6) rfl (l' := #[.val (.int st), .val (.int sz), .val (.long ja), .second, .val (.long jb), .second, .val (.long jc), .second, .val (.long jd), .second, .val (.int (1 : Int32)), .unset, .unset, .unset, .unset]) rfl k) ?_
    refine own_go (st' := s₁.setTop (mkF m 10 #[.val (.int st), .val (.int sz), .val (.long ja), .second, .val (.long jb), .second, .val (.long jc), .second, .val (.long jd), .second, .val (.int (1 : Int32)), .unset, .unset, .unset, .unset] [(.int (1 : Int32))])) (fun _ k => XS.iload X0.here hx rfl (hb hby at_8) rfl k) ?_
    obtain ⟨T16, h16, k16, X16, e16, E16, A16, st16⟩ := newP X0 hx hZ (hw _ (List.mem_of_getElem? (i := 1) rfl)) e0 (g := (mkF m 10 #[.val (.int st), .val (.int sz), .val (.long ja), .second, .val (.long jb), .second, .val (.long jc), .second, .val (.long jd), .second, .val (.int (1 : Int32)), .unset, .unset, .unset, .unset] [(.int (1 : Int32))])) rfl (hb hby at_10) rfl (by decide) (cap := 1) (by decide) (by decide) (by decide) (by decide)
    obtain ⟨b16, g16⟩ : ∃ z, z = h0.size := ⟨_, rfl⟩
    rw [← g16] at A16 st16
    have sz16 : h0.size ≤ h16.size := E16.1
    have lt16 : b16 < h16.size := A16.lt
    have v16 : Arv Z h16 b16 k16 .long (1 : Int32) [(.long (0 : Int64))] (.long (0 : Int64)) := (Arv.new A16 (by decide)).pad (pad_rep [] (.long (0 : Int64)) 1)
    refine own_go (st' := T16.setTop (mkF m 12 #[.val (.int st), .val (.int sz), .val (.long ja), .second, .val (.long jb), .second, .val (.long jc), .second, .val (.long jd), .second, .val (.int (1 : Int32)), .unset, .unset, .unset, .unset] [(.ref b16)])) (st16) ?_
    refine own_go (st' := T16.setTop (mkF m 14 #[.val (.int st), .val (.int sz), .val (.long ja), .second, .val (.long jb), .second, .val (.long jc), .second, .val (.long jd), .second, .val (.int (1 : Int32)), .val (.ref b16), .unset, .unset, .unset] [])) (fun _ k => XS.astore X16.here hx rfl (hb hby at_12) rfl rfl (l' := #[.val (.int st), .val (.int sz), .val (.long ja), .second, .val (.long jb), .second, .val (.long jc), .second, .val (.long jd), .second, .val (.int (1 : Int32)), .val (.ref b16), .unset, .unset, .unset]) rfl k) ?_
    refine own_go (st' := T16.setTop (mkF m 15 #[.val (.int st), .val (.int sz), .val (.long ja), .second, .val (.long jb), .second, .val (.long jc), .second, .val (.long jd), .second, .val (.int (1 : Int32)), .val (.ref b16), .unset, .unset, .unset] [(.long (0 : Int64))])) (fun _ k => XS.lconst X16.here hx rfl (hb hby at_14) k) ?_
    refine own_go (st' := T16.setTop (mkF m 17 #[.val (.int st), .val (.int sz), .val (.long ja), .second, .val (.long jb), .second, .val (.long jc), .second, .val (.long jd), .second, .val (.int (1 : Int32)), .val (.ref b16), .val (.long (0 : Int64)), .second, .unset] [])) (fun _ k => XS.lstore X16.here hx rfl (hb hby at_15) rfl (l' := #[.val (.int st), .val (.int sz), .val (.long ja), .second, .val (.long jb), .second, .val (.long jc), .second, .val (.long jd), .second, .val (.int (1 : Int32)), .val (.ref b16), .val (.long (0 : Int64)), .second, .unset]) rfl k) ?_
    refine own_go (st' := T16.setTop (mkF m 19 #[.val (.int st), .val (.int sz), .val (.long ja), .second, .val (.long jb), .second, .val (.long jc), .second, .val (.long jd), .second, .val (.int (1 : Int32)), .val (.ref b16), .val (.long (0 : Int64)), .second, .unset] [(.int (1 : Int32))])) (fun _ k => XS.iload X16.here hx rfl (hb hby at_17) rfl k) ?_
    have hc17 : (0 : Int32) < (1 : Int32) := by decide
    refine own_go (st' := T16.setTop (mkF m 22 #[.val (.int st), .val (.int sz), .val (.long ja), .second, .val (.long jb), .second, .val (.long jc), .second, .val (.long jd), .second, .val (.int (1 : Int32)), .val (.ref b16), .val (.long (0 : Int64)), .second, .unset] [])) (fun _ k => XS.ifNo X16.here hx rfl (hb hby at_19) rfl ((if0 _ _).trans (tlt hc17).2.2.2) k) ?_
    refine own_go (st' := T16.setTop (mkF m 24 #[.val (.int st), .val (.int sz), .val (.long ja), .second, .val (.long jb), .second, .val (.long jc), .second, .val (.long jd), .second, .val (.int (1 : Int32)), .val (.ref b16), .val (.long (0 : Int64)), .second, .unset] [(.ref b16)])) (fun _ k => XS.aload X16.here hx rfl (hb hby at_22) rfl rfl k) ?_
    refine own_go (st' := T16.setTop (mkF m 25 #[.val (.int st), .val (.int sz), .val (.long ja), .second, .val (.long jb), .second, .val (.long jc), .second, .val (.long jd), .second, .val (.int (1 : Int32)), .val (.ref b16), .val (.long (0 : Int64)), .second, .unset] [(.int (0 : Int32)), (.ref b16)])) (fun _ k => XS.iconst X16.here hx rfl (hb hby at_24) k) ?_
    refine own_go (st' := T16.setTop (mkF m 26 #[.val (.int st), .val (.int sz), .val (.long ja), .second, .val (.long jb), .second, .val (.long jc), .second, .val (.long jd), .second, .val (.int (1 : Int32)), .val (.ref b16), .val (.long (0 : Int64)), .second, .unset] [(.long ja), (.int (0 : Int32)), (.ref b16)])) (fun _ k => XS.lloadN X16.here hx rfl (hb hby at_25) rfl k) ?_
    obtain ⟨cl18, Ar18, qc18, S18, M18, H18, G18⟩ := id v16
    have hin18 : ¬ ((0 : Int32) < 0 ∨ cl18.slots.size ≤ ((0 : Int32)).toNatClampNeg) := (inb_of S18 ⟨by decide, by decide⟩)
    obtain ⟨T18, h18, X18, e18, W18, st18⟩ := stJ X16 hx hZ e16 Ar18 (j := (0 : Int32)) hin18 (g := (mkF m 26 #[.val (.int st), .val (.int sz), .val (.long ja), .second, .val (.long jb), .second, .val (.long jc), .second, .val (.long jd), .second, .val (.int (1 : Int32)), .val (.ref b16), .val (.long (0 : Int64)), .second, .unset] [(.long ja), (.int (0 : Int32)), (.ref b16)])) rfl rfl (hb hby at_26)
    have sz18 : h18.size = h16.size := W18.size
    have N18 := Fr.snoc X18 N0 (by omega)
    have v18 : Arv Z h18 b16 k16 .long (1 : Int32) [(.long ja)] (.long (0 : Int64)) := Arv.set Ar18 qc18 S18 M18 H18 G18 rfl W18 0 rfl (Nat.le_of_ble_eq_true rfl)
    refine own_go (st' := T18.setTop (mkF m 27 #[.val (.int st), .val (.int sz), .val (.long ja), .second, .val (.long jb), .second, .val (.long jc), .second, .val (.long jd), .second, .val (.int (1 : Int32)), .val (.ref b16), .val (.long (0 : Int64)), .second, .unset] [])) (st18) ?_
    refine own_go (st' := T18.setTop (mkF m 28 #[.val (.int st), .val (.int sz), .val (.long ja), .second, .val (.long jb), .second, .val (.long jc), .second, .val (.long jd), .second, .val (.int (1 : Int32)), .val (.ref b16), .val (.long (0 : Int64)), .second, .unset] [(.long ja)])) (fun _ k => XS.lloadN X18.here hx rfl (hb hby at_27) rfl k) ?_
    refine own_go (st' := T18.setTop (mkF m 30 #[.val (.int st), .val (.int sz), .val (.long ja), .second, .val (.long jb), .second, .val (.long jc), .second, .val (.long jd), .second, .val (.int (1 : Int32)), .val (.ref b16), .val (.long ja), .second, .unset] [])) (fun _ k => XS.lstore X18.here hx rfl (hb hby at_28) rfl (l' := #[.val (.int st), .val (.int sz), .val (.long ja), .second, .val (.long jb), .second, .val (.long jc), .second, .val (.long jd), .second, .val (.int (1 : Int32)), .val (.ref b16), .val (.long ja), .second, .unset]) rfl k) ?_
    refine own_go (st' := T18.setTop (mkF m 32 #[.val (.int st), .val (.int sz), .val (.long ja), .second, .val (.long jb), .second, .val (.long jc), .second, .val (.long jd), .second, .val (.int (1 : Int32)), .val (.ref b16), .val (.long ja), .second, .unset] [(.int (1 : Int32))])) (fun _ k => XS.iload X18.here hx rfl (hb hby at_30) rfl k) ?_
    refine own_go (st' := T18.setTop (mkF m 33 #[.val (.int st), .val (.int sz), .val (.long ja), .second, .val (.long jb), .second, .val (.long jc), .second, .val (.long jd), .second, .val (.int (1 : Int32)), .val (.ref b16), .val (.long ja), .second, .unset] [(.int (1 : Int32)), (.int (1 : Int32))])) (fun _ k => XS.iconst X18.here hx rfl (hb hby at_32) k) ?_
    have hc19 : ¬ ((1 : Int32) < (1 : Int32)) := by decide
    refine own_go (st' := T18.setTop (mkF m 49 #[.val (.int st), .val (.int sz), .val (.long ja), .second, .val (.long jb), .second, .val (.long jc), .second, .val (.long jd), .second, .val (.int (1 : Int32)), .val (.ref b16), .val (.long ja), .second, .unset] [])) (fun _ k => XS.icmpYes X18.here hx rfl (pc0 := 33) (pc' := 49) rfl (hb hby at_33) rfl (flt hc19).2.2.2 (by decide) (by decide) k) ?_
    refine own_go (st' := T18.setTop (mkF m 51 #[.val (.int st), .val (.int sz), .val (.long ja), .second, .val (.long jb), .second, .val (.long jc), .second, .val (.long jd), .second, .val (.int (1 : Int32)), .val (.ref b16), .val (.long ja), .second, .unset] [(.int (1 : Int32))])) (fun _ k => XS.iload X18.here hx rfl (hb hby at_49) rfl k) ?_
    refine own_go (st' := T18.setTop (mkF m 52 #[.val (.int st), .val (.int sz), .val (.long ja), .second, .val (.long jb), .second, .val (.long jc), .second, .val (.long jd), .second, .val (.int (1 : Int32)), .val (.ref b16), .val (.long ja), .second, .unset] [(.int (2 : Int32)), (.int (1 : Int32))])) (fun _ k => XS.iconst X18.here hx rfl (hb hby at_51) k) ?_
    have hc20 : ¬ ((2 : Int32) < (1 : Int32)) := by decide
    refine own_go (st' := T18.setTop (mkF m 68 #[.val (.int st), .val (.int sz), .val (.long ja), .second, .val (.long jb), .second, .val (.long jc), .second, .val (.long jd), .second, .val (.int (1 : Int32)), .val (.ref b16), .val (.long ja), .second, .unset] [])) (fun _ k => XS.icmpYes X18.here hx rfl (pc0 := 52) (pc' := 68) rfl (hb hby at_52) rfl (flt hc20).2.2.2 (by decide) (by decide) k) ?_
    refine own_go (st' := T18.setTop (mkF m 70 #[.val (.int st), .val (.int sz), .val (.long ja), .second, .val (.long jb), .second, .val (.long jc), .second, .val (.long jd), .second, .val (.int (1 : Int32)), .val (.ref b16), .val (.long ja), .second, .unset] [(.int (1 : Int32))])) (fun _ k => XS.iload X18.here hx rfl (hb hby at_68) rfl k) ?_
    refine own_go (st' := T18.setTop (mkF m 71 #[.val (.int st), .val (.int sz), .val (.long ja), .second, .val (.long jb), .second, .val (.long jc), .second, .val (.long jd), .second, .val (.int (1 : Int32)), .val (.ref b16), .val (.long ja), .second, .unset] [(.int (3 : Int32)), (.int (1 : Int32))])) (fun _ k => XS.iconst X18.here hx rfl (hb hby at_70) k) ?_
    have hc21 : ¬ ((3 : Int32) < (1 : Int32)) := by decide
    refine own_go (st' := T18.setTop (mkF m 87 #[.val (.int st), .val (.int sz), .val (.long ja), .second, .val (.long jb), .second, .val (.long jc), .second, .val (.long jd), .second, .val (.int (1 : Int32)), .val (.ref b16), .val (.long ja), .second, .unset] [])) (fun _ k => XS.icmpYes X18.here hx rfl (pc0 := 71) (pc' := 87) rfl (hb hby at_71) rfl (flt hc21).2.2.2 (by decide) (by decide) k) ?_
    obtain ⟨T22, h22, X22, e22, E22, A22, D22, -, st22⟩ := newO X18 hx hZ hown (hw _ (List.mem_of_getElem? (i := 2) rfl)) (hw _ (List.mem_of_getElem? (i := 3) rfl)) (hw _ (List.mem_of_getElem? (i := 4) rfl)) e18 (g := (mkF m 87 #[.val (.int st), .val (.int sz), .val (.long ja), .second, .val (.long jb), .second, .val (.long jc), .second, .val (.long jd), .second, .val (.int (1 : Int32)), .val (.ref b16), .val (.long ja), .second, .unset] [])) rfl (hb hby at_87) (by decide) (by decide)
    obtain ⟨b22, g22⟩ : ∃ z, z = h18.size := ⟨_, rfl⟩
    rw [← g22] at A22 D22 st22
    have sz22 : h18.size ≤ h22.size := E22.1
    have lt22 : b22 < h22.size := A22.lt
    have f23 : Fld Z h22 b22 "com/example/millwright/millwright/cut/Pattern" "stock" "I" (.int (0 : Int32)) := D22 (Or.inr (hw _ (List.mem_of_getElem? (i := 12) rfl))) (ty := .int) (by decide)
    have f24 : Fld Z h22 b22 "com/example/millwright/millwright/cut/Pattern" "counts" "[J" .null := D22 (Or.inr (hw _ (List.mem_of_getElem? (i := 14) rfl))) (ty := (.array .long)) (by decide)
    have f25 : Fld Z h22 b22 "com/example/millwright/millwright/cut/Pattern" "hash" "I" (.int (0 : Int32)) := D22 (Or.inr (hw _ (List.mem_of_getElem? (i := 20) rfl))) (ty := .int) (by decide)
    refine own_go (st' := T22.setTop (mkF m 90 #[.val (.int st), .val (.int sz), .val (.long ja), .second, .val (.long jb), .second, .val (.long jc), .second, .val (.long jd), .second, .val (.int (1 : Int32)), .val (.ref b16), .val (.long ja), .second, .unset] [(.ref b22)])) (st22) ?_
    refine own_go (st' := T22.setTop (mkF m 91 #[.val (.int st), .val (.int sz), .val (.long ja), .second, .val (.long jb), .second, .val (.long jc), .second, .val (.long jd), .second, .val (.int (1 : Int32)), .val (.ref b16), .val (.long ja), .second, .unset] [(.ref b22), (.ref b22)])) (fun _ k => XS.dup X22.here hx rfl (hb hby at_90) rfl rfl k) ?_
    refine own_go (st' := T22.setTop (mkF m 92 #[.val (.int st), .val (.int sz), .val (.long ja), .second, .val (.long jb), .second, .val (.long jc), .second, .val (.long jd), .second, .val (.int (1 : Int32)), .val (.ref b16), .val (.long ja), .second, .unset] [(.int st), (.ref b22), (.ref b22)])) (fun _ k => XS.iloadN X22.here hx rfl (hb hby at_91) rfl k) ?_
    refine own_go (st' := T22.setTop (mkF m 94 #[.val (.int st), .val (.int sz), .val (.long ja), .second, .val (.long jb), .second, .val (.long jc), .second, .val (.long jd), .second, .val (.int (1 : Int32)), .val (.ref b16), .val (.long ja), .second, .unset] [(.ref b16), (.int st), (.ref b22), (.ref b22)])) (fun _ k => XS.aload X22.here hx rfl (hb hby at_92) rfl rfl k) ?_
    have c27 : Arv Z h22 b16 k16 .long (1 : Int32) [(.long ja)] (.long (0 : Int64)) := (v18.ext E22)
    obtain ⟨_, _, ⟨T26, LC26, kC26, nC26⟩, -, X26, ⟨Lc26, hQ26, lq26, yq26, zq26⟩, st26⟩ := X22.specialBack hx (y := (⟨"com/example/millwright/millwright/cut/Pattern", "<init>", "(I[J)V"⟩ : MethodName)) rfl hown (mvT hZ (hw _ (List.mem_of_getElem? (i := 5) rfl))) (mvT hZ (hw _ (List.mem_of_getElem? (i := 6) rfl))) (mvT hZ (hw _ (List.mem_of_getElem? (i := 7) rfl))) (by decide) (backOf (W := 1) (rm1_1 l Z a0 hw [] b22 st b16 k16 (0 : Int32) (0 : Int32) ja h22 n0 (by omega) A22 f23 f24 f25 c27 (by omega) (by first | assumption | exact Ne.symm (by assumption) | (apply Nat.ne_of_lt; omega) | (apply Nat.ne_of_gt; omega))) hZ (hw _ (List.mem_of_getElem? (i := 7) rfl)) (hw _ (List.mem_of_getElem? (i := 4) rfl)) (by decide) (by decide)) (g := (mkF m 94 #[.val (.int st), .val (.int sz), .val (.long ja), .second, .val (.long jb), .second, .val (.long jc), .second, .val (.long jd), .second, .val (.int (1 : Int32)), .val (.ref b16), .val (.long ja), .second, .unset] [(.ref b16), (.int st), (.ref b22), (.ref b22)])) rfl (by rw [hml]; rfl) (Steps.refl _) (a := b22) (argsL := [(.int st), (.ref b16)]) (rest := [(.ref b22)]) (lenOf pd_1 rfl) rfl (by show 2 * 0 + _ ≤ _; exact Nat.le_of_eq rfl) (hb hby at_94) (fun _ _ => ⟨rfl, e22, (by decide : 2 + 0 ≤ _), (by decide : 4 + 0 ≤ _)⟩)
    dsimp only [Pt.U, Pt.locs, Pt.cells, Pt.slots] at X26 lq26 yq26 zq26 st26 hQ26
    subst lq26 yq26 zq26
    obtain ⟨h26, e26⟩ : ∃ z, T26.heap = z := ⟨_, rfl⟩
    rw [e26] at hQ26
    obtain ⟨rfl, Nq26, K26, g26_0, g26_1⟩ := hQ26
    have sz26 : h22.size ≤ h26.size := K26.1
    have N26 := Fr.app N18 Nq26
    have lt26_1 : b22 < h26.size := g26_0.lt
    refine own_go (st' := T26.setTop (mkF m 97 #[.val (.int st), .val (.int sz), .val (.long ja), .second, .val (.long jb), .second, .val (.long jc), .second, .val (.long jd), .second, .val (.int (1 : Int32)), .val (.ref b16), .val (.long ja), .second, .unset] [(.ref b22)])) (fun _ k => st26.trans k) ?_
    refine own_go (st' := T26.setTop (mkF m 99 #[.val (.int st), .val (.int sz), .val (.long ja), .second, .val (.long jb), .second, .val (.long jc), .second, .val (.long jd), .second, .val (.int (1 : Int32)), .val (.ref b16), .val (.long ja), .second, .val (.ref b22)] [])) (fun _ k => XS.astore X26.here hx rfl (hb hby at_97) rfl rfl (l' := #[.val (.int st), .val (.int sz), .val (.long ja), .second, .val (.long jb), .second, .val (.long jc), .second, .val (.long jd), .second, .val (.int (1 : Int32)), .val (.ref b16), .val (.long ja), .second, .val (.ref b22)]) rfl k) ?_
    refine own_go (st' := T26.setTop (mkF m 101 #[.val (.int st), .val (.int sz), .val (.long ja), .second, .val (.long jb), .second, .val (.long jc), .second, .val (.long jd), .second, .val (.int (1 : Int32)), .val (.ref b16), .val (.long ja), .second, .val (.ref b22)] [(.ref b22)])) (fun _ k => XS.aload X26.here hx rfl (hb hby at_99) rfl rfl k) ?_
    have c29 : Arv Z h26 b16 k16 .long (1 : Int32) [(.long ja)] (.long (0 : Int64)) := (c27.keep K26 (ninS (by first | assumption | exact Ne.symm (by assumption) | (apply Nat.ne_of_lt; omega) | (apply Nat.ne_of_gt; omega)) nin0))
    obtain ⟨cq28, kq28, q28a, q28b, q28c⟩ := isOf hZ e26 g26_0
    obtain ⟨_, _, ⟨T28, LC28, kC28, nC28⟩, -, X28, ⟨Lc28, hQ28, lq28, yq28, zq28⟩, st28⟩ := X26.virtualBack hx (y := (⟨"com/example/millwright/millwright/cut/Pattern", "pieceCount", "()J"⟩ : MethodName)) (z := (⟨"com/example/millwright/millwright/cut/Pattern", "pieceCount", "()J"⟩ : MethodName)) hown (mvT hZ (hw _ (List.mem_of_getElem? (i := 21) rfl))) (mvT hZ (hw _ (List.mem_of_getElem? (i := 22) rfl))) (notFace_of_selects (args := #[]) (mvT hZ (hw _ (List.mem_of_getElem? (i := 24) rfl)))) (mvT hZ (hw _ (List.mem_of_getElem? (i := 24) rfl))) (mvT hZ (hw _ (List.mem_of_getElem? (i := 23) rfl))) (by decide) (backOf (W := 0) (rm4_1 l Z a0 hw [] b22 b16 k16 ja h26 n0 (by omega) g26_1 c29) hZ (hw _ (List.mem_of_getElem? (i := 25) rfl)) (hw _ (List.mem_of_getElem? (i := 4) rfl)) (by decide) (by decide)) q28a q28c (g := (mkF m 101 #[.val (.int st), .val (.int sz), .val (.long ja), .second, .val (.long jb), .second, .val (.long jc), .second, .val (.long jd), .second, .val (.int (1 : Int32)), .val (.ref b16), .val (.long ja), .second, .val (.ref b22)] [(.ref b22)])) rfl (by rw [hml]; rfl) (Steps.refl _) (argsL := []) (rest := []) (lenOf pd_2 rfl) rfl (by show 2 * 0 + _ ≤ _; exact Nat.le_of_eq rfl) (hb hby at_101) (fun _ _ => ⟨rfl, e26, (by decide : 2 + 0 ≤ _), (by decide : 4 + 0 ≤ _)⟩)
    dsimp only [Pt.U, Pt.locs, Pt.cells, Pt.slots] at X28 lq28 yq28 zq28 st28 hQ28
    subst lq28 yq28 zq28
    obtain ⟨rfl, Nq28, eq28⟩ := hQ28
    have N28 := Fr.app N26 Nq28
    refine own_go (st' := T28.setTop (mkF m 104 #[.val (.int st), .val (.int sz), .val (.long ja), .second, .val (.long jb), .second, .val (.long jc), .second, .val (.long jd), .second, .val (.int (1 : Int32)), .val (.ref b16), .val (.long ja), .second, .val (.ref b22)] [(.long ((0 : Int64) + ja))])) (fun _ k => st28.trans k) ?_
    refine own_go (st' := T28.setTop (mkF m 106 #[.val (.int st), .val (.int sz), .val (.long ja), .second, .val (.long jb), .second, .val (.long jc), .second, .val (.long jd), .second, .val (.int (1 : Int32)), .val (.ref b16), .val (.long ja), .second, .val (.ref b22)] [(.long ja), (.long ((0 : Int64) + ja))])) (fun _ k => XS.lload X28.here hx rfl (hb hby at_104) rfl k) ?_
    refine own_go (st' := T28.setTop (mkF m 107 #[.val (.int st), .val (.int sz), .val (.long ja), .second, .val (.long jb), .second, .val (.long jc), .second, .val (.long jd), .second, .val (.int (1 : Int32)), .val (.ref b16), .val (.long ja), .second, .val (.ref b22)] [(.int (lcmpW ((0 : Int64) + ja) ja))])) (fun _ k => XS.lcmp X28.here hx rfl (hb hby at_106) rfl k) ?_
    have hc30 : ((0 : Int64) + ja) = ja := by rw [Int64.zero_add]
    refine own_go (st' := T28.setTop (mkF m 110 #[.val (.int st), .val (.int sz), .val (.long ja), .second, .val (.long jb), .second, .val (.long jc), .second, .val (.long jd), .second, .val (.int (1 : Int32)), .val (.ref b16), .val (.long ja), .second, .val (.ref b22)] [])) (fun _ k => XS.ifNo X28.here hx rfl (hb hby at_107) rfl ((if0 _ _).trans (teq ((lw_eq ((0 : Int64) + ja) ja).mpr hc30)).2) k) ?_
    refine own_go (st' := T28.setTop (mkF m 111 #[.val (.int st), .val (.int sz), .val (.long ja), .second, .val (.long jb), .second, .val (.long jc), .second, .val (.long jd), .second, .val (.int (1 : Int32)), .val (.ref b16), .val (.long ja), .second, .val (.ref b22)] [(.int (1 : Int32))])) (fun _ k => XS.iconst X28.here hx rfl (hb hby at_110) k) ?_
    refine own_go (st' := T28.setTop (mkF m 115 #[.val (.int st), .val (.int sz), .val (.long ja), .second, .val (.long jb), .second, .val (.long jc), .second, .val (.long jd), .second, .val (.int (1 : Int32)), .val (.ref b16), .val (.long ja), .second, .val (.ref b22)] [(.int (1 : Int32))])) (fun _ k => XS.goto X28.here hx rfl (pc0 := 111) (pc' := 115) rfl (hb hby at_111) (by decide) (by decide) k) ?_
    obtain ⟨fs, hr, hrun, hended, hW, hsame⟩ := X28.leave (v := some (.int (1 : Int32))) (fun h => by rw [Bd.returns] at h; cases h)
    refine ⟨_, _, ?_, hP _ _ hrun hended ⟨_, _, rfl, ?_, ⟨_, rfl⟩, hW, hsame.mono (by decide) (by decide)⟩⟩
    · exact retN X28 hx (t := .boolean) Bd.returns (by simp) (hb hby at_115) hr
    · show Qrm0 Z st sz ja jb jc jd h0 n0 _ T28.heap _
      rw [eq28]
      exact ⟨rfl, N28, trivial⟩
  · --
    rw [hm]
    refine own_go (st' := s₁.setTop (mkF m 8 #[.val (.int st), .val (.int sz), .val (.long ja), .second, .val (.long jb), .second, .val (.long jc), .second, .val (.long jd), .second, .val (.int (2 : Int32)), .unset, .unset, .unset, .unset] [])) (fun _ k => XS.istore X0.here hx rfl (hb hby at_6) rfl (l' := #[.val (.int st), .val (.int sz), .val (.long ja), .second, .val (.long jb), .second, .val (.long jc), .second, .val (.long jd), .second, .val (.int (2 : Int32)), .unset, .unset, .unset, .unset]) rfl k) ?_
    refine own_go (st' := s₁.setTop (mkF m 10 #[.val (.int st), .val (.int sz), .val (.long ja), .second, .val (.long jb), .second, .val (.long jc), .second, .val (.long jd), .second, .val (.int (2 : Int32)), .unset, .unset, .unset, .unset] [(.int (2 : Int32))])) (fun _ k => XS.iload X0.here hx rfl (hb hby at_8) rfl k) ?_
    obtain ⟨T32, h32, k32, X32, e32, E32, A32, st32⟩ := newP X0 hx hZ (hw _ (List.mem_of_getElem? (i := 1) rfl)) e0 (g := (mkF m 10 #[.val (.int st), .val (.int sz), .val (.long ja), .second, .val (.long jb), .second, .val (.long jc), .second, .val (.long jd), .second, .val (.int (2 : Int32)), .unset, .unset, .unset, .unset] [(.int (2 : Int32))])) rfl (hb hby at_10) rfl (by decide) (cap := 2) (by decide) (by decide) (by decide) (by decide)
    obtain ⟨b32, g32⟩ : ∃ z, z = h0.size := ⟨_, rfl⟩
    rw [← g32] at A32 st32
    have sz32 : h0.size ≤ h32.size := E32.1
    have lt32 : b32 < h32.size := A32.lt
    have v32 : Arv Z h32 b32 k32 .long (2 : Int32) [(.long (0 : Int64)), (.long (0 : Int64))] (.long (0 : Int64)) := (Arv.new A32 (by decide)).pad (pad_rep [] (.long (0 : Int64)) 2)
    refine own_go (st' := T32.setTop (mkF m 12 #[.val (.int st), .val (.int sz), .val (.long ja), .second, .val (.long jb), .second, .val (.long jc), .second, .val (.long jd), .second, .val (.int (2 : Int32)), .unset, .unset, .unset, .unset] [(.ref b32)])) (st32) ?_
    refine own_go (st' := T32.setTop (mkF m 14 #[.val (.int st), .val (.int sz), .val (.long ja), .second, .val (.long jb), .second, .val (.long jc), .second, .val (.long jd), .second, .val (.int (2 : Int32)), .val (.ref b32), .unset, .unset, .unset] [])) (fun _ k => XS.astore X32.here hx rfl (hb hby at_12) rfl rfl (l' := #[.val (.int st), .val (.int sz), .val (.long ja), .second, .val (.long jb), .second, .val (.long jc), .second, .val (.long jd), .second, .val (.int (2 : Int32)), .val (.ref b32), .unset, .unset, .unset]) rfl k) ?_
    refine own_go (st' := T32.setTop (mkF m 15 #[.val (.int st), .val (.int sz), .val (.long ja), .second, .val (.long jb), .second, .val (.long jc), .second, .val (.long jd), .second, .val (.int (2 : Int32)), .val (.ref b32), .unset, .unset, .unset] [(.long (0 : Int64))])) (fun _ k => XS.lconst X32.here hx rfl (hb hby at_14) k) ?_
    refine own_go (st' := T32.setTop (mkF m 17 #[.val (.int st), .val (.int sz), .val (.long ja), .second, .val (.long jb), .second, .val (.long jc), .second, .val (.long jd), .second, .val (.int (2 : Int32)), .val (.ref b32), .val (.long (0 : Int64)), .second, .unset] [])) (fun _ k => XS.lstore X32.here hx rfl (hb hby at_15) rfl (l' := #[.val (.int st), .val (.int sz), .val (.long ja), .second, .val (.long jb), .second, .val (.long jc), .second, .val (.long jd), .second, .val (.int (2 : Int32)), .val (.ref b32), .val (.long (0 : Int64)), .second, .unset]) rfl k) ?_
    refine own_go (st' := T32.setTop (mkF m 19 #[.val (.int st), .val (.int sz), .val (.long ja), .second, .val (.long jb), .second, .val (.long jc), .second, .val (.long jd), .second, .val (.int (2 : Int32)), .val (.ref b32), .val (.long (0 : Int64)), .second, .unset] [(.int (2 : Int32))])) (fun _ k => XS.iload X32.here hx rfl (hb hby at_17) rfl k) ?_
    have hc33 : (0 : Int32) < (2 : Int32) := by decide
    refine own_go (st' := T32.setTop (mkF m 22 #[.val (.int st), .val (.int sz), .val (.long ja), .second, .val (.long jb), .second, .val (.long jc), .second, .val (.long jd), .second, .val (.int (2 : Int32)), .val (.ref b32), .val (.long (0 : Int64)), .second, .unset] [])) (fun _ k => XS.ifNo X32.here hx rfl (hb hby at_19) rfl ((if0 _ _).trans (tlt hc33).2.2.2) k) ?_
    refine own_go (st' := T32.setTop (mkF m 24 #[.val (.int st), .val (.int sz), .val (.long ja), .second, .val (.long jb), .second, .val (.long jc), .second, .val (.long jd), .second, .val (.int (2 : Int32)), .val (.ref b32), .val (.long (0 : Int64)), .second, .unset] [(.ref b32)])) (fun _ k => XS.aload X32.here hx rfl (hb hby at_22) rfl rfl k) ?_
    refine own_go (st' := T32.setTop (mkF m 25 #[.val (.int st), .val (.int sz), .val (.long ja), .second, .val (.long jb), .second, .val (.long jc), .second, .val (.long jd), .second, .val (.int (2 : Int32)), .val (.ref b32), .val (.long (0 : Int64)), .second, .unset] [(.int (0 : Int32)), (.ref b32)])) (fun _ k => XS.iconst X32.here hx rfl (hb hby at_24) k) ?_
    refine own_go (st' := T32.setTop (mkF m 26 #[.val (.int st), .val (.int sz), .val (.long ja), .second, .val (.long jb), .second, .val (.long jc), .second, .val (.long jd), .second, .val (.int (2 : Int32)), .val (.ref b32), .val (.long (0 : Int64)), .second, .unset] [(.long ja), (.int (0 : Int32)), (.ref b32)])) (fun _ k => XS.lloadN X32.here hx rfl (hb hby at_25) rfl k) ?_
    obtain ⟨cl34, Ar34, qc34, S34, M34, H34, G34⟩ := id v32
    have hin34 : ¬ ((0 : Int32) < 0 ∨ cl34.slots.size ≤ ((0 : Int32)).toNatClampNeg) := (inb_of S34 ⟨by decide, by decide⟩)
    obtain ⟨T34, h34, X34, e34, W34, st34⟩ := stJ X32 hx hZ e32 Ar34 (j := (0 : Int32)) hin34 (g := (mkF m 26 #[.val (.int st), .val (.int sz), .val (.long ja), .second, .val (.long jb), .second, .val (.long jc), .second, .val (.long jd), .second, .val (.int (2 : Int32)), .val (.ref b32), .val (.long (0 : Int64)), .second, .unset] [(.long ja), (.int (0 : Int32)), (.ref b32)])) rfl rfl (hb hby at_26)
    have sz34 : h34.size = h32.size := W34.size
    have N34 := Fr.snoc X34 N0 (by omega)
    have v34 : Arv Z h34 b32 k32 .long (2 : Int32) [(.long ja), (.long (0 : Int64))] (.long (0 : Int64)) := Arv.set Ar34 qc34 S34 M34 H34 G34 rfl W34 0 rfl (Nat.le_of_ble_eq_true rfl)
    refine own_go (st' := T34.setTop (mkF m 27 #[.val (.int st), .val (.int sz), .val (.long ja), .second, .val (.long jb), .second, .val (.long jc), .second, .val (.long jd), .second, .val (.int (2 : Int32)), .val (.ref b32), .val (.long (0 : Int64)), .second, .unset] [])) (st34) ?_
    refine own_go (st' := T34.setTop (mkF m 28 #[.val (.int st), .val (.int sz), .val (.long ja), .second, .val (.long jb), .second, .val (.long jc), .second, .val (.long jd), .second, .val (.int (2 : Int32)), .val (.ref b32), .val (.long (0 : Int64)), .second, .unset] [(.long ja)])) (fun _ k => XS.lloadN X34.here hx rfl (hb hby at_27) rfl k) ?_
    refine own_go (st' := T34.setTop (mkF m 30 #[.val (.int st), .val (.int sz), .val (.long ja), .second, .val (.long jb), .second, .val (.long jc), .second, .val (.long jd), .second, .val (.int (2 : Int32)), .val (.ref b32), .val (.long ja), .second, .unset] [])) (fun _ k => XS.lstore X34.here hx rfl (hb hby at_28) rfl (l' := #[.val (.int st), .val (.int sz), .val (.long ja), .second, .val (.long jb), .second, .val (.long jc), .second, .val (.long jd), .second, .val (.int (2 : Int32)), .val (.ref b32), .val (.long ja), .second, .unset]) rfl k) ?_
    refine own_go (st' := T34.setTop (mkF m 32 #[.val (.int st), .val (.int sz), .val (.long ja), .second, .val (.long jb), .second, .val (.long jc), .second, .val (.long jd), .second, .val (.int (2 : Int32)), .val (.ref b32), .val (.long ja), .second, .unset] [(.int (2 : Int32))])) (fun _ k => XS.iload X34.here hx rfl (hb hby at_30) rfl k) ?_
    refine own_go (st' := T34.setTop (mkF m 33 #[.val (.int st), .val (.int sz), .val (.long ja), .second, .val (.long jb), .second, .val (.long jc), .second, .val (.long jd), .second, .val (.int (2 : Int32)), .val (.ref b32), .val (.long ja), .second, .unset] [(.int (1 : Int32)), (.int (2 : Int32))])) (fun _ k => XS.iconst X34.here hx rfl (hb hby at_32) k) ?_
    have hc35 : (1 : Int32) < (2 : Int32) := by decide
    refine own_go (st' := T34.setTop (mkF m 36 #[.val (.int st), .val (.int sz), .val (.long ja), .second, .val (.long jb), .second, .val (.long jc), .second, .val (.long jd), .second, .val (.int (2 : Int32)), .val (.ref b32), .val (.long ja), .second, .unset] [])) (fun _ k => XS.icmpNo X34.here hx rfl (hb hby at_33) rfl (tlt hc35).2.2.2 k) ?_
    refine own_go (st' := T34.setTop (mkF m 38 #[.val (.int st), .val (.int sz), .val (.long ja), .second, .val (.long jb), .second, .val (.long jc), .second, .val (.long jd), .second, .val (.int (2 : Int32)), .val (.ref b32), .val (.long ja), .second, .unset] [(.ref b32)])) (fun _ k => XS.aload X34.here hx rfl (hb hby at_36) rfl rfl k) ?_
    refine own_go (st' := T34.setTop (mkF m 39 #[.val (.int st), .val (.int sz), .val (.long ja), .second, .val (.long jb), .second, .val (.long jc), .second, .val (.long jd), .second, .val (.int (2 : Int32)), .val (.ref b32), .val (.long ja), .second, .unset] [(.int (1 : Int32)), (.ref b32)])) (fun _ k => XS.iconst X34.here hx rfl (hb hby at_38) k) ?_
    refine own_go (st' := T34.setTop (mkF m 41 #[.val (.int st), .val (.int sz), .val (.long ja), .second, .val (.long jb), .second, .val (.long jc), .second, .val (.long jd), .second, .val (.int (2 : Int32)), .val (.ref b32), .val (.long ja), .second, .unset] [(.long jb), (.int (1 : Int32)), (.ref b32)])) (fun _ k => XS.lload X34.here hx rfl (hb hby at_39) rfl k) ?_
    obtain ⟨cl36, Ar36, qc36, S36, M36, H36, G36⟩ := id v34
    have hin36 : ¬ ((1 : Int32) < 0 ∨ cl36.slots.size ≤ ((1 : Int32)).toNatClampNeg) := (inb_of S36 ⟨by decide, by decide⟩)
    obtain ⟨T36, h36, X36, e36, W36, st36⟩ := stJ X34 hx hZ e34 Ar36 (j := (1 : Int32)) hin36 (g := (mkF m 41 #[.val (.int st), .val (.int sz), .val (.long ja), .second, .val (.long jb), .second, .val (.long jc), .second, .val (.long jd), .second, .val (.int (2 : Int32)), .val (.ref b32), .val (.long ja), .second, .unset] [(.long jb), (.int (1 : Int32)), (.ref b32)])) rfl rfl (hb hby at_41)
    have sz36 : h36.size = h34.size := W36.size
    have N36 := Fr.snoc X36 N34 (by omega)
    have v36 : Arv Z h36 b32 k32 .long (2 : Int32) [(.long ja), (.long jb)] (.long (0 : Int64)) := Arv.set Ar36 qc36 S36 M36 H36 G36 rfl W36 1 rfl (Nat.le_of_ble_eq_true rfl)
    refine own_go (st' := T36.setTop (mkF m 42 #[.val (.int st), .val (.int sz), .val (.long ja), .second, .val (.long jb), .second, .val (.long jc), .second, .val (.long jd), .second, .val (.int (2 : Int32)), .val (.ref b32), .val (.long ja), .second, .unset] [])) (st36) ?_
    refine own_go (st' := T36.setTop (mkF m 44 #[.val (.int st), .val (.int sz), .val (.long ja), .second, .val (.long jb), .second, .val (.long jc), .second, .val (.long jd), .second, .val (.int (2 : Int32)), .val (.ref b32), .val (.long ja), .second, .unset] [(.long ja)])) (fun _ k => XS.lload X36.here hx rfl (hb hby at_42) rfl k) ?_
    refine own_go (st' := T36.setTop (mkF m 46 #[.val (.int st), .val (.int sz), .val (.long ja), .second, .val (.long jb), .second, .val (.long jc), .second, .val (.long jd), .second, .val (.int (2 : Int32)), .val (.ref b32), .val (.long ja), .second, .unset] [(.long jb), (.long ja)])) (fun _ k => XS.lload X36.here hx rfl (hb hby at_44) rfl k) ?_
    refine own_go (st' := T36.setTop (mkF m 47 #[.val (.int st), .val (.int sz), .val (.long ja), .second, .val (.long jb), .second, .val (.long jc), .second, .val (.long jd), .second, .val (.int (2 : Int32)), .val (.ref b32), .val (.long ja), .second, .unset] [(.long (ja + jb))])) (fun _ k => XS.ladd X36.here hx rfl (hb hby at_46) rfl k) ?_
    refine own_go (st' := T36.setTop (mkF m 49 #[.val (.int st), .val (.int sz), .val (.long ja), .second, .val (.long jb), .second, .val (.long jc), .second, .val (.long jd), .second, .val (.int (2 : Int32)), .val (.ref b32), .val (.long (ja + jb)), .second, .unset] [])) (fun _ k => XS.lstore X36.here hx rfl (hb hby at_47) rfl (l' := #[.val (.int st), .val (.int sz), .val (.long ja), .second, .val (.long jb), .second, .val (.long jc), .second, .val (.long jd), .second, .val (.int (2 : Int32)), .val (.ref b32), .val (.long (ja + jb)), .second, .unset]) rfl k) ?_
    refine own_go (st' := T36.setTop (mkF m 51 #[.val (.int st), .val (.int sz), .val (.long ja), .second, .val (.long jb), .second, .val (.long jc), .second, .val (.long jd), .second, .val (.int (2 : Int32)), .val (.ref b32), .val (.long (ja + jb)), .second, .unset] [(.int (2 : Int32))])) (fun _ k => XS.iload X36.here hx rfl (hb hby at_49) rfl k) ?_
    refine own_go (st' := T36.setTop (mkF m 52 #[.val (.int st), .val (.int sz), .val (.long ja), .second, .val (.long jb), .second, .val (.long jc), .second, .val (.long jd), .second, .val (.int (2 : Int32)), .val (.ref b32), .val (.long (ja + jb)), .second, .unset] [(.int (2 : Int32)), (.int (2 : Int32))])) (fun _ k => XS.iconst X36.here hx rfl (hb hby at_51) k) ?_
    have hc37 : ¬ ((2 : Int32) < (2 : Int32)) := by decide
    refine own_go (st' := T36.setTop (mkF m 68 #[.val (.int st), .val (.int sz), .val (.long ja), .second, .val (.long jb), .second, .val (.long jc), .second, .val (.long jd), .second, .val (.int (2 : Int32)), .val (.ref b32), .val (.long (ja + jb)), .second, .unset] [])) (fun _ k => XS.icmpYes X36.here hx rfl (pc0 := 52) (pc' := 68) rfl (hb hby at_52) rfl (flt hc37).2.2.2 (by decide) (by decide) k) ?_
    refine own_go (st' := T36.setTop (mkF m 70 #[.val (.int st), .val (.int sz), .val (.long ja), .second, .val (.long jb), .second, .val (.long jc), .second, .val (.long jd), .second, .val (.int (2 : Int32)), .val (.ref b32), .val (.long (ja + jb)), .second, .unset] [(.int (2 : Int32))])) (fun _ k => XS.iload X36.here hx rfl (hb hby at_68) rfl k) ?_
    refine own_go (st' := T36.setTop (mkF m 71 #[.val (.int st), .val (.int sz), .val (.long ja), .second, .val (.long jb), .second, .val (.long jc), .second, .val (.long jd), .second, .val (.int (2 : Int32)), .val (.ref b32), .val (.long (ja + jb)), .second, .unset] [(.int (3 : Int32)), (.int (2 : Int32))])) (fun _ k => XS.iconst X36.here hx rfl (hb hby at_70) k) ?_
    have hc38 : ¬ ((3 : Int32) < (2 : Int32)) := by decide
    refine own_go (st' := T36.setTop (mkF m 87 #[.val (.int st), .val (.int sz), .val (.long ja), .second, .val (.long jb), .second, .val (.long jc), .second, .val (.long jd), .second, .val (.int (2 : Int32)), .val (.ref b32), .val (.long (ja + jb)), .second, .unset] [])) (fun _ k => XS.icmpYes X36.here hx rfl (pc0 := 71) (pc' := 87) rfl (hb hby at_71) rfl (flt hc38).2.2.2 (by decide) (by decide) k) ?_
    obtain ⟨T39, h39, X39, e39, E39, A39, D39, -, st39⟩ := newO X36 hx hZ hown (hw _ (List.mem_of_getElem? (i := 2) rfl)) (hw _ (List.mem_of_getElem? (i := 3) rfl)) (hw _ (List.mem_of_getElem? (i := 4) rfl)) e36 (g := (mkF m 87 #[.val (.int st), .val (.int sz), .val (.long ja), .second, .val (.long jb), .second, .val (.long jc), .second, .val (.long jd), .second, .val (.int (2 : Int32)), .val (.ref b32), .val (.long (ja + jb)), .second, .unset] [])) rfl (hb hby at_87) (by decide) (by decide)
    obtain ⟨b39, g39⟩ : ∃ z, z = h36.size := ⟨_, rfl⟩
    rw [← g39] at A39 D39 st39
    have sz39 : h36.size ≤ h39.size := E39.1
    have lt39 : b39 < h39.size := A39.lt
    have f40 : Fld Z h39 b39 "com/example/millwright/millwright/cut/Pattern" "stock" "I" (.int (0 : Int32)) := D39 (Or.inr (hw _ (List.mem_of_getElem? (i := 12) rfl))) (ty := .int) (by decide)
    have f41 : Fld Z h39 b39 "com/example/millwright/millwright/cut/Pattern" "counts" "[J" .null := D39 (Or.inr (hw _ (List.mem_of_getElem? (i := 14) rfl))) (ty := (.array .long)) (by decide)
    have f42 : Fld Z h39 b39 "com/example/millwright/millwright/cut/Pattern" "hash" "I" (.int (0 : Int32)) := D39 (Or.inr (hw _ (List.mem_of_getElem? (i := 20) rfl))) (ty := .int) (by decide)
    refine own_go (st' := T39.setTop (mkF m 90 #[.val (.int st), .val (.int sz), .val (.long ja), .second, .val (.long jb), .second, .val (.long jc), .second, .val (.long jd), .second, .val (.int (2 : Int32)), .val (.ref b32), .val (.long (ja + jb)), .second, .unset] [(.ref b39)])) (st39) ?_
    refine own_go (st' := T39.setTop (mkF m 91 #[.val (.int st), .val (.int sz), .val (.long ja), .second, .val (.long jb), .second, .val (.long jc), .second, .val (.long jd), .second, .val (.int (2 : Int32)), .val (.ref b32), .val (.long (ja + jb)), .second, .unset] [(.ref b39), (.ref b39)])) (fun _ k => XS.dup X39.here hx rfl (hb hby at_90) rfl rfl k) ?_
    refine own_go (st' := T39.setTop (mkF m 92 #[.val (.int st), .val (.int sz), .val (.long ja), .second, .val (.long jb), .second, .val (.long jc), .second, .val (.long jd), .second, .val (.int (2 : Int32)), .val (.ref b32), .val (.long (ja + jb)), .second, .unset] [(.int st), (.ref b39), (.ref b39)])) (fun _ k => XS.iloadN X39.here hx rfl (hb hby at_91) rfl k) ?_
    refine own_go (st' := T39.setTop (mkF m 94 #[.val (.int st), .val (.int sz), .val (.long ja), .second, .val (.long jb), .second, .val (.long jc), .second, .val (.long jd), .second, .val (.int (2 : Int32)), .val (.ref b32), .val (.long (ja + jb)), .second, .unset] [(.ref b32), (.int st), (.ref b39), (.ref b39)])) (fun _ k => XS.aload X39.here hx rfl (hb hby at_92) rfl rfl k) ?_
    have c44 : Arv Z h39 b32 k32 .long (2 : Int32) [(.long ja), (.long jb)] (.long (0 : Int64)) := (v36.ext E39)
    obtain ⟨_, _, ⟨T43, LC43, kC43, nC43⟩, -, X43, ⟨Lc43, hQ43, lq43, yq43, zq43⟩, st43⟩ := X39.specialBack hx (y := (⟨"com/example/millwright/millwright/cut/Pattern", "<init>", "(I[J)V"⟩ : MethodName)) rfl hown (mvT hZ (hw _ (List.mem_of_getElem? (i := 5) rfl))) (mvT hZ (hw _ (List.mem_of_getElem? (i := 6) rfl))) (mvT hZ (hw _ (List.mem_of_getElem? (i := 7) rfl))) (by decide) (backOf (W := 1) (rm1_2 l Z a0 hw [] b39 st b32 k32 (0 : Int32) (0 : Int32) ja jb h39 n0 (by omega) A39 f40 f41 f42 c44 (by omega) (by first | assumption | exact Ne.symm (by assumption) | (apply Nat.ne_of_lt; omega) | (apply Nat.ne_of_gt; omega))) hZ (hw _ (List.mem_of_getElem? (i := 7) rfl)) (hw _ (List.mem_of_getElem? (i := 4) rfl)) (by decide) (by decide)) (g := (mkF m 94 #[.val (.int st), .val (.int sz), .val (.long ja), .second, .val (.long jb), .second, .val (.long jc), .second, .val (.long jd), .second, .val (.int (2 : Int32)), .val (.ref b32), .val (.long (ja + jb)), .second, .unset] [(.ref b32), (.int st), (.ref b39), (.ref b39)])) rfl (by rw [hml]; rfl) (Steps.refl _) (a := b39) (argsL := [(.int st), (.ref b32)]) (rest := [(.ref b39)]) (lenOf pd_1 rfl) rfl (by show 2 * 0 + _ ≤ _; exact Nat.le_of_eq rfl) (hb hby at_94) (fun _ _ => ⟨rfl, e39, (by decide : 2 + 0 ≤ _), (by decide : 5 + 0 ≤ _)⟩)
    dsimp only [Pt.U, Pt.locs, Pt.cells, Pt.slots] at X43 lq43 yq43 zq43 st43 hQ43
    subst lq43 yq43 zq43
    obtain ⟨h43, e43⟩ : ∃ z, T43.heap = z := ⟨_, rfl⟩
    rw [e43] at hQ43
    obtain ⟨rfl, Nq43, K43, g43_0, g43_1⟩ := hQ43
    have sz43 : h39.size ≤ h43.size := K43.1
    have N43 := Fr.app N36 Nq43
    have lt43_1 : b39 < h43.size := g43_0.lt
    refine own_go (st' := T43.setTop (mkF m 97 #[.val (.int st), .val (.int sz), .val (.long ja), .second, .val (.long jb), .second, .val (.long jc), .second, .val (.long jd), .second, .val (.int (2 : Int32)), .val (.ref b32), .val (.long (ja + jb)), .second, .unset] [(.ref b39)])) (fun _ k => st43.trans k) ?_
    refine own_go (st' := T43.setTop (mkF m 99 #[.val (.int st), .val (.int sz), .val (.long ja), .second, .val (.long jb), .second, .val (.long jc), .second, .val (.long jd), .second, .val (.int (2 : Int32)), .val (.ref b32), .val (.long (ja + jb)), .second, .val (.ref b39)] [])) (fun _ k => XS.astore X43.here hx rfl (hb hby at_97) rfl rfl (l' := #[.val (.int st), .val (.int sz), .val (.long ja), .second, .val (.long jb), .second, .val (.long jc), .second, .val (.long jd), .second, .val (.int (2 : Int32)), .val (.ref b32), .val (.long (ja + jb)), .second, .val (.ref b39)]) rfl k) ?_
    refine own_go (st' := T43.setTop (mkF m 101 #[.val (.int st), .val (.int sz), .val (.long ja), .second, .val (.long jb), .second, .val (.long jc), .second, .val (.long jd), .second, .val (.int (2 : Int32)), .val (.ref b32), .val (.long (ja + jb)), .second, .val (.ref b39)] [(.ref b39)])) (fun _ k => XS.aload X43.here hx rfl (hb hby at_99) rfl rfl k) ?_
    have c46 : Arv Z h43 b32 k32 .long (2 : Int32) [(.long ja), (.long jb)] (.long (0 : Int64)) := (c44.keep K43 (ninS (by first | assumption | exact Ne.symm (by assumption) | (apply Nat.ne_of_lt; omega) | (apply Nat.ne_of_gt; omega)) nin0))
    obtain ⟨cq45, kq45, q45a, q45b, q45c⟩ := isOf hZ e43 g43_0
    obtain ⟨_, _, ⟨T45, LC45, kC45, nC45⟩, -, X45, ⟨Lc45, hQ45, lq45, yq45, zq45⟩, st45⟩ := X43.virtualBack hx (y := (⟨"com/example/millwright/millwright/cut/Pattern", "pieceCount", "()J"⟩ : MethodName)) (z := (⟨"com/example/millwright/millwright/cut/Pattern", "pieceCount", "()J"⟩ : MethodName)) hown (mvT hZ (hw _ (List.mem_of_getElem? (i := 21) rfl))) (mvT hZ (hw _ (List.mem_of_getElem? (i := 22) rfl))) (notFace_of_selects (args := #[]) (mvT hZ (hw _ (List.mem_of_getElem? (i := 24) rfl)))) (mvT hZ (hw _ (List.mem_of_getElem? (i := 24) rfl))) (mvT hZ (hw _ (List.mem_of_getElem? (i := 23) rfl))) (by decide) (backOf (W := 0) (rm4_2 l Z a0 hw [] b39 b32 k32 ja jb h43 n0 (by omega) g43_1 c46) hZ (hw _ (List.mem_of_getElem? (i := 25) rfl)) (hw _ (List.mem_of_getElem? (i := 4) rfl)) (by decide) (by decide)) q45a q45c (g := (mkF m 101 #[.val (.int st), .val (.int sz), .val (.long ja), .second, .val (.long jb), .second, .val (.long jc), .second, .val (.long jd), .second, .val (.int (2 : Int32)), .val (.ref b32), .val (.long (ja + jb)), .second, .val (.ref b39)] [(.ref b39)])) rfl (by rw [hml]; rfl) (Steps.refl _) (argsL := []) (rest := []) (lenOf pd_2 rfl) rfl (by show 2 * 0 + _ ≤ _; exact Nat.le_of_eq rfl) (hb hby at_101) (fun _ _ => ⟨rfl, e43, (by decide : 2 + 0 ≤ _), (by decide : 5 + 0 ≤ _)⟩)
    dsimp only [Pt.U, Pt.locs, Pt.cells, Pt.slots] at X45 lq45 yq45 zq45 st45 hQ45
    subst lq45 yq45 zq45
    obtain ⟨rfl, Nq45, eq45⟩ := hQ45
    have N45 := Fr.app N43 Nq45
    refine own_go (st' := T45.setTop (mkF m 104 #[.val (.int st), .val (.int sz), .val (.long ja), .second, .val (.long jb), .second, .val (.long jc), .second, .val (.long jd), .second, .val (.int (2 : Int32)), .val (.ref b32), .val (.long (ja + jb)), .second, .val (.ref b39)] [(.long (((0 : Int64) + ja) + jb))])) (fun _ k => st45.trans k) ?_
    refine own_go (st' := T45.setTop (mkF m 106 #[.val (.int st), .val (.int sz), .val (.long ja), .second, .val (.long jb), .second, .val (.long jc), .second, .val (.long jd), .second, .val (.int (2 : Int32)), .val (.ref b32), .val (.long (ja + jb)), .second, .val (.ref b39)] [(.long (ja + jb)), (.long (((0 : Int64) + ja) + jb))])) (fun _ k => XS.lload X45.here hx rfl (hb hby at_104) rfl k) ?_
    refine own_go (st' := T45.setTop (mkF m 107 #[.val (.int st), .val (.int sz), .val (.long ja), .second, .val (.long jb), .second, .val (.long jc), .second, .val (.long jd), .second, .val (.int (2 : Int32)), .val (.ref b32), .val (.long (ja + jb)), .second, .val (.ref b39)] [(.int (lcmpW (((0 : Int64) + ja) + jb) (ja + jb)))])) (fun _ k => XS.lcmp X45.here hx rfl (hb hby at_106) rfl k) ?_
    have hc47 : (((0 : Int64) + ja) + jb) = (ja + jb) := by rw [Int64.zero_add]
    refine own_go (st' := T45.setTop (mkF m 110 #[.val (.int st), .val (.int sz), .val (.long ja), .second, .val (.long jb), .second, .val (.long jc), .second, .val (.long jd), .second, .val (.int (2 : Int32)), .val (.ref b32), .val (.long (ja + jb)), .second, .val (.ref b39)] [])) (fun _ k => XS.ifNo X45.here hx rfl (hb hby at_107) rfl ((if0 _ _).trans (teq ((lw_eq (((0 : Int64) + ja) + jb) (ja + jb)).mpr hc47)).2) k) ?_
    refine own_go (st' := T45.setTop (mkF m 111 #[.val (.int st), .val (.int sz), .val (.long ja), .second, .val (.long jb), .second, .val (.long jc), .second, .val (.long jd), .second, .val (.int (2 : Int32)), .val (.ref b32), .val (.long (ja + jb)), .second, .val (.ref b39)] [(.int (1 : Int32))])) (fun _ k => XS.iconst X45.here hx rfl (hb hby at_110) k) ?_
    refine own_go (st' := T45.setTop (mkF m 115 #[.val (.int st), .val (.int sz), .val (.long ja), .second, .val (.long jb), .second, .val (.long jc), .second, .val (.long jd), .second, .val (.int (2 : Int32)), .val (.ref b32), .val (.long (ja + jb)), .second, .val (.ref b39)] [(.int (1 : Int32))])) (fun _ k => XS.goto X45.here hx rfl (pc0 := 111) (pc' := 115) rfl (hb hby at_111) (by decide) (by decide) k) ?_
    obtain ⟨fs, hr, hrun, hended, hW, hsame⟩ := X45.leave (v := some (.int (1 : Int32))) (fun h => by rw [Bd.returns] at h; cases h)
    refine ⟨_, _, ?_, hP _ _ hrun hended ⟨_, _, rfl, ?_, ⟨_, rfl⟩, hW, hsame.mono (by decide) (by decide)⟩⟩
    · exact retN X45 hx (t := .boolean) Bd.returns (by simp) (hb hby at_115) hr
    · show Qrm0 Z st sz ja jb jc jd h0 n0 _ T45.heap _
      rw [eq45]
      exact ⟨rfl, N45, trivial⟩
  · --
    rw [hm]
    refine own_go (st' := s₁.setTop (mkF m 8 #[.val (.int st), .val (.int sz), .val (.long ja), .second, .val (.long jb), .second, .val (.long jc), .second, .val (.long jd), .second, .val (.int (3 : Int32)), .unset, .unset, .unset, .unset] [])) (fun _ k => XS.istore X0.here hx rfl (hb hby at_6) rfl (l' := #[.val (.int st), .val (.int sz), .val (.long ja), .second, .val (.long jb), .second, .val (.long jc), .second, .val (.long jd), .second, .val (.int (3 : Int32)), .unset, .unset, .unset, .unset]) rfl k) ?_
    refine own_go (st' := s₁.setTop (mkF m 10 #[.val (.int st), .val (.int sz), .val (.long ja), .second, .val (.long jb), .second, .val (.long jc), .second, .val (.long jd), .second, .val (.int (3 : Int32)), .unset, .unset, .unset, .unset] [(.int (3 : Int32))])) (fun _ k => XS.iload X0.here hx rfl (hb hby at_8) rfl k) ?_
    obtain ⟨T49, h49, k49, X49, e49, E49, A49, st49⟩ := newP X0 hx hZ (hw _ (List.mem_of_getElem? (i := 1) rfl)) e0 (g := (mkF m 10 #[.val (.int st), .val (.int sz), .val (.long ja), .second, .val (.long jb), .second, .val (.long jc), .second, .val (.long jd), .second, .val (.int (3 : Int32)), .unset, .unset, .unset, .unset] [(.int (3 : Int32))])) rfl (hb hby at_10) rfl (by decide) (cap := 3) (by decide) (by decide) (by decide) (by decide)
    obtain ⟨b49, g49⟩ : ∃ z, z = h0.size := ⟨_, rfl⟩
    rw [← g49] at A49 st49
    have sz49 : h0.size ≤ h49.size := E49.1
    have lt49 : b49 < h49.size := A49.lt
    have v49 : Arv Z h49 b49 k49 .long (3 : Int32) [(.long (0 : Int64)), (.long (0 : Int64)), (.long (0 : Int64))] (.long (0 : Int64)) := (Arv.new A49 (by decide)).pad (pad_rep [] (.long (0 : Int64)) 3)
    refine own_go (st' := T49.setTop (mkF m 12 #[.val (.int st), .val (.int sz), .val (.long ja), .second, .val (.long jb), .second, .val (.long jc), .second, .val (.long jd), .second, .val (.int (3 : Int32)), .unset, .unset, .unset, .unset] [(.ref b49)])) (st49) ?_
    refine own_go (st' := T49.setTop (mkF m 14 #[.val (.int st), .val (.int sz), .val (.long ja), .second, .val (.long jb), .second, .val (.long jc), .second, .val (.long jd), .second, .val (.int (3 : Int32)), .val (.ref b49), .unset, .unset, .unset] [])) (fun _ k => XS.astore X49.here hx rfl (hb hby at_12) rfl rfl (l' := #[.val (.int st), .val (.int sz), .val (.long ja), .second, .val (.long jb), .second, .val (.long jc), .second, .val (.long jd), .second, .val (.int (3 : Int32)), .val (.ref b49), .unset, .unset, .unset]) rfl k) ?_
    refine own_go (st' := T49.setTop (mkF m 15 #[.val (.int st), .val (.int sz), .val (.long ja), .second, .val (.long jb), .second, .val (.long jc), .second, .val (.long jd), .second, .val (.int (3 : Int32)), .val (.ref b49), .unset, .unset, .unset] [(.long (0 : Int64))])) (fun _ k => XS.lconst X49.here hx rfl (hb hby at_14) k) ?_
    refine own_go (st' := T49.setTop (mkF m 17 #[.val (.int st), .val (.int sz), .val (.long ja), .second, .val (.long jb), .second, .val (.long jc), .second, .val (.long jd), .second, .val (.int (3 : Int32)), .val (.ref b49), .val (.long (0 : Int64)), .second, .unset] [])) (fun _ k => XS.lstore X49.here hx rfl (hb hby at_15) rfl (l' := #[.val (.int st), .val (.int sz), .val (.long ja), .second, .val (.long jb), .second, .val (.long jc), .second, .val (.long jd), .second, .val (.int (3 : Int32)), .val (.ref b49), .val (.long (0 : Int64)), .second, .unset]) rfl k) ?_
    refine own_go (st' := T49.setTop (mkF m 19 #[.val (.int st), .val (.int sz), .val (.long ja), .second, .val (.long jb), .second, .val (.long jc), .second, .val (.long jd), .second, .val (.int (3 : Int32)), .val (.ref b49), .val (.long (0 : Int64)), .second, .unset] [(.int (3 : Int32))])) (fun _ k => XS.iload X49.here hx rfl (hb hby at_17) rfl k) ?_
    have hc50 : (0 : Int32) < (3 : Int32) := by decide
    refine own_go (st' := T49.setTop (mkF m 22 #[.val (.int st), .val (.int sz), .val (.long ja), .second, .val (.long jb), .second, .val (.long jc), .second, .val (.long jd), .second, .val (.int (3 : Int32)), .val (.ref b49), .val (.long (0 : Int64)), .second, .unset] [])) (fun _ k => XS.ifNo X49.here hx rfl (hb hby at_19) rfl ((if0 _ _).trans (tlt hc50).2.2.2) k) ?_
    refine own_go (st' := T49.setTop (mkF m 24 #[.val (.int st), .val (.int sz), .val (.long ja), .second, .val (.long jb), .second, .val (.long jc), .second, .val (.long jd), .second, .val (.int (3 : Int32)), .val (.ref b49), .val (.long (0 : Int64)), .second, .unset] [(.ref b49)])) (fun _ k => XS.aload X49.here hx rfl (hb hby at_22) rfl rfl k) ?_
    refine own_go (st' := T49.setTop (mkF m 25 #[.val (.int st), .val (.int sz), .val (.long ja), .second, .val (.long jb), .second, .val (.long jc), .second, .val (.long jd), .second, .val (.int (3 : Int32)), .val (.ref b49), .val (.long (0 : Int64)), .second, .unset] [(.int (0 : Int32)), (.ref b49)])) (fun _ k => XS.iconst X49.here hx rfl (hb hby at_24) k) ?_
    refine own_go (st' := T49.setTop (mkF m 26 #[.val (.int st), .val (.int sz), .val (.long ja), .second, .val (.long jb), .second, .val (.long jc), .second, .val (.long jd), .second, .val (.int (3 : Int32)), .val (.ref b49), .val (.long (0 : Int64)), .second, .unset] [(.long ja), (.int (0 : Int32)), (.ref b49)])) (fun _ k => XS.lloadN X49.here hx rfl (hb hby at_25) rfl k) ?_
    obtain ⟨cl51, Ar51, qc51, S51, M51, H51, G51⟩ := id v49
    have hin51 : ¬ ((0 : Int32) < 0 ∨ cl51.slots.size ≤ ((0 : Int32)).toNatClampNeg) := (inb_of S51 ⟨by decide, by decide⟩)
    obtain ⟨T51, h51, X51, e51, W51, st51⟩ := stJ X49 hx hZ e49 Ar51 (j := (0 : Int32)) hin51 (g := (mkF m 26 #[.val (.int st), .val (.int sz), .val (.long ja), .second, .val (.long jb), .second, .val (.long jc), .second, .val (.long jd), .second, .val (.int (3 : Int32)), .val (.ref b49), .val (.long (0 : Int64)), .second, .unset] [(.long ja), (.int (0 : Int32)), (.ref b49)])) rfl rfl (hb hby at_26)
    have sz51 : h51.size = h49.size := W51.size
    have N51 := Fr.snoc X51 N0 (by omega)
    have v51 : Arv Z h51 b49 k49 .long (3 : Int32) [(.long ja), (.long (0 : Int64)), (.long (0 : Int64))] (.long (0 : Int64)) := Arv.set Ar51 qc51 S51 M51 H51 G51 rfl W51 0 rfl (Nat.le_of_ble_eq_true rfl)
    refine own_go (st' := T51.setTop (mkF m 27 #[.val (.int st), .val (.int sz), .val (.long ja), .second, .val (.long jb), .second, .val (.long jc), .second, .val (.long jd), .second, .val (.int (3 : Int32)), .val (.ref b49), .val (.long (0 : Int64)), .second, .unset] [])) (st51) ?_
    refine own_go (st' := T51.setTop (mkF m 28 #[.val (.int st), .val (.int sz), .val (.long ja), .second, .val (.long jb), .second, .val (.long jc), .second, .val (.long jd), .second, .val (.int (3 : Int32)), .val (.ref b49), .val (.long (0 : Int64)), .second, .unset] [(.long ja)])) (fun _ k => XS.lloadN X51.here hx rfl (hb hby at_27) rfl k) ?_
    refine own_go (st' := T51.setTop (mkF m 30 #[.val (.int st), .val (.int sz), .val (.long ja), .second, .val (.long jb), .second, .val (.long jc), .second, .val (.long jd), .second, .val (.int (3 : Int32)), .val (.ref b49), .val (.long ja), .second, .unset] [])) (fun _ k => XS.lstore X51.here hx rfl (hb hby at_28) rfl (l' := #[.val (.int st), .val (.int sz), .val (.long ja), .second, .val (.long jb), .second, .val (.long jc), .second, .val (.long jd), .second, .val (.int (3 : Int32)), .val (.ref b49), .val (.long ja), .second, .unset]) rfl k) ?_
    refine own_go (st' := T51.setTop (mkF m 32 #[.val (.int st), .val (.int sz), .val (.long ja), .second, .val (.long jb), .second, .val (.long jc), .second, .val (.long jd), .second, .val (.int (3 : Int32)), .val (.ref b49), .val (.long ja), .second, .unset] [(.int (3 : Int32))])) (fun _ k => XS.iload X51.here hx rfl (hb hby at_30) rfl k) ?_
    refine own_go (st' := T51.setTop (mkF m 33 #[.val (.int st), .val (.int sz), .val (.long ja), .second, .val (.long jb), .second, .val (.long jc), .second, .val (.long jd), .second, .val (.int (3 : Int32)), .val (.ref b49), .val (.long ja), .second, .unset] [(.int (1 : Int32)), (.int (3 : Int32))])) (fun _ k => XS.iconst X51.here hx rfl (hb hby at_32) k) ?_
    have hc52 : (1 : Int32) < (3 : Int32) := by decide
    refine own_go (st' := T51.setTop (mkF m 36 #[.val (.int st), .val (.int sz), .val (.long ja), .second, .val (.long jb), .second, .val (.long jc), .second, .val (.long jd), .second, .val (.int (3 : Int32)), .val (.ref b49), .val (.long ja), .second, .unset] [])) (fun _ k => XS.icmpNo X51.here hx rfl (hb hby at_33) rfl (tlt hc52).2.2.2 k) ?_
    refine own_go (st' := T51.setTop (mkF m 38 #[.val (.int st), .val (.int sz), .val (.long ja), .second, .val (.long jb), .second, .val (.long jc), .second, .val (.long jd), .second, .val (.int (3 : Int32)), .val (.ref b49), .val (.long ja), .second, .unset] [(.ref b49)])) (fun _ k => XS.aload X51.here hx rfl (hb hby at_36) rfl rfl k) ?_
    refine own_go (st' := T51.setTop (mkF m 39 #[.val (.int st), .val (.int sz), .val (.long ja), .second, .val (.long jb), .second, .val (.long jc), .second, .val (.long jd), .second, .val (.int (3 : Int32)), .val (.ref b49), .val (.long ja), .second, .unset] [(.int (1 : Int32)), (.ref b49)])) (fun _ k => XS.iconst X51.here hx rfl (hb hby at_38) k) ?_
    refine own_go (st' := T51.setTop (mkF m 41 #[.val (.int st), .val (.int sz), .val (.long ja), .second, .val (.long jb), .second, .val (.long jc), .second, .val (.long jd), .second, .val (.int (3 : Int32)), .val (.ref b49), .val (.long ja), .second, .unset] [(.long jb), (.int (1 : Int32)), (.ref b49)])) (fun _ k => XS.lload X51.here hx rfl (hb hby at_39) rfl k) ?_
    obtain ⟨cl53, Ar53, qc53, S53, M53, H53, G53⟩ := id v51
    have hin53 : ¬ ((1 : Int32) < 0 ∨ cl53.slots.size ≤ ((1 : Int32)).toNatClampNeg) := (inb_of S53 ⟨by decide, by decide⟩)
    obtain ⟨T53, h53, X53, e53, W53, st53⟩ := stJ X51 hx hZ e51 Ar53 (j := (1 : Int32)) hin53 (g := (mkF m 41 #[.val (.int st), .val (.int sz), .val (.long ja), .second, .val (.long jb), .second, .val (.long jc), .second, .val (.long jd), .second, .val (.int (3 : Int32)), .val (.ref b49), .val (.long ja), .second, .unset] [(.long jb), (.int (1 : Int32)), (.ref b49)])) rfl rfl (hb hby at_41)
    have sz53 : h53.size = h51.size := W53.size
    have N53 := Fr.snoc X53 N51 (by omega)
    have v53 : Arv Z h53 b49 k49 .long (3 : Int32) [(.long ja), (.long jb), (.long (0 : Int64))] (.long (0 : Int64)) := Arv.set Ar53 qc53 S53 M53 H53 G53 rfl W53 1 rfl (Nat.le_of_ble_eq_true rfl)
    refine own_go (st' := T53.setTop (mkF m 42 #[.val (.int st), .val (.int sz), .val (.long ja), .second, .val (.long jb), .second, .val (.long jc), .second, .val (.long jd), .second, .val (.int (3 : Int32)), .val (.ref b49), .val (.long ja), .second, .unset] [])) (st53) ?_
    refine own_go (st' := T53.setTop (mkF m 44 #[.val (.int st), .val (.int sz), .val (.long ja), .second, .val (.long jb), .second, .val (.long jc), .second, .val (.long jd), .second, .val (.int (3 : Int32)), .val (.ref b49), .val (.long ja), .second, .unset] [(.long ja)])) (fun _ k => XS.lload X53.here hx rfl (hb hby at_42) rfl k) ?_
    refine own_go (st' := T53.setTop (mkF m 46 #[.val (.int st), .val (.int sz), .val (.long ja), .second, .val (.long jb), .second, .val (.long jc), .second, .val (.long jd), .second, .val (.int (3 : Int32)), .val (.ref b49), .val (.long ja), .second, .unset] [(.long jb), (.long ja)])) (fun _ k => XS.lload X53.here hx rfl (hb hby at_44) rfl k) ?_
    refine own_go (st' := T53.setTop (mkF m 47 #[.val (.int st), .val (.int sz), .val (.long ja), .second, .val (.long jb), .second, .val (.long jc), .second, .val (.long jd), .second, .val (.int (3 : Int32)), .val (.ref b49), .val (.long ja), .second, .unset] [(.long (ja + jb))])) (fun _ k => XS.ladd X53.here hx rfl (hb hby at_46) rfl k) ?_
    refine own_go (st' := T53.setTop (mkF m 49 #[.val (.int st), .val (.int sz), .val (.long ja), .second, .val (.long jb), .second, .val (.long jc), .second, .val (.long jd), .second, .val (.int (3 : Int32)), .val (.ref b49), .val (.long (ja + jb)), .second, .unset] [])) (fun _ k => XS.lstore X53.here hx rfl (hb hby at_47) rfl (l' := #[.val (.int st), .val (.int sz), .val (.long ja), .second, .val (.long jb), .second, .val (.long jc), .second, .val (.long jd), .second, .val (.int (3 : Int32)), .val (.ref b49), .val (.long (ja + jb)), .second, .unset]) rfl k) ?_
    refine own_go (st' := T53.setTop (mkF m 51 #[.val (.int st), .val (.int sz), .val (.long ja), .second, .val (.long jb), .second, .val (.long jc), .second, .val (.long jd), .second, .val (.int (3 : Int32)), .val (.ref b49), .val (.long (ja + jb)), .second, .unset] [(.int (3 : Int32))])) (fun _ k => XS.iload X53.here hx rfl (hb hby at_49) rfl k) ?_
    refine own_go (st' := T53.setTop (mkF m 52 #[.val (.int st), .val (.int sz), .val (.long ja), .second, .val (.long jb), .second, .val (.long jc), .second, .val (.long jd), .second, .val (.int (3 : Int32)), .val (.ref b49), .val (.long (ja + jb)), .second, .unset] [(.int (2 : Int32)), (.int (3 : Int32))])) (fun _ k => XS.iconst X53.here hx rfl (hb hby at_51) k) ?_
    have hc54 : (2 : Int32) < (3 : Int32) := by decide
    refine own_go (st' := T53.setTop (mkF m 55 #[.val (.int st), .val (.int sz), .val (.long ja), .second, .val (.long jb), .second, .val (.long jc), .second, .val (.long jd), .second, .val (.int (3 : Int32)), .val (.ref b49), .val (.long (ja + jb)), .second, .unset] [])) (fun _ k => XS.icmpNo X53.here hx rfl (hb hby at_52) rfl (tlt hc54).2.2.2 k) ?_
    refine own_go (st' := T53.setTop (mkF m 57 #[.val (.int st), .val (.int sz), .val (.long ja), .second, .val (.long jb), .second, .val (.long jc), .second, .val (.long jd), .second, .val (.int (3 : Int32)), .val (.ref b49), .val (.long (ja + jb)), .second, .unset] [(.ref b49)])) (fun _ k => XS.aload X53.here hx rfl (hb hby at_55) rfl rfl k) ?_
    refine own_go (st' := T53.setTop (mkF m 58 #[.val (.int st), .val (.int sz), .val (.long ja), .second, .val (.long jb), .second, .val (.long jc), .second, .val (.long jd), .second, .val (.int (3 : Int32)), .val (.ref b49), .val (.long (ja + jb)), .second, .unset] [(.int (2 : Int32)), (.ref b49)])) (fun _ k => XS.iconst X53.here hx rfl (hb hby at_57) k) ?_
    refine own_go (st' := T53.setTop (mkF m 60 #[.val (.int st), .val (.int sz), .val (.long ja), .second, .val (.long jb), .second, .val (.long jc), .second, .val (.long jd), .second, .val (.int (3 : Int32)), .val (.ref b49), .val (.long (ja + jb)), .second, .unset] [(.long jc), (.int (2 : Int32)), (.ref b49)])) (fun _ k => XS.lload X53.here hx rfl (hb hby at_58) rfl k) ?_
    obtain ⟨cl55, Ar55, qc55, S55, M55, H55, G55⟩ := id v53
    have hin55 : ¬ ((2 : Int32) < 0 ∨ cl55.slots.size ≤ ((2 : Int32)).toNatClampNeg) := (inb_of S55 ⟨by decide, by decide⟩)
    obtain ⟨T55, h55, X55, e55, W55, st55⟩ := stJ X53 hx hZ e53 Ar55 (j := (2 : Int32)) hin55 (g := (mkF m 60 #[.val (.int st), .val (.int sz), .val (.long ja), .second, .val (.long jb), .second, .val (.long jc), .second, .val (.long jd), .second, .val (.int (3 : Int32)), .val (.ref b49), .val (.long (ja + jb)), .second, .unset] [(.long jc), (.int (2 : Int32)), (.ref b49)])) rfl rfl (hb hby at_60)
    have sz55 : h55.size = h53.size := W55.size
    have N55 := Fr.snoc X55 N53 (by omega)
    have v55 : Arv Z h55 b49 k49 .long (3 : Int32) [(.long ja), (.long jb), (.long jc)] (.long (0 : Int64)) := Arv.set Ar55 qc55 S55 M55 H55 G55 rfl W55 2 rfl (Nat.le_of_ble_eq_true rfl)
    refine own_go (st' := T55.setTop (mkF m 61 #[.val (.int st), .val (.int sz), .val (.long ja), .second, .val (.long jb), .second, .val (.long jc), .second, .val (.long jd), .second, .val (.int (3 : Int32)), .val (.ref b49), .val (.long (ja + jb)), .second, .unset] [])) (st55) ?_
    refine own_go (st' := T55.setTop (mkF m 63 #[.val (.int st), .val (.int sz), .val (.long ja), .second, .val (.long jb), .second, .val (.long jc), .second, .val (.long jd), .second, .val (.int (3 : Int32)), .val (.ref b49), .val (.long (ja + jb)), .second, .unset] [(.long (ja + jb))])) (fun _ k => XS.lload X55.here hx rfl (hb hby at_61) rfl k) ?_
    refine own_go (st' := T55.setTop (mkF m 65 #[.val (.int st), .val (.int sz), .val (.long ja), .second, .val (.long jb), .second, .val (.long jc), .second, .val (.long jd), .second, .val (.int (3 : Int32)), .val (.ref b49), .val (.long (ja + jb)), .second, .unset] [(.long jc), (.long (ja + jb))])) (fun _ k => XS.lload X55.here hx rfl (hb hby at_63) rfl k) ?_
    refine own_go (st' := T55.setTop (mkF m 66 #[.val (.int st), .val (.int sz), .val (.long ja), .second, .val (.long jb), .second, .val (.long jc), .second, .val (.long jd), .second, .val (.int (3 : Int32)), .val (.ref b49), .val (.long (ja + jb)), .second, .unset] [(.long ((ja + jb) + jc))])) (fun _ k => XS.ladd X55.here hx rfl (hb hby at_65) rfl k) ?_
    refine own_go (st' := T55.setTop (mkF m 68 #[.val (.int st), .val (.int sz), .val (.long ja), .second, .val (.long jb), .second, .val (.long jc), .second, .val (.long jd), .second, .val (.int (3 : Int32)), .val (.ref b49), .val (.long ((ja + jb) + jc)), .second, .unset] [])) (fun _ k => XS.lstore X55.here hx rfl (hb hby at_66) rfl (l' := #[.val (.int st), .val (.int sz), .val (.long ja), .second, .val (.long jb), .second, .val (.long jc), .second, .val (.long jd), .second, .val (.int (3 : Int32)), .val (.ref b49), .val (.long ((ja + jb) + jc)), .second, .unset]) rfl k) ?_
    refine own_go (st' := T55.setTop (mkF m 70 #[.val (.int st), .val (.int sz), .val (.long ja), .second, .val (.long jb), .second, .val (.long jc), .second, .val (.long jd), .second, .val (.int (3 : Int32)), .val (.ref b49), .val (.long ((ja + jb) + jc)), .second, .unset] [(.int (3 : Int32))])) (fun _ k => XS.iload X55.here hx rfl (hb hby at_68) rfl k) ?_
    refine own_go (st' := T55.setTop (mkF m 71 #[.val (.int st), .val (.int sz), .val (.long ja), .second, .val (.long jb), .second, .val (.long jc), .second, .val (.long jd), .second, .val (.int (3 : Int32)), .val (.ref b49), .val (.long ((ja + jb) + jc)), .second, .unset] [(.int (3 : Int32)), (.int (3 : Int32))])) (fun _ k => XS.iconst X55.here hx rfl (hb hby at_70) k) ?_
    have hc56 : ¬ ((3 : Int32) < (3 : Int32)) := by decide
    refine own_go (st' := T55.setTop (mkF m 87 #[.val (.int st), .val (.int sz), .val (.long ja), .second, .val (.long jb), .second, .val (.long jc), .second, .val (.long jd), .second, .val (.int (3 : Int32)), .val (.ref b49), .val (.long ((ja + jb) + jc)), .second, .unset] [])) (fun _ k => XS.icmpYes X55.here hx rfl (pc0 := 71) (pc' := 87) rfl (hb hby at_71) rfl (flt hc56).2.2.2 (by decide) (by decide) k) ?_
    obtain ⟨T57, h57, X57, e57, E57, A57, D57, -, st57⟩ := newO X55 hx hZ hown (hw _ (List.mem_of_getElem? (i := 2) rfl)) (hw _ (List.mem_of_getElem? (i := 3) rfl)) (hw _ (List.mem_of_getElem? (i := 4) rfl)) e55 (g := (mkF m 87 #[.val (.int st), .val (.int sz), .val (.long ja), .second, .val (.long jb), .second, .val (.long jc), .second, .val (.long jd), .second, .val (.int (3 : Int32)), .val (.ref b49), .val (.long ((ja + jb) + jc)), .second, .unset] [])) rfl (hb hby at_87) (by decide) (by decide)
    obtain ⟨b57, g57⟩ : ∃ z, z = h55.size := ⟨_, rfl⟩
    rw [← g57] at A57 D57 st57
    have sz57 : h55.size ≤ h57.size := E57.1
    have lt57 : b57 < h57.size := A57.lt
    have f58 : Fld Z h57 b57 "com/example/millwright/millwright/cut/Pattern" "stock" "I" (.int (0 : Int32)) := D57 (Or.inr (hw _ (List.mem_of_getElem? (i := 12) rfl))) (ty := .int) (by decide)
    have f59 : Fld Z h57 b57 "com/example/millwright/millwright/cut/Pattern" "counts" "[J" .null := D57 (Or.inr (hw _ (List.mem_of_getElem? (i := 14) rfl))) (ty := (.array .long)) (by decide)
    have f60 : Fld Z h57 b57 "com/example/millwright/millwright/cut/Pattern" "hash" "I" (.int (0 : Int32)) := D57 (Or.inr (hw _ (List.mem_of_getElem? (i := 20) rfl))) (ty := .int) (by decide)
    refine own_go (st' := T57.setTop (mkF m 90 #[.val (.int st), .val (.int sz), .val (.long ja), .second, .val (.long jb), .second, .val (.long jc), .second, .val (.long jd), .second, .val (.int (3 : Int32)), .val (.ref b49), .val (.long ((ja + jb) + jc)), .second, .unset] [(.ref b57)])) (st57) ?_
    refine own_go (st' := T57.setTop (mkF m 91 #[.val (.int st), .val (.int sz), .val (.long ja), .second, .val (.long jb), .second, .val (.long jc), .second, .val (.long jd), .second, .val (.int (3 : Int32)), .val (.ref b49), .val (.long ((ja + jb) + jc)), .second, .unset] [(.ref b57), (.ref b57)])) (fun _ k => XS.dup X57.here hx rfl (hb hby at_90) rfl rfl k) ?_
    refine own_go (st' := T57.setTop (mkF m 92 #[.val (.int st), .val (.int sz), .val (.long ja), .second, .val (.long jb), .second, .val (.long jc), .second, .val (.long jd), .second, .val (.int (3 : Int32)), .val (.ref b49), .val (.long ((ja + jb) + jc)), .second, .unset] [(.int st), (.ref b57), (.ref b57)])) (fun _ k => XS.iloadN X57.here hx rfl (hb hby at_91) rfl k) ?_
    refine own_go (st' := T57.setTop (mkF m 94 #[.val (.int st), .val (.int sz), .val (.long ja), .second, .val (.long jb), .second, .val (.long jc), .second, .val (.long jd), .second, .val (.int (3 : Int32)), .val (.ref b49), .val (.long ((ja + jb) + jc)), .second, .unset] [(.ref b49), (.int st), (.ref b57), (.ref b57)])) (fun _ k => XS.aload X57.here hx rfl (hb hby at_92) rfl rfl k) ?_
    have c62 : Arv Z h57 b49 k49 .long (3 : Int32) [(.long ja), (.long jb), (.long jc)] (.long (0 : Int64)) := (v55.ext E57)
    obtain ⟨_, _, ⟨T61, LC61, kC61, nC61⟩, -, X61, ⟨Lc61, hQ61, lq61, yq61, zq61⟩, st61⟩ := X57.specialBack hx (y := (⟨"com/example/millwright/millwright/cut/Pattern", "<init>", "(I[J)V"⟩ : MethodName)) rfl hown (mvT hZ (hw _ (List.mem_of_getElem? (i := 5) rfl))) (mvT hZ (hw _ (List.mem_of_getElem? (i := 6) rfl))) (mvT hZ (hw _ (List.mem_of_getElem? (i := 7) rfl))) (by decide) (backOf (W := 1) (rm1_3 l Z a0 hw [] b57 st b49 k49 (0 : Int32) (0 : Int32) ja jb jc h57 n0 (by omega) A57 f58 f59 f60 c62 (by omega) (by first | assumption | exact Ne.symm (by assumption) | (apply Nat.ne_of_lt; omega) | (apply Nat.ne_of_gt; omega))) hZ (hw _ (List.mem_of_getElem? (i := 7) rfl)) (hw _ (List.mem_of_getElem? (i := 4) rfl)) (by decide) (by decide)) (g := (mkF m 94 #[.val (.int st), .val (.int sz), .val (.long ja), .second, .val (.long jb), .second, .val (.long jc), .second, .val (.long jd), .second, .val (.int (3 : Int32)), .val (.ref b49), .val (.long ((ja + jb) + jc)), .second, .unset] [(.ref b49), (.int st), (.ref b57), (.ref b57)])) rfl (by rw [hml]; rfl) (Steps.refl _) (a := b57) (argsL := [(.int st), (.ref b49)]) (rest := [(.ref b57)]) (lenOf pd_1 rfl) rfl (by show 2 * 0 + _ ≤ _; exact Nat.le_of_eq rfl) (hb hby at_94) (fun _ _ => ⟨rfl, e57, (by decide : 2 + 0 ≤ _), (by decide : 6 + 0 ≤ _)⟩)
    dsimp only [Pt.U, Pt.locs, Pt.cells, Pt.slots] at X61 lq61 yq61 zq61 st61 hQ61
    subst lq61 yq61 zq61
    obtain ⟨h61, e61⟩ : ∃ z, T61.heap = z := ⟨_, rfl⟩
    rw [e61] at hQ61
    obtain ⟨rfl, Nq61, K61, g61_0, g61_1⟩ := hQ61
    have sz61 : h57.size ≤ h61.size := K61.1
    have N61 := Fr.app N55 Nq61
    have lt61_1 : b57 < h61.size := g61_0.lt
    refine own_go (st' := T61.setTop (mkF m 97 #[.val (.int st), .val (.int sz), .val (.long ja), .second, .val (.long jb), .second, .val (.long jc), .second, .val (.long jd), .second, .val (.int (3 : Int32)), .val (.ref b49), .val (.long ((ja + jb) + jc)), .second, .unset] [(.ref b57)])) (fun _ k => st61.trans k) ?_
    refine own_go (st' := T61.setTop (mkF m 99 #[.val (.int st), .val (.int sz), .val (.long ja), .second, .val (.long jb), .second, .val (.long jc), .second, .val (.long jd), .second, .val (.int (3 : Int32)), .val (.ref b49), .val (.long ((ja + jb) + jc)), .second, .val (.ref b57)] [])) (fun _ k => XS.astore X61.here hx rfl (hb hby at_97) rfl rfl (l' := #[.val (.int st), .val (.int sz), .val (.long ja), .second, .val (.long jb), .second, .val (.long jc), .second, .val (.long jd), .second, .val (.int (3 : Int32)), .val (.ref b49), .val (.long ((ja + jb) + jc)), .second, .val (.ref b57)]) rfl k) ?_
    refine own_go (st' := T61.setTop (mkF m 101 #[.val (.int st), .val (.int sz), .val (.long ja), .second, .val (.long jb), .second, .val (.long jc), .second, .val (.long jd), .second, .val (.int (3 : Int32)), .val (.ref b49), .val (.long ((ja + jb) + jc)), .second, .val (.ref b57)] [(.ref b57)])) (fun _ k => XS.aload X61.here hx rfl (hb hby at_99) rfl rfl k) ?_
    have c64 : Arv Z h61 b49 k49 .long (3 : Int32) [(.long ja), (.long jb), (.long jc)] (.long (0 : Int64)) := (c62.keep K61 (ninS (by first | assumption | exact Ne.symm (by assumption) | (apply Nat.ne_of_lt; omega) | (apply Nat.ne_of_gt; omega)) nin0))
    obtain ⟨cq63, kq63, q63a, q63b, q63c⟩ := isOf hZ e61 g61_0
    obtain ⟨_, _, ⟨T63, LC63, kC63, nC63⟩, -, X63, ⟨Lc63, hQ63, lq63, yq63, zq63⟩, st63⟩ := X61.virtualBack hx (y := (⟨"com/example/millwright/millwright/cut/Pattern", "pieceCount", "()J"⟩ : MethodName)) (z := (⟨"com/example/millwright/millwright/cut/Pattern", "pieceCount", "()J"⟩ : MethodName)) hown (mvT hZ (hw _ (List.mem_of_getElem? (i := 21) rfl))) (mvT hZ (hw _ (List.mem_of_getElem? (i := 22) rfl))) (notFace_of_selects (args := #[]) (mvT hZ (hw _ (List.mem_of_getElem? (i := 24) rfl)))) (mvT hZ (hw _ (List.mem_of_getElem? (i := 24) rfl))) (mvT hZ (hw _ (List.mem_of_getElem? (i := 23) rfl))) (by decide) (backOf (W := 0) (rm4_3 l Z a0 hw [] b57 b49 k49 ja jb jc h61 n0 (by omega) g61_1 c64) hZ (hw _ (List.mem_of_getElem? (i := 25) rfl)) (hw _ (List.mem_of_getElem? (i := 4) rfl)) (by decide) (by decide)) q63a q63c (g := (mkF m 101 #[.val (.int st), .val (.int sz), .val (.long ja), .second, .val (.long jb), .second, .val (.long jc), .second, .val (.long jd), .second, .val (.int (3 : Int32)), .val (.ref b49), .val (.long ((ja + jb) + jc)), .second, .val (.ref b57)] [(.ref b57)])) rfl (by rw [hml]; rfl) (Steps.refl _) (argsL := []) (rest := []) (lenOf pd_2 rfl) rfl (by show 2 * 0 + _ ≤ _; exact Nat.le_of_eq rfl) (hb hby at_101) (fun _ _ => ⟨rfl, e61, (by decide : 2 + 0 ≤ _), (by decide : 6 + 0 ≤ _)⟩)
    dsimp only [Pt.U, Pt.locs, Pt.cells, Pt.slots] at X63 lq63 yq63 zq63 st63 hQ63
    subst lq63 yq63 zq63
    obtain ⟨rfl, Nq63, eq63⟩ := hQ63
    have N63 := Fr.app N61 Nq63
    refine own_go (st' := T63.setTop (mkF m 104 #[.val (.int st), .val (.int sz), .val (.long ja), .second, .val (.long jb), .second, .val (.long jc), .second, .val (.long jd), .second, .val (.int (3 : Int32)), .val (.ref b49), .val (.long ((ja + jb) + jc)), .second, .val (.ref b57)] [(.long ((((0 : Int64) + ja) + jb) + jc))])) (fun _ k => st63.trans k) ?_
    refine own_go (st' := T63.setTop (mkF m 106 #[.val (.int st), .val (.int sz), .val (.long ja), .second, .val (.long jb), .second, .val (.long jc), .second, .val (.long jd), .second, .val (.int (3 : Int32)), .val (.ref b49), .val (.long ((ja + jb) + jc)), .second, .val (.ref b57)] [(.long ((ja + jb) + jc)), (.long ((((0 : Int64) + ja) + jb) + jc))])) (fun _ k => XS.lload X63.here hx rfl (hb hby at_104) rfl k) ?_
    refine own_go (st' := T63.setTop (mkF m 107 #[.val (.int st), .val (.int sz), .val (.long ja), .second, .val (.long jb), .second, .val (.long jc), .second, .val (.long jd), .second, .val (.int (3 : Int32)), .val (.ref b49), .val (.long ((ja + jb) + jc)), .second, .val (.ref b57)] [(.int (lcmpW ((((0 : Int64) + ja) + jb) + jc) ((ja + jb) + jc)))])) (fun _ k => XS.lcmp X63.here hx rfl (hb hby at_106) rfl k) ?_
    have hc65 : ((((0 : Int64) + ja) + jb) + jc) = ((ja + jb) + jc) := by rw [Int64.zero_add]
    refine own_go (st' := T63.setTop (mkF m 110 #[.val (.int st), .val (.int sz), .val (.long ja), .second, .val (.long jb), .second, .val (.long jc), .second, .val (.long jd), .second, .val (.int (3 : Int32)), .val (.ref b49), .val (.long ((ja + jb) + jc)), .second, .val (.ref b57)] [])) (fun _ k => XS.ifNo X63.here hx rfl (hb hby at_107) rfl ((if0 _ _).trans (teq ((lw_eq ((((0 : Int64) + ja) + jb) + jc) ((ja + jb) + jc)).mpr hc65)).2) k) ?_
    refine own_go (st' := T63.setTop (mkF m 111 #[.val (.int st), .val (.int sz), .val (.long ja), .second, .val (.long jb), .second, .val (.long jc), .second, .val (.long jd), .second, .val (.int (3 : Int32)), .val (.ref b49), .val (.long ((ja + jb) + jc)), .second, .val (.ref b57)] [(.int (1 : Int32))])) (fun _ k => XS.iconst X63.here hx rfl (hb hby at_110) k) ?_
    refine own_go (st' := T63.setTop (mkF m 115 #[.val (.int st), .val (.int sz), .val (.long ja), .second, .val (.long jb), .second, .val (.long jc), .second, .val (.long jd), .second, .val (.int (3 : Int32)), .val (.ref b49), .val (.long ((ja + jb) + jc)), .second, .val (.ref b57)] [(.int (1 : Int32))])) (fun _ k => XS.goto X63.here hx rfl (pc0 := 111) (pc' := 115) rfl (hb hby at_111) (by decide) (by decide) k) ?_
    obtain ⟨fs, hr, hrun, hended, hW, hsame⟩ := X63.leave (v := some (.int (1 : Int32))) (fun h => by rw [Bd.returns] at h; cases h)
    refine ⟨_, _, ?_, hP _ _ hrun hended ⟨_, _, rfl, ?_, ⟨_, rfl⟩, hW, hsame.mono (by decide) (by decide)⟩⟩
    · exact retN X63 hx (t := .boolean) Bd.returns (by simp) (hb hby at_115) hr
    · show Qrm0 Z st sz ja jb jc jd h0 n0 _ T63.heap _
      rw [eq63]
      exact ⟨rfl, N63, trivial⟩
  · --
    rw [hm]
    refine own_go (st' := s₁.setTop (mkF m 8 #[.val (.int st), .val (.int sz), .val (.long ja), .second, .val (.long jb), .second, .val (.long jc), .second, .val (.long jd), .second, .val (.int (4 : Int32)), .unset, .unset, .unset, .unset] [])) (fun _ k => XS.istore X0.here hx rfl (hb hby at_6) rfl (l' := #[.val (.int st), .val (.int sz), .val (.long ja), .second, .val (.long jb), .second, .val (.long jc), .second, .val (.long jd), .second, .val (.int (4 : Int32)), .unset, .unset, .unset, .unset]) rfl k) ?_
    refine own_go (st' := s₁.setTop (mkF m 10 #[.val (.int st), .val (.int sz), .val (.long ja), .second, .val (.long jb), .second, .val (.long jc), .second, .val (.long jd), .second, .val (.int (4 : Int32)), .unset, .unset, .unset, .unset] [(.int (4 : Int32))])) (fun _ k => XS.iload X0.here hx rfl (hb hby at_8) rfl k) ?_
    obtain ⟨T67, h67, k67, X67, e67, E67, A67, st67⟩ := newP X0 hx hZ (hw _ (List.mem_of_getElem? (i := 1) rfl)) e0 (g := (mkF m 10 #[.val (.int st), .val (.int sz), .val (.long ja), .second, .val (.long jb), .second, .val (.long jc), .second, .val (.long jd), .second, .val (.int (4 : Int32)), .unset, .unset, .unset, .unset] [(.int (4 : Int32))])) rfl (hb hby at_10) rfl (by decide) (cap := 4) (by decide) (by decide) (by decide) (by decide)
    obtain ⟨b67, g67⟩ : ∃ z, z = h0.size := ⟨_, rfl⟩
    rw [← g67] at A67 st67
    have sz67 : h0.size ≤ h67.size := E67.1
    have lt67 : b67 < h67.size := A67.lt
    have v67 : Arv Z h67 b67 k67 .long (4 : Int32) [(.long (0 : Int64)), (.long (0 : Int64)), (.long (0 : Int64)), (.long (0 : Int64))] (.long (0 : Int64)) := (Arv.new A67 (by decide)).pad (pad_rep [] (.long (0 : Int64)) 4)
    refine own_go (st' := T67.setTop (mkF m 12 #[.val (.int st), .val (.int sz), .val (.long ja), .second, .val (.long jb), .second, .val (.long jc), .second, .val (.long jd), .second, .val (.int (4 : Int32)), .unset, .unset, .unset, .unset] [(.ref b67)])) (st67) ?_
    refine own_go (st' := T67.setTop (mkF m 14 #[.val (.int st), .val (.int sz), .val (.long ja), .second, .val (.long jb), .second, .val (.long jc), .second, .val (.long jd), .second, .val (.int (4 : Int32)), .val (.ref b67), .unset, .unset, .unset] [])) (fun _ k => XS.astore X67.here hx rfl (hb hby at_12) rfl rfl (l' := #[.val (.int st), .val (.int sz), .val (.long ja), .second, .val (.long jb), .second, .val (.long jc), .second, .val (.long jd), .second, .val (.int (4 : Int32)), .val (.ref b67), .unset, .unset, .unset]) rfl k) ?_
    refine own_go (st' := T67.setTop (mkF m 15 #[.val (.int st), .val (.int sz), .val (.long ja), .second, .val (.long jb), .second, .val (.long jc), .second, .val (.long jd), .second, .val (.int (4 : Int32)), .val (.ref b67), .unset, .unset, .unset] [(.long (0 : Int64))])) (fun _ k => XS.lconst X67.here hx rfl (hb hby at_14) k) ?_
    refine own_go (st' := T67.setTop (mkF m 17 #[.val (.int st), .val (.int sz), .val (.long ja), .second, .val (.long jb), .second, .val (.long jc), .second, .val (.long jd), .second, .val (.int (4 : Int32)), .val (.ref b67), .val (.long (0 : Int64)), .second, .unset] [])) (fun _ k => XS.lstore X67.here hx rfl (hb hby at_15) rfl (l' := #[.val (.int st), .val (.int sz), .val (.long ja), .second, .val (.long jb), .second, .val (.long jc), .second, .val (.long jd), .second, .val (.int (4 : Int32)), .val (.ref b67), .val (.long (0 : Int64)), .second, .unset]) rfl k) ?_
    refine own_go (st' := T67.setTop (mkF m 19 #[.val (.int st), .val (.int sz), .val (.long ja), .second, .val (.long jb), .second, .val (.long jc), .second, .val (.long jd), .second, .val (.int (4 : Int32)), .val (.ref b67), .val (.long (0 : Int64)), .second, .unset] [(.int (4 : Int32))])) (fun _ k => XS.iload X67.here hx rfl (hb hby at_17) rfl k) ?_
    have hc68 : (0 : Int32) < (4 : Int32) := by decide
    refine own_go (st' := T67.setTop (mkF m 22 #[.val (.int st), .val (.int sz), .val (.long ja), .second, .val (.long jb), .second, .val (.long jc), .second, .val (.long jd), .second, .val (.int (4 : Int32)), .val (.ref b67), .val (.long (0 : Int64)), .second, .unset] [])) (fun _ k => XS.ifNo X67.here hx rfl (hb hby at_19) rfl ((if0 _ _).trans (tlt hc68).2.2.2) k) ?_
    refine own_go (st' := T67.setTop (mkF m 24 #[.val (.int st), .val (.int sz), .val (.long ja), .second, .val (.long jb), .second, .val (.long jc), .second, .val (.long jd), .second, .val (.int (4 : Int32)), .val (.ref b67), .val (.long (0 : Int64)), .second, .unset] [(.ref b67)])) (fun _ k => XS.aload X67.here hx rfl (hb hby at_22) rfl rfl k) ?_
    refine own_go (st' := T67.setTop (mkF m 25 #[.val (.int st), .val (.int sz), .val (.long ja), .second, .val (.long jb), .second, .val (.long jc), .second, .val (.long jd), .second, .val (.int (4 : Int32)), .val (.ref b67), .val (.long (0 : Int64)), .second, .unset] [(.int (0 : Int32)), (.ref b67)])) (fun _ k => XS.iconst X67.here hx rfl (hb hby at_24) k) ?_
    refine own_go (st' := T67.setTop (mkF m 26 #[.val (.int st), .val (.int sz), .val (.long ja), .second, .val (.long jb), .second, .val (.long jc), .second, .val (.long jd), .second, .val (.int (4 : Int32)), .val (.ref b67), .val (.long (0 : Int64)), .second, .unset] [(.long ja), (.int (0 : Int32)), (.ref b67)])) (fun _ k => XS.lloadN X67.here hx rfl (hb hby at_25) rfl k) ?_
    obtain ⟨cl69, Ar69, qc69, S69, M69, H69, G69⟩ := id v67
    have hin69 : ¬ ((0 : Int32) < 0 ∨ cl69.slots.size ≤ ((0 : Int32)).toNatClampNeg) := (inb_of S69 ⟨by decide, by decide⟩)
    obtain ⟨T69, h69, X69, e69, W69, st69⟩ := stJ X67 hx hZ e67 Ar69 (j := (0 : Int32)) hin69 (g := (mkF m 26 #[.val (.int st), .val (.int sz), .val (.long ja), .second, .val (.long jb), .second, .val (.long jc), .second, .val (.long jd), .second, .val (.int (4 : Int32)), .val (.ref b67), .val (.long (0 : Int64)), .second, .unset] [(.long ja), (.int (0 : Int32)), (.ref b67)])) rfl rfl (hb hby at_26)
    have sz69 : h69.size = h67.size := W69.size
    have N69 := Fr.snoc X69 N0 (by omega)
    have v69 : Arv Z h69 b67 k67 .long (4 : Int32) [(.long ja), (.long (0 : Int64)), (.long (0 : Int64)), (.long (0 : Int64))] (.long (0 : Int64)) := Arv.set Ar69 qc69 S69 M69 H69 G69 rfl W69 0 rfl (Nat.le_of_ble_eq_true rfl)
    refine own_go (st' := T69.setTop (mkF m 27 #[.val (.int st), .val (.int sz), .val (.long ja), .second, .val (.long jb), .second, .val (.long jc), .second, .val (.long jd), .second, .val (.int (4 : Int32)), .val (.ref b67), .val (.long (0 : Int64)), .second, .unset] [])) (st69) ?_
    refine own_go (st' := T69.setTop (mkF m 28 #[.val (.int st), .val (.int sz), .val (.long ja), .second, .val (.long jb), .second, .val (.long jc), .second, .val (.long jd), .second, .val (.int (4 : Int32)), .val (.ref b67), .val (.long (0 : Int64)), .second, .unset] [(.long ja)])) (fun _ k => XS.lloadN X69.here hx rfl (hb hby at_27) rfl k) ?_
    refine own_go (st' := T69.setTop (mkF m 30 #[.val (.int st), .val (.int sz), .val (.long ja), .second, .val (.long jb), .second, .val (.long jc), .second, .val (.long jd), .second, .val (.int (4 : Int32)), .val (.ref b67), .val (.long ja), .second, .unset] [])) (fun _ k => XS.lstore X69.here hx rfl (hb hby at_28) rfl (l' := #[.val (.int st), .val (.int sz), .val (.long ja), .second, .val (.long jb), .second, .val (.long jc), .second, .val (.long jd), .second, .val (.int (4 : Int32)), .val (.ref b67), .val (.long ja), .second, .unset]) rfl k) ?_
    refine own_go (st' := T69.setTop (mkF m 32 #[.val (.int st), .val (.int sz), .val (.long ja), .second, .val (.long jb), .second, .val (.long jc), .second, .val (.long jd), .second, .val (.int (4 : Int32)), .val (.ref b67), .val (.long ja), .second, .unset] [(.int (4 : Int32))])) (fun _ k => XS.iload X69.here hx rfl (hb hby at_30) rfl k) ?_
    refine own_go (st' := T69.setTop (mkF m 33 #[.val (.int st), .val (.int sz), .val (.long ja), .second, .val (.long jb), .second, .val (.long jc), .second, .val (.long jd), .second, .val (.int (4 : Int32)), .val (.ref b67), .val (.long ja), .second, .unset] [(.int (1 : Int32)), (.int (4 : Int32))])) (fun _ k => XS.iconst X69.here hx rfl (hb hby at_32) k) ?_
    have hc70 : (1 : Int32) < (4 : Int32) := by decide
    refine own_go (st' := T69.setTop (mkF m 36 #[.val (.int st), .val (.int sz), .val (.long ja), .second, .val (.long jb), .second, .val (.long jc), .second, .val (.long jd), .second, .val (.int (4 : Int32)), .val (.ref b67), .val (.long ja), .second, .unset] [])) (fun _ k => XS.icmpNo X69.here hx rfl (hb hby at_33) rfl (tlt hc70).2.2.2 k) ?_
    refine own_go (st' := T69.setTop (mkF m 38 #[.val (.int st), .val (.int sz), .val (.long ja), .second, .val (.long jb), .second, .val (.long jc), .second, .val (.long jd), .second, .val (.int (4 : Int32)), .val (.ref b67), .val (.long ja), .second, .unset] [(.ref b67)])) (fun _ k => XS.aload X69.here hx rfl (hb hby at_36) rfl rfl k) ?_
    refine own_go (st' := T69.setTop (mkF m 39 #[.val (.int st), .val (.int sz), .val (.long ja), .second, .val (.long jb), .second, .val (.long jc), .second, .val (.long jd), .second, .val (.int (4 : Int32)), .val (.ref b67), .val (.long ja), .second, .unset] [(.int (1 : Int32)), (.ref b67)])) (fun _ k => XS.iconst X69.here hx rfl (hb hby at_38) k) ?_
    refine own_go (st' := T69.setTop (mkF m 41 #[.val (.int st), .val (.int sz), .val (.long ja), .second, .val (.long jb), .second, .val (.long jc), .second, .val (.long jd), .second, .val (.int (4 : Int32)), .val (.ref b67), .val (.long ja), .second, .unset] [(.long jb), (.int (1 : Int32)), (.ref b67)])) (fun _ k => XS.lload X69.here hx rfl (hb hby at_39) rfl k) ?_
    obtain ⟨cl71, Ar71, qc71, S71, M71, H71, G71⟩ := id v69
    have hin71 : ¬ ((1 : Int32) < 0 ∨ cl71.slots.size ≤ ((1 : Int32)).toNatClampNeg) := (inb_of S71 ⟨by decide, by decide⟩)
    obtain ⟨T71, h71, X71, e71, W71, st71⟩ := stJ X69 hx hZ e69 Ar71 (j := (1 : Int32)) hin71 (g := (mkF m 41 #[.val (.int st), .val (.int sz), .val (.long ja), .second, .val (.long jb), .second, .val (.long jc), .second, .val (.long jd), .second, .val (.int (4 : Int32)), .val (.ref b67), .val (.long ja), .second, .unset] [(.long jb), (.int (1 : Int32)), (.ref b67)])) rfl rfl (hb hby at_41)
    have sz71 : h71.size = h69.size := W71.size
    have N71 := Fr.snoc X71 N69 (by omega)
    have v71 : Arv Z h71 b67 k67 .long (4 : Int32) [(.long ja), (.long jb), (.long (0 : Int64)), (.long (0 : Int64))] (.long (0 : Int64)) := Arv.set Ar71 qc71 S71 M71 H71 G71 rfl W71 1 rfl (Nat.le_of_ble_eq_true rfl)
    refine own_go (st' := T71.setTop (mkF m 42 #[.val (.int st), .val (.int sz), .val (.long ja), .second, .val (.long jb), .second, .val (.long jc), .second, .val (.long jd), .second, .val (.int (4 : Int32)), .val (.ref b67), .val (.long ja), .second, .unset] [])) (st71) ?_
    refine own_go (st' := T71.setTop (mkF m 44 #[.val (.int st), .val (.int sz), .val (.long ja), .second, .val (.long jb), .second, .val (.long jc), .second, .val (.long jd), .second, .val (.int (4 : Int32)), .val (.ref b67), .val (.long ja), .second, .unset] [(.long ja)])) (fun _ k => XS.lload X71.here hx rfl (hb hby at_42) rfl k) ?_
    refine own_go (st' := T71.setTop (mkF m 46 #[.val (.int st), .val (.int sz), .val (.long ja), .second, .val (.long jb), .second, .val (.long jc), .second, .val (.long jd), .second, .val (.int (4 : Int32)), .val (.ref b67), .val (.long ja), .second, .unset] [(.long jb), (.long ja)])) (fun _ k => XS.lload X71.here hx rfl (hb hby at_44) rfl k) ?_
    refine own_go (st' := T71.setTop (mkF m 47 #[.val (.int st), .val (.int sz), .val (.long ja), .second, .val (.long jb), .second, .val (.long jc), .second, .val (.long jd), .second, .val (.int (4 : Int32)), .val (.ref b67), .val (.long ja), .second, .unset] [(.long (ja + jb))])) (fun _ k => XS.ladd X71.here hx rfl (hb hby at_46) rfl k) ?_
    refine own_go (st' := T71.setTop (mkF m 49 #[.val (.int st), .val (.int sz), .val (.long ja), .second, .val (.long jb), .second, .val (.long jc), .second, .val (.long jd), .second, .val (.int (4 : Int32)), .val (.ref b67), .val (.long (ja + jb)), .second, .unset] [])) (fun _ k => XS.lstore X71.here hx rfl (hb hby at_47) rfl (l' := #[.val (.int st), .val (.int sz), .val (.long ja), .second, .val (.long jb), .second, .val (.long jc), .second, .val (.long jd), .second, .val (.int (4 : Int32)), .val (.ref b67), .val (.long (ja + jb)), .second, .unset]) rfl k) ?_
    refine own_go (st' := T71.setTop (mkF m 51 #[.val (.int st), .val (.int sz), .val (.long ja), .second, .val (.long jb), .second, .val (.long jc), .second, .val (.long jd), .second, .val (.int (4 : Int32)), .val (.ref b67), .val (.long (ja + jb)), .second, .unset] [(.int (4 : Int32))])) (fun _ k => XS.iload X71.here hx rfl (hb hby at_49) rfl k) ?_
    refine own_go (st' := T71.setTop (mkF m 52 #[.val (.int st), .val (.int sz), .val (.long ja), .second, .val (.long jb), .second, .val (.long jc), .second, .val (.long jd), .second, .val (.int (4 : Int32)), .val (.ref b67), .val (.long (ja + jb)), .second, .unset] [(.int (2 : Int32)), (.int (4 : Int32))])) (fun _ k => XS.iconst X71.here hx rfl (hb hby at_51) k) ?_
    have hc72 : (2 : Int32) < (4 : Int32) := by decide
    refine own_go (st' := T71.setTop (mkF m 55 #[.val (.int st), .val (.int sz), .val (.long ja), .second, .val (.long jb), .second, .val (.long jc), .second, .val (.long jd), .second, .val (.int (4 : Int32)), .val (.ref b67), .val (.long (ja + jb)), .second, .unset] [])) (fun _ k => XS.icmpNo X71.here hx rfl (hb hby at_52) rfl (tlt hc72).2.2.2 k) ?_
    refine own_go (st' := T71.setTop (mkF m 57 #[.val (.int st), .val (.int sz), .val (.long ja), .second, .val (.long jb), .second, .val (.long jc), .second, .val (.long jd), .second, .val (.int (4 : Int32)), .val (.ref b67), .val (.long (ja + jb)), .second, .unset] [(.ref b67)])) (fun _ k => XS.aload X71.here hx rfl (hb hby at_55) rfl rfl k) ?_
    refine own_go (st' := T71.setTop (mkF m 58 #[.val (.int st), .val (.int sz), .val (.long ja), .second, .val (.long jb), .second, .val (.long jc), .second, .val (.long jd), .second, .val (.int (4 : Int32)), .val (.ref b67), .val (.long (ja + jb)), .second, .unset] [(.int (2 : Int32)), (.ref b67)])) (fun _ k => XS.iconst X71.here hx rfl (hb hby at_57) k) ?_
    refine own_go (st' := T71.setTop (mkF m 60 #[.val (.int st), .val (.int sz), .val (.long ja), .second, .val (.long jb), .second, .val (.long jc), .second, .val (.long jd), .second, .val (.int (4 : Int32)), .val (.ref b67), .val (.long (ja + jb)), .second, .unset] [(.long jc), (.int (2 : Int32)), (.ref b67)])) (fun _ k => XS.lload X71.here hx rfl (hb hby at_58) rfl k) ?_
    obtain ⟨cl73, Ar73, qc73, S73, M73, H73, G73⟩ := id v71
    have hin73 : ¬ ((2 : Int32) < 0 ∨ cl73.slots.size ≤ ((2 : Int32)).toNatClampNeg) := (inb_of S73 ⟨by decide, by decide⟩)
    obtain ⟨T73, h73, X73, e73, W73, st73⟩ := stJ X71 hx hZ e71 Ar73 (j := (2 : Int32)) hin73 (g := (mkF m 60 #[.val (.int st), .val (.int sz), .val (.long ja), .second, .val (.long jb), .second, .val (.long jc), .second, .val (.long jd), .second, .val (.int (4 : Int32)), .val (.ref b67), .val (.long (ja + jb)), .second, .unset] [(.long jc), (.int (2 : Int32)), (.ref b67)])) rfl rfl (hb hby at_60)
    have sz73 : h73.size = h71.size := W73.size
    have N73 := Fr.snoc X73 N71 (by omega)
    have v73 : Arv Z h73 b67 k67 .long (4 : Int32) [(.long ja), (.long jb), (.long jc), (.long (0 : Int64))] (.long (0 : Int64)) := Arv.set Ar73 qc73 S73 M73 H73 G73 rfl W73 2 rfl (Nat.le_of_ble_eq_true rfl)
    refine own_go (st' := T73.setTop (mkF m 61 #[.val (.int st), .val (.int sz), .val (.long ja), .second, .val (.long jb), .second, .val (.long jc), .second, .val (.long jd), .second, .val (.int (4 : Int32)), .val (.ref b67), .val (.long (ja + jb)), .second, .unset] [])) (st73) ?_
    refine own_go (st' := T73.setTop (mkF m 63 #[.val (.int st), .val (.int sz), .val (.long ja), .second, .val (.long jb), .second, .val (.long jc), .second, .val (.long jd), .second, .val (.int (4 : Int32)), .val (.ref b67), .val (.long (ja + jb)), .second, .unset] [(.long (ja + jb))])) (fun _ k => XS.lload X73.here hx rfl (hb hby at_61) rfl k) ?_
    refine own_go (st' := T73.setTop (mkF m 65 #[.val (.int st), .val (.int sz), .val (.long ja), .second, .val (.long jb), .second, .val (.long jc), .second, .val (.long jd), .second, .val (.int (4 : Int32)), .val (.ref b67), .val (.long (ja + jb)), .second, .unset] [(.long jc), (.long (ja + jb))])) (fun _ k => XS.lload X73.here hx rfl (hb hby at_63) rfl k) ?_
    refine own_go (st' := T73.setTop (mkF m 66 #[.val (.int st), .val (.int sz), .val (.long ja), .second, .val (.long jb), .second, .val (.long jc), .second, .val (.long jd), .second, .val (.int (4 : Int32)), .val (.ref b67), .val (.long (ja + jb)), .second, .unset] [(.long ((ja + jb) + jc))])) (fun _ k => XS.ladd X73.here hx rfl (hb hby at_65) rfl k) ?_
    refine own_go (st' := T73.setTop (mkF m 68 #[.val (.int st), .val (.int sz), .val (.long ja), .second, .val (.long jb), .second, .val (.long jc), .second, .val (.long jd), .second, .val (.int (4 : Int32)), .val (.ref b67), .val (.long ((ja + jb) + jc)), .second, .unset] [])) (fun _ k => XS.lstore X73.here hx rfl (hb hby at_66) rfl (l' := #[.val (.int st), .val (.int sz), .val (.long ja), .second, .val (.long jb), .second, .val (.long jc), .second, .val (.long jd), .second, .val (.int (4 : Int32)), .val (.ref b67), .val (.long ((ja + jb) + jc)), .second, .unset]) rfl k) ?_
    refine own_go (st' := T73.setTop (mkF m 70 #[.val (.int st), .val (.int sz), .val (.long ja), .second, .val (.long jb), .second, .val (.long jc), .second, .val (.long jd), .second, .val (.int (4 : Int32)), .val (.ref b67), .val (.long ((ja + jb) + jc)), .second, .unset] [(.int (4 : Int32))])) (fun _ k => XS.iload X73.here hx rfl (hb hby at_68) rfl k) ?_
    refine own_go (st' := T73.setTop (mkF m 71 #[.val (.int st), .val (.int sz), .val (.long ja), .second, .val (.long jb), .second, .val (.long jc), .second, .val (.long jd), .second, .val (.int (4 : Int32)), .val (.ref b67), .val (.long ((ja + jb) + jc)), .second, .unset] [(.int (3 : Int32)), (.int (4 : Int32))])) (fun _ k => XS.iconst X73.here hx rfl (hb hby at_70) k) ?_
    have hc74 : (3 : Int32) < (4 : Int32) := by decide
    refine own_go (st' := T73.setTop (mkF m 74 #[.val (.int st), .val (.int sz), .val (.long ja), .second, .val (.long jb), .second, .val (.long jc), .second, .val (.long jd), .second, .val (.int (4 : Int32)), .val (.ref b67), .val (.long ((ja + jb) + jc)), .second, .unset] [])) (fun _ k => XS.icmpNo X73.here hx rfl (hb hby at_71) rfl (tlt hc74).2.2.2 k) ?_
    refine own_go (st' := T73.setTop (mkF m 76 #[.val (.int st), .val (.int sz), .val (.long ja), .second, .val (.long jb), .second, .val (.long jc), .second, .val (.long jd), .second, .val (.int (4 : Int32)), .val (.ref b67), .val (.long ((ja + jb) + jc)), .second, .unset] [(.ref b67)])) (fun _ k => XS.aload X73.here hx rfl (hb hby at_74) rfl rfl k) ?_
    refine own_go (st' := T73.setTop (mkF m 77 #[.val (.int st), .val (.int sz), .val (.long ja), .second, .val (.long jb), .second, .val (.long jc), .second, .val (.long jd), .second, .val (.int (4 : Int32)), .val (.ref b67), .val (.long ((ja + jb) + jc)), .second, .unset] [(.int (3 : Int32)), (.ref b67)])) (fun _ k => XS.iconst X73.here hx rfl (hb hby at_76) k) ?_
    refine own_go (st' := T73.setTop (mkF m 79 #[.val (.int st), .val (.int sz), .val (.long ja), .second, .val (.long jb), .second, .val (.long jc), .second, .val (.long jd), .second, .val (.int (4 : Int32)), .val (.ref b67), .val (.long ((ja + jb) + jc)), .second, .unset] [(.long jd), (.int (3 : Int32)), (.ref b67)])) (fun _ k => XS.lload X73.here hx rfl (hb hby at_77) rfl k) ?_
    obtain ⟨cl75, Ar75, qc75, S75, M75, H75, G75⟩ := id v73
    have hin75 : ¬ ((3 : Int32) < 0 ∨ cl75.slots.size ≤ ((3 : Int32)).toNatClampNeg) := (inb_of S75 ⟨by decide, by decide⟩)
    obtain ⟨T75, h75, X75, e75, W75, st75⟩ := stJ X73 hx hZ e73 Ar75 (j := (3 : Int32)) hin75 (g := (mkF m 79 #[.val (.int st), .val (.int sz), .val (.long ja), .second, .val (.long jb), .second, .val (.long jc), .second, .val (.long jd), .second, .val (.int (4 : Int32)), .val (.ref b67), .val (.long ((ja + jb) + jc)), .second, .unset] [(.long jd), (.int (3 : Int32)), (.ref b67)])) rfl rfl (hb hby at_79)
    have sz75 : h75.size = h73.size := W75.size
    have N75 := Fr.snoc X75 N73 (by omega)
    have v75 : Arv Z h75 b67 k67 .long (4 : Int32) [(.long ja), (.long jb), (.long jc), (.long jd)] (.long (0 : Int64)) := Arv.set Ar75 qc75 S75 M75 H75 G75 rfl W75 3 rfl (Nat.le_of_ble_eq_true rfl)
    refine own_go (st' := T75.setTop (mkF m 80 #[.val (.int st), .val (.int sz), .val (.long ja), .second, .val (.long jb), .second, .val (.long jc), .second, .val (.long jd), .second, .val (.int (4 : Int32)), .val (.ref b67), .val (.long ((ja + jb) + jc)), .second, .unset] [])) (st75) ?_
    refine own_go (st' := T75.setTop (mkF m 82 #[.val (.int st), .val (.int sz), .val (.long ja), .second, .val (.long jb), .second, .val (.long jc), .second, .val (.long jd), .second, .val (.int (4 : Int32)), .val (.ref b67), .val (.long ((ja + jb) + jc)), .second, .unset] [(.long ((ja + jb) + jc))])) (fun _ k => XS.lload X75.here hx rfl (hb hby at_80) rfl k) ?_
    refine own_go (st' := T75.setTop (mkF m 84 #[.val (.int st), .val (.int sz), .val (.long ja), .second, .val (.long jb), .second, .val (.long jc), .second, .val (.long jd), .second, .val (.int (4 : Int32)), .val (.ref b67), .val (.long ((ja + jb) + jc)), .second, .unset] [(.long jd), (.long ((ja + jb) + jc))])) (fun _ k => XS.lload X75.here hx rfl (hb hby at_82) rfl k) ?_
    refine own_go (st' := T75.setTop (mkF m 85 #[.val (.int st), .val (.int sz), .val (.long ja), .second, .val (.long jb), .second, .val (.long jc), .second, .val (.long jd), .second, .val (.int (4 : Int32)), .val (.ref b67), .val (.long ((ja + jb) + jc)), .second, .unset] [(.long (((ja + jb) + jc) + jd))])) (fun _ k => XS.ladd X75.here hx rfl (hb hby at_84) rfl k) ?_
    refine own_go (st' := T75.setTop (mkF m 87 #[.val (.int st), .val (.int sz), .val (.long ja), .second, .val (.long jb), .second, .val (.long jc), .second, .val (.long jd), .second, .val (.int (4 : Int32)), .val (.ref b67), .val (.long (((ja + jb) + jc) + jd)), .second, .unset] [])) (fun _ k => XS.lstore X75.here hx rfl (hb hby at_85) rfl (l' := #[.val (.int st), .val (.int sz), .val (.long ja), .second, .val (.long jb), .second, .val (.long jc), .second, .val (.long jd), .second, .val (.int (4 : Int32)), .val (.ref b67), .val (.long (((ja + jb) + jc) + jd)), .second, .unset]) rfl k) ?_
    obtain ⟨T76, h76, X76, e76, E76, A76, D76, -, st76⟩ := newO X75 hx hZ hown (hw _ (List.mem_of_getElem? (i := 2) rfl)) (hw _ (List.mem_of_getElem? (i := 3) rfl)) (hw _ (List.mem_of_getElem? (i := 4) rfl)) e75 (g := (mkF m 87 #[.val (.int st), .val (.int sz), .val (.long ja), .second, .val (.long jb), .second, .val (.long jc), .second, .val (.long jd), .second, .val (.int (4 : Int32)), .val (.ref b67), .val (.long (((ja + jb) + jc) + jd)), .second, .unset] [])) rfl (hb hby at_87) (by decide) (by decide)
    obtain ⟨b76, g76⟩ : ∃ z, z = h75.size := ⟨_, rfl⟩
    rw [← g76] at A76 D76 st76
    have sz76 : h75.size ≤ h76.size := E76.1
    have lt76 : b76 < h76.size := A76.lt
    have f77 : Fld Z h76 b76 "com/example/millwright/millwright/cut/Pattern" "stock" "I" (.int (0 : Int32)) := D76 (Or.inr (hw _ (List.mem_of_getElem? (i := 12) rfl))) (ty := .int) (by decide)
    have f78 : Fld Z h76 b76 "com/example/millwright/millwright/cut/Pattern" "counts" "[J" .null := D76 (Or.inr (hw _ (List.mem_of_getElem? (i := 14) rfl))) (ty := (.array .long)) (by decide)
    have f79 : Fld Z h76 b76 "com/example/millwright/millwright/cut/Pattern" "hash" "I" (.int (0 : Int32)) := D76 (Or.inr (hw _ (List.mem_of_getElem? (i := 20) rfl))) (ty := .int) (by decide)
    refine own_go (st' := T76.setTop (mkF m 90 #[.val (.int st), .val (.int sz), .val (.long ja), .second, .val (.long jb), .second, .val (.long jc), .second, .val (.long jd), .second, .val (.int (4 : Int32)), .val (.ref b67), .val (.long (((ja + jb) + jc) + jd)), .second, .unset] [(.ref b76)])) (st76) ?_
    refine own_go (st' := T76.setTop (mkF m 91 #[.val (.int st), .val (.int sz), .val (.long ja), .second, .val (.long jb), .second, .val (.long jc), .second, .val (.long jd), .second, .val (.int (4 : Int32)), .val (.ref b67), .val (.long (((ja + jb) + jc) + jd)), .second, .unset] [(.ref b76), (.ref b76)])) (fun _ k => XS.dup X76.here hx rfl (hb hby at_90) rfl rfl k) ?_
    refine own_go (st' := T76.setTop (mkF m 92 #[.val (.int st), .val (.int sz), .val (.long ja), .second, .val (.long jb), .second, .val (.long jc), .second, .val (.long jd), .second, .val (.int (4 : Int32)), .val (.ref b67), .val (.long (((ja + jb) + jc) + jd)), .second, .unset] [(.int st), (.ref b76), (.ref b76)])) (fun _ k => XS.iloadN X76.here hx rfl (hb hby at_91) rfl k) ?_
    refine own_go (st' := T76.setTop (mkF m 94 #[.val (.int st), .val (.int sz), .val (.long ja), .second, .val (.long jb), .second, .val (.long jc), .second, .val (.long jd), .second, .val (.int (4 : Int32)), .val (.ref b67), .val (.long (((ja + jb) + jc) + jd)), .second, .unset] [(.ref b67), (.int st), (.ref b76), (.ref b76)])) (fun _ k => XS.aload X76.here hx rfl (hb hby at_92) rfl rfl k) ?_
    have c81 : Arv Z h76 b67 k67 .long (4 : Int32) [(.long ja), (.long jb), (.long jc), (.long jd)] (.long (0 : Int64)) := (v75.ext E76)
    obtain ⟨_, _, ⟨T80, LC80, kC80, nC80⟩, -, X80, ⟨Lc80, hQ80, lq80, yq80, zq80⟩, st80⟩ := X76.specialBack hx (y := (⟨"com/example/millwright/millwright/cut/Pattern", "<init>", "(I[J)V"⟩ : MethodName)) rfl hown (mvT hZ (hw _ (List.mem_of_getElem? (i := 5) rfl))) (mvT hZ (hw _ (List.mem_of_getElem? (i := 6) rfl))) (mvT hZ (hw _ (List.mem_of_getElem? (i := 7) rfl))) (by decide) (backOf (W := 1) (rm1_4 l Z a0 hw [] b76 st b67 k67 (0 : Int32) (0 : Int32) ja jb jc jd h76 n0 (by omega) A76 f77 f78 f79 c81 (by omega) (by first | assumption | exact Ne.symm (by assumption) | (apply Nat.ne_of_lt; omega) | (apply Nat.ne_of_gt; omega))) hZ (hw _ (List.mem_of_getElem? (i := 7) rfl)) (hw _ (List.mem_of_getElem? (i := 4) rfl)) (by decide) (by decide)) (g := (mkF m 94 #[.val (.int st), .val (.int sz), .val (.long ja), .second, .val (.long jb), .second, .val (.long jc), .second, .val (.long jd), .second, .val (.int (4 : Int32)), .val (.ref b67), .val (.long (((ja + jb) + jc) + jd)), .second, .unset] [(.ref b67), (.int st), (.ref b76), (.ref b76)])) rfl (by rw [hml]; rfl) (Steps.refl _) (a := b76) (argsL := [(.int st), (.ref b67)]) (rest := [(.ref b76)]) (lenOf pd_1 rfl) rfl (by show 2 * 0 + _ ≤ _; exact Nat.le_of_eq rfl) (hb hby at_94) (fun _ _ => ⟨rfl, e76, (by decide : 2 + 0 ≤ _), (by decide : 7 + 0 ≤ _)⟩)
    dsimp only [Pt.U, Pt.locs, Pt.cells, Pt.slots] at X80 lq80 yq80 zq80 st80 hQ80
    subst lq80 yq80 zq80
    obtain ⟨h80, e80⟩ : ∃ z, T80.heap = z := ⟨_, rfl⟩
    rw [e80] at hQ80
    obtain ⟨rfl, Nq80, K80, g80_0, g80_1⟩ := hQ80
    have sz80 : h76.size ≤ h80.size := K80.1
    have N80 := Fr.app N75 Nq80
    have lt80_1 : b76 < h80.size := g80_0.lt
    refine own_go (st' := T80.setTop (mkF m 97 #[.val (.int st), .val (.int sz), .val (.long ja), .second, .val (.long jb), .second, .val (.long jc), .second, .val (.long jd), .second, .val (.int (4 : Int32)), .val (.ref b67), .val (.long (((ja + jb) + jc) + jd)), .second, .unset] [(.ref b76)])) (fun _ k => st80.trans k) ?_
    refine own_go (st' := T80.setTop (mkF m 99 #[.val (.int st), .val (.int sz), .val (.long ja), .second, .val (.long jb), .second, .val (.long jc), .second, .val (.long jd), .second, .val (.int (4 : Int32)), .val (.ref b67), .val (.long (((ja + jb) + jc) + jd)), .second, .val (.ref b76)] [])) (fun _ k => XS.astore X80.here hx rfl (hb hby at_97) rfl rfl (l' := #[.val (.int st), .val (.int sz), .val (.long ja), .second, .val (.long jb), .second, .val (.long jc), .second, .val (.long jd), .second, .val (.int (4 : Int32)), .val (.ref b67), .val (.long (((ja + jb) + jc) + jd)), .second, .val (.ref b76)]) rfl k) ?_
    refine own_go (st' := T80.setTop (mkF m 101 #[.val (.int st), .val (.int sz), .val (.long ja), .second, .val (.long jb), .second, .val (.long jc), .second, .val (.long jd), .second, .val (.int (4 : Int32)), .val (.ref b67), .val (.long (((ja + jb) + jc) + jd)), .second, .val (.ref b76)] [(.ref b76)])) (fun _ k => XS.aload X80.here hx rfl (hb hby at_99) rfl rfl k) ?_
    have c83 : Arv Z h80 b67 k67 .long (4 : Int32) [(.long ja), (.long jb), (.long jc), (.long jd)] (.long (0 : Int64)) := (c81.keep K80 (ninS (by first | assumption | exact Ne.symm (by assumption) | (apply Nat.ne_of_lt; omega) | (apply Nat.ne_of_gt; omega)) nin0))
    obtain ⟨cq82, kq82, q82a, q82b, q82c⟩ := isOf hZ e80 g80_0
    obtain ⟨_, _, ⟨T82, LC82, kC82, nC82⟩, -, X82, ⟨Lc82, hQ82, lq82, yq82, zq82⟩, st82⟩ := X80.virtualBack hx (y := (⟨"com/example/millwright/millwright/cut/Pattern", "pieceCount", "()J"⟩ : MethodName)) (z := (⟨"com/example/millwright/millwright/cut/Pattern", "pieceCount", "()J"⟩ : MethodName)) hown (mvT hZ (hw _ (List.mem_of_getElem? (i := 21) rfl))) (mvT hZ (hw _ (List.mem_of_getElem? (i := 22) rfl))) (notFace_of_selects (args := #[]) (mvT hZ (hw _ (List.mem_of_getElem? (i := 24) rfl)))) (mvT hZ (hw _ (List.mem_of_getElem? (i := 24) rfl))) (mvT hZ (hw _ (List.mem_of_getElem? (i := 23) rfl))) (by decide) (backOf (W := 0) (rm4_4 l Z a0 hw [] b76 b67 k67 ja jb jc jd h80 n0 (by omega) g80_1 c83) hZ (hw _ (List.mem_of_getElem? (i := 25) rfl)) (hw _ (List.mem_of_getElem? (i := 4) rfl)) (by decide) (by decide)) q82a q82c (g := (mkF m 101 #[.val (.int st), .val (.int sz), .val (.long ja), .second, .val (.long jb), .second, .val (.long jc), .second, .val (.long jd), .second, .val (.int (4 : Int32)), .val (.ref b67), .val (.long (((ja + jb) + jc) + jd)), .second, .val (.ref b76)] [(.ref b76)])) rfl (by rw [hml]; rfl) (Steps.refl _) (argsL := []) (rest := []) (lenOf pd_2 rfl) rfl (by show 2 * 0 + _ ≤ _; exact Nat.le_of_eq rfl) (hb hby at_101) (fun _ _ => ⟨rfl, e80, (by decide : 2 + 0 ≤ _), (by decide : 7 + 0 ≤ _)⟩)
    dsimp only [Pt.U, Pt.locs, Pt.cells, Pt.slots] at X82 lq82 yq82 zq82 st82 hQ82
    subst lq82 yq82 zq82
    obtain ⟨rfl, Nq82, eq82⟩ := hQ82
    have N82 := Fr.app N80 Nq82
    refine own_go (st' := T82.setTop (mkF m 104 #[.val (.int st), .val (.int sz), .val (.long ja), .second, .val (.long jb), .second, .val (.long jc), .second, .val (.long jd), .second, .val (.int (4 : Int32)), .val (.ref b67), .val (.long (((ja + jb) + jc) + jd)), .second, .val (.ref b76)] [(.long (((((0 : Int64) + ja) + jb) + jc) + jd))])) (fun _ k => st82.trans k) ?_
    refine own_go (st' := T82.setTop (mkF m 106 #[.val (.int st), .val (.int sz), .val (.long ja), .second, .val (.long jb), .second, .val (.long jc), .second, .val (.long jd), .second, .val (.int (4 : Int32)), .val (.ref b67), .val (.long (((ja + jb) + jc) + jd)), .second, .val (.ref b76)] [(.long (((ja + jb) + jc) + jd)), (.long (((((0 : Int64) + ja) + jb) + jc) + jd))])) (fun _ k => XS.lload X82.here hx rfl (hb hby at_104) rfl k) ?_
    refine own_go (st' := T82.setTop (mkF m 107 #[.val (.int st), .val (.int sz), .val (.long ja), .second, .val (.long jb), .second, .val (.long jc), .second, .val (.long jd), .second, .val (.int (4 : Int32)), .val (.ref b67), .val (.long (((ja + jb) + jc) + jd)), .second, .val (.ref b76)] [(.int (lcmpW (((((0 : Int64) + ja) + jb) + jc) + jd) (((ja + jb) + jc) + jd)))])) (fun _ k => XS.lcmp X82.here hx rfl (hb hby at_106) rfl k) ?_
    have hc84 : (((((0 : Int64) + ja) + jb) + jc) + jd) = (((ja + jb) + jc) + jd) := by rw [Int64.zero_add]
    refine own_go (st' := T82.setTop (mkF m 110 #[.val (.int st), .val (.int sz), .val (.long ja), .second, .val (.long jb), .second, .val (.long jc), .second, .val (.long jd), .second, .val (.int (4 : Int32)), .val (.ref b67), .val (.long (((ja + jb) + jc) + jd)), .second, .val (.ref b76)] [])) (fun _ k => XS.ifNo X82.here hx rfl (hb hby at_107) rfl ((if0 _ _).trans (teq ((lw_eq (((((0 : Int64) + ja) + jb) + jc) + jd) (((ja + jb) + jc) + jd)).mpr hc84)).2) k) ?_
    refine own_go (st' := T82.setTop (mkF m 111 #[.val (.int st), .val (.int sz), .val (.long ja), .second, .val (.long jb), .second, .val (.long jc), .second, .val (.long jd), .second, .val (.int (4 : Int32)), .val (.ref b67), .val (.long (((ja + jb) + jc) + jd)), .second, .val (.ref b76)] [(.int (1 : Int32))])) (fun _ k => XS.iconst X82.here hx rfl (hb hby at_110) k) ?_
    refine own_go (st' := T82.setTop (mkF m 115 #[.val (.int st), .val (.int sz), .val (.long ja), .second, .val (.long jb), .second, .val (.long jc), .second, .val (.long jd), .second, .val (.int (4 : Int32)), .val (.ref b67), .val (.long (((ja + jb) + jc) + jd)), .second, .val (.ref b76)] [(.int (1 : Int32))])) (fun _ k => XS.goto X82.here hx rfl (pc0 := 111) (pc' := 115) rfl (hb hby at_111) (by decide) (by decide) k) ?_
    obtain ⟨fs, hr, hrun, hended, hW, hsame⟩ := X82.leave (v := some (.int (1 : Int32))) (fun h => by rw [Bd.returns] at h; cases h)
    refine ⟨_, _, ?_, hP _ _ hrun hended ⟨_, _, rfl, ?_, ⟨_, rfl⟩, hW, hsame.mono (by decide) (by decide)⟩⟩
    · exact retN X82 hx (t := .boolean) Bd.returns (by simp) (hb hby at_115) hr
    · show Qrm0 Z st sz ja jb jc jd h0 n0 _ T82.heap _
      rw [eq82]
      exact ⟨rfl, N82, trivial⟩
  · --
    exact absurd hm (own_pos sz)
set_option maxRecDepth 65536 in
set_option maxHeartbeats 40000000 in
theorem comes_1 {Post : Tables → Env → Array Value → State → Outcome → State → Prop} (hpost : ∀ tb e args s v u, (limb_1_1.after args s (.returned v) u = true ∧ limb_1_2.after args s (.returned v) u = true ∧ True) → FrameEnd s (.returned v) u (Jvm.fieldLocs frame_1_writes args s ++ Jvm.arrayLocs frame_1_arrays args s ++ Jvm.staticLocs frame_1_statics s) 16 128 → Post tb e args s (.returned v) u) :
    ArmFor flags0 classFile x code maxLocals ret World_1 tables_1 room_1 Calls_1 rest_1 Pre_1 Post := by
  intro l hfl _ _ p e ha hc hk s m args below hf hA hF happ hP
  obtain ⟨hcalls, hrest, hpre⟩ := hP
  obtain ⟨-, -, -, hnamed, -, -, -, hat⟩ := (Spec.applies_iff hf).mp happ
  obtain ⟨hg, hn⟩ := and_e (Cond.before_iff.mp (show (Jvm.Cond.and given_1 narrow_1).before args s = true from hpre))
  obtain ⟨h1, h2⟩ := and_e hg
  obtain ⟨w0, w1, w2, w3, w4, w5, rfl⟩ : ∃ w0 w1 w2 w3 w4 w5 : Value, args = #[w0, w1, w2, w3, w4, w5] := by
    have hs : args.size = 6 := by simpa [Cond.value, given_1] using h1
    obtain ⟨L⟩ := args
    match L, hs with
    | [w0, w1, w2, w3, w4, w5], _ => exact ⟨w0, w1, w2, w3, w4, w5, rfl⟩
  have hw := fun d (hd : d ∈ tables_1) => atoms_spec (ws := Jvm.Cond.code x code maxLocals ret :: tables_1) hat d (List.mem_cons_of_mem _ hd)
  have hfit : Fit s := fun {y c} hc i hi => by
    obtain ⟨ha, rfl⟩ := Array.getElem?_eq_some_iff.mp hc
    have q := List.all_eq_true.mp ((Array.all_eq_true_iff_forall_mem.mp hF) _ (Array.getElem_mem ha)) i (List.mem_range.mpr hi)
    simpa [Array.getElem?_eq_getElem hi] using q
  obtain ⟨ha0, hr0⟩ := and_e h2
  obtain ⟨st, ev0⟩ := is_v ha0
  obtain rfl : w0 = (.int st) := Option.some.inj ev0
  obtain ⟨ha1, hr1⟩ := and_e hr0
  obtain ⟨sz, ev1⟩ := is_v ha1
  obtain rfl : w1 = (.int sz) := Option.some.inj ev1
  obtain ⟨ha2, hr2⟩ := and_e hr1
  obtain ⟨ja, ev2⟩ := isL_v ha2
  obtain rfl : w2 = (.long ja) := Option.some.inj ev2
  obtain ⟨ha3, hr3⟩ := and_e hr2
  obtain ⟨jb, ev3⟩ := isL_v ha3
  obtain rfl : w3 = (.long jb) := Option.some.inj ev3
  obtain ⟨ha4, hr4⟩ := and_e hr3
  obtain ⟨jc, ev4⟩ := isL_v ha4
  obtain rfl : w4 = (.long jc) := Option.some.inj ev4
  obtain ⟨jd, ev5⟩ := isL_v hr4
  obtain rfl : w5 = (.long jd) := Option.some.inj ev5
  obtain ⟨n, o, h1, h2, h3, _, L, rfl, hQ, hq⟩ := rm0 l s _ hw tables_1 st sz ja jb jc jd s.heap s.heap.size (Nat.le_refl _)  p e ha hc hk s m _ below hf ((Spec.applies_iff_loose hf).mp happ).1 ⟨rfl, State.Warmed39.refl s, rfl⟩ trivial
  obtain ⟨rfl, N, -⟩ := hQ
  refine ⟨n, _, h1, h2, h3, hpost _ _ _ _ _ _ ⟨Cond.after_iff.mpr rfl, Cond.after_iff.mpr (eq_i res_at (Term.int_eval (1)) rfl), trivial⟩ ⟨hq.1, hq.2.1, (hq.2.2.sift fun y hy => Or.inr (N y hy)).mono (by decide) (by decide)⟩⟩
theorem main_1_1 : Claimed_1_1 := comes_1 fun _ _ _ _ _ _ h hF => ⟨h.1, hF⟩
theorem main_1_2 : Claimed_1_2 := comes_1 fun _ _ _ _ _ _ h hF => ⟨h.2.1, hF⟩
end Jvm.Pilot.@@N@@
namespace Jvm.Pilot.@@N@@
open Jvm Jvm.ClassFile Sem Op Lib Jvm.Free Jvm.Stand Jvm.Pilot.@@N@@.Jvm.D
/-! MADE BY PROGRAM (witnessworld.py) out of the Statement's table words and the real class files: 12 classes; the members and pool entries that the words name. The judged class is class 1, her method 1. -/
namespace start1
open Jvm.ClassFile
def u (s : String) : CpInfo := .utf8 (stringToUtf16 s)
/-- a pool by its gaps: so many unusable entries, then the entry; so many at the end -/
def gap : Nat → List CpInfo → List CpInfo
  | 0, r => r
  | n + 1, r => .unusable :: gap n r
def poolList (es : List (Nat × CpInfo)) (last : Nat) : List CpInfo := es.foldr (fun e r => gap e.1 (e.2 :: r)) (gap last [])
def pool (es : List (Nat × CpInfo)) (last : Nat) : Array CpInfo := ⟨poolList es last⟩
def fileOf (pool : Array CpInfo) (this : Nat) (attrs : Array Attribute := #[]) (ms : Array MethodInfo := #[]) (fl : Nat := 33) (sup : Nat := 0) (ifs : Array Nat := #[]) (fds : Array FieldInfo := #[]) : ClassFile where
  minorVersion := 0
  majorVersion := 65
  constantPool := pool
  accessFlags := fl
  thisClass := this
  superClass := sup
  interfaces := ifs
  fields := fds
  methods := ms
  attributes := attrs
def plain (name : String) (sup : Option ClassId) : Class where
  name := name
  kind := .ordinary
  loader := none
  accessFlags := 33
  super := sup
  interfaces := #[]
  cf := none
  fields := #[]
  methods := #[]
  instanceTypes := #[]
  staticTypes := #[]
  resolved := #[]
  callSites := []
  init := .initialized
  statics := none
  mirror := none

def pool0 : Array CpInfo := pool [(5, u "<init>"), (0, u "()V"), (1, .class_ 10), (1, u "java/lang/Object")] 113

def k0c0 : Code := { maxStack := 0, maxLocals := 1, code := object_method_1_code, exceptionTable := #[], attributes := #[] }
def k0m0 : Method := { name := "<init>", desc := "()V", sig := { parameters := [], returnType := none }, accessFlags := 1, code := some k0c0 }
/-- java/lang/Object -/
def k0 : Class := { plain "java/lang/Object" none with
  accessFlags := 33
  interfaces := #[]
  cf := some (fileOf pool0 8 #[] #[{ accessFlags := 1, nameIndex := 5, descriptorIndex := 6, attributes := #[] }] 33 0 #[] #[])
  fields := #[]
  methods := #[k0m0]
  instanceTypes := #[]
  staticTypes := #[]
  resolved := Array.replicate 124 none
  statics := none }

def pool1 : Array CpInfo := pool [(2, .class_ 4), (1, u "java/lang/Object"), (0, u "<init>"), (0, u "()V"), (0, .integer 2147483647), (0, .class_ 9), (0, u "com/example/millwright/millwright/cut/Pattern"), (0, .methodref 8 11), (0, .nameAndType 5 12), (0, u "(I[J)V"), (0, .methodref 8 14), (0, .nameAndType 15 16), (0, u "pieceCount"), (0, u "()J"), (0, .class_ 18), (0, u "com/example/millwright/millwright/cut/PatternPieceCountPinLaw"), (2, u "law"), (0, u "(IIJJJJ)Z")] 5

def k1m0 : Method := { name := "<init>", desc := "()V", sig := { parameters := [], returnType := none }, accessFlags := 1, code := none }
def k1c1 : Code := { maxStack := 4, maxLocals := 15, code := code, exceptionTable := #[], attributes := #[] }
def k1m1 : Method := { name := "law", desc := "(IIJJJJ)Z", sig := { parameters := [.int, .int, .long, .long, .long, .long], returnType := some .boolean }, accessFlags := 9, code := some k1c1 }
/-- com/example/millwright/millwright/cut/PatternPieceCountPinLaw -/
def k1 : Class := { plain "com/example/millwright/millwright/cut/PatternPieceCountPinLaw" (some 0) with
  accessFlags := 49
  interfaces := #[]
  cf := some (fileOf pool1 17 #[] #[{ accessFlags := 1, nameIndex := 5, descriptorIndex := 6, attributes := #[] }, { accessFlags := 9, nameIndex := 21, descriptorIndex := 22, attributes := #[] }] 49 2 #[] #[])
  fields := #[]
  methods := #[k1m0, k1m1]
  instanceTypes := #[]
  staticTypes := #[]
  resolved := Array.replicate 28 none
  statics := none }

def pool2 : Array CpInfo := pool [(1, .methodref 2 3), (0, .class_ 4), (0, .nameAndType 5 6), (0, u "java/lang/Object"), (0, u "<init>"), (0, u "()V"), (0, .fieldref 8 9), (0, .class_ 10), (0, .nameAndType 11 12), (0, u "com/example/millwright/millwright/cut/Pattern"), (0, u "stock"), (0, u "I"), (0, .fieldref 8 14), (0, .nameAndType 15 16), (0, u "counts"), (0, u "[J"), (0, .methodref 18 19), (0, .class_ 20), (0, .nameAndType 21 22), (0, u "java/util/Arrays"), (0, u "hashCode"), (0, u "([J)I"), (0, .fieldref 8 24), (0, .nameAndType 25 12), (0, u "hash"), (30, u "(I[J)V"), (4, u "pieceCount"), (0, u "()J")] 8

def k2c0 : Code := { maxStack := 3, maxLocals := 3, code := prog_22_method_1_code, exceptionTable := #[], attributes := #[] }
def k2m0 : Method := { name := "<init>", desc := "(I[J)V", sig := { parameters := [.int, (.array .long)], returnType := none }, accessFlags := 0, code := some k2c0 }
def k2c1 : Code := { maxStack := 4, maxLocals := 8, code := prog_22_method_4_code, exceptionTable := #[], attributes := #[] }
def k2m1 : Method := { name := "pieceCount", desc := "()J", sig := { parameters := [], returnType := some .long }, accessFlags := 1, code := some k2c1 }
/-- com/example/millwright/millwright/cut/Pattern -/
def k2 : Class := { plain "com/example/millwright/millwright/cut/Pattern" (some 0) with
  accessFlags := 49
  interfaces := #[]
  cf := some (fileOf pool2 8 #[] #[{ accessFlags := 0, nameIndex := 5, descriptorIndex := 56, attributes := #[] }, { accessFlags := 1, nameIndex := 61, descriptorIndex := 62, attributes := #[] }] 49 2 #[] #[{ accessFlags := 18, nameIndex := 11, descriptorIndex := 12, attributes := #[] }, { accessFlags := 18, nameIndex := 15, descriptorIndex := 16, attributes := #[] }, { accessFlags := 18, nameIndex := 25, descriptorIndex := 12, attributes := #[] }])
  fields := #[{ name := "stock", type := .int, accessFlags := 18, slot := 0, constantValue := 0 }, { name := "counts", type := (.array .long), accessFlags := 18, slot := 1, constantValue := 0 }, { name := "hash", type := .int, accessFlags := 18, slot := 2, constantValue := 0 }]
  methods := #[k2m0, k2m1]
  instanceTypes := #[.int, (.array .long), .int]
  staticTypes := #[]
  resolved := Array.replicate 71 none
  statics := none }

def pool3 : Array CpInfo := pool [(2, .class_ 4), (1, u "java/lang/Object"), (0, u "<init>"), (0, u "()V"), (7, .class_ 16), (1, u "java/util/Arrays"), (57, .class_ 76), (1, u "java/util/Arrays$NaturalOrder"), (36, .class_ 115), (1, u "java/util/Arrays$LegacyMergeSort"), (1, u "Z"), (257, .class_ 376), (0, u "java/util/Arrays$ArrayList"), (8, u "hashCode"), (28, u "([J)I"), (30, u "$assertionsDisabled"), (269, u "MIN_ARRAY_SORT_GRAN"), (0, u "I"), (2, u "INSERTIONSORT_THRESHOLD"), (255, .class_ 976), (0, u "java/util/Arrays$ArrayItr")] 52

def k3m0 : Method := { name := "<init>", desc := "()V", sig := { parameters := [], returnType := none }, accessFlags := 2, code := none }
def k3c1 : Code := { maxStack := 5, maxLocals := 8, code := jdk_65_method_149_code, exceptionTable := #[], attributes := #[] }
def k3m1 : Method := { name := "hashCode", desc := "([J)I", sig := { parameters := [(.array .long)], returnType := some .int }, accessFlags := 9, code := some k3c1 }
/-- java/util/Arrays -/
def k3 : Class := { plain "java/util/Arrays" (some 0) with
  accessFlags := 49
  interfaces := #[]
  cf := some (fileOf pool3 14 #[.nestMembers #[975, 375, 113, 74]] #[{ accessFlags := 2, nameIndex := 5, descriptorIndex := 6, attributes := #[] }, { accessFlags := 9, nameIndex := 385, descriptorIndex := 414, attributes := #[] }] 49 2 #[] #[{ accessFlags := 26, nameIndex := 715, descriptorIndex := 716, attributes := #[] }, { accessFlags := 26, nameIndex := 719, descriptorIndex := 716, attributes := #[] }, { accessFlags := 4120, nameIndex := 445, descriptorIndex := 117, attributes := #[] }])
  fields := #[{ name := "MIN_ARRAY_SORT_GRAN", type := .int, accessFlags := 26, slot := 0, constantValue := 0 }, { name := "INSERTIONSORT_THRESHOLD", type := .int, accessFlags := 26, slot := 1, constantValue := 0 }, { name := "$assertionsDisabled", type := .boolean, accessFlags := 4120, slot := 2, constantValue := 0 }]
  methods := #[k3m0, k3m1]
  instanceTypes := #[]
  staticTypes := #[.int, .int, .boolean]
  resolved := Array.replicate 1029 none
  statics := none }

def pool4 : Array CpInfo := pool [(1, u "java/lang/Cloneable"), (0, .class_ 1), (0, u "java/lang/Object"), (0, .class_ 3)] 3

/-- java/lang/Cloneable -/
def k4 : Class := { plain "java/lang/Cloneable" (some 0) with
  accessFlags := 1537
  interfaces := #[]
  cf := some (fileOf pool4 2 #[] #[] 1537 4 #[] #[])
  fields := #[]
  methods := #[]
  instanceTypes := #[]
  staticTypes := #[]
  resolved := Array.replicate 8 none
  statics := none }

def pool5 : Array CpInfo := pool [(1, u "java/io/Serializable"), (0, .class_ 1), (0, u "java/lang/Object"), (0, .class_ 3)] 3

/-- java/io/Serializable -/
def k5 : Class := { plain "java/io/Serializable" (some 0) with
  accessFlags := 1537
  interfaces := #[]
  cf := some (fileOf pool5 2 #[] #[] 1537 4 #[] #[])
  fields := #[]
  methods := #[]
  instanceTypes := #[]
  staticTypes := #[]
  resolved := Array.replicate 8 none
  statics := none }

/-- the primitive byte -/
def k6 : Class := { plain "byte" none with kind := .primitive 'B', accessFlags := 0x411 }
/-- [B -/
def k7 : Class := { plain "[B" (some 0) with kind := .array 6 .byte, interfaces := #[4, 5], accessFlags := 1041 }

/-- the primitive int -/
def k8 : Class := { plain "int" none with kind := .primitive 'I', accessFlags := 0x411 }
/-- [I -/
def k9 : Class := { plain "[I" (some 0) with kind := .array 8 .int, interfaces := #[4, 5], accessFlags := 1041 }

/-- the primitive long -/
def k10 : Class := { plain "long" none with kind := .primitive 'J', accessFlags := 0x411 }
/-- [J -/
def k11 : Class := { plain "[J" (some 0) with kind := .array 10 .long, interfaces := #[4, 5], accessFlags := 1041 }

def heap : Heap := #[]
def classes : Array Class := #[k0, k1, k2, k3, k4, k5, k6, k7, k8, k9, k10, k11]
def interned : List (Array UInt16 × Addr) := []
def slotsUsed : Nat := 0
def theMethod : MethodId := ⟨1, 1⟩
def args0 : Array Value := #[.int 5, .int 7, .long 1, .long 2, .long 3, .long 4]
def aboutOver (below : List Frame) : State where
  vm := { classes := classes, interned := interned.toArray }
  heap := heap
  slotsUsed := slotsUsed
  threads := #[{ frames := .invoking theMethod args0 :: below }]
def below0 : List Frame := [.native { method := ⟨0, 0⟩, args := #[] }]
def about1 : State := aboutOver below0
def p0 : Program := .bare "" "" ""
def e0 : Env := launch0.env 0 0 0
theorem w_frames : about1.frames = Frame.invoking theMethod args0 :: below0 := rfl
set_option maxRecDepth 65536 in
theorem w_args : argsFit about1.vm theMethod args0 = true := by decide +kernel
set_option maxRecDepth 65536 in
theorem w_heap : heapFits about1 = true := by decide +kernel
set_option maxRecDepth 65536 in
theorem w_runnable : about1.curStatus? = some .runnable := by decide +kernel
set_option maxRecDepth 65536 in
theorem w_alone : about1.alone = true := by decide +kernel
set_option maxRecDepth 65536 in
theorem w_named : about1.methodNamed? x = some theMethod := by decide +kernel
set_option maxRecDepth 65536 in
theorem w_hears : about1.hears theMethod below0 = true := by decide +kernel
set_option maxRecDepth 65536 in
theorem w_ripe : about1.ripe theMethod args0 below0 = true := by decide +kernel
theorem w_running : about1.status = .running := rfl
set_option maxRecDepth 65536 in
theorem w_room : about1.hasRoom e0.platform room_1 = true :=
  launch0.hasRoom_least _ room_1 (by decide +kernel) (by decide +kernel) (by decide +kernel) (by decide +kernel) (by decide +kernel) (by decide +kernel)
theorem allAtoms_all (ts : List Jvm.Cond) (a : Array Jvm.Value) (st : Jvm.State) : (allAtoms ts).before a st = ts.all (fun c => c.before a st) := by
  induction ts with
  | nil => rfl
  | cons c t ih =>
    show (Jvm.Cond.and c (allAtoms t)).before a st = _
    rw [Jvm.Cond.before_and, ih, List.all_cons]
def words1 : List Jvm.Cond := Jvm.Cond.code x code maxLocals ret :: tables_1
/-- a 'code' word, met by the world's own term for the bytes: nothing is compared byte by byte -/
theorem code_word {y : MethodName} {bytes : ByteArray} {mx : Nat} {rt : Option FieldType} {a : Array Value} {s : State} {m : MethodId} {meth : Method} {c : Code} (h1 : s.methodNamed? y = some m) (h2 : s.vm.method? m = some meth) (h3 : meth.code = some c) (h4 : c.code = bytes)
    (h5 : (c.maxLocals == mx && c.exceptionTable.isEmpty && decide (c.maxStack ≤ mostOperands) && decide (meth.sig.returnType = rt) && !meth.locks && decide (parseMethodDescriptor y.desc = some meth.sig)) = true) : (Jvm.Cond.code y bytes mx rt).before a s = true := by
  simp only [Bool.and_eq_true, beq_iff_eq, Bool.not_eq_true', decide_eq_true_eq] at h5
  obtain ⟨⟨⟨⟨⟨g1, g2⟩, g3⟩, g4⟩, g5⟩, g6⟩ := h5
  simp [Cond.before, Cond.holds, Cond.value, h1, h2, h3, h4, g1, g2, g3, g4, g5, g6]
def isCode : Jvm.Cond → Bool
  | .code _ _ _ _ => true
  | _ => false
theorem all_split {L : List Jvm.Cond} {P : Jvm.Cond → Bool} (h1 : L.all (fun c => isCode c || P c) = true) (h2 : ∀ c ∈ L.filter isCode, P c = true) : L.all P = true := by
  refine List.all_eq_true.mpr fun c hc => ?_
  have h := List.all_eq_true.mp h1 c hc
  rcases Bool.eq_false_or_eq_true (isCode c) with hi | hi
  · exact h2 c (List.mem_filter.mpr ⟨hc, hi⟩)
  · simpa [hi] using h
set_option maxRecDepth 65536 in
theorem w_c0 : (Jvm.Cond.code x code maxLocals ret).before args0 about1 = true := code_word (m := ⟨1, 1⟩) (meth := k1m1) (c := k1c1) (by decide +kernel) rfl rfl rfl (by decide +kernel)
set_option maxRecDepth 65536 in
theorem w_c1 : (Jvm.Cond.code ({ cls := "com/example/millwright/millwright/cut/Pattern", name := "<init>", desc := "(I[J)V" } : Jvm.MethodName) prog_22_method_1_code (3 : Nat) (Option.none : Option Jvm.ClassFile.FieldType)).before args0 about1 = true := code_word (m := ⟨2, 0⟩) (meth := k2m0) (c := k2c0) (by decide +kernel) rfl rfl rfl (by decide +kernel)
set_option maxRecDepth 65536 in
theorem w_c2 : (Jvm.Cond.code ({ cls := "java/lang/Object", name := "<init>", desc := "()V" } : Jvm.MethodName) object_method_1_code (1 : Nat) (Option.none : Option Jvm.ClassFile.FieldType)).before args0 about1 = true := code_word (m := ⟨0, 0⟩) (meth := k0m0) (c := k0c0) (by decide +kernel) rfl rfl rfl (by decide +kernel)
set_option maxRecDepth 65536 in
theorem w_c3 : (Jvm.Cond.code ({ cls := "java/util/Arrays", name := "hashCode", desc := "([J)I" } : Jvm.MethodName) jdk_65_method_149_code (8 : Nat) (Option.some Jvm.ClassFile.FieldType.int)).before args0 about1 = true := code_word (m := ⟨3, 1⟩) (meth := k3m1) (c := k3c1) (by decide +kernel) rfl rfl rfl (by decide +kernel)
set_option maxRecDepth 65536 in
theorem w_c4 : (Jvm.Cond.code ({ cls := "com/example/millwright/millwright/cut/Pattern", name := "pieceCount", desc := "()J" } : Jvm.MethodName) prog_22_method_4_code (8 : Nat) (Option.some Jvm.ClassFile.FieldType.long)).before args0 about1 = true := code_word (m := ⟨2, 1⟩) (meth := k2m1) (c := k2c1) (by decide +kernel) rfl rfl rfl (by decide +kernel)
def codes1 : List Jvm.Cond := [Jvm.Cond.code x code maxLocals ret, Jvm.Cond.code ({ cls := "com/example/millwright/millwright/cut/Pattern", name := "<init>", desc := "(I[J)V" } : Jvm.MethodName) prog_22_method_1_code (3 : Nat) (Option.none : Option Jvm.ClassFile.FieldType), Jvm.Cond.code ({ cls := "java/lang/Object", name := "<init>", desc := "()V" } : Jvm.MethodName) object_method_1_code (1 : Nat) (Option.none : Option Jvm.ClassFile.FieldType), Jvm.Cond.code ({ cls := "java/util/Arrays", name := "hashCode", desc := "([J)I" } : Jvm.MethodName) jdk_65_method_149_code (8 : Nat) (Option.some Jvm.ClassFile.FieldType.int), Jvm.Cond.code ({ cls := "com/example/millwright/millwright/cut/Pattern", name := "pieceCount", desc := "()J" } : Jvm.MethodName) prog_22_method_4_code (8 : Nat) (Option.some Jvm.ClassFile.FieldType.long)]
set_option maxRecDepth 65536 in
theorem codes_eq : words1.filter isCode = codes1 := rfl
theorem w_codes : ∀ c ∈ words1.filter isCode, c.before args0 about1 = true := by
  rw [codes_eq]
  intro c hc
  simp only [codes1, List.mem_cons, List.not_mem_nil, or_false] at hc
  rcases hc with rfl | rfl | rfl | rfl | rfl
  · exact w_c0
  · exact w_c1
  · exact w_c2
  · exact w_c3
  · exact w_c4
set_option maxRecDepth 65536 in
theorem w_t1 : (words1.take 24).all (fun c => isCode c || c.before args0 about1) = true := by decide +kernel
set_option maxRecDepth 65536 in
theorem w_t2 : (words1.drop 24).all (fun c => isCode c || c.before args0 about1) = true := by decide +kernel
theorem w_tables : (allAtoms (Jvm.Cond.code x code maxLocals ret :: tables_1)).before args0 about1 = true := by
  rw [allAtoms_all]
  show words1.all (fun c => c.before args0 about1) = true
  refine all_split ?_ w_codes
  rw [← List.take_append_drop 24 words1, List.all_append, w_t1, w_t2]
  rfl
set_option maxRecDepth 65536 in
theorem w_case : (Jvm.Cond.and given_1 narrow_1).before args0 about1 = true := by decide +kernel
theorem w_applies : (headSpec (Jvm.Cond.code x code maxLocals ret :: tables_1) room_1).applies x e0.platform about1 = true :=
  (Spec.applies_iff w_frames).mpr ⟨w_running, w_runnable, w_alone, w_named, w_hears, w_ripe, w_room, w_tables⟩
theorem atStart : AtStart classFile x code maxLocals ret World_1 tables_1 room_1 Calls_1 rest_1 Pre_1 launch0 p0 e0 about1 theMethod args0 below0 :=
  ⟨lists_1, trivial, launch0.admits_env _ _ _, launch0.least_env, fairChoices_fair.cas, fairChoices_fair.clock, w_frames, w_args, w_heap, w_applies, trivial, trivial, w_case⟩
end start1
theorem witness_1 : WitnessClaimed_1 := ⟨start1.p0, start1.e0, start1.about1, start1.theMethod, start1.args0, start1.below0, start1.atStart⟩
end Jvm.Pilot.@@N@@
