import JvmDerived
import JvmDerived.Pilot.@@N@@Statement
import JvmDerived.Pilot.@@N@@Code
set_option linter.unusedVariables false
set_option linter.unusedSimpArgs false
namespace Jvm.Pilot.@@N@@
open Jvm Jvm.ClassFile Sem Op Lib Jvm.Free Jvm.Stand Jvm.LawKit Jvm.RoadKit Bundle Jvm.Pilot.@@N@@.Jvm.D
abbrev own_Go (tb : Tables) (e : Env) (below : List Frame) (P : State → Outcome → Prop) (st : State) : Prop := ∃ U o, Steps tb e below st U ∧ P U o
theorem own_go {tb : Tables} {e : Env} {below : List Frame} {P : State → Outcome → Prop} {st st' : State} (h : ∀ t, Steps tb e below st' t → Steps tb e below st t) (k : own_Go tb e below P st') : own_Go tb e below P st := by
  obtain ⟨U, o, h1, h2⟩ := k; exact ⟨U, o, h _ h1, h2⟩
theorem own_cat {v : Value} (h : v.isRef = true) : v.category = 1 := by rcases ref_cases h with rfl | ⟨a, rfl⟩ <;> rfl
theorem own_nar_ref {t : FieldType} {v : Value} (h : v.isRef = true) : narrow t v = v := by rcases ref_cases h with rfl | ⟨a, rfl⟩ <;> cases t <;> rfl
theorem own_fit_ref {t : FieldType} {v : Value} (h : v.isRef = true) (ht : t.isReference = true := by rfl) : fits t v = true := by rcases ref_cases h with rfl | ⟨a, rfl⟩ <;> cases t <;> first | rfl | (cases ht)
theorem own_widen {p : Program} {l : Launch} {e : Env} {R : Room} {s : State} {m : MethodId} {args : Array Value} {below : List Frame} {meth : Method} {c : Code} {T : State} {locs : List Loc} {cells slots cells' slots' : Nat} (X : Stand p l e R s m args below meth c T locs cells slots) (h1 : cells ≤ cells') (h2 : slots ≤ slots') : Stand p l e R s m args below meth c T locs cells' slots' :=
  { X with same := X.same.mono h1 h2 }
theorem own_sel_priv {s : State} {args : Array Value} {y : MethodName} {n : Nat} (wi : (Jvm.Cond.instantiable y.cls n).before args s = true) (hp : s.PrivateAt y) (hinst : (Jvm.Cond.instanceMethod y).before args s = true) (hy : y.cls ≠ "java/lang/invoke/MethodHandle" ∧ y.cls ≠ "java/lang/invoke/VarHandle") : (Jvm.Cond.selects y.cls y y).before args s = true := by
  obtain ⟨c, k, h1, h2, -, h4, -⟩ := Cond.instantiable_spec wi
  exact selects_self_of_private h1 h2 (Bool.or_eq_false_iff.mp h4).1 hp hinst hy
theorem own_sta_keep {Z : State} {h h' : Heap} {ws : List Addr} {C n d : String} {v : Value} (F : Sta Z h C n d v) (K : Keep h h' ws) (q : ∀ x ∈ ws, ∀ c : Cell, h[x]? = some c → c.vm.isStatics = false) : Sta Z h' C n d v := by
  obtain ⟨cf, i, k, f, st, cell, h1, h2, h3, h4, h5, h6, h7⟩ := F
  exact ⟨cf, i, k, f, st, cell, h1, h2, h3, h4, K.2.1 st cell h5 (fun z => by rw [q st z cell h5] at h6; cases h6), h6, h7⟩
theorem own_pl_exa {Z : State} {h : Heap} {a : Addr} {C : String} (F : Exa Z h a C) : ∀ c : Cell, h[a]? = some c → c.vm.isStatics = false := fun c hc => by
  obtain ⟨c1, k, h1, -, -, h4, -⟩ := F; cases h1.symm.trans hc; exact h4
theorem own_pl_fld {Z : State} {h : Heap} {a : Addr} {C n d : String} {v : Value} (F : Fld Z h a C n d v) : ∀ c : Cell, h[a]? = some c → c.vm.isStatics = false := old_plain F
theorem own_pl_arv {Z : State} {h : Heap} {a : Addr} {k : ClassId} {ty : FieldType} {n : Int32} {vs : List Value} {d : Value} (F : Arv Z h a k ty n vs d) : ∀ c : Cell, h[a]? = some c → c.vm.isStatics = false := fun c hc => by
  obtain ⟨c1, A, -⟩ := F; cases A.1.symm.trans hc; exact A.plain
def own_lmin (a b : Int64) : Int64 := if b < a then b else a
theorem own_lmin_int (a b : Int64) : ((own_lmin a b).toInt = a.toInt ∧ a.toInt ≤ b.toInt) ∨ ((own_lmin a b).toInt = b.toInt ∧ b.toInt < a.toInt) := by
  unfold own_lmin
  split
  · rename_i h; rw [Int64.lt_iff_toInt_lt] at h; exact Or.inr ⟨rfl, h⟩
  · rename_i h; rw [Int64.lt_iff_toInt_lt] at h; exact Or.inl ⟨rfl, by omega⟩
theorem own_nn (s : Int64) (k : UInt64) : 0 ≤ (((s &&& 9223372036854775807).toUInt64 >>> k).toInt64).toInt := by
  show 0 ≤ ((s.toBitVec &&& (9223372036854775807 : Int64).toBitVec) >>> (k.toBitVec % 64)).toInt
  have h1 : (s.toBitVec &&& (9223372036854775807 : Int64).toBitVec).toNat < 2 ^ 63 := by
    rw [BitVec.toNat_and]; exact Nat.lt_of_le_of_lt Nat.and_le_right (by decide)
  have h2 : ((s.toBitVec &&& (9223372036854775807 : Int64).toBitVec) >>> (k.toBitVec % 64)).toNat < 2 ^ 63 := by
    rw [BitVec.ushiftRight_eq', BitVec.toNat_ushiftRight, Nat.shiftRight_eq_div_pow]
    exact Nat.lt_of_le_of_lt (Nat.div_le_self _ _) h1
  rw [BitVec.toInt_eq_toNat_cond, if_pos (by omega)]
  omega
theorem own_div (x : Int64) (h : 0 ≤ x.toInt) : (x / 64000).toInt = x.toInt / 64000 := by
  have := Int64.toInt_div_of_ne_right x 64000 (by decide)
  rw [this, show (64000 : Int64).toInt = 64000 from rfl, Int.tdiv_eq_ediv_of_nonneg h]
theorem own_mod (x : Int64) (h : 0 ≤ x.toInt) : (x % 64000).toInt = x.toInt % 64000 := by
  rw [Int64.toInt_mod, show (64000 : Int64).toInt = 64000 from rfl, Int.tmod_eq_emod_of_nonneg h]
theorem own_i2l (x : Int32) : x.toInt64.toInt = x.toInt := c_i2l x
theorem own_l2i (x : Int64) (h0 : -2147483648 ≤ x.toInt) (h1 : x.toInt < 2147483648) : x.toInt32.toInt = x.toInt := by
  have := c_l2i x; have := rng32 x.toInt32; omega
theorem own_n (size : Int64) (n j : Int32) (h : 0 ≤ size.toInt) (hn : n = (own_lmin (size / 64000) (j &&& 2147483647).toInt64).toInt32) : 0 ≤ n.toInt ∧ n.toInt ≤ size.toInt / 64000 := by
  have h1 := own_div size h
  have h2 := own_i2l (j &&& 2147483647)
  have h3 := (c_and j 2147483647 (by decide)).1
  have h3' := rng32 (j &&& 2147483647)
  have h4 : 0 ≤ size.toInt / 64000 := Int.ediv_nonneg h (by decide)
  rcases own_lmin_int (size / 64000) (j &&& 2147483647).toInt64 with ⟨e, q⟩ | ⟨e, q⟩
  · rw [hn, own_l2i _ (by omega) (by omega), e, h1]; omega
  · rw [hn, own_l2i _ (by omega) (by omega), e, h2]; omega
theorem own_prod (n : Int32) (h0 : 0 ≤ n.toInt) : (n.toInt64 * 64000).toInt = n.toInt * 64000 := by
  have h1 := c_lmul n.toInt64 64000
  have h2 := rng32 n
  have h3 := rng64 (n.toInt64 * 64000)
  rw [own_i2l, show (64000 : Int64).toInt = 64000 from rfl] at h1
  omega
theorem own_less (size : Int64) (n : Int32) (h : 0 ≤ size.toInt) (h0 : 0 ≤ n.toInt) (h1 : n.toInt ≤ size.toInt / 64000) : (size - n.toInt64 * 64000).toInt = size.toInt - n.toInt * 64000 := by
  have h2 := c_lsub size (n.toInt64 * 64000)
  rw [own_prod n h0] at h2
  have h3 := rng64 (size - n.toInt64 * 64000)
  have h4 := rng64 size
  omega
theorem own_lt (size : Int64) (n : Int32) (h : 0 ≤ size.toInt) (h0 : 0 ≤ n.toInt) (h1 : n.toInt ≤ size.toInt / 64000) (hc : n.toInt64 < size / 64000) : (own_lmin 64000 (size - n.toInt64 * 64000)).toInt32 = 64000 := by
  have h2 := own_less size n h h0 h1
  rw [Int64.lt_iff_toInt_lt, own_i2l, own_div size h] at hc
  have h3 : own_lmin 64000 (size - n.toInt64 * 64000) = 64000 := by
    unfold own_lmin; rw [if_neg]; rw [Int64.lt_iff_toInt_lt, h2, show (64000 : Int64).toInt = 64000 from rfl]; omega
  rw [h3]; rfl
theorem own_ge (size : Int64) (n : Int32) (h : 0 ≤ size.toInt) (h0 : 0 ≤ n.toInt) (h1 : n.toInt ≤ size.toInt / 64000) (hc : ¬ n.toInt64 < size / 64000) : (own_lmin 64000 (size - n.toInt64 * 64000)).toInt32 = (size % 64000).toInt32 := by
  have h2 := own_less size n h h0 h1
  rw [Int64.lt_iff_toInt_lt, own_i2l, own_div size h] at hc
  have h4 := own_mod size h
  have h3 : own_lmin 64000 (size - n.toInt64 * 64000) = size % 64000 := by
    apply Int64.toInt_inj.mp
    rcases own_lmin_int 64000 (size - n.toInt64 * 64000) with ⟨e, q⟩ | ⟨e, q⟩
    · rw [show (64000 : Int64).toInt = 64000 from rfl, h2] at q; omega
    · rw [e, h2, h4]; omega
  rw [h3]
theorem d1_0 : decode jdk_29_method_70_code 0 = .ok (.lload_n 0, 1) := by decide +kernel
theorem d1_1 : decode jdk_29_method_70_code 1 = .ok (.lload_n 2, 1) := by decide +kernel
theorem d1_2 : decode jdk_29_method_70_code 2 = .ok (.lcmp, 1) := by decide +kernel
theorem d1_3 : decode jdk_29_method_70_code 3 = .ok (.ifCond .gt 7, 3) := by decide +kernel
theorem d1_6 : decode jdk_29_method_70_code 6 = .ok (.lload_n 0, 1) := by decide +kernel
theorem d1_7 : decode jdk_29_method_70_code 7 = .ok (.goto 4, 3) := by decide +kernel
theorem d1_10 : decode jdk_29_method_70_code 10 = .ok (.lload_n 2, 1) := by decide +kernel
theorem d1_11 : decode jdk_29_method_70_code 11 = .ok (.lreturn, 1) := by decide +kernel
theorem pn_1 : plainFor (⟨"java/lang/Math", "min", "(JJ)J"⟩ : MethodName) = true := by decide +kernel
theorem ef_rm1 (m : MethodId) (x0 : Int64) (x1 : Int64) : entryFrame m #[(.long x0), (.long x1)] 4 = mkF m 0 #[.val (.long x0), .second, .val (.long x1), .second] [] := by first | (simp [entryFrame, mkF, argsToLocals, Value.category]; done) | rfl
def Qrm1 (Z : State) (q1 : Int64) (q2 : Int64) (h0 : Heap) (n0 : Nat) (v : Option Value) (h : Heap) (L : List Loc) : Prop := (v = some (.long (own_lmin q1 q2))) ∧ (Fr n0 L) ∧ (h = h0)
set_option maxRecDepth 65536 in
set_option maxHeartbeats 40000000 in
theorem rm1 (l : Launch) (Z : State) (a0 : Array Value) (hw : ∀ d ∈ tables_1, d.before a0 Z = true) (ws : List Jvm.Cond) (q1 : Int64) (q2 : Int64) (h0 : Heap) (n0 : Nat) (Z0 : n0 ≤ h0.size)  :
    MetFree l (⟨"java/lang/Math", "min", "(JJ)J"⟩ : MethodName) (head1 (Jvm.Cond.code (⟨"java/lang/Math", "min", "(JJ)J"⟩ : MethodName) jdk_29_method_70_code 4 (some .long) :: ws) ({ frames := 0, cells := 0, slots := 0, locals := 0 } : Room)) (fun a U => a = #[(.long q1), (.long q2)] ∧ Z.Warmed39 U.vm ∧ U.heap = h0) (fun _ _ _ _ _ => True) (fun _ U o U' => ∃ v L, o = .returned v ∧ Qrm1 Z q1 q2 h0 n0 v U'.heap L ∧ FrameEnd U o U' L ({ frames := 0, cells := 0, slots := 0, locals := 0 } : Room).cells ({ frames := 0, cells := 0, slots := 0, locals := 0 } : Room).slots) := by
  refine MetFree.of_bodySF pn_1 hisR ?_
  intro p e s m args below meth c s₁ Bd hml0 hP0 hK
  obtain ⟨rfl, hZ, hh⟩ := hP0
  have hx := Bd.exec
  have hby := Bd.bytes
  have hml : c.maxLocals = 4 := hml0
  have hown : s.vm.findClass "java/lang/Math" = some m.cls := findClass_of_methodNamed Bd.named
  have hnm := (name_of_methodNamed Bd.named Bd.method).1
  have X0 : Stand p l e ({ frames := 0, cells := 0, slots := 0, locals := 0 } : Room) s m #[(.long q1), (.long q2)] below meth c s₁ [] 0 0 := Stand.of_body Bd
  have e0 : s₁.heap = h0 := by rw [← hh, Bd.state]; rfl
  have N0 := Fr.nil n0
  suffices own_H : ∀ (P : State → Outcome → Prop), (∀ U o, U.status = .running → Ended U below o → (∃ v L, o = .returned v ∧ Qrm1 Z q1 q2 h0 n0 v U.heap L ∧ FrameEnd s o U L ({ frames := 0, cells := 0, slots := 0, locals := 0 } : Room).cells ({ frames := 0, cells := 0, slots := 0, locals := 0 } : Room).slots) → P U o) → own_Go p.tables e below P (s₁.setTop (mkF m 0 #[.val (.long q1), .second, .val (.long q2), .second] [])) from own_go (fun _ k => castTop (ef_rm1 m q1 q2) k) (own_H _ (fun U o h1 h2 h3 => ⟨h1, h2, h3⟩))
  intro P hP
  refine own_go (st' := s₁.setTop (mkF m 1 #[.val (.long q1), .second, .val (.long q2), .second] [(.long q1)])) (fun _ k => XS.lloadN X0.here hx rfl (hb hby d1_0) rfl k) ?_
  refine own_go (st' := s₁.setTop (mkF m 2 #[.val (.long q1), .second, .val (.long q2), .second] [(.long q2), (.long q1)])) (fun _ k => XS.lloadN X0.here hx rfl (hb hby d1_1) rfl k) ?_
  refine own_go (st' := s₁.setTop (mkF m 3 #[.val (.long q1), .second, .val (.long q2), .second] [(.int (lcmpW q1 q2))])) (fun _ k => XS.lcmp X0.here hx rfl (hb hby d1_2) rfl k) ?_
  by_cases hc1 : q2 < q1
  · --
    refine own_go (st' := s₁.setTop (mkF m 10 #[.val (.long q1), .second, .val (.long q2), .second] [])) (fun _ k => XS.ifYes X0.here hx rfl (pc0 := 3) (pc' := 10) rfl (hb hby d1_3) rfl ((if0 _ _).trans (tlt ((lw_gt q1 q2).mpr hc1)).2.2.1) (by decide) (by decide) k) ?_
    refine own_go (st' := s₁.setTop (mkF m 11 #[.val (.long q1), .second, .val (.long q2), .second] [(.long q2)])) (fun _ k => XS.lloadN X0.here hx rfl (hb hby d1_10) rfl k) ?_
    obtain ⟨fs, hr, hrun, hended, hW, hsame⟩ := X0.leave (v := some (.long q2)) (fun h => by rw [Bd.returns] at h; cases h)
    refine ⟨_, _, ?_, hP _ _ hrun hended ⟨_, _, rfl, ?_, ⟨_, rfl⟩, hW, hsame.mono (by decide) (by decide)⟩⟩
    · exact retOut X0 hx Bd.returns rfl (Or.inr (Or.inl ⟨rfl, rfl, _, rfl⟩)) (hb hby d1_11) hr
    · show Qrm1 Z q1 q2 h0 n0 _ s₁.heap _
      rw [e0]
      exact ⟨(by unfold own_lmin; rw [if_pos hc1]), N0, rfl⟩
  · --
    refine own_go (st' := s₁.setTop (mkF m 6 #[.val (.long q1), .second, .val (.long q2), .second] [])) (fun _ k => XS.ifNo X0.here hx rfl (hb hby d1_3) rfl ((if0 _ _).trans (flt (fun q_ => hc1 ((lw_gt q1 q2).mp q_))).2.2.1) k) ?_
    refine own_go (st' := s₁.setTop (mkF m 7 #[.val (.long q1), .second, .val (.long q2), .second] [(.long q1)])) (fun _ k => XS.lloadN X0.here hx rfl (hb hby d1_6) rfl k) ?_
    refine own_go (st' := s₁.setTop (mkF m 11 #[.val (.long q1), .second, .val (.long q2), .second] [(.long q1)])) (fun _ k => XS.goto X0.here hx rfl (pc0 := 7) (pc' := 11) rfl (hb hby d1_7) (by decide) (by decide) k) ?_
    obtain ⟨fs, hr, hrun, hended, hW, hsame⟩ := X0.leave (v := some (.long q1)) (fun h => by rw [Bd.returns] at h; cases h)
    refine ⟨_, _, ?_, hP _ _ hrun hended ⟨_, _, rfl, ?_, ⟨_, rfl⟩, hW, hsame.mono (by decide) (by decide)⟩⟩
    · exact retOut X0 hx Bd.returns rfl (Or.inr (Or.inl ⟨rfl, rfl, _, rfl⟩)) (hb hby d1_11) hr
    · show Qrm1 Z q1 q2 h0 n0 _ s₁.heap _
      rw [e0]
      exact ⟨(by unfold own_lmin; rw [if_neg hc1]), N0, rfl⟩
theorem d3_0 : decode prog_55_method_3_code 0 = .ok (.iload_n 0, 1) := by decide +kernel
theorem d3_1 : decode prog_55_method_3_code 1 = .ok (.i2l, 1) := by decide +kernel
theorem d3_2 : decode prog_55_method_3_code 2 = .ok (.ldc2_w 9, 3) := by decide +kernel
theorem d3_5 : decode prog_55_method_3_code 5 = .ok (.lmul, 1) := by decide +kernel
theorem d3_6 : decode prog_55_method_3_code 6 = .ok (.lreturn, 1) := by decide +kernel
theorem pn_3 : plainName "com/example/scatterkeep/scatterkeep/protocol/Limits" = true := by first | (simp [plainName, overriddenIn]; done) | decide +kernel
theorem ef_rm3 (m : MethodId) (x0 : Int32) : entryFrame m #[(.int x0)] 1 = mkF m 0 #[.val (.int x0)] [] := by first | (simp [entryFrame, mkF, argsToLocals, Value.category]; done) | rfl
def Qrm3 (Z : State) (p1 : Int32) (h0 : Heap) (n0 : Nat) (v : Option Value) (h : Heap) (L : List Loc) : Prop := (v = some (.long (p1.toInt64 * (64000 : Int64)))) ∧ (Fr n0 L) ∧ (h = h0)
set_option maxRecDepth 65536 in
set_option maxHeartbeats 40000000 in
theorem rm3 (l : Launch) (Z : State) (a0 : Array Value) (hw : ∀ d ∈ tables_1, d.before a0 Z = true) (ws : List Jvm.Cond) (p1 : Int32) (h0 : Heap) (n0 : Nat) (Z0 : n0 ≤ h0.size)  :
    MetFree l (⟨"com/example/scatterkeep/scatterkeep/protocol/Limits", "chunkOffset", "(I)J"⟩ : MethodName) (head1 (Jvm.Cond.code (⟨"com/example/scatterkeep/scatterkeep/protocol/Limits", "chunkOffset", "(I)J"⟩ : MethodName) prog_55_method_3_code 1 (some .long) :: ws) ({ frames := 0, cells := 0, slots := 0, locals := 0 } : Room)) (fun a U => a = #[(.int p1)] ∧ Z.Warmed39 U.vm ∧ U.heap = h0) (fun _ _ _ _ _ => True) (fun _ U o U' => ∃ v L, o = .returned v ∧ Qrm3 Z p1 h0 n0 v U'.heap L ∧ FrameEnd U o U' L ({ frames := 0, cells := 0, slots := 0, locals := 0 } : Room).cells ({ frames := 0, cells := 0, slots := 0, locals := 0 } : Room).slots) := by
  refine MetFree.of_bodySF (plainFor_of_name pn_3) hisR ?_
  intro p e s m args below meth c s₁ Bd hml0 hP0 hK
  obtain ⟨rfl, hZ, hh⟩ := hP0
  have hx := Bd.exec
  have hby := Bd.bytes
  have hml : c.maxLocals = 1 := hml0
  have hown : s.vm.findClass "com/example/scatterkeep/scatterkeep/protocol/Limits" = some m.cls := findClass_of_methodNamed Bd.named
  have hnm := (name_of_methodNamed Bd.named Bd.method).1
  have X0 : Stand p l e ({ frames := 0, cells := 0, slots := 0, locals := 0 } : Room) s m #[(.int p1)] below meth c s₁ [] 0 0 := Stand.of_body Bd
  have e0 : s₁.heap = h0 := by rw [← hh, Bd.state]; rfl
  have N0 := Fr.nil n0
  suffices own_H : ∀ (P : State → Outcome → Prop), (∀ U o, U.status = .running → Ended U below o → (∃ v L, o = .returned v ∧ Qrm3 Z p1 h0 n0 v U.heap L ∧ FrameEnd s o U L ({ frames := 0, cells := 0, slots := 0, locals := 0 } : Room).cells ({ frames := 0, cells := 0, slots := 0, locals := 0 } : Room).slots) → P U o) → own_Go p.tables e below P (s₁.setTop (mkF m 0 #[.val (.int p1)] [])) from own_go (fun _ k => castTop (ef_rm3 m p1) k) (own_H _ (fun U o h1 h2 h3 => ⟨h1, h2, h3⟩))
  intro P hP
  refine own_go (st' := s₁.setTop (mkF m 1 #[.val (.int p1)] [(.int p1)])) (fun _ k => XS.iloadN X0.here hx rfl (hb hby d3_0) rfl k) ?_
  refine own_go (st' := s₁.setTop (mkF m 2 #[.val (.int p1)] [(.long p1.toInt64)])) (fun _ k => XS.i2l X0.here hx rfl (hb hby d3_1) rfl k) ?_
  refine own_go (st' := s₁.setTop (mkF m 5 #[.val (.int p1)] [(.long (64000 : Int64)), (.long p1.toInt64)])) (X0.ldc2Long hx hown (mvT hZ (hw _ (List.mem_of_getElem? (i := 11) rfl))) (g := (mkF m 2 #[.val (.int p1)] [(.long p1.toInt64)])) rfl (hb hby d3_2)) ?_
  refine own_go (st' := s₁.setTop (mkF m 6 #[.val (.int p1)] [(.long (p1.toInt64 * (64000 : Int64)))])) (fun _ k => XS.lmul X0.here hx rfl (hb hby d3_5) rfl k) ?_
  obtain ⟨fs, hr, hrun, hended, hW, hsame⟩ := X0.leave (v := some (.long (p1.toInt64 * (64000 : Int64)))) (fun h => by rw [Bd.returns] at h; cases h)
  refine ⟨_, _, ?_, hP _ _ hrun hended ⟨_, _, rfl, ?_, ⟨_, rfl⟩, hW, hsame.mono (by decide) (by decide)⟩⟩
  · exact retOut X0 hx Bd.returns rfl (Or.inr (Or.inl ⟨rfl, rfl, _, rfl⟩)) (hb hby d3_6) hr
  · show Qrm3 Z p1 h0 n0 _ s₁.heap _
    rw [e0]
    exact ⟨rfl, N0, rfl⟩
theorem pd_0 : parseMethodDescriptor "(I)J" = some ⟨[.int], some .long⟩ := by decide +kernel
theorem pd_1 : parseMethodDescriptor "(JJ)J" = some ⟨[.long, .long], some .long⟩ := by decide +kernel
theorem d2_0 : decode prog_55_method_4_code 0 = .ok (.ldc2_w 9, 3) := by decide +kernel
theorem d2_3 : decode prog_55_method_4_code 3 = .ok (.lload_n 0, 1) := by decide +kernel
theorem d2_4 : decode prog_55_method_4_code 4 = .ok (.iload_n 2, 1) := by decide +kernel
theorem d2_5 : decode prog_55_method_4_code 5 = .ok (.invokestatic 11, 3) := by decide +kernel
theorem d2_8 : decode prog_55_method_4_code 8 = .ok (.lsub, 1) := by decide +kernel
theorem d2_9 : decode prog_55_method_4_code 9 = .ok (.invokestatic 15, 3) := by decide +kernel
theorem d2_12 : decode prog_55_method_4_code 12 = .ok (.l2i, 1) := by decide +kernel
theorem d2_13 : decode prog_55_method_4_code 13 = .ok (.ireturn, 1) := by decide +kernel
theorem pn_2 : plainName "com/example/scatterkeep/scatterkeep/protocol/Limits" = true := by first | (simp [plainName, overriddenIn]; done) | decide +kernel
theorem ef_rm2 (m : MethodId) (x0 : Int64) (x1 : Int32) : entryFrame m #[(.long x0), (.int x1)] 3 = mkF m 0 #[.val (.long x0), .second, .val (.int x1)] [] := by first | (simp [entryFrame, mkF, argsToLocals, Value.category]; done) | rfl
def Qrm2 (Z : State) (q1 : Int64) (p2 : Int32) (h0 : Heap) (n0 : Nat) (v : Option Value) (h : Heap) (L : List Loc) : Prop := (v = some (.int (own_lmin (64000 : Int64) (q1 - (p2.toInt64 * (64000 : Int64)))).toInt32)) ∧ (Fr n0 L) ∧ (h = h0)
set_option maxRecDepth 65536 in
set_option maxHeartbeats 40000000 in
theorem rm2 (l : Launch) (Z : State) (a0 : Array Value) (hw : ∀ d ∈ tables_1, d.before a0 Z = true) (ws : List Jvm.Cond) (q1 : Int64) (p2 : Int32) (h0 : Heap) (n0 : Nat) (Z0 : n0 ≤ h0.size)  :
    MetFree l (⟨"com/example/scatterkeep/scatterkeep/protocol/Limits", "chunkLength", "(JI)I"⟩ : MethodName) (head1 (Jvm.Cond.code (⟨"com/example/scatterkeep/scatterkeep/protocol/Limits", "chunkLength", "(JI)I"⟩ : MethodName) prog_55_method_4_code 3 (some .int) :: ws) ({ frames := 1, cells := 0, slots := 0, locals := 16 } : Room)) (fun a U => a = #[(.long q1), (.int p2)] ∧ Z.Warmed39 U.vm ∧ U.heap = h0) (fun _ _ _ _ _ => True) (fun _ U o U' => ∃ v L, o = .returned v ∧ Qrm2 Z q1 p2 h0 n0 v U'.heap L ∧ FrameEnd U o U' L ({ frames := 1, cells := 0, slots := 0, locals := 16 } : Room).cells ({ frames := 1, cells := 0, slots := 0, locals := 16 } : Room).slots) := by
  refine MetFree.of_bodySF (plainFor_of_name pn_2) hisR ?_
  intro p e s m args below meth c s₁ Bd hml0 hP0 hK
  obtain ⟨rfl, hZ, hh⟩ := hP0
  have hx := Bd.exec
  have hby := Bd.bytes
  have hml : c.maxLocals = 3 := hml0
  have hown : s.vm.findClass "com/example/scatterkeep/scatterkeep/protocol/Limits" = some m.cls := findClass_of_methodNamed Bd.named
  have hnm := (name_of_methodNamed Bd.named Bd.method).1
  have X0 : Stand p l e ({ frames := 1, cells := 0, slots := 0, locals := 16 } : Room) s m #[(.long q1), (.int p2)] below meth c s₁ [] 0 0 := Stand.of_body Bd
  have e0 : s₁.heap = h0 := by rw [← hh, Bd.state]; rfl
  have N0 := Fr.nil n0
  suffices own_H : ∀ (P : State → Outcome → Prop), (∀ U o, U.status = .running → Ended U below o → (∃ v L, o = .returned v ∧ Qrm2 Z q1 p2 h0 n0 v U.heap L ∧ FrameEnd s o U L ({ frames := 1, cells := 0, slots := 0, locals := 16 } : Room).cells ({ frames := 1, cells := 0, slots := 0, locals := 16 } : Room).slots) → P U o) → own_Go p.tables e below P (s₁.setTop (mkF m 0 #[.val (.long q1), .second, .val (.int p2)] [])) from own_go (fun _ k => castTop (ef_rm2 m q1 p2) k) (own_H _ (fun U o h1 h2 h3 => ⟨h1, h2, h3⟩))
  intro P hP
  refine own_go (st' := s₁.setTop (mkF m 3 #[.val (.long q1), .second, .val (.int p2)] [(.long (64000 : Int64))])) (X0.ldc2Long hx hown (mvT hZ (hw _ (List.mem_of_getElem? (i := 11) rfl))) (g := (mkF m 0 #[.val (.long q1), .second, .val (.int p2)] [])) rfl (hb hby d2_0)) ?_
  refine own_go (st' := s₁.setTop (mkF m 4 #[.val (.long q1), .second, .val (.int p2)] [(.long q1), (.long (64000 : Int64))])) (fun _ k => XS.lloadN X0.here hx rfl (hb hby d2_3) rfl k) ?_
  refine own_go (st' := s₁.setTop (mkF m 5 #[.val (.long q1), .second, .val (.int p2)] [(.int p2), (.long q1), (.long (64000 : Int64))])) (fun _ k => XS.iloadN X0.here hx rfl (hb hby d2_4) rfl k) ?_
  obtain ⟨_, _, ⟨T1, LC1, kC1, nC1⟩, -, X1, ⟨Lc1, hQ1, lq1, yq1, zq1⟩, st1⟩ := Jvm.LawKit.callS X0 hx (y := (⟨"com/example/scatterkeep/scatterkeep/protocol/Limits", "chunkOffset", "(I)J"⟩ : MethodName)) hown (mvT hZ (hw _ (List.mem_of_getElem? (i := 12) rfl))) (mvT hZ (hw _ (List.mem_of_getElem? (i := 13) rfl))) (mvT hZ (hw _ (List.mem_of_getElem? (i := 9) rfl))) (mvT hZ (hw _ (List.mem_of_getElem? (i := 14) rfl))) (by decide) (backOf (W := 4) (rm3 l Z a0 hw [] p2 h0 n0 (by omega) ) hZ (hw _ (List.mem_of_getElem? (i := 14) rfl)) (hw _ (List.mem_of_getElem? (i := 9) rfl)) (by decide) (by decide)) (g := (mkF m 5 #[.val (.long q1), .second, .val (.int p2)] [(.int p2), (.long q1), (.long (64000 : Int64))])) rfl (by rw [hml]; rfl) (argsL := [(.int p2)]) (rest := [(.long q1), (.long (64000 : Int64))]) (lenOf pd_0 rfl) rfl (by show 2 * 0 + _ ≤ _; exact Nat.le_of_eq rfl) (hb hby d2_5) (fun _ _ => ⟨rfl, e0, (by decide : 0 + 0 ≤ _), (by decide : 0 + 0 ≤ _)⟩)
  dsimp only [Pt.U, Pt.locs, Pt.cells, Pt.slots] at X1 lq1 yq1 zq1 st1 hQ1
  subst lq1 yq1 zq1
  obtain ⟨rfl, Nq1, eq1⟩ := hQ1
  have N1 := Fr.app N0 Nq1
  refine own_go (st' := T1.setTop (mkF m 8 #[.val (.long q1), .second, .val (.int p2)] [(.long (p2.toInt64 * (64000 : Int64))), (.long q1), (.long (64000 : Int64))])) (fun t k => st1 t k) ?_
  refine own_go (st' := T1.setTop (mkF m 9 #[.val (.long q1), .second, .val (.int p2)] [(.long (q1 - (p2.toInt64 * (64000 : Int64)))), (.long (64000 : Int64))])) (fun _ k => XS.lsub X1.here hx rfl (hb hby d2_8) rfl k) ?_
  obtain ⟨_, _, ⟨T2, LC2, kC2, nC2⟩, -, X2, ⟨Lc2, hQ2, lq2, yq2, zq2⟩, st2⟩ := Jvm.LawKit.callS X1 hx (y := (⟨"java/lang/Math", "min", "(JJ)J"⟩ : MethodName)) hown (mvT hZ (hw _ (List.mem_of_getElem? (i := 15) rfl))) (mvT hZ (hw _ (List.mem_of_getElem? (i := 4) rfl))) (mvT hZ (hw _ (List.mem_of_getElem? (i := 5) rfl))) (mvT hZ (hw _ (List.mem_of_getElem? (i := 6) rfl))) (by decide) (backOf (W := 0) (rm1 l Z a0 hw [] (64000 : Int64) (q1 - (p2.toInt64 * (64000 : Int64))) h0 n0 (by omega) ) hZ (hw _ (List.mem_of_getElem? (i := 6) rfl)) (hw _ (List.mem_of_getElem? (i := 5) rfl)) (by decide) (by decide)) (g := (mkF m 9 #[.val (.long q1), .second, .val (.int p2)] [(.long (q1 - (p2.toInt64 * (64000 : Int64)))), (.long (64000 : Int64))])) rfl (by rw [hml]; rfl) (argsL := [(.long (64000 : Int64)), (.long (q1 - (p2.toInt64 * (64000 : Int64))))]) (rest := []) (lenOf pd_1 rfl) rfl (by show 2 * 0 + _ ≤ _; exact Nat.le_of_eq rfl) (hb hby d2_9) (fun _ _ => ⟨rfl, eq1, (by decide : 0 + 0 ≤ _), (by decide : 0 + 0 ≤ _)⟩)
  dsimp only [Pt.U, Pt.locs, Pt.cells, Pt.slots] at X2 lq2 yq2 zq2 st2 hQ2
  subst lq2 yq2 zq2
  obtain ⟨rfl, Nq2, eq2⟩ := hQ2
  have N2 := Fr.app N1 Nq2
  refine own_go (st' := T2.setTop (mkF m 12 #[.val (.long q1), .second, .val (.int p2)] [(.long (own_lmin (64000 : Int64) (q1 - (p2.toInt64 * (64000 : Int64)))))])) (fun t k => st2 t k) ?_
  refine own_go (st' := T2.setTop (mkF m 13 #[.val (.long q1), .second, .val (.int p2)] [(.int (own_lmin (64000 : Int64) (q1 - (p2.toInt64 * (64000 : Int64)))).toInt32)])) (fun _ k => XS.l2i X2.here hx rfl (hb hby d2_12) rfl k) ?_
  obtain ⟨fs, hr, hrun, hended, hW, hsame⟩ := X2.leave (v := some (.int (own_lmin (64000 : Int64) (q1 - (p2.toInt64 * (64000 : Int64)))).toInt32)) (fun h => by rw [Bd.returns] at h; cases h)
  refine ⟨_, _, ?_, hP _ _ hrun hended ⟨_, _, rfl, ?_, ⟨_, rfl⟩, hW, hsame.mono (by decide) (by decide)⟩⟩
  · exact retOut X2 hx Bd.returns rfl (Or.inl ⟨rfl, Or.inl rfl, _, rfl⟩) (hb hby d2_13) hr
  · show Qrm2 Z q1 p2 h0 n0 _ T2.heap _
    rw [eq2]
    exact ⟨rfl, N2, rfl⟩
theorem pd_2 : parseMethodDescriptor "(JI)I" = some ⟨[.long, .int], some .int⟩ := by decide +kernel
theorem pn_0 : plainName "com/example/scatterkeep/scatterkeep/protocol/LimitsChunkLengthPinLaw" = true := by first | (simp [plainName, overriddenIn]; done) | decide +kernel
theorem ef_rm0 (m : MethodId) (x0 : Int64) (x1 : Int32) (x2 : Int32) : entryFrame m #[(.long x0), (.int x1), (.int x2)] maxLocals = mkF m 0 #[.val (.long x0), .second, .val (.int x1), .val (.int x2), .unset, .unset, .unset, .unset, .unset, .unset, .unset] [] := by first | (simp [entryFrame, mkF, argsToLocals, Value.category, maxLocals]; done) | rfl
def Qrm0 (Z : State) (ss : Int64) (sh : Int32) (jj : Int32) (h0 : Heap) (n0 : Nat) (v : Option Value) (h : Heap) (L : List Loc) : Prop := v = some (.int 1) ∧ Fr n0 L ∧ True
set_option maxRecDepth 65536 in
set_option maxHeartbeats 40000000 in
theorem rm0 (l : Launch) (Z : State) (a0 : Array Value) (hw : ∀ d ∈ tables_1, d.before a0 Z = true) (ws : List Jvm.Cond) (ss : Int64) (sh : Int32) (jj : Int32) (h0 : Heap) (n0 : Nat) (Z0 : n0 ≤ h0.size)  :
    MetFree l x (head1 (Jvm.Cond.code x code maxLocals ret :: ws) room_1) (fun a U => a = #[(.long ss), (.int sh), (.int jj)] ∧ Z.Warmed39 U.vm ∧ U.heap = h0) (fun _ _ _ _ _ => True) (fun _ U o U' => ∃ v L, o = .returned v ∧ Qrm0 Z ss sh jj h0 n0 v U'.heap L ∧ FrameEnd U o U' L 0 0) := by
  refine MetFree.of_bodySF (plainFor_of_name pn_0) hisR ?_
  intro p e s m args below meth c s₁ Bd hml0 hP0 hK
  obtain ⟨rfl, hZ, hh⟩ := hP0
  have hx := Bd.exec
  have hby := Bd.bytes
  have hml : c.maxLocals = 11 := hml0
  have hown : s.vm.findClass "com/example/scatterkeep/scatterkeep/protocol/LimitsChunkLengthPinLaw" = some m.cls := findClass_of_methodNamed Bd.named
  have hnm := (name_of_methodNamed Bd.named Bd.method).1
  have X0 : Stand p l e room_1 s m #[(.long ss), (.int sh), (.int jj)] below meth c s₁ [] 0 0 := Stand.of_body Bd
  have e0 : s₁.heap = h0 := by rw [← hh, Bd.state]; rfl
  have N0 := Fr.nil n0
  suffices own_H : ∀ (P : State → Outcome → Prop), (∀ U o, U.status = .running → Ended U below o → (∃ v L, o = .returned v ∧ Qrm0 Z ss sh jj h0 n0 v U.heap L ∧ FrameEnd s o U L 0 0) → P U o) → own_Go p.tables e below P (s₁.setTop (mkF m 0 #[.val (.long ss), .second, .val (.int sh), .val (.int jj), .unset, .unset, .unset, .unset, .unset, .unset, .unset] [])) from own_go (fun _ k => castTop (ef_rm0 m ss sh jj) k) (own_H _ (fun U o h1 h2 h3 => ⟨h1, h2, h3⟩))
  intro P hP
  refine own_go (st' := s₁.setTop (mkF m 1 #[.val (.long ss), .second, .val (.int sh), .val (.int jj), .unset, .unset, .unset, .unset, .unset, .unset, .unset] [(.long ss)])) (fun _ k => XS.lloadN X0.here hx rfl (hb hby at_0) rfl k) ?_
  refine own_go (st' := s₁.setTop (mkF m 4 #[.val (.long ss), .second, .val (.int sh), .val (.int jj), .unset, .unset, .unset, .unset, .unset, .unset, .unset] [(.long (9223372036854775807 : Int64)), (.long ss)])) (X0.ldc2Long hx hown (mvT hZ (hw _ (List.mem_of_getElem? (i := 0) rfl))) (g := (mkF m 1 #[.val (.long ss), .second, .val (.int sh), .val (.int jj), .unset, .unset, .unset, .unset, .unset, .unset, .unset] [(.long ss)])) rfl (hb hby at_1)) ?_
  refine own_go (st' := s₁.setTop (mkF m 5 #[.val (.long ss), .second, .val (.int sh), .val (.int jj), .unset, .unset, .unset, .unset, .unset, .unset, .unset] [(.long (ss &&& (9223372036854775807 : Int64)))])) (fun _ k => XS.land X0.here hx rfl (hb hby at_4) rfl k) ?_
  refine own_go (st' := s₁.setTop (mkF m 6 #[.val (.long ss), .second, .val (.int sh), .val (.int jj), .unset, .unset, .unset, .unset, .unset, .unset, .unset] [(.int sh), (.long (ss &&& (9223372036854775807 : Int64)))])) (fun _ k => XS.iloadN X0.here hx rfl (hb hby at_5) rfl k) ?_
  refine own_go (st' := s₁.setTop (mkF m 8 #[.val (.long ss), .second, .val (.int sh), .val (.int jj), .unset, .unset, .unset, .unset, .unset, .unset, .unset] [(.int (63 : Int32)), (.int sh), (.long (ss &&& (9223372036854775807 : Int64)))])) (fun _ k => XS.bipush X0.here hx rfl (hb hby at_6) k) ?_
  refine own_go (st' := s₁.setTop (mkF m 9 #[.val (.long ss), .second, .val (.int sh), .val (.int jj), .unset, .unset, .unset, .unset, .unset, .unset, .unset] [(.int (sh &&& (63 : Int32))), (.long (ss &&& (9223372036854775807 : Int64)))])) (fun _ k => XS.iand X0.here hx rfl (hb hby at_8) rfl k) ?_
  obtain ⟨size, hsize⟩ : ∃ z : Int64, z = (((ss &&& (9223372036854775807 : Int64)).toUInt64 >>> ((sh &&& (63 : Int32)) &&& 0x3f).toInt64.toUInt64).toInt64) := ⟨_, rfl⟩
  refine own_go (st' := s₁.setTop (mkF m 10 #[.val (.long ss), .second, .val (.int sh), .val (.int jj), .unset, .unset, .unset, .unset, .unset, .unset, .unset] [(.long size)])) (fun _ k => XS.lushr X0.here hx rfl (hb hby at_9) rfl (by rw [hsize] at k; exact k)) ?_
  refine own_go (st' := s₁.setTop (mkF m 12 #[.val (.long ss), .second, .val (.int sh), .val (.int jj), .val (.long size), .second, .unset, .unset, .unset, .unset, .unset] [])) (fun _ k => XS.lstore X0.here hx rfl (hb hby at_10) rfl (l' := #[.val (.long ss), .second, .val (.int sh), .val (.int jj), .val (.long size), .second, .unset, .unset, .unset, .unset, .unset]) rfl k) ?_
  refine own_go (st' := s₁.setTop (mkF m 14 #[.val (.long ss), .second, .val (.int sh), .val (.int jj), .val (.long size), .second, .unset, .unset, .unset, .unset, .unset] [(.long size)])) (fun _ k => XS.lload X0.here hx rfl (hb hby at_12) rfl k) ?_
  refine own_go (st' := s₁.setTop (mkF m 17 #[.val (.long ss), .second, .val (.int sh), .val (.int jj), .val (.long size), .second, .unset, .unset, .unset, .unset, .unset] [(.long (64000 : Int64)), (.long size)])) (X0.ldc2Long hx hown (mvT hZ (hw _ (List.mem_of_getElem? (i := 1) rfl))) (g := (mkF m 14 #[.val (.long ss), .second, .val (.int sh), .val (.int jj), .val (.long size), .second, .unset, .unset, .unset, .unset, .unset] [(.long size)])) rfl (hb hby at_14)) ?_
  refine own_go (st' := s₁.setTop (mkF m 18 #[.val (.long ss), .second, .val (.int sh), .val (.int jj), .val (.long size), .second, .unset, .unset, .unset, .unset, .unset] [(.long (size / (64000 : Int64)))])) (fun _ k => XS.ldiv X0.here hx rfl (hb hby at_17) rfl (by decide) k) ?_
  refine own_go (st' := s₁.setTop (mkF m 20 #[.val (.long ss), .second, .val (.int sh), .val (.int jj), .val (.long size), .second, .val (.long (size / (64000 : Int64))), .second, .unset, .unset, .unset] [])) (fun _ k => XS.lstore X0.here hx rfl (hb hby at_18) rfl (l' := #[.val (.long ss), .second, .val (.int sh), .val (.int jj), .val (.long size), .second, .val (.long (size / (64000 : Int64))), .second, .unset, .unset, .unset]) rfl k) ?_
  refine own_go (st' := s₁.setTop (mkF m 22 #[.val (.long ss), .second, .val (.int sh), .val (.int jj), .val (.long size), .second, .val (.long (size / (64000 : Int64))), .second, .unset, .unset, .unset] [(.long (size / (64000 : Int64)))])) (fun _ k => XS.lload X0.here hx rfl (hb hby at_20) rfl k) ?_
  refine own_go (st' := s₁.setTop (mkF m 23 #[.val (.long ss), .second, .val (.int sh), .val (.int jj), .val (.long size), .second, .val (.long (size / (64000 : Int64))), .second, .unset, .unset, .unset] [(.int jj), (.long (size / (64000 : Int64)))])) (fun _ k => XS.iloadN X0.here hx rfl (hb hby at_22) rfl k) ?_
  refine own_go (st' := s₁.setTop (mkF m 25 #[.val (.long ss), .second, .val (.int sh), .val (.int jj), .val (.long size), .second, .val (.long (size / (64000 : Int64))), .second, .unset, .unset, .unset] [(.int (2147483647 : Int32)), (.int jj), (.long (size / (64000 : Int64)))])) (X0.ldcInt hx hown (mvT hZ (hw _ (List.mem_of_getElem? (i := 2) rfl))) (g := (mkF m 23 #[.val (.long ss), .second, .val (.int sh), .val (.int jj), .val (.long size), .second, .val (.long (size / (64000 : Int64))), .second, .unset, .unset, .unset] [(.int jj), (.long (size / (64000 : Int64)))])) rfl (hb hby at_23)) ?_
  refine own_go (st' := s₁.setTop (mkF m 26 #[.val (.long ss), .second, .val (.int sh), .val (.int jj), .val (.long size), .second, .val (.long (size / (64000 : Int64))), .second, .unset, .unset, .unset] [(.int (jj &&& (2147483647 : Int32))), (.long (size / (64000 : Int64)))])) (fun _ k => XS.iand X0.here hx rfl (hb hby at_25) rfl k) ?_
  refine own_go (st' := s₁.setTop (mkF m 27 #[.val (.long ss), .second, .val (.int sh), .val (.int jj), .val (.long size), .second, .val (.long (size / (64000 : Int64))), .second, .unset, .unset, .unset] [(.long (jj &&& (2147483647 : Int32)).toInt64), (.long (size / (64000 : Int64)))])) (fun _ k => XS.i2l X0.here hx rfl (hb hby at_26) rfl k) ?_
  obtain ⟨_, _, ⟨T1, LC1, kC1, nC1⟩, -, X1, ⟨Lc1, hQ1, lq1, yq1, zq1⟩, st1⟩ := Jvm.LawKit.callS X0 hx (y := (⟨"java/lang/Math", "min", "(JJ)J"⟩ : MethodName)) hown (mvT hZ (hw _ (List.mem_of_getElem? (i := 3) rfl))) (mvT hZ (hw _ (List.mem_of_getElem? (i := 4) rfl))) (mvT hZ (hw _ (List.mem_of_getElem? (i := 5) rfl))) (mvT hZ (hw _ (List.mem_of_getElem? (i := 6) rfl))) (by decide) (backOf (W := 0) (rm1 l Z a0 hw [] (size / (64000 : Int64)) ((jj &&& (2147483647 : Int32)).toInt64) h0 n0 (by omega) ) hZ (hw _ (List.mem_of_getElem? (i := 6) rfl)) (hw _ (List.mem_of_getElem? (i := 5) rfl)) (by decide) (by decide)) (g := (mkF m 27 #[.val (.long ss), .second, .val (.int sh), .val (.int jj), .val (.long size), .second, .val (.long (size / (64000 : Int64))), .second, .unset, .unset, .unset] [(.long (jj &&& (2147483647 : Int32)).toInt64), (.long (size / (64000 : Int64)))])) rfl (by rw [hml]; rfl) (argsL := [(.long (size / (64000 : Int64))), (.long (jj &&& (2147483647 : Int32)).toInt64)]) (rest := []) (lenOf pd_1 rfl) rfl (by show 2 * 0 + _ ≤ _; exact Nat.le_of_eq rfl) (hb hby at_27) (fun _ _ => ⟨rfl, e0, (by decide : 0 + 0 ≤ _), (by decide : 0 + 0 ≤ _)⟩)
  dsimp only [Pt.U, Pt.locs, Pt.cells, Pt.slots] at X1 lq1 yq1 zq1 st1 hQ1
  subst lq1 yq1 zq1
  obtain ⟨rfl, Nq1, eq1⟩ := hQ1
  have N1 := Fr.app N0 Nq1
  refine own_go (st' := T1.setTop (mkF m 30 #[.val (.long ss), .second, .val (.int sh), .val (.int jj), .val (.long size), .second, .val (.long (size / (64000 : Int64))), .second, .unset, .unset, .unset] [(.long (own_lmin (size / (64000 : Int64)) (jj &&& (2147483647 : Int32)).toInt64))])) (fun t k => st1 t k) ?_
  obtain ⟨nn, hnn⟩ : ∃ z : Int32, z = (own_lmin (size / (64000 : Int64)) (jj &&& (2147483647 : Int32)).toInt64).toInt32 := ⟨_, rfl⟩
  refine own_go (st' := T1.setTop (mkF m 31 #[.val (.long ss), .second, .val (.int sh), .val (.int jj), .val (.long size), .second, .val (.long (size / (64000 : Int64))), .second, .unset, .unset, .unset] [(.int nn)])) (fun _ k => XS.l2i X1.here hx rfl (hb hby at_30) rfl (by rw [hnn] at k; exact k)) ?_
  refine own_go (st' := T1.setTop (mkF m 33 #[.val (.long ss), .second, .val (.int sh), .val (.int jj), .val (.long size), .second, .val (.long (size / (64000 : Int64))), .second, .val (.int nn), .unset, .unset] [])) (fun _ k => XS.istore X1.here hx rfl (hb hby at_31) rfl (l' := #[.val (.long ss), .second, .val (.int sh), .val (.int jj), .val (.long size), .second, .val (.long (size / (64000 : Int64))), .second, .val (.int nn), .unset, .unset]) rfl k) ?_
  refine own_go (st' := T1.setTop (mkF m 35 #[.val (.long ss), .second, .val (.int sh), .val (.int jj), .val (.long size), .second, .val (.long (size / (64000 : Int64))), .second, .val (.int nn), .unset, .unset] [(.int nn)])) (fun _ k => XS.iload X1.here hx rfl (hb hby at_33) rfl k) ?_
  refine own_go (st' := T1.setTop (mkF m 36 #[.val (.long ss), .second, .val (.int sh), .val (.int jj), .val (.long size), .second, .val (.long (size / (64000 : Int64))), .second, .val (.int nn), .unset, .unset] [(.long nn.toInt64)])) (fun _ k => XS.i2l X1.here hx rfl (hb hby at_35) rfl k) ?_
  refine own_go (st' := T1.setTop (mkF m 38 #[.val (.long ss), .second, .val (.int sh), .val (.int jj), .val (.long size), .second, .val (.long (size / (64000 : Int64))), .second, .val (.int nn), .unset, .unset] [(.long (size / (64000 : Int64))), (.long nn.toInt64)])) (fun _ k => XS.lload X1.here hx rfl (hb hby at_36) rfl k) ?_
  refine own_go (st' := T1.setTop (mkF m 39 #[.val (.long ss), .second, .val (.int sh), .val (.int jj), .val (.long size), .second, .val (.long (size / (64000 : Int64))), .second, .val (.int nn), .unset, .unset] [(.int (lcmpW nn.toInt64 (size / (64000 : Int64))))])) (fun _ k => XS.lcmp X1.here hx rfl (hb hby at_38) rfl k) ?_
  by_cases hc2 : nn.toInt64 < (size / (64000 : Int64))
  · --
    refine own_go (st' := T1.setTop (mkF m 42 #[.val (.long ss), .second, .val (.int sh), .val (.int jj), .val (.long size), .second, .val (.long (size / (64000 : Int64))), .second, .val (.int nn), .unset, .unset] [])) (fun _ k => XS.ifNo X1.here hx rfl (hb hby at_39) rfl ((if0 _ _).trans (tlt ((lw_lt nn.toInt64 (size / (64000 : Int64))).mpr hc2)).2.1) k) ?_
    refine own_go (st' := T1.setTop (mkF m 44 #[.val (.long ss), .second, .val (.int sh), .val (.int jj), .val (.long size), .second, .val (.long (size / (64000 : Int64))), .second, .val (.int nn), .unset, .unset] [(.int (64000 : Int32))])) (X1.ldcInt hx hown (mvT hZ (hw _ (List.mem_of_getElem? (i := 16) rfl))) (g := (mkF m 42 #[.val (.long ss), .second, .val (.int sh), .val (.int jj), .val (.long size), .second, .val (.long (size / (64000 : Int64))), .second, .val (.int nn), .unset, .unset] [])) rfl (hb hby at_42)) ?_
    refine own_go (st' := T1.setTop (mkF m 46 #[.val (.long ss), .second, .val (.int sh), .val (.int jj), .val (.long size), .second, .val (.long (size / (64000 : Int64))), .second, .val (.int nn), .val (.int (64000 : Int32)), .unset] [])) (fun _ k => XS.istore X1.here hx rfl (hb hby at_44) rfl (l' := #[.val (.long ss), .second, .val (.int sh), .val (.int jj), .val (.long size), .second, .val (.long (size / (64000 : Int64))), .second, .val (.int nn), .val (.int (64000 : Int32)), .unset]) rfl k) ?_
    refine own_go (st' := T1.setTop (mkF m 58 #[.val (.long ss), .second, .val (.int sh), .val (.int jj), .val (.long size), .second, .val (.long (size / (64000 : Int64))), .second, .val (.int nn), .val (.int (64000 : Int32)), .unset] [])) (fun _ k => XS.goto X1.here hx rfl (pc0 := 46) (pc' := 58) rfl (hb hby at_46) (by decide) (by decide) k) ?_
    refine own_go (st' := T1.setTop (mkF m 60 #[.val (.long ss), .second, .val (.int sh), .val (.int jj), .val (.long size), .second, .val (.long (size / (64000 : Int64))), .second, .val (.int nn), .val (.int (64000 : Int32)), .unset] [(.long size)])) (fun _ k => XS.lload X1.here hx rfl (hb hby at_58) rfl k) ?_
    refine own_go (st' := T1.setTop (mkF m 62 #[.val (.long ss), .second, .val (.int sh), .val (.int jj), .val (.long size), .second, .val (.long (size / (64000 : Int64))), .second, .val (.int nn), .val (.int (64000 : Int32)), .unset] [(.int nn), (.long size)])) (fun _ k => XS.iload X1.here hx rfl (hb hby at_60) rfl k) ?_
    obtain ⟨_, _, ⟨T3, LC3, kC3, nC3⟩, -, X3, ⟨Lc3, hQ3, lq3, yq3, zq3⟩, st3⟩ := Jvm.LawKit.callS X1 hx (y := (⟨"com/example/scatterkeep/scatterkeep/protocol/Limits", "chunkLength", "(JI)I"⟩ : MethodName)) hown (mvT hZ (hw _ (List.mem_of_getElem? (i := 7) rfl))) (mvT hZ (hw _ (List.mem_of_getElem? (i := 8) rfl))) (mvT hZ (hw _ (List.mem_of_getElem? (i := 9) rfl))) (mvT hZ (hw _ (List.mem_of_getElem? (i := 10) rfl))) (by decide) (backOf (W := 0) (rm2 l Z a0 hw [] size nn h0 n0 (by omega) ) hZ (hw _ (List.mem_of_getElem? (i := 10) rfl)) (hw _ (List.mem_of_getElem? (i := 9) rfl)) (by decide) (by decide)) (g := (mkF m 62 #[.val (.long ss), .second, .val (.int sh), .val (.int jj), .val (.long size), .second, .val (.long (size / (64000 : Int64))), .second, .val (.int nn), .val (.int (64000 : Int32)), .unset] [(.int nn), (.long size)])) rfl (by rw [hml]; rfl) (argsL := [(.long size), (.int nn)]) (rest := []) (lenOf pd_2 rfl) rfl (by show 2 * 0 + _ ≤ _; exact Nat.le_of_eq rfl) (hb hby at_62) (fun _ _ => ⟨rfl, eq1, (by decide : 0 + 0 ≤ _), (by decide : 0 + 0 ≤ _)⟩)
    dsimp only [Pt.U, Pt.locs, Pt.cells, Pt.slots] at X3 lq3 yq3 zq3 st3 hQ3
    subst lq3 yq3 zq3
    obtain ⟨rfl, Nq3, eq3⟩ := hQ3
    have N3 := Fr.app N1 Nq3
    refine own_go (st' := T3.setTop (mkF m 65 #[.val (.long ss), .second, .val (.int sh), .val (.int jj), .val (.long size), .second, .val (.long (size / (64000 : Int64))), .second, .val (.int nn), .val (.int (64000 : Int32)), .unset] [(.int (own_lmin (64000 : Int64) (size - (nn.toInt64 * (64000 : Int64)))).toInt32)])) (fun t k => st3 t k) ?_
    refine own_go (st' := T3.setTop (mkF m 67 #[.val (.long ss), .second, .val (.int sh), .val (.int jj), .val (.long size), .second, .val (.long (size / (64000 : Int64))), .second, .val (.int nn), .val (.int (64000 : Int32)), .val (.int (own_lmin (64000 : Int64) (size - (nn.toInt64 * (64000 : Int64)))).toInt32)] [])) (fun _ k => XS.istore X3.here hx rfl (hb hby at_65) rfl (l' := #[.val (.long ss), .second, .val (.int sh), .val (.int jj), .val (.long size), .second, .val (.long (size / (64000 : Int64))), .second, .val (.int nn), .val (.int (64000 : Int32)), .val (.int (own_lmin (64000 : Int64) (size - (nn.toInt64 * (64000 : Int64)))).toInt32)]) rfl k) ?_
    refine own_go (st' := T3.setTop (mkF m 69 #[.val (.long ss), .second, .val (.int sh), .val (.int jj), .val (.long size), .second, .val (.long (size / (64000 : Int64))), .second, .val (.int nn), .val (.int (64000 : Int32)), .val (.int (own_lmin (64000 : Int64) (size - (nn.toInt64 * (64000 : Int64)))).toInt32)] [(.int (own_lmin (64000 : Int64) (size - (nn.toInt64 * (64000 : Int64)))).toInt32)])) (fun _ k => XS.iload X3.here hx rfl (hb hby at_67) rfl k) ?_
    refine own_go (st' := T3.setTop (mkF m 71 #[.val (.long ss), .second, .val (.int sh), .val (.int jj), .val (.long size), .second, .val (.long (size / (64000 : Int64))), .second, .val (.int nn), .val (.int (64000 : Int32)), .val (.int (own_lmin (64000 : Int64) (size - (nn.toInt64 * (64000 : Int64)))).toInt32)] [(.int (64000 : Int32)), (.int (own_lmin (64000 : Int64) (size - (nn.toInt64 * (64000 : Int64)))).toInt32)])) (fun _ k => XS.iload X3.here hx rfl (hb hby at_69) rfl k) ?_
    have hc4 : (own_lmin (64000 : Int64) (size - (nn.toInt64 * (64000 : Int64)))).toInt32 = (64000 : Int32) := by
      have hz : 0 ≤ size.toInt := by rw [hsize]; exact own_nn _ _
      have hb := own_n size nn jj hz hnn
      exact own_lt size nn hz hb.1 hb.2 hc2
    refine own_go (st' := T3.setTop (mkF m 74 #[.val (.long ss), .second, .val (.int sh), .val (.int jj), .val (.long size), .second, .val (.long (size / (64000 : Int64))), .second, .val (.int nn), .val (.int (64000 : Int32)), .val (.int (own_lmin (64000 : Int64) (size - (nn.toInt64 * (64000 : Int64)))).toInt32)] [])) (fun _ k => XS.icmpNo X3.here hx rfl (hb hby at_71) rfl (teq hc4).2 k) ?_
    refine own_go (st' := T3.setTop (mkF m 75 #[.val (.long ss), .second, .val (.int sh), .val (.int jj), .val (.long size), .second, .val (.long (size / (64000 : Int64))), .second, .val (.int nn), .val (.int (64000 : Int32)), .val (.int (own_lmin (64000 : Int64) (size - (nn.toInt64 * (64000 : Int64)))).toInt32)] [(.int (1 : Int32))])) (fun _ k => XS.iconst X3.here hx rfl (hb hby at_74) k) ?_
    refine own_go (st' := T3.setTop (mkF m 79 #[.val (.long ss), .second, .val (.int sh), .val (.int jj), .val (.long size), .second, .val (.long (size / (64000 : Int64))), .second, .val (.int nn), .val (.int (64000 : Int32)), .val (.int (own_lmin (64000 : Int64) (size - (nn.toInt64 * (64000 : Int64)))).toInt32)] [(.int (1 : Int32))])) (fun _ k => XS.goto X3.here hx rfl (pc0 := 75) (pc' := 79) rfl (hb hby at_75) (by decide) (by decide) k) ?_
    obtain ⟨fs, hr, hrun, hended, hW, hsame⟩ := X3.leave (v := some (.int (1 : Int32))) (fun h => by rw [Bd.returns] at h; cases h)
    refine ⟨_, _, ?_, hP _ _ hrun hended ⟨_, _, rfl, ?_, ⟨_, rfl⟩, hW, hsame.mono (by decide) (by decide)⟩⟩
    · exact retN X3 hx (t := .boolean) Bd.returns (by simp) (hb hby at_79) hr
    · show Qrm0 Z ss sh jj h0 n0 _ T3.heap _
      rw [eq3]
      exact ⟨rfl, N3, trivial⟩
  · --
    refine own_go (st' := T1.setTop (mkF m 49 #[.val (.long ss), .second, .val (.int sh), .val (.int jj), .val (.long size), .second, .val (.long (size / (64000 : Int64))), .second, .val (.int nn), .unset, .unset] [])) (fun _ k => XS.ifYes X1.here hx rfl (pc0 := 39) (pc' := 49) rfl (hb hby at_39) rfl ((if0 _ _).trans (flt (fun q_ => hc2 ((lw_lt nn.toInt64 (size / (64000 : Int64))).mp q_))).2.1) (by decide) (by decide) k) ?_
    refine own_go (st' := T1.setTop (mkF m 51 #[.val (.long ss), .second, .val (.int sh), .val (.int jj), .val (.long size), .second, .val (.long (size / (64000 : Int64))), .second, .val (.int nn), .unset, .unset] [(.long size)])) (fun _ k => XS.lload X1.here hx rfl (hb hby at_49) rfl k) ?_
    refine own_go (st' := T1.setTop (mkF m 54 #[.val (.long ss), .second, .val (.int sh), .val (.int jj), .val (.long size), .second, .val (.long (size / (64000 : Int64))), .second, .val (.int nn), .unset, .unset] [(.long (64000 : Int64)), (.long size)])) (X1.ldc2Long hx hown (mvT hZ (hw _ (List.mem_of_getElem? (i := 1) rfl))) (g := (mkF m 51 #[.val (.long ss), .second, .val (.int sh), .val (.int jj), .val (.long size), .second, .val (.long (size / (64000 : Int64))), .second, .val (.int nn), .unset, .unset] [(.long size)])) rfl (hb hby at_51)) ?_
    refine own_go (st' := T1.setTop (mkF m 55 #[.val (.long ss), .second, .val (.int sh), .val (.int jj), .val (.long size), .second, .val (.long (size / (64000 : Int64))), .second, .val (.int nn), .unset, .unset] [(.long (size % (64000 : Int64)))])) (fun _ k => XS.lrem X1.here hx rfl (hb hby at_54) rfl (by decide) (by rw [lrem_mod]; exact k)) ?_
    refine own_go (st' := T1.setTop (mkF m 56 #[.val (.long ss), .second, .val (.int sh), .val (.int jj), .val (.long size), .second, .val (.long (size / (64000 : Int64))), .second, .val (.int nn), .unset, .unset] [(.int (size % (64000 : Int64)).toInt32)])) (fun _ k => XS.l2i X1.here hx rfl (hb hby at_55) rfl k) ?_
    refine own_go (st' := T1.setTop (mkF m 58 #[.val (.long ss), .second, .val (.int sh), .val (.int jj), .val (.long size), .second, .val (.long (size / (64000 : Int64))), .second, .val (.int nn), .val (.int (size % (64000 : Int64)).toInt32), .unset] [])) (fun _ k => XS.istore X1.here hx rfl (hb hby at_56) rfl (l' := #[.val (.long ss), .second, .val (.int sh), .val (.int jj), .val (.long size), .second, .val (.long (size / (64000 : Int64))), .second, .val (.int nn), .val (.int (size % (64000 : Int64)).toInt32), .unset]) rfl k) ?_
    refine own_go (st' := T1.setTop (mkF m 60 #[.val (.long ss), .second, .val (.int sh), .val (.int jj), .val (.long size), .second, .val (.long (size / (64000 : Int64))), .second, .val (.int nn), .val (.int (size % (64000 : Int64)).toInt32), .unset] [(.long size)])) (fun _ k => XS.lload X1.here hx rfl (hb hby at_58) rfl k) ?_
    refine own_go (st' := T1.setTop (mkF m 62 #[.val (.long ss), .second, .val (.int sh), .val (.int jj), .val (.long size), .second, .val (.long (size / (64000 : Int64))), .second, .val (.int nn), .val (.int (size % (64000 : Int64)).toInt32), .unset] [(.int nn), (.long size)])) (fun _ k => XS.iload X1.here hx rfl (hb hby at_60) rfl k) ?_
    obtain ⟨_, _, ⟨T6, LC6, kC6, nC6⟩, -, X6, ⟨Lc6, hQ6, lq6, yq6, zq6⟩, st6⟩ := Jvm.LawKit.callS X1 hx (y := (⟨"com/example/scatterkeep/scatterkeep/protocol/Limits", "chunkLength", "(JI)I"⟩ : MethodName)) hown (mvT hZ (hw _ (List.mem_of_getElem? (i := 7) rfl))) (mvT hZ (hw _ (List.mem_of_getElem? (i := 8) rfl))) (mvT hZ (hw _ (List.mem_of_getElem? (i := 9) rfl))) (mvT hZ (hw _ (List.mem_of_getElem? (i := 10) rfl))) (by decide) (backOf (W := 0) (rm2 l Z a0 hw [] size nn h0 n0 (by omega) ) hZ (hw _ (List.mem_of_getElem? (i := 10) rfl)) (hw _ (List.mem_of_getElem? (i := 9) rfl)) (by decide) (by decide)) (g := (mkF m 62 #[.val (.long ss), .second, .val (.int sh), .val (.int jj), .val (.long size), .second, .val (.long (size / (64000 : Int64))), .second, .val (.int nn), .val (.int (size % (64000 : Int64)).toInt32), .unset] [(.int nn), (.long size)])) rfl (by rw [hml]; rfl) (argsL := [(.long size), (.int nn)]) (rest := []) (lenOf pd_2 rfl) rfl (by show 2 * 0 + _ ≤ _; exact Nat.le_of_eq rfl) (hb hby at_62) (fun _ _ => ⟨rfl, eq1, (by decide : 0 + 0 ≤ _), (by decide : 0 + 0 ≤ _)⟩)
    dsimp only [Pt.U, Pt.locs, Pt.cells, Pt.slots] at X6 lq6 yq6 zq6 st6 hQ6
    subst lq6 yq6 zq6
    obtain ⟨rfl, Nq6, eq6⟩ := hQ6
    have N6 := Fr.app N1 Nq6
    refine own_go (st' := T6.setTop (mkF m 65 #[.val (.long ss), .second, .val (.int sh), .val (.int jj), .val (.long size), .second, .val (.long (size / (64000 : Int64))), .second, .val (.int nn), .val (.int (size % (64000 : Int64)).toInt32), .unset] [(.int (own_lmin (64000 : Int64) (size - (nn.toInt64 * (64000 : Int64)))).toInt32)])) (fun t k => st6 t k) ?_
    refine own_go (st' := T6.setTop (mkF m 67 #[.val (.long ss), .second, .val (.int sh), .val (.int jj), .val (.long size), .second, .val (.long (size / (64000 : Int64))), .second, .val (.int nn), .val (.int (size % (64000 : Int64)).toInt32), .val (.int (own_lmin (64000 : Int64) (size - (nn.toInt64 * (64000 : Int64)))).toInt32)] [])) (fun _ k => XS.istore X6.here hx rfl (hb hby at_65) rfl (l' := #[.val (.long ss), .second, .val (.int sh), .val (.int jj), .val (.long size), .second, .val (.long (size / (64000 : Int64))), .second, .val (.int nn), .val (.int (size % (64000 : Int64)).toInt32), .val (.int (own_lmin (64000 : Int64) (size - (nn.toInt64 * (64000 : Int64)))).toInt32)]) rfl k) ?_
    refine own_go (st' := T6.setTop (mkF m 69 #[.val (.long ss), .second, .val (.int sh), .val (.int jj), .val (.long size), .second, .val (.long (size / (64000 : Int64))), .second, .val (.int nn), .val (.int (size % (64000 : Int64)).toInt32), .val (.int (own_lmin (64000 : Int64) (size - (nn.toInt64 * (64000 : Int64)))).toInt32)] [(.int (own_lmin (64000 : Int64) (size - (nn.toInt64 * (64000 : Int64)))).toInt32)])) (fun _ k => XS.iload X6.here hx rfl (hb hby at_67) rfl k) ?_
    refine own_go (st' := T6.setTop (mkF m 71 #[.val (.long ss), .second, .val (.int sh), .val (.int jj), .val (.long size), .second, .val (.long (size / (64000 : Int64))), .second, .val (.int nn), .val (.int (size % (64000 : Int64)).toInt32), .val (.int (own_lmin (64000 : Int64) (size - (nn.toInt64 * (64000 : Int64)))).toInt32)] [(.int (size % (64000 : Int64)).toInt32), (.int (own_lmin (64000 : Int64) (size - (nn.toInt64 * (64000 : Int64)))).toInt32)])) (fun _ k => XS.iload X6.here hx rfl (hb hby at_69) rfl k) ?_
    have hc7 : (own_lmin (64000 : Int64) (size - (nn.toInt64 * (64000 : Int64)))).toInt32 = (size % (64000 : Int64)).toInt32 := by
      have hz : 0 ≤ size.toInt := by rw [hsize]; exact own_nn _ _
      have hb := own_n size nn jj hz hnn
      exact own_ge size nn hz hb.1 hb.2 hc2
    refine own_go (st' := T6.setTop (mkF m 74 #[.val (.long ss), .second, .val (.int sh), .val (.int jj), .val (.long size), .second, .val (.long (size / (64000 : Int64))), .second, .val (.int nn), .val (.int (size % (64000 : Int64)).toInt32), .val (.int (own_lmin (64000 : Int64) (size - (nn.toInt64 * (64000 : Int64)))).toInt32)] [])) (fun _ k => XS.icmpNo X6.here hx rfl (hb hby at_71) rfl (teq hc7).2 k) ?_
    refine own_go (st' := T6.setTop (mkF m 75 #[.val (.long ss), .second, .val (.int sh), .val (.int jj), .val (.long size), .second, .val (.long (size / (64000 : Int64))), .second, .val (.int nn), .val (.int (size % (64000 : Int64)).toInt32), .val (.int (own_lmin (64000 : Int64) (size - (nn.toInt64 * (64000 : Int64)))).toInt32)] [(.int (1 : Int32))])) (fun _ k => XS.iconst X6.here hx rfl (hb hby at_74) k) ?_
    refine own_go (st' := T6.setTop (mkF m 79 #[.val (.long ss), .second, .val (.int sh), .val (.int jj), .val (.long size), .second, .val (.long (size / (64000 : Int64))), .second, .val (.int nn), .val (.int (size % (64000 : Int64)).toInt32), .val (.int (own_lmin (64000 : Int64) (size - (nn.toInt64 * (64000 : Int64)))).toInt32)] [(.int (1 : Int32))])) (fun _ k => XS.goto X6.here hx rfl (pc0 := 75) (pc' := 79) rfl (hb hby at_75) (by decide) (by decide) k) ?_
    obtain ⟨fs, hr, hrun, hended, hW, hsame⟩ := X6.leave (v := some (.int (1 : Int32))) (fun h => by rw [Bd.returns] at h; cases h)
    refine ⟨_, _, ?_, hP _ _ hrun hended ⟨_, _, rfl, ?_, ⟨_, rfl⟩, hW, hsame.mono (by decide) (by decide)⟩⟩
    · exact retN X6 hx (t := .boolean) Bd.returns (by simp) (hb hby at_79) hr
    · show Qrm0 Z ss sh jj h0 n0 _ T6.heap _
      rw [eq6]
      exact ⟨rfl, N6, trivial⟩
set_option maxRecDepth 65536 in
set_option maxHeartbeats 40000000 in
theorem comes_1 {Post : Tables → Env → Array Value → State → Outcome → State → Prop} (hpost : ∀ tb e args s v u, (limb_1_1.after args s (.returned v) u = true ∧ limb_1_2.after args s (.returned v) u = true ∧ True) → FrameEnd s (.returned v) u (Jvm.fieldLocs frame_1_writes args s ++ Jvm.arrayLocs frame_1_arrays args s ++ Jvm.staticLocs frame_1_statics s) 0 0 → Post tb e args s (.returned v) u) :
    ArmFor flags0 classFile x code maxLocals ret World_1 tables_1 room_1 Calls_1 rest_1 Pre_1 Post := by
  intro l hfl _ _ p e ha hc hk s m args below hf hA hF happ hP
  obtain ⟨hcalls, hrest, hpre⟩ := hP
  obtain ⟨-, -, -, hnamed, -, -, -, hat⟩ := (Spec.applies_iff hf).mp happ
  obtain ⟨hg, hn⟩ := and_e (Cond.before_iff.mp (show (Jvm.Cond.and given_1 narrow_1).before args s = true from hpre))
  obtain ⟨h1, h2⟩ := and_e hg
  obtain ⟨w0, w1, w2, rfl⟩ : ∃ w0 w1 w2 : Value, args = #[w0, w1, w2] := by
    have hs : args.size = 3 := by simpa [Cond.value, given_1] using h1
    obtain ⟨L⟩ := args
    match L, hs with
    | [w0, w1, w2], _ => exact ⟨w0, w1, w2, rfl⟩
  have hw := fun d (hd : d ∈ tables_1) => atoms_spec (ws := Jvm.Cond.code x code maxLocals ret :: tables_1) hat d (List.mem_cons_of_mem _ hd)
  have hfit : Fit s := fun {y c} hc i hi => by
    obtain ⟨ha, rfl⟩ := Array.getElem?_eq_some_iff.mp hc
    have q := List.all_eq_true.mp ((Array.all_eq_true_iff_forall_mem.mp hF) _ (Array.getElem_mem ha)) i (List.mem_range.mpr hi)
    simpa [Array.getElem?_eq_getElem hi] using q
  obtain ⟨ha0, hr0⟩ := and_e h2
  obtain ⟨ss, ev0⟩ := isL_v ha0
  obtain rfl : w0 = (.long ss) := Option.some.inj ev0
  obtain ⟨ha1, hr1⟩ := and_e hr0
  obtain ⟨sh, ev1⟩ := is_v ha1
  obtain rfl : w1 = (.int sh) := Option.some.inj ev1
  obtain ⟨jj, ev2⟩ := is_v hr1
  obtain rfl : w2 = (.int jj) := Option.some.inj ev2
  obtain ⟨n, o, h1, h2, h3, _, L, rfl, hQ, hq⟩ := rm0 l s _ hw tables_1 ss sh jj s.heap s.heap.size (Nat.le_refl _)  p e ha hc hk s m _ below hf ((Spec.applies_iff_loose hf).mp happ).1 ⟨rfl, State.Warmed39.refl s, rfl⟩ trivial
  obtain ⟨rfl, N, -⟩ := hQ
  refine ⟨n, _, h1, h2, h3, hpost _ _ _ _ _ _ ⟨Cond.after_iff.mpr rfl, Cond.after_iff.mpr (eq_i res_at (Term.int_eval (1)) rfl), trivial⟩ ⟨hq.1, hq.2.1, (hq.2.2.sift fun y hy => Or.inr (N y hy)).mono (by decide) (by decide)⟩⟩
theorem main_1_1 : Claimed_1_1 := comes_1 fun _ _ _ _ _ _ h hF => ⟨h.1, hF⟩
theorem main_1_2 : Claimed_1_2 := comes_1 fun _ _ _ _ _ _ h hF => ⟨h.2.1, hF⟩
end Jvm.Pilot.@@N@@
namespace Jvm.Pilot.@@N@@
open Jvm Jvm.ClassFile Sem Op Lib Jvm.Free Jvm.Stand Jvm.Pilot.@@N@@.Jvm.D
/-! MADE BY PROGRAM (witnessworld.py) out of the Statement's table words and the real class files: 10 classes; the members and pool entries that the words name. The judged class is class 1, her method 1. -/
namespace start1
open Jvm.ClassFile
def u (s : String) : CpInfo := .utf8 (stringToUtf16 s)
/-- a pool by its gaps: so many unusable entries, then the entry; so many at the end -/
def gap : Nat → List CpInfo → List CpInfo
  | 0, r => r
  | n + 1, r => .unusable :: gap n r
def poolList (es : List (Nat × CpInfo)) (last : Nat) : List CpInfo := es.foldr (fun e r => gap e.1 (e.2 :: r)) (gap last [])
def pool (es : List (Nat × CpInfo)) (last : Nat) : Array CpInfo := ⟨poolList es last⟩
def fileOf (pool : Array CpInfo) (this : Nat) (attrs : Array Attribute := #[]) (ms : Array MethodInfo := #[]) (fl : Nat := 33) (sup : Nat := 0) (ifs : Array Nat := #[]) (fds : Array FieldInfo := #[]) : ClassFile where
  minorVersion := 0
  majorVersion := 65
  constantPool := pool
  accessFlags := fl
  thisClass := this
  superClass := sup
  interfaces := ifs
  fields := fds
  methods := ms
  attributes := attrs
def plain (name : String) (sup : Option ClassId) : Class where
  name := name
  kind := .ordinary
  loader := none
  accessFlags := 33
  super := sup
  interfaces := #[]
  cf := none
  fields := #[]
  methods := #[]
  instanceTypes := #[]
  staticTypes := #[]
  resolved := #[]
  callSites := []
  init := .initialized
  statics := none
  mirror := none

def pool0 : Array CpInfo := pool [(5, u "<init>"), (0, u "()V"), (1, .class_ 10), (1, u "java/lang/Object")] 113

def k0m0 : Method := { name := "<init>", desc := "()V", sig := { parameters := [], returnType := none }, accessFlags := 1, code := none }
/-- java/lang/Object -/
def k0 : Class := { plain "java/lang/Object" none with
  accessFlags := 33
  interfaces := #[]
  cf := some (fileOf pool0 8 #[] #[{ accessFlags := 1, nameIndex := 5, descriptorIndex := 6, attributes := #[] }] 33 0 #[] #[])
  fields := #[]
  methods := #[k0m0]
  instanceTypes := #[]
  staticTypes := #[]
  resolved := Array.replicate 124 none
  statics := none }

def pool1 : Array CpInfo := pool [(2, .class_ 4), (1, u "java/lang/Object"), (0, u "<init>"), (0, u "()V"), (2, .long 9223372036854775807), (1, .long 64000), (1, .integer 2147483647), (0, .methodref 15 16), (0, .class_ 17), (0, .nameAndType 18 19), (0, u "java/lang/Math"), (0, u "min"), (0, u "(JJ)J"), (0, .integer 64000), (0, .methodref 22 23), (0, .class_ 24), (0, .nameAndType 25 26), (0, u "com/example/scatterkeep/scatterkeep/protocol/Limits"), (0, u "chunkLength"), (0, u "(JI)I"), (0, .class_ 28), (0, u "com/example/scatterkeep/scatterkeep/protocol/LimitsChunkLengthPinLaw"), (2, u "law"), (0, u "(JII)Z")] 3

def k1m0 : Method := { name := "<init>", desc := "()V", sig := { parameters := [], returnType := none }, accessFlags := 2, code := none }
def k1c1 : Code := { maxStack := 4, maxLocals := 11, code := code, exceptionTable := #[], attributes := #[] }
def k1m1 : Method := { name := "law", desc := "(JII)Z", sig := { parameters := [.long, .int, .int], returnType := some .boolean }, accessFlags := 9, code := some k1c1 }
/-- com/example/scatterkeep/scatterkeep/protocol/LimitsChunkLengthPinLaw -/
def k1 : Class := { plain "com/example/scatterkeep/scatterkeep/protocol/LimitsChunkLengthPinLaw" (some 0) with
  accessFlags := 49
  interfaces := #[]
  cf := some (fileOf pool1 27 #[] #[{ accessFlags := 2, nameIndex := 5, descriptorIndex := 6, attributes := #[] }, { accessFlags := 9, nameIndex := 31, descriptorIndex := 32, attributes := #[] }] 49 2 #[] #[])
  fields := #[]
  methods := #[k1m0, k1m1]
  instanceTypes := #[]
  staticTypes := #[]
  resolved := Array.replicate 36 none
  statics := none }

def pool2 : Array CpInfo := pool [(1, .class_ 2), (0, u "java/lang/Math"), (1, .class_ 6), (1, u "java/lang/Object"), (0, u "<init>"), (0, u "()V"), (89, .class_ 100), (1, u "java/lang/Math$RandomNumberGeneratorHolder"), (20, u "(JJ)J"), (50, u "negativeZeroFloatBits"), (0, u "J"), (2, u "negativeZeroDoubleBits"), (24, u "min"), (43, u "$assertionsDisabled"), (0, u "Z"), (91, u "twoToTheDoubleScaleDown"), (0, u "D"), (4, u "twoToTheDoubleScaleUp"), (9, u "E"), (3, u "PI"), (2, u "TAU"), (2, u "DEGREES_TO_RADIANS"), (0, u "RADIANS_TO_DEGREES")] 94

def k2m0 : Method := { name := "<init>", desc := "()V", sig := { parameters := [], returnType := none }, accessFlags := 2, code := none }
def k2c1 : Code := { maxStack := 4, maxLocals := 4, code := jdk_29_method_70_code, exceptionTable := #[], attributes := #[] }
def k2m1 : Method := { name := "min", desc := "(JJ)J", sig := { parameters := [.long, .long], returnType := some .long }, accessFlags := 9, code := some k2c1 }
/-- java/lang/Math -/
def k2 : Class := { plain "java/lang/Math" (some 0) with
  accessFlags := 49
  interfaces := #[]
  cf := some (fileOf pool2 1 #[.nestMembers #[98]] #[{ accessFlags := 2, nameIndex := 7, descriptorIndex := 8, attributes := #[] }, { accessFlags := 9, nameIndex := 201, descriptorIndex := 121, attributes := #[] }] 49 4 #[] #[{ accessFlags := 25, nameIndex := 354, descriptorIndex := 339, attributes := #[] }, { accessFlags := 25, nameIndex := 358, descriptorIndex := 339, attributes := #[] }, { accessFlags := 25, nameIndex := 361, descriptorIndex := 339, attributes := #[] }, { accessFlags := 26, nameIndex := 364, descriptorIndex := 339, attributes := #[] }, { accessFlags := 26, nameIndex := 365, descriptorIndex := 339, attributes := #[] }, { accessFlags := 26, nameIndex := 172, descriptorIndex := 173, attributes := #[] }, { accessFlags := 26, nameIndex := 176, descriptorIndex := 173, attributes := #[] }, { accessFlags := 8, nameIndex := 344, descriptorIndex := 339, attributes := #[] }, { accessFlags := 8, nameIndex := 338, descriptorIndex := 339, attributes := #[] }, { accessFlags := 4120, nameIndex := 245, descriptorIndex := 246, attributes := #[] }])
  fields := #[{ name := "E", type := .double, accessFlags := 25, slot := 0, constantValue := 0 }, { name := "PI", type := .double, accessFlags := 25, slot := 1, constantValue := 0 }, { name := "TAU", type := .double, accessFlags := 25, slot := 2, constantValue := 0 }, { name := "DEGREES_TO_RADIANS", type := .double, accessFlags := 26, slot := 3, constantValue := 0 }, { name := "RADIANS_TO_DEGREES", type := .double, accessFlags := 26, slot := 4, constantValue := 0 }, { name := "negativeZeroFloatBits", type := .long, accessFlags := 26, slot := 5, constantValue := 0 }, { name := "negativeZeroDoubleBits", type := .long, accessFlags := 26, slot := 6, constantValue := 0 }, { name := "twoToTheDoubleScaleUp", type := .double, accessFlags := 8, slot := 7, constantValue := 0 }, { name := "twoToTheDoubleScaleDown", type := .double, accessFlags := 8, slot := 8, constantValue := 0 }, { name := "$assertionsDisabled", type := .boolean, accessFlags := 4120, slot := 9, constantValue := 0 }]
  methods := #[k2m0, k2m1]
  instanceTypes := #[]
  staticTypes := #[.double, .double, .double, .double, .double, .long, .long, .double, .double, .boolean]
  resolved := Array.replicate 460 none
  statics := none }

def pool3 : Array CpInfo := pool [(1, .class_ 2), (0, u "com/example/scatterkeep/scatterkeep/protocol/Limits"), (1, .class_ 6), (1, u "java/lang/Object"), (0, u "<init>"), (0, u "()V"), (0, .long 64000), (1, .methodref 1 12), (0, .nameAndType 13 14), (0, u "chunkOffset"), (0, u "(I)J"), (0, .methodref 16 17), (0, .class_ 18), (0, .nameAndType 19 20), (0, u "java/lang/Math"), (0, u "min"), (0, u "(JJ)J"), (0, u "CHUNK_SIZE"), (0, u "I"), (2, u "MAX_CHUNKS"), (1, u "MAX_CHUNK_NO"), (1, u "MIN_DEGREE"), (1, u "MAX_DEGREE"), (1, u "MAX_PEER_ID"), (1, u "MAX_PORT"), (1, u "MAX_SILENCE_SECONDS"), (1, u "MAX_DATAGRAM"), (5, u "chunkLength"), (0, u "(JI)I")] 2

def k3m0 : Method := { name := "<init>", desc := "()V", sig := { parameters := [], returnType := none }, accessFlags := 2, code := none }
def k3c1 : Code := { maxStack := 4, maxLocals := 1, code := prog_55_method_3_code, exceptionTable := #[], attributes := #[] }
def k3m1 : Method := { name := "chunkOffset", desc := "(I)J", sig := { parameters := [.int], returnType := some .long }, accessFlags := 9, code := some k3c1 }
def k3c2 : Code := { maxStack := 6, maxLocals := 3, code := prog_55_method_4_code, exceptionTable := #[], attributes := #[] }
def k3m2 : Method := { name := "chunkLength", desc := "(JI)I", sig := { parameters := [.long, .int], returnType := some .int }, accessFlags := 9, code := some k3c2 }
/-- com/example/scatterkeep/scatterkeep/protocol/Limits -/
def k3 : Class := { plain "com/example/scatterkeep/scatterkeep/protocol/Limits" (some 0) with
  accessFlags := 49
  interfaces := #[]
  cf := some (fileOf pool3 1 #[] #[{ accessFlags := 2, nameIndex := 7, descriptorIndex := 8, attributes := #[] }, { accessFlags := 9, nameIndex := 13, descriptorIndex := 14, attributes := #[] }, { accessFlags := 9, nameIndex := 45, descriptorIndex := 46, attributes := #[] }] 49 4 #[] #[{ accessFlags := 25, nameIndex := 21, descriptorIndex := 22, attributes := #[] }, { accessFlags := 25, nameIndex := 25, descriptorIndex := 22, attributes := #[] }, { accessFlags := 25, nameIndex := 27, descriptorIndex := 22, attributes := #[] }, { accessFlags := 25, nameIndex := 29, descriptorIndex := 22, attributes := #[] }, { accessFlags := 25, nameIndex := 31, descriptorIndex := 22, attributes := #[] }, { accessFlags := 25, nameIndex := 33, descriptorIndex := 22, attributes := #[] }, { accessFlags := 25, nameIndex := 35, descriptorIndex := 22, attributes := #[] }, { accessFlags := 25, nameIndex := 37, descriptorIndex := 22, attributes := #[] }, { accessFlags := 25, nameIndex := 39, descriptorIndex := 22, attributes := #[] }])
  fields := #[{ name := "CHUNK_SIZE", type := .int, accessFlags := 25, slot := 0, constantValue := 0 }, { name := "MAX_CHUNKS", type := .int, accessFlags := 25, slot := 1, constantValue := 0 }, { name := "MAX_CHUNK_NO", type := .int, accessFlags := 25, slot := 2, constantValue := 0 }, { name := "MIN_DEGREE", type := .int, accessFlags := 25, slot := 3, constantValue := 0 }, { name := "MAX_DEGREE", type := .int, accessFlags := 25, slot := 4, constantValue := 0 }, { name := "MAX_PEER_ID", type := .int, accessFlags := 25, slot := 5, constantValue := 0 }, { name := "MAX_PORT", type := .int, accessFlags := 25, slot := 6, constantValue := 0 }, { name := "MAX_SILENCE_SECONDS", type := .int, accessFlags := 25, slot := 7, constantValue := 0 }, { name := "MAX_DATAGRAM", type := .int, accessFlags := 25, slot := 8, constantValue := 0 }]
  methods := #[k3m0, k3m1, k3m2]
  instanceTypes := #[]
  staticTypes := #[.int, .int, .int, .int, .int, .int, .int, .int, .int]
  resolved := Array.replicate 49 none
  statics := none }

def pool4 : Array CpInfo := pool [(1, u "java/lang/Cloneable"), (0, .class_ 1), (0, u "java/lang/Object"), (0, .class_ 3)] 3

/-- java/lang/Cloneable -/
def k4 : Class := { plain "java/lang/Cloneable" (some 0) with
  accessFlags := 1537
  interfaces := #[]
  cf := some (fileOf pool4 2 #[] #[] 1537 4 #[] #[])
  fields := #[]
  methods := #[]
  instanceTypes := #[]
  staticTypes := #[]
  resolved := Array.replicate 8 none
  statics := none }

def pool5 : Array CpInfo := pool [(1, u "java/io/Serializable"), (0, .class_ 1), (0, u "java/lang/Object"), (0, .class_ 3)] 3

/-- java/io/Serializable -/
def k5 : Class := { plain "java/io/Serializable" (some 0) with
  accessFlags := 1537
  interfaces := #[]
  cf := some (fileOf pool5 2 #[] #[] 1537 4 #[] #[])
  fields := #[]
  methods := #[]
  instanceTypes := #[]
  staticTypes := #[]
  resolved := Array.replicate 8 none
  statics := none }

/-- the primitive byte -/
def k6 : Class := { plain "byte" none with kind := .primitive 'B', accessFlags := 0x411 }
/-- [B -/
def k7 : Class := { plain "[B" (some 0) with kind := .array 6 .byte, interfaces := #[4, 5], accessFlags := 1041 }

/-- the primitive int -/
def k8 : Class := { plain "int" none with kind := .primitive 'I', accessFlags := 0x411 }
/-- [I -/
def k9 : Class := { plain "[I" (some 0) with kind := .array 8 .int, interfaces := #[4, 5], accessFlags := 1041 }

def heap : Heap := #[]
def classes : Array Class := #[k0, k1, k2, k3, k4, k5, k6, k7, k8, k9]
def interned : List (Array UInt16 × Addr) := []
def slotsUsed : Nat := 0
def theMethod : MethodId := ⟨1, 1⟩
def args0 : Array Value := #[.long 1000000, .int 3, .int 5]
def aboutOver (below : List Frame) : State where
  vm := { classes := classes, interned := interned.toArray }
  heap := heap
  slotsUsed := slotsUsed
  threads := #[{ frames := .invoking theMethod args0 :: below }]
def below0 : List Frame := [.native { method := ⟨0, 0⟩, args := #[] }]
def about1 : State := aboutOver below0
def p0 : Program := .bare "" "" ""
def e0 : Env := launch0.env 0 0 0
theorem w_frames : about1.frames = Frame.invoking theMethod args0 :: below0 := rfl
set_option maxRecDepth 65536 in
theorem w_args : argsFit about1.vm theMethod args0 = true := by decide +kernel
set_option maxRecDepth 65536 in
theorem w_heap : heapFits about1 = true := by decide +kernel
set_option maxRecDepth 65536 in
theorem w_runnable : about1.curStatus? = some .runnable := by decide +kernel
set_option maxRecDepth 65536 in
theorem w_alone : about1.alone = true := by decide +kernel
set_option maxRecDepth 65536 in
theorem w_named : about1.methodNamed? x = some theMethod := by decide +kernel
set_option maxRecDepth 65536 in
theorem w_hears : about1.hears theMethod below0 = true := by decide +kernel
set_option maxRecDepth 65536 in
theorem w_ripe : about1.ripe theMethod args0 below0 = true := by decide +kernel
theorem w_running : about1.status = .running := rfl
set_option maxRecDepth 65536 in
theorem w_room : about1.hasRoom e0.platform room_1 = true :=
  launch0.hasRoom_least _ room_1 (by decide +kernel) (by decide +kernel) (by decide +kernel) (by decide +kernel) (by decide +kernel) (by decide +kernel)
theorem allAtoms_all (ts : List Jvm.Cond) (a : Array Jvm.Value) (st : Jvm.State) : (allAtoms ts).before a st = ts.all (fun c => c.before a st) := by
  induction ts with
  | nil => rfl
  | cons c t ih =>
    show (Jvm.Cond.and c (allAtoms t)).before a st = _
    rw [Jvm.Cond.before_and, ih, List.all_cons]
def words1 : List Jvm.Cond := Jvm.Cond.code x code maxLocals ret :: tables_1
/-- a 'code' word, met by the world's own term for the bytes: nothing is compared byte by byte -/
theorem code_word {y : MethodName} {bytes : ByteArray} {mx : Nat} {rt : Option FieldType} {a : Array Value} {s : State} {m : MethodId} {meth : Method} {c : Code} (h1 : s.methodNamed? y = some m) (h2 : s.vm.method? m = some meth) (h3 : meth.code = some c) (h4 : c.code = bytes)
    (h5 : (c.maxLocals == mx && c.exceptionTable.isEmpty && decide (c.maxStack ≤ mostOperands) && decide (meth.sig.returnType = rt) && !meth.locks && decide (parseMethodDescriptor y.desc = some meth.sig)) = true) : (Jvm.Cond.code y bytes mx rt).before a s = true := by
  simp only [Bool.and_eq_true, beq_iff_eq, Bool.not_eq_true', decide_eq_true_eq] at h5
  obtain ⟨⟨⟨⟨⟨g1, g2⟩, g3⟩, g4⟩, g5⟩, g6⟩ := h5
  simp [Cond.before, Cond.holds, Cond.value, h1, h2, h3, h4, g1, g2, g3, g4, g5, g6]
def isCode : Jvm.Cond → Bool
  | .code _ _ _ _ => true
  | _ => false
theorem all_split {L : List Jvm.Cond} {P : Jvm.Cond → Bool} (h1 : L.all (fun c => isCode c || P c) = true) (h2 : ∀ c ∈ L.filter isCode, P c = true) : L.all P = true := by
  refine List.all_eq_true.mpr fun c hc => ?_
  have h := List.all_eq_true.mp h1 c hc
  rcases Bool.eq_false_or_eq_true (isCode c) with hi | hi
  · exact h2 c (List.mem_filter.mpr ⟨hc, hi⟩)
  · simpa [hi] using h
set_option maxRecDepth 65536 in
theorem w_c0 : (Jvm.Cond.code x code maxLocals ret).before args0 about1 = true := code_word (m := ⟨1, 1⟩) (meth := k1m1) (c := k1c1) (by decide +kernel) rfl rfl rfl (by decide +kernel)
set_option maxRecDepth 65536 in
theorem w_c1 : (Jvm.Cond.code ({ cls := "java/lang/Math", name := "min", desc := "(JJ)J" } : Jvm.MethodName) jdk_29_method_70_code (4 : Nat) (Option.some Jvm.ClassFile.FieldType.long)).before args0 about1 = true := code_word (m := ⟨2, 1⟩) (meth := k2m1) (c := k2c1) (by decide +kernel) rfl rfl rfl (by decide +kernel)
set_option maxRecDepth 65536 in
theorem w_c2 : (Jvm.Cond.code ({ cls := "com/example/scatterkeep/scatterkeep/protocol/Limits", name := "chunkLength", desc := "(JI)I" } : Jvm.MethodName) prog_55_method_4_code (3 : Nat) (Option.some Jvm.ClassFile.FieldType.int)).before args0 about1 = true := code_word (m := ⟨3, 2⟩) (meth := k3m2) (c := k3c2) (by decide +kernel) rfl rfl rfl (by decide +kernel)
set_option maxRecDepth 65536 in
theorem w_c3 : (Jvm.Cond.code ({ cls := "com/example/scatterkeep/scatterkeep/protocol/Limits", name := "chunkOffset", desc := "(I)J" } : Jvm.MethodName) prog_55_method_3_code (1 : Nat) (Option.some Jvm.ClassFile.FieldType.long)).before args0 about1 = true := code_word (m := ⟨3, 1⟩) (meth := k3m1) (c := k3c1) (by decide +kernel) rfl rfl rfl (by decide +kernel)
def codes1 : List Jvm.Cond := [Jvm.Cond.code x code maxLocals ret, Jvm.Cond.code ({ cls := "java/lang/Math", name := "min", desc := "(JJ)J" } : Jvm.MethodName) jdk_29_method_70_code (4 : Nat) (Option.some Jvm.ClassFile.FieldType.long), Jvm.Cond.code ({ cls := "com/example/scatterkeep/scatterkeep/protocol/Limits", name := "chunkLength", desc := "(JI)I" } : Jvm.MethodName) prog_55_method_4_code (3 : Nat) (Option.some Jvm.ClassFile.FieldType.int), Jvm.Cond.code ({ cls := "com/example/scatterkeep/scatterkeep/protocol/Limits", name := "chunkOffset", desc := "(I)J" } : Jvm.MethodName) prog_55_method_3_code (1 : Nat) (Option.some Jvm.ClassFile.FieldType.long)]
set_option maxRecDepth 65536 in
theorem codes_eq : words1.filter isCode = codes1 := rfl
theorem w_codes : ∀ c ∈ words1.filter isCode, c.before args0 about1 = true := by
  rw [codes_eq]
  intro c hc
  simp only [codes1, List.mem_cons, List.not_mem_nil, or_false] at hc
  rcases hc with rfl | rfl | rfl | rfl
  · exact w_c0
  · exact w_c1
  · exact w_c2
  · exact w_c3
set_option maxRecDepth 65536 in
theorem w_t1 : words1.all (fun c => isCode c || c.before args0 about1) = true := by decide +kernel
theorem w_tables : (allAtoms (Jvm.Cond.code x code maxLocals ret :: tables_1)).before args0 about1 = true := by
  rw [allAtoms_all]
  show words1.all (fun c => c.before args0 about1) = true
  refine all_split ?_ w_codes
  rw [w_t1]
set_option maxRecDepth 65536 in
theorem w_case : (Jvm.Cond.and given_1 narrow_1).before args0 about1 = true := by decide +kernel
theorem w_applies : (headSpec (Jvm.Cond.code x code maxLocals ret :: tables_1) room_1).applies x e0.platform about1 = true :=
  (Spec.applies_iff w_frames).mpr ⟨w_running, w_runnable, w_alone, w_named, w_hears, w_ripe, w_room, w_tables⟩
theorem atStart : AtStart classFile x code maxLocals ret World_1 tables_1 room_1 Calls_1 rest_1 Pre_1 launch0 p0 e0 about1 theMethod args0 below0 :=
  ⟨lists_1, trivial, launch0.admits_env _ _ _, launch0.least_env, fairChoices_fair.cas, fairChoices_fair.clock, w_frames, w_args, w_heap, w_applies, trivial, trivial, w_case⟩
end start1
theorem witness_1 : WitnessClaimed_1 := ⟨start1.p0, start1.e0, start1.about1, start1.theMethod, start1.args0, start1.below0, start1.atStart⟩
end Jvm.Pilot.@@N@@
