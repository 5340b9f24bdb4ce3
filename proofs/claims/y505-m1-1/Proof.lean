import JvmDerived
import JvmDerived.Pilot.@@N@@Statement
import JvmDerived.Pilot.@@N@@Code
set_option linter.unusedVariables false
set_option linter.unusedSimpArgs false
namespace Jvm.Pilot.@@N@@
open Jvm Jvm.ClassFile Sem Op Lib Jvm.Free Jvm.Stand Jvm.LawKit Jvm.RoadKit Bundle Jvm.Pilot.@@N@@.Jvm.D
abbrev own_Go (tb : Tables) (e : Env) (below : List Frame) (P : State → Outcome → Prop) (st : State) : Prop := ∃ U o, Steps tb e below st U ∧ P U o
theorem own_go {tb : Tables} {e : Env} {below : List Frame} {P : State → Outcome → Prop} {st st' : State} (h : ∀ t, Steps tb e below st' t → Steps tb e below st t) (k : own_Go tb e below P st') : own_Go tb e below P st := by
  obtain ⟨U, o, h1, h2⟩ := k; exact ⟨U, o, h _ h1, h2⟩
theorem own_cat {v : Value} (h : v.isRef = true) : v.category = 1 := by rcases ref_cases h with rfl | ⟨a, rfl⟩ <;> rfl
theorem own_nar_ref {t : FieldType} {v : Value} (h : v.isRef = true) : narrow t v = v := by rcases ref_cases h with rfl | ⟨a, rfl⟩ <;> cases t <;> rfl
theorem own_fit_ref {t : FieldType} {v : Value} (h : v.isRef = true) (ht : t.isReference = true := by rfl) : fits t v = true := by rcases ref_cases h with rfl | ⟨a, rfl⟩ <;> cases t <;> first | rfl | (cases ht)
theorem own_widen {p : Program} {l : Launch} {e : Env} {R : Room} {s : State} {m : MethodId} {args : Array Value} {below : List Frame} {meth : Method} {c : Code} {T : State} {locs : List Loc} {cells slots cells' slots' : Nat} (X : Stand p l e R s m args below meth c T locs cells slots) (h1 : cells ≤ cells') (h2 : slots ≤ slots') : Stand p l e R s m args below meth c T locs cells' slots' :=
  { X with same := X.same.mono h1 h2 }
theorem own_sel_priv {s : State} {args : Array Value} {y : MethodName} {n : Nat} (wi : (Jvm.Cond.instantiable y.cls n).before args s = true) (hp : s.PrivateAt y) (hinst : (Jvm.Cond.instanceMethod y).before args s = true) (hy : y.cls ≠ "java/lang/invoke/MethodHandle" ∧ y.cls ≠ "java/lang/invoke/VarHandle") : (Jvm.Cond.selects y.cls y y).before args s = true := by
  obtain ⟨c, k, h1, h2, -, h4, -⟩ := Cond.instantiable_spec wi
  exact selects_self_of_private h1 h2 (Bool.or_eq_false_iff.mp h4).1 hp hinst hy
theorem own_sta_keep {Z : State} {h h' : Heap} {ws : List Addr} {C n d : String} {v : Value} (F : Sta Z h C n d v) (K : Keep h h' ws) (q : ∀ x ∈ ws, ∀ c : Cell, h[x]? = some c → c.vm.isStatics = false) : Sta Z h' C n d v := by
  obtain ⟨cf, i, k, f, st, cell, h1, h2, h3, h4, h5, h6, h7⟩ := F
  exact ⟨cf, i, k, f, st, cell, h1, h2, h3, h4, K.2.1 st cell h5 (fun z => by rw [q st z cell h5] at h6; cases h6), h6, h7⟩
theorem own_pl_exa {Z : State} {h : Heap} {a : Addr} {C : String} (F : Exa Z h a C) : ∀ c : Cell, h[a]? = some c → c.vm.isStatics = false := fun c hc => by
  obtain ⟨c1, k, h1, -, -, h4, -⟩ := F; cases h1.symm.trans hc; exact h4
theorem own_pl_fld {Z : State} {h : Heap} {a : Addr} {C n d : String} {v : Value} (F : Fld Z h a C n d v) : ∀ c : Cell, h[a]? = some c → c.vm.isStatics = false := old_plain F
theorem own_pl_arv {Z : State} {h : Heap} {a : Addr} {k : ClassId} {ty : FieldType} {n : Int32} {vs : List Value} {d : Value} (F : Arv Z h a k ty n vs d) : ∀ c : Cell, h[a]? = some c → c.vm.isStatics = false := fun c hc => by
  obtain ⟨c1, A, -⟩ := F; cases A.1.symm.trans hc; exact A.plain
def own_sh (x : Int64) (k : Int32) : Int64 := (x.toUInt64 >>> (k &&& 0x3f).toInt64.toUInt64).toInt64
def own_mix (x : Int64) : Int64 :=
  let a := (x ^^^ own_sh x 30) * (-4658895280553007687 : Int64)
  let b := (a ^^^ own_sh a 27) * (-7723592293110705685 : Int64)
  b ^^^ own_sh b 31
def own_nt (c i : Int64) : Int64 := i * ((2 : Int64) - c * i)
def own_inverse (c : Int64) : Int64 := own_nt c (own_nt c (own_nt c (own_nt c (own_nt c c))))
def own_unmix (z : Int64) : Int64 :=
  let a := (z ^^^ own_sh z 31 ^^^ own_sh z 62) * own_inverse (-7723592293110705685 : Int64)
  let b := (a ^^^ own_sh a 27 ^^^ own_sh a 54) * own_inverse (-4658895280553007687 : Int64)
  b ^^^ own_sh b 30 ^^^ own_sh b 60
theorem own_xs (X : BitVec 64) (k j : Nat) (h : 64 ≤ 3 * k) (hj : j = 2 * k) : (X ^^^ X >>> k) ^^^ (X ^^^ X >>> k) >>> k ^^^ (X ^^^ X >>> k) >>> j = X := by
  subst hj
  apply BitVec.eq_of_getLsbD_eq
  intro i hi
  simp only [BitVec.getLsbD_xor, BitVec.getLsbD_ushiftRight]
  have e1 : X.getLsbD (k + (2 * k + i)) = false := BitVec.getLsbD_of_ge _ _ (by omega)
  have e2 : k + (k + i) = 2 * k + i := by omega
  rw [e1, e2]
  cases X.getLsbD i <;> cases X.getLsbD (k + i) <;> cases X.getLsbD (2 * k + i) <;> rfl
theorem own_shb (x : Int64) (k : Int32) (n : Nat) (h : (k &&& 0x3f).toInt64.toUInt64.toBitVec % 64 = BitVec.ofNat 64 n) (hn : n < 64) : (own_sh x k).toBitVec = x.toBitVec >>> n := by
  show x.toBitVec >>> ((k &&& 0x3f).toInt64.toUInt64.toBitVec % 64) = _
  rw [h, BitVec.ushiftRight_eq', BitVec.toNat_ofNat, Nat.mod_eq_of_lt (by omega)]
theorem own_undo (x : Int64) (k j : Int32) (n m : Nat) (h : (k &&& 0x3f).toInt64.toUInt64.toBitVec % 64 = BitVec.ofNat 64 n) (h' : (j &&& 0x3f).toInt64.toUInt64.toBitVec % 64 = BitVec.ofNat 64 m) (hn : 64 ≤ 3 * n) (hm : m = 2 * n) (hm' : m < 64) :
    (x ^^^ own_sh x k) ^^^ own_sh (x ^^^ own_sh x k) k ^^^ own_sh (x ^^^ own_sh x k) j = x := by
  apply Int64.toBitVec_inj.mp
  have e0 : (x ^^^ own_sh x k).toBitVec = x.toBitVec ^^^ x.toBitVec >>> n := by rw [Int64.toBitVec_xor, own_shb x k n h (by omega)]
  rw [Int64.toBitVec_xor, Int64.toBitVec_xor, own_shb _ k n h (by omega), own_shb _ j m h' hm', e0]
  exact own_xs x.toBitVec n m hn hm
theorem own_inv (x : Int64) : own_unmix (own_mix x) = x := by
  simp only [own_unmix, own_mix]
  rw [own_undo _ 31 62 31 62 (by decide) (by decide) (by decide) (by decide) (by decide), Int64.mul_assoc, show (-7723592293110705685 : Int64) * own_inverse (-7723592293110705685) = 1 by decide, Int64.mul_one,
    own_undo _ 27 54 27 54 (by decide) (by decide) (by decide) (by decide) (by decide), Int64.mul_assoc, show (-4658895280553007687 : Int64) * own_inverse (-4658895280553007687) = 1 by decide, Int64.mul_one,
    own_undo _ 30 60 30 60 (by decide) (by decide) (by decide) (by decide) (by decide)]
theorem d1_0 : decode prog_23_method_1_code 0 = .ok (.aload_n 0, 1) := by decide +kernel
theorem d1_1 : decode prog_23_method_1_code 1 = .ok (.invokespecial 1, 3) := by decide +kernel
theorem d1_4 : decode prog_23_method_1_code 4 = .ok (.aload_n 0, 1) := by decide +kernel
theorem d1_5 : decode prog_23_method_1_code 5 = .ok (.lload_n 1, 1) := by decide +kernel
theorem d1_6 : decode prog_23_method_1_code 6 = .ok (.putfield 7, 3) := by decide +kernel
theorem d1_9 : decode prog_23_method_1_code 9 = .ok (.return_, 1) := by decide +kernel
theorem pn_1 : plainName "com/example/libtopk/libtopk/workload/SplitMix64" = true := by first | (simp [plainName, overriddenIn]; done) | decide +kernel
theorem ef_rm1 (m : MethodId) (x0 : Addr) (x1 : Int64) : entryFrame m #[(.ref x0), (.long x1)] 3 = mkF m 0 #[.val (.ref x0), .val (.long x1), .second] [] := by first | (simp [entryFrame, mkF, argsToLocals, Value.category]; done) | rfl
def Qrm1 (Z : State) (a1 : Addr) (q2 : Int64) (u3 : Int64) (h0 : Heap) (n0 : Nat) (v : Option Value) (h : Heap) (L : List Loc) : Prop := (v = none) ∧ (Fr n0 L) ∧ (Keep h0 h [a1]) ∧ (Exa Z h a1 "com/example/libtopk/libtopk/workload/SplitMix64") ∧ (Fld Z h a1 "com/example/libtopk/libtopk/workload/SplitMix64" "state" "J" (.long q2))
set_option maxRecDepth 65536 in
set_option maxHeartbeats 40000000 in
theorem rm1 (l : Launch) (Z : State) (a0 : Array Value) (hw : ∀ d ∈ tables_1, d.before a0 Z = true) (ws : List Jvm.Cond) (a1 : Addr) (q2 : Int64) (u3 : Int64) (h0 : Heap) (n0 : Nat) (Z0 : n0 ≤ h0.size) (pr1 : Exa Z h0 a1 "com/example/libtopk/libtopk/workload/SplitMix64") (pr2 : Fld Z h0 a1 "com/example/libtopk/libtopk/workload/SplitMix64" "state" "J" (.long u3)) (pr3 : n0 ≤ a1) :
    MetFree l (⟨"com/example/libtopk/libtopk/workload/SplitMix64", "<init>", "(J)V"⟩ : MethodName) (head1 (Jvm.Cond.code (⟨"com/example/libtopk/libtopk/workload/SplitMix64", "<init>", "(J)V"⟩ : MethodName) prog_23_method_1_code 3 none :: ws) ({ frames := 1, cells := 0, slots := 0, locals := 12 } : Room)) (fun a U => a = #[(.ref a1), (.long q2)] ∧ Z.Warmed39 U.vm ∧ U.heap = h0) (fun _ _ _ _ _ => True) (fun _ U o U' => ∃ v L, o = .returned v ∧ Qrm1 Z a1 q2 u3 h0 n0 v U'.heap L ∧ FrameEnd U o U' L ({ frames := 1, cells := 0, slots := 0, locals := 12 } : Room).cells ({ frames := 1, cells := 0, slots := 0, locals := 12 } : Room).slots) := by
  refine MetFree.of_bodySF (plainFor_of_name pn_1) hisR ?_
  intro p e s m args below meth c s₁ Bd hml0 hP0 hK
  obtain ⟨rfl, hZ, hh⟩ := hP0
  have hx := Bd.exec
  have hby := Bd.bytes
  have hml : c.maxLocals = 3 := hml0
  have hown : s.vm.findClass "com/example/libtopk/libtopk/workload/SplitMix64" = some m.cls := findClass_of_methodNamed Bd.named
  have hnm := (name_of_methodNamed Bd.named Bd.method).1
  have X0 : Stand p l e ({ frames := 1, cells := 0, slots := 0, locals := 12 } : Room) s m #[(.ref a1), (.long q2)] below meth c s₁ [] 0 0 := Stand.of_body Bd
  have e0 : s₁.heap = h0 := by rw [← hh, Bd.state]; rfl
  have N0 := Fr.nil n0
  suffices own_H : ∀ (P : State → Outcome → Prop), (∀ U o, U.status = .running → Ended U below o → (∃ v L, o = .returned v ∧ Qrm1 Z a1 q2 u3 h0 n0 v U.heap L ∧ FrameEnd s o U L ({ frames := 1, cells := 0, slots := 0, locals := 12 } : Room).cells ({ frames := 1, cells := 0, slots := 0, locals := 12 } : Room).slots) → P U o) → own_Go p.tables e below P (s₁.setTop (mkF m 0 #[.val (.ref a1), .val (.long q2), .second] [])) from own_go (fun _ k => castTop (ef_rm1 m a1 q2) k) (own_H _ (fun U o h1 h2 h3 => ⟨h1, h2, h3⟩))
  intro P hP
  have lt_a1 : a1 < h0.size := pr1.lt
  refine own_go (st' := s₁.setTop (mkF m 1 #[.val (.ref a1), .val (.long q2), .second] [(.ref a1)])) (fun _ k => XS.aloadN X0.here hx rfl (hb hby d1_0) rfl rfl k) ?_
  obtain ⟨T1, X1, e1, st1⟩ := initO X0 hx hZ hown (hw _ (List.mem_of_getElem? (i := 6) rfl)) (hw _ (List.mem_of_getElem? (i := 7) rfl)) (hw _ (List.mem_of_getElem? (i := 8) rfl)) e0 (g := (mkF m 1 #[.val (.ref a1), .val (.long q2), .second] [(.ref a1)])) rfl (by rw [hml]; rfl) rfl (hb hby d1_1) (by decide) (W := 0) (by show 2 * 0 + _ ≤ _; exact Nat.le_of_eq rfl) (by decide)
  refine own_go (st' := T1.setTop (mkF m 4 #[.val (.ref a1), .val (.long q2), .second] [])) (st1) ?_
  refine own_go (st' := T1.setTop (mkF m 5 #[.val (.ref a1), .val (.long q2), .second] [(.ref a1)])) (fun _ k => XS.aloadN X1.here hx rfl (hb hby d1_4) rfl rfl k) ?_
  refine own_go (st' := T1.setTop (mkF m 6 #[.val (.ref a1), .val (.long q2), .second] [(.long q2), (.ref a1)])) (fun _ k => XS.lloadN X1.here hx rfl (hb hby d1_5) rfl k) ?_
  obtain ⟨T2, h2, X2, e2, W2, st2⟩ := putF X1 hx hZ hown (host := "") (Or.inl (hw _ (List.mem_of_getElem? (i := 9) rfl))) Via.refl e1 pr2 pr1 (Or.inl (hw _ (List.mem_of_getElem? (i := 10) rfl))) (hw _ (List.mem_of_getElem? (i := 1) rfl)) (ty := .long) (by decide) rfl rfl (g := (mkF m 6 #[.val (.ref a1), .val (.long q2), .second] [(.long q2), (.ref a1)])) rfl rfl (hb hby d1_6)
  have sz2 : h2.size = h0.size := W2.size
  have N2 := Fr.snoc X2 N0 (by omega)
  have f2 : Fld Z h2 a1 "com/example/libtopk/libtopk/workload/SplitMix64" "state" "J" (.long q2) := pr2.same W2
  refine own_go (st' := T2.setTop (mkF m 9 #[.val (.ref a1), .val (.long q2), .second] [])) (st2) ?_
  obtain ⟨fs, hr, hrun, hended, hW, hsame⟩ := X2.leave (v := none) (fun _ => rfl)
  refine ⟨_, _, ?_, hP _ _ hrun hended ⟨_, _, rfl, ?_, ⟨_, rfl⟩, hW, hsame.mono (by decide) (by decide)⟩⟩
  · exact X2.returnOut hx Bd.returns (hb hby d1_9) hr
  · show Qrm1 Z a1 q2 u3 h0 n0 _ T2.heap _
    have c4 : Exa Z h2 a1 "com/example/libtopk/libtopk/workload/SplitMix64" := (pr1.wr W2)
    rw [e2]
    exact ⟨rfl, N2, ((Keep.refl h0 [a1]).wr W2 (Or.inl (List.mem_of_getElem? (i := 0) rfl))), c4, f2⟩
theorem d3_0 : decode prog_23_method_2_code 0 = .ok (.aload_n 0, 1) := by decide +kernel
theorem d3_1 : decode prog_23_method_2_code 1 = .ok (.dup, 1) := by decide +kernel
theorem d3_2 : decode prog_23_method_2_code 2 = .ok (.getfield 7, 3) := by decide +kernel
theorem d3_5 : decode prog_23_method_2_code 5 = .ok (.ldc2_w 13, 3) := by decide +kernel
theorem d3_8 : decode prog_23_method_2_code 8 = .ok (.ladd, 1) := by decide +kernel
theorem d3_9 : decode prog_23_method_2_code 9 = .ok (.putfield 7, 3) := by decide +kernel
theorem d3_12 : decode prog_23_method_2_code 12 = .ok (.aload_n 0, 1) := by decide +kernel
theorem d3_13 : decode prog_23_method_2_code 13 = .ok (.getfield 7, 3) := by decide +kernel
theorem d3_16 : decode prog_23_method_2_code 16 = .ok (.lstore_n 1, 1) := by decide +kernel
theorem d3_17 : decode prog_23_method_2_code 17 = .ok (.lload_n 1, 1) := by decide +kernel
theorem d3_18 : decode prog_23_method_2_code 18 = .ok (.lload_n 1, 1) := by decide +kernel
theorem d3_19 : decode prog_23_method_2_code 19 = .ok (.bipush 30, 2) := by decide +kernel
theorem d3_21 : decode prog_23_method_2_code 21 = .ok (.lushr, 1) := by decide +kernel
theorem d3_22 : decode prog_23_method_2_code 22 = .ok (.lxor, 1) := by decide +kernel
theorem d3_23 : decode prog_23_method_2_code 23 = .ok (.ldc2_w 15, 3) := by decide +kernel
theorem d3_26 : decode prog_23_method_2_code 26 = .ok (.lmul, 1) := by decide +kernel
theorem d3_27 : decode prog_23_method_2_code 27 = .ok (.lstore_n 1, 1) := by decide +kernel
theorem d3_28 : decode prog_23_method_2_code 28 = .ok (.lload_n 1, 1) := by decide +kernel
theorem d3_29 : decode prog_23_method_2_code 29 = .ok (.lload_n 1, 1) := by decide +kernel
theorem d3_30 : decode prog_23_method_2_code 30 = .ok (.bipush 27, 2) := by decide +kernel
theorem d3_32 : decode prog_23_method_2_code 32 = .ok (.lushr, 1) := by decide +kernel
theorem d3_33 : decode prog_23_method_2_code 33 = .ok (.lxor, 1) := by decide +kernel
theorem d3_34 : decode prog_23_method_2_code 34 = .ok (.ldc2_w 17, 3) := by decide +kernel
theorem d3_37 : decode prog_23_method_2_code 37 = .ok (.lmul, 1) := by decide +kernel
theorem d3_38 : decode prog_23_method_2_code 38 = .ok (.lstore_n 1, 1) := by decide +kernel
theorem d3_39 : decode prog_23_method_2_code 39 = .ok (.lload_n 1, 1) := by decide +kernel
theorem d3_40 : decode prog_23_method_2_code 40 = .ok (.lload_n 1, 1) := by decide +kernel
theorem d3_41 : decode prog_23_method_2_code 41 = .ok (.bipush 31, 2) := by decide +kernel
theorem d3_43 : decode prog_23_method_2_code 43 = .ok (.lushr, 1) := by decide +kernel
theorem d3_44 : decode prog_23_method_2_code 44 = .ok (.lxor, 1) := by decide +kernel
theorem d3_45 : decode prog_23_method_2_code 45 = .ok (.lreturn, 1) := by decide +kernel
theorem pn_3 : plainName "com/example/libtopk/libtopk/workload/SplitMix64" = true := by first | (simp [plainName, overriddenIn]; done) | decide +kernel
theorem ef_rm3 (m : MethodId) (x0 : Addr) : entryFrame m #[(.ref x0)] 3 = mkF m 0 #[.val (.ref x0), .unset, .unset] [] := by first | (simp [entryFrame, mkF, argsToLocals, Value.category]; done) | rfl
def Qrm3 (Z : State) (a1 : Addr) (w2 : Int64) (h0 : Heap) (n0 : Nat) (v : Option Value) (h : Heap) (L : List Loc) : Prop := (v = some (.long (own_mix (w2 + (-7046029254386353131 : Int64))))) ∧ (Fr n0 L) ∧ (Keep h0 h [a1]) ∧ (Exa Z h a1 "com/example/libtopk/libtopk/workload/SplitMix64") ∧ (Fld Z h a1 "com/example/libtopk/libtopk/workload/SplitMix64" "state" "J" (.long (w2 + (-7046029254386353131 : Int64))))
set_option maxRecDepth 65536 in
set_option maxHeartbeats 40000000 in
theorem rm3 (l : Launch) (Z : State) (a0 : Array Value) (hw : ∀ d ∈ tables_1, d.before a0 Z = true) (ws : List Jvm.Cond) (a1 : Addr) (w2 : Int64) (h0 : Heap) (n0 : Nat) (Z0 : n0 ≤ h0.size) (pr1 : Exa Z h0 a1 "com/example/libtopk/libtopk/workload/SplitMix64") (pr2 : Fld Z h0 a1 "com/example/libtopk/libtopk/workload/SplitMix64" "state" "J" (.long w2)) (pr3 : n0 ≤ a1) :
    MetFree l (⟨"com/example/libtopk/libtopk/workload/SplitMix64", "nextLong", "()J"⟩ : MethodName) (head1 (Jvm.Cond.code (⟨"com/example/libtopk/libtopk/workload/SplitMix64", "nextLong", "()J"⟩ : MethodName) prog_23_method_2_code 3 (some .long) :: ws) ({ frames := 0, cells := 0, slots := 0, locals := 0 } : Room)) (fun a U => a = #[(.ref a1)] ∧ Z.Warmed39 U.vm ∧ U.heap = h0) (fun _ _ _ _ _ => True) (fun _ U o U' => ∃ v L, o = .returned v ∧ Qrm3 Z a1 w2 h0 n0 v U'.heap L ∧ FrameEnd U o U' L ({ frames := 0, cells := 0, slots := 0, locals := 0 } : Room).cells ({ frames := 0, cells := 0, slots := 0, locals := 0 } : Room).slots) := by
  refine MetFree.of_bodySF (plainFor_of_name pn_3) hisR ?_
  intro p e s m args below meth c s₁ Bd hml0 hP0 hK
  obtain ⟨rfl, hZ, hh⟩ := hP0
  have hx := Bd.exec
  have hby := Bd.bytes
  have hml : c.maxLocals = 3 := hml0
  have hown : s.vm.findClass "com/example/libtopk/libtopk/workload/SplitMix64" = some m.cls := findClass_of_methodNamed Bd.named
  have hnm := (name_of_methodNamed Bd.named Bd.method).1
  have X0 : Stand p l e ({ frames := 0, cells := 0, slots := 0, locals := 0 } : Room) s m #[(.ref a1)] below meth c s₁ [] 0 0 := Stand.of_body Bd
  have e0 : s₁.heap = h0 := by rw [← hh, Bd.state]; rfl
  have N0 := Fr.nil n0
  suffices own_H : ∀ (P : State → Outcome → Prop), (∀ U o, U.status = .running → Ended U below o → (∃ v L, o = .returned v ∧ Qrm3 Z a1 w2 h0 n0 v U.heap L ∧ FrameEnd s o U L ({ frames := 0, cells := 0, slots := 0, locals := 0 } : Room).cells ({ frames := 0, cells := 0, slots := 0, locals := 0 } : Room).slots) → P U o) → own_Go p.tables e below P (s₁.setTop (mkF m 0 #[.val (.ref a1), .unset, .unset] [])) from own_go (fun _ k => castTop (ef_rm3 m a1) k) (own_H _ (fun U o h1 h2 h3 => ⟨h1, h2, h3⟩))
  intro P hP
  have lt_a1 : a1 < h0.size := pr1.lt
  refine own_go (st' := s₁.setTop (mkF m 1 #[.val (.ref a1), .unset, .unset] [(.ref a1)])) (fun _ k => XS.aloadN X0.here hx rfl (hb hby d3_0) rfl rfl k) ?_
  refine own_go (st' := s₁.setTop (mkF m 2 #[.val (.ref a1), .unset, .unset] [(.ref a1), (.ref a1)])) (fun _ k => XS.dup X0.here hx rfl (hb hby d3_1) rfl rfl k) ?_
  obtain ⟨T1, X1, e1, st1⟩ := getF X0 hx hZ hown (host := "") (Or.inl (hw _ (List.mem_of_getElem? (i := 9) rfl))) Via.refl e0 pr2 (g := (mkF m 2 #[.val (.ref a1), .unset, .unset] [(.ref a1), (.ref a1)])) rfl rfl (hb hby d3_2)
  refine own_go (st' := T1.setTop (mkF m 5 #[.val (.ref a1), .unset, .unset] [(.long w2), (.ref a1)])) (st1) ?_
  refine own_go (st' := T1.setTop (mkF m 8 #[.val (.ref a1), .unset, .unset] [(.long (-7046029254386353131 : Int64)), (.long w2), (.ref a1)])) (X1.ldc2Long hx hown (mvT hZ (hw _ (List.mem_of_getElem? (i := 16) rfl))) (g := (mkF m 5 #[.val (.ref a1), .unset, .unset] [(.long w2), (.ref a1)])) rfl (hb hby d3_5)) ?_
  refine own_go (st' := T1.setTop (mkF m 9 #[.val (.ref a1), .unset, .unset] [(.long (w2 + (-7046029254386353131 : Int64))), (.ref a1)])) (fun _ k => XS.ladd X1.here hx rfl (hb hby d3_8) rfl k) ?_
  obtain ⟨T2, h2, X2, e2, W2, st2⟩ := putF X1 hx hZ hown (host := "") (Or.inl (hw _ (List.mem_of_getElem? (i := 9) rfl))) Via.refl e1 pr2 pr1 (Or.inl (hw _ (List.mem_of_getElem? (i := 10) rfl))) (hw _ (List.mem_of_getElem? (i := 1) rfl)) (ty := .long) (by decide) rfl rfl (g := (mkF m 9 #[.val (.ref a1), .unset, .unset] [(.long (w2 + (-7046029254386353131 : Int64))), (.ref a1)])) rfl rfl (hb hby d3_9)
  have sz2 : h2.size = h0.size := W2.size
  have N2 := Fr.snoc X2 N0 (by omega)
  have f2 : Fld Z h2 a1 "com/example/libtopk/libtopk/workload/SplitMix64" "state" "J" (.long (w2 + (-7046029254386353131 : Int64))) := pr2.same W2
  refine own_go (st' := T2.setTop (mkF m 12 #[.val (.ref a1), .unset, .unset] [])) (st2) ?_
  refine own_go (st' := T2.setTop (mkF m 13 #[.val (.ref a1), .unset, .unset] [(.ref a1)])) (fun _ k => XS.aloadN X2.here hx rfl (hb hby d3_12) rfl rfl k) ?_
  obtain ⟨T3, X3, e3, st3⟩ := getF X2 hx hZ hown (host := "") (Or.inl (hw _ (List.mem_of_getElem? (i := 9) rfl))) Via.refl e2 f2 (g := (mkF m 13 #[.val (.ref a1), .unset, .unset] [(.ref a1)])) rfl rfl (hb hby d3_13)
  refine own_go (st' := T3.setTop (mkF m 16 #[.val (.ref a1), .unset, .unset] [(.long (w2 + (-7046029254386353131 : Int64)))])) (st3) ?_
  refine own_go (st' := T3.setTop (mkF m 17 #[.val (.ref a1), .val (.long (w2 + (-7046029254386353131 : Int64))), .second] [])) (fun _ k => XS.lstoreN X3.here hx rfl (hb hby d3_16) rfl (l' := #[.val (.ref a1), .val (.long (w2 + (-7046029254386353131 : Int64))), .second]) rfl k) ?_
  refine own_go (st' := T3.setTop (mkF m 18 #[.val (.ref a1), .val (.long (w2 + (-7046029254386353131 : Int64))), .second] [(.long (w2 + (-7046029254386353131 : Int64)))])) (fun _ k => XS.lloadN X3.here hx rfl (hb hby d3_17) rfl k) ?_
  refine own_go (st' := T3.setTop (mkF m 19 #[.val (.ref a1), .val (.long (w2 + (-7046029254386353131 : Int64))), .second] [(.long (w2 + (-7046029254386353131 : Int64))), (.long (w2 + (-7046029254386353131 : Int64)))])) (fun _ k => XS.lloadN X3.here hx rfl (hb hby d3_18) rfl k) ?_
  refine own_go (st' := T3.setTop (mkF m 21 #[.val (.ref a1), .val (.long (w2 + (-7046029254386353131 : Int64))), .second] [(.int (30 : Int32)), (.long (w2 + (-7046029254386353131 : Int64))), (.long (w2 + (-7046029254386353131 : Int64)))])) (fun _ k => XS.bipush X3.here hx rfl (hb hby d3_19) k) ?_
  obtain ⟨x4, hx4⟩ : ∃ z : Int64, z = (((w2 + (-7046029254386353131 : Int64)).toUInt64 >>> ((30 : Int32) &&& 0x3f).toInt64.toUInt64).toInt64) := ⟨_, rfl⟩
  refine own_go (st' := T3.setTop (mkF m 22 #[.val (.ref a1), .val (.long (w2 + (-7046029254386353131 : Int64))), .second] [(.long x4), (.long (w2 + (-7046029254386353131 : Int64)))])) (fun _ k => XS.lushr X3.here hx rfl (hb hby d3_21) rfl (by rw [hx4] at k; exact k)) ?_
  obtain ⟨x5, hx5⟩ : ∃ z : Int64, z = ((w2 + (-7046029254386353131 : Int64)) ^^^ x4) := ⟨_, rfl⟩
  refine own_go (st' := T3.setTop (mkF m 23 #[.val (.ref a1), .val (.long (w2 + (-7046029254386353131 : Int64))), .second] [(.long x5)])) (fun _ k => XS.lxor X3.here hx rfl (hb hby d3_22) rfl (by rw [hx5] at k; exact k)) ?_
  refine own_go (st' := T3.setTop (mkF m 26 #[.val (.ref a1), .val (.long (w2 + (-7046029254386353131 : Int64))), .second] [(.long (-4658895280553007687 : Int64)), (.long x5)])) (X3.ldc2Long hx hown (mvT hZ (hw _ (List.mem_of_getElem? (i := 17) rfl))) (g := (mkF m 23 #[.val (.ref a1), .val (.long (w2 + (-7046029254386353131 : Int64))), .second] [(.long x5)])) rfl (hb hby d3_23)) ?_
  refine own_go (st' := T3.setTop (mkF m 27 #[.val (.ref a1), .val (.long (w2 + (-7046029254386353131 : Int64))), .second] [(.long (x5 * (-4658895280553007687 : Int64)))])) (fun _ k => XS.lmul X3.here hx rfl (hb hby d3_26) rfl k) ?_
  refine own_go (st' := T3.setTop (mkF m 28 #[.val (.ref a1), .val (.long (x5 * (-4658895280553007687 : Int64))), .second] [])) (fun _ k => XS.lstoreN X3.here hx rfl (hb hby d3_27) rfl (l' := #[.val (.ref a1), .val (.long (x5 * (-4658895280553007687 : Int64))), .second]) rfl k) ?_
  refine own_go (st' := T3.setTop (mkF m 29 #[.val (.ref a1), .val (.long (x5 * (-4658895280553007687 : Int64))), .second] [(.long (x5 * (-4658895280553007687 : Int64)))])) (fun _ k => XS.lloadN X3.here hx rfl (hb hby d3_28) rfl k) ?_
  refine own_go (st' := T3.setTop (mkF m 30 #[.val (.ref a1), .val (.long (x5 * (-4658895280553007687 : Int64))), .second] [(.long (x5 * (-4658895280553007687 : Int64))), (.long (x5 * (-4658895280553007687 : Int64)))])) (fun _ k => XS.lloadN X3.here hx rfl (hb hby d3_29) rfl k) ?_
  refine own_go (st' := T3.setTop (mkF m 32 #[.val (.ref a1), .val (.long (x5 * (-4658895280553007687 : Int64))), .second] [(.int (27 : Int32)), (.long (x5 * (-4658895280553007687 : Int64))), (.long (x5 * (-4658895280553007687 : Int64)))])) (fun _ k => XS.bipush X3.here hx rfl (hb hby d3_30) k) ?_
  obtain ⟨x6, hx6⟩ : ∃ z : Int64, z = (((x5 * (-4658895280553007687 : Int64)).toUInt64 >>> ((27 : Int32) &&& 0x3f).toInt64.toUInt64).toInt64) := ⟨_, rfl⟩
  refine own_go (st' := T3.setTop (mkF m 33 #[.val (.ref a1), .val (.long (x5 * (-4658895280553007687 : Int64))), .second] [(.long x6), (.long (x5 * (-4658895280553007687 : Int64)))])) (fun _ k => XS.lushr X3.here hx rfl (hb hby d3_32) rfl (by rw [hx6] at k; exact k)) ?_
  obtain ⟨x7, hx7⟩ : ∃ z : Int64, z = ((x5 * (-4658895280553007687 : Int64)) ^^^ x6) := ⟨_, rfl⟩
  refine own_go (st' := T3.setTop (mkF m 34 #[.val (.ref a1), .val (.long (x5 * (-4658895280553007687 : Int64))), .second] [(.long x7)])) (fun _ k => XS.lxor X3.here hx rfl (hb hby d3_33) rfl (by rw [hx7] at k; exact k)) ?_
  refine own_go (st' := T3.setTop (mkF m 37 #[.val (.ref a1), .val (.long (x5 * (-4658895280553007687 : Int64))), .second] [(.long (-7723592293110705685 : Int64)), (.long x7)])) (X3.ldc2Long hx hown (mvT hZ (hw _ (List.mem_of_getElem? (i := 18) rfl))) (g := (mkF m 34 #[.val (.ref a1), .val (.long (x5 * (-4658895280553007687 : Int64))), .second] [(.long x7)])) rfl (hb hby d3_34)) ?_
  refine own_go (st' := T3.setTop (mkF m 38 #[.val (.ref a1), .val (.long (x5 * (-4658895280553007687 : Int64))), .second] [(.long (x7 * (-7723592293110705685 : Int64)))])) (fun _ k => XS.lmul X3.here hx rfl (hb hby d3_37) rfl k) ?_
  refine own_go (st' := T3.setTop (mkF m 39 #[.val (.ref a1), .val (.long (x7 * (-7723592293110705685 : Int64))), .second] [])) (fun _ k => XS.lstoreN X3.here hx rfl (hb hby d3_38) rfl (l' := #[.val (.ref a1), .val (.long (x7 * (-7723592293110705685 : Int64))), .second]) rfl k) ?_
  refine own_go (st' := T3.setTop (mkF m 40 #[.val (.ref a1), .val (.long (x7 * (-7723592293110705685 : Int64))), .second] [(.long (x7 * (-7723592293110705685 : Int64)))])) (fun _ k => XS.lloadN X3.here hx rfl (hb hby d3_39) rfl k) ?_
  refine own_go (st' := T3.setTop (mkF m 41 #[.val (.ref a1), .val (.long (x7 * (-7723592293110705685 : Int64))), .second] [(.long (x7 * (-7723592293110705685 : Int64))), (.long (x7 * (-7723592293110705685 : Int64)))])) (fun _ k => XS.lloadN X3.here hx rfl (hb hby d3_40) rfl k) ?_
  refine own_go (st' := T3.setTop (mkF m 43 #[.val (.ref a1), .val (.long (x7 * (-7723592293110705685 : Int64))), .second] [(.int (31 : Int32)), (.long (x7 * (-7723592293110705685 : Int64))), (.long (x7 * (-7723592293110705685 : Int64)))])) (fun _ k => XS.bipush X3.here hx rfl (hb hby d3_41) k) ?_
  obtain ⟨x8, hx8⟩ : ∃ z : Int64, z = (((x7 * (-7723592293110705685 : Int64)).toUInt64 >>> ((31 : Int32) &&& 0x3f).toInt64.toUInt64).toInt64) := ⟨_, rfl⟩
  refine own_go (st' := T3.setTop (mkF m 44 #[.val (.ref a1), .val (.long (x7 * (-7723592293110705685 : Int64))), .second] [(.long x8), (.long (x7 * (-7723592293110705685 : Int64)))])) (fun _ k => XS.lushr X3.here hx rfl (hb hby d3_43) rfl (by rw [hx8] at k; exact k)) ?_
  obtain ⟨x9, hx9⟩ : ∃ z : Int64, z = ((x7 * (-7723592293110705685 : Int64)) ^^^ x8) := ⟨_, rfl⟩
  refine own_go (st' := T3.setTop (mkF m 45 #[.val (.ref a1), .val (.long (x7 * (-7723592293110705685 : Int64))), .second] [(.long x9)])) (fun _ k => XS.lxor X3.here hx rfl (hb hby d3_44) rfl (by rw [hx9] at k; exact k)) ?_
  obtain ⟨fs, hr, hrun, hended, hW, hsame⟩ := X3.leave (v := some (.long x9)) (fun h => by rw [Bd.returns] at h; cases h)
  refine ⟨_, _, ?_, hP _ _ hrun hended ⟨_, _, rfl, ?_, ⟨_, rfl⟩, hW, hsame.mono (by decide) (by decide)⟩⟩
  · exact retOut X3 hx Bd.returns rfl (Or.inr (Or.inl ⟨rfl, rfl, _, rfl⟩)) (hb hby d3_45) hr
  · show Qrm3 Z a1 w2 h0 n0 _ T3.heap _
    have c11 : Exa Z h2 a1 "com/example/libtopk/libtopk/workload/SplitMix64" := (pr1.wr W2)
    rw [e3]
    exact ⟨(by subst hx9 hx8 hx7 hx6 hx5 hx4; rfl), N2, ((Keep.refl h0 [a1]).wr W2 (Or.inl (List.mem_of_getElem? (i := 0) rfl))), c11, f2⟩
theorem d5_0 : decode method_3_code 0 = .ok (.lload_n 0, 1) := by decide +kernel
theorem d5_1 : decode method_3_code 1 = .ok (.lstore_n 2, 1) := by decide +kernel
theorem d5_2 : decode method_3_code 2 = .ok (.lload_n 2, 1) := by decide +kernel
theorem d5_3 : decode method_3_code 3 = .ok (.ldc2_w 24, 3) := by decide +kernel
theorem d5_6 : decode method_3_code 6 = .ok (.lload_n 0, 1) := by decide +kernel
theorem d5_7 : decode method_3_code 7 = .ok (.lload_n 2, 1) := by decide +kernel
theorem d5_8 : decode method_3_code 8 = .ok (.lmul, 1) := by decide +kernel
theorem d5_9 : decode method_3_code 9 = .ok (.lsub, 1) := by decide +kernel
theorem d5_10 : decode method_3_code 10 = .ok (.lmul, 1) := by decide +kernel
theorem d5_11 : decode method_3_code 11 = .ok (.lstore_n 2, 1) := by decide +kernel
theorem d5_12 : decode method_3_code 12 = .ok (.lload_n 2, 1) := by decide +kernel
theorem d5_13 : decode method_3_code 13 = .ok (.ldc2_w 24, 3) := by decide +kernel
theorem d5_16 : decode method_3_code 16 = .ok (.lload_n 0, 1) := by decide +kernel
theorem d5_17 : decode method_3_code 17 = .ok (.lload_n 2, 1) := by decide +kernel
theorem d5_18 : decode method_3_code 18 = .ok (.lmul, 1) := by decide +kernel
theorem d5_19 : decode method_3_code 19 = .ok (.lsub, 1) := by decide +kernel
theorem d5_20 : decode method_3_code 20 = .ok (.lmul, 1) := by decide +kernel
theorem d5_21 : decode method_3_code 21 = .ok (.lstore_n 2, 1) := by decide +kernel
theorem d5_22 : decode method_3_code 22 = .ok (.lload_n 2, 1) := by decide +kernel
theorem d5_23 : decode method_3_code 23 = .ok (.ldc2_w 24, 3) := by decide +kernel
theorem d5_26 : decode method_3_code 26 = .ok (.lload_n 0, 1) := by decide +kernel
theorem d5_27 : decode method_3_code 27 = .ok (.lload_n 2, 1) := by decide +kernel
theorem d5_28 : decode method_3_code 28 = .ok (.lmul, 1) := by decide +kernel
theorem d5_29 : decode method_3_code 29 = .ok (.lsub, 1) := by decide +kernel
theorem d5_30 : decode method_3_code 30 = .ok (.lmul, 1) := by decide +kernel
theorem d5_31 : decode method_3_code 31 = .ok (.lstore_n 2, 1) := by decide +kernel
theorem d5_32 : decode method_3_code 32 = .ok (.lload_n 2, 1) := by decide +kernel
theorem d5_33 : decode method_3_code 33 = .ok (.ldc2_w 24, 3) := by decide +kernel
theorem d5_36 : decode method_3_code 36 = .ok (.lload_n 0, 1) := by decide +kernel
theorem d5_37 : decode method_3_code 37 = .ok (.lload_n 2, 1) := by decide +kernel
theorem d5_38 : decode method_3_code 38 = .ok (.lmul, 1) := by decide +kernel
theorem d5_39 : decode method_3_code 39 = .ok (.lsub, 1) := by decide +kernel
theorem d5_40 : decode method_3_code 40 = .ok (.lmul, 1) := by decide +kernel
theorem d5_41 : decode method_3_code 41 = .ok (.lstore_n 2, 1) := by decide +kernel
theorem d5_42 : decode method_3_code 42 = .ok (.lload_n 2, 1) := by decide +kernel
theorem d5_43 : decode method_3_code 43 = .ok (.ldc2_w 24, 3) := by decide +kernel
theorem d5_46 : decode method_3_code 46 = .ok (.lload_n 0, 1) := by decide +kernel
theorem d5_47 : decode method_3_code 47 = .ok (.lload_n 2, 1) := by decide +kernel
theorem d5_48 : decode method_3_code 48 = .ok (.lmul, 1) := by decide +kernel
theorem d5_49 : decode method_3_code 49 = .ok (.lsub, 1) := by decide +kernel
theorem d5_50 : decode method_3_code 50 = .ok (.lmul, 1) := by decide +kernel
theorem d5_51 : decode method_3_code 51 = .ok (.lstore_n 2, 1) := by decide +kernel
theorem d5_52 : decode method_3_code 52 = .ok (.lload_n 2, 1) := by decide +kernel
theorem d5_53 : decode method_3_code 53 = .ok (.lreturn, 1) := by decide +kernel
theorem pn_5 : plainName "com/example/libtopk/libtopk/workload/SplitMix64NextLongPinLaw" = true := by first | (simp [plainName, overriddenIn]; done) | decide +kernel
theorem ef_rm5 (m : MethodId) (x0 : Int64) : entryFrame m #[(.long x0)] 4 = mkF m 0 #[.val (.long x0), .second, .unset, .unset] [] := by first | (simp [entryFrame, mkF, argsToLocals, Value.category]; done) | rfl
def Qrm5 (Z : State) (q1 : Int64) (h0 : Heap) (n0 : Nat) (v : Option Value) (h : Heap) (L : List Loc) : Prop := (v = some (.long (own_inverse q1))) ∧ (Fr n0 L) ∧ (h = h0)
set_option maxRecDepth 65536 in
set_option maxHeartbeats 40000000 in
theorem rm5 (l : Launch) (Z : State) (a0 : Array Value) (hw : ∀ d ∈ tables_1, d.before a0 Z = true) (ws : List Jvm.Cond) (q1 : Int64) (h0 : Heap) (n0 : Nat) (Z0 : n0 ≤ h0.size)  :
    MetFree l (⟨"com/example/libtopk/libtopk/workload/SplitMix64NextLongPinLaw", "inverse", "(J)J"⟩ : MethodName) (head1 (Jvm.Cond.code (⟨"com/example/libtopk/libtopk/workload/SplitMix64NextLongPinLaw", "inverse", "(J)J"⟩ : MethodName) method_3_code 4 (some .long) :: ws) ({ frames := 0, cells := 0, slots := 0, locals := 0 } : Room)) (fun a U => a = #[(.long q1)] ∧ Z.Warmed39 U.vm ∧ U.heap = h0) (fun _ _ _ _ _ => True) (fun _ U o U' => ∃ v L, o = .returned v ∧ Qrm5 Z q1 h0 n0 v U'.heap L ∧ FrameEnd U o U' L ({ frames := 0, cells := 0, slots := 0, locals := 0 } : Room).cells ({ frames := 0, cells := 0, slots := 0, locals := 0 } : Room).slots) := by
  refine MetFree.of_bodySF (plainFor_of_name pn_5) hisR ?_
  intro p e s m args below meth c s₁ Bd hml0 hP0 hK
  obtain ⟨rfl, hZ, hh⟩ := hP0
  have hx := Bd.exec
  have hby := Bd.bytes
  have hml : c.maxLocals = 4 := hml0
  have hown : s.vm.findClass "com/example/libtopk/libtopk/workload/SplitMix64NextLongPinLaw" = some m.cls := findClass_of_methodNamed Bd.named
  have hnm := (name_of_methodNamed Bd.named Bd.method).1
  have X0 : Stand p l e ({ frames := 0, cells := 0, slots := 0, locals := 0 } : Room) s m #[(.long q1)] below meth c s₁ [] 0 0 := Stand.of_body Bd
  have e0 : s₁.heap = h0 := by rw [← hh, Bd.state]; rfl
  have N0 := Fr.nil n0
  suffices own_H : ∀ (P : State → Outcome → Prop), (∀ U o, U.status = .running → Ended U below o → (∃ v L, o = .returned v ∧ Qrm5 Z q1 h0 n0 v U.heap L ∧ FrameEnd s o U L ({ frames := 0, cells := 0, slots := 0, locals := 0 } : Room).cells ({ frames := 0, cells := 0, slots := 0, locals := 0 } : Room).slots) → P U o) → own_Go p.tables e below P (s₁.setTop (mkF m 0 #[.val (.long q1), .second, .unset, .unset] [])) from own_go (fun _ k => castTop (ef_rm5 m q1) k) (own_H _ (fun U o h1 h2 h3 => ⟨h1, h2, h3⟩))
  intro P hP
  refine own_go (st' := s₁.setTop (mkF m 1 #[.val (.long q1), .second, .unset, .unset] [(.long q1)])) (fun _ k => XS.lloadN X0.here hx rfl (hb hby d5_0) rfl k) ?_
  refine own_go (st' := s₁.setTop (mkF m 2 #[.val (.long q1), .second, .val (.long q1), .second] [])) (fun _ k => XS.lstoreN X0.here hx rfl (hb hby d5_1) rfl (l' := #[.val (.long q1), .second, .val (.long q1), .second]) rfl k) ?_
  refine own_go (st' := s₁.setTop (mkF m 3 #[.val (.long q1), .second, .val (.long q1), .second] [(.long q1)])) (fun _ k => XS.lloadN X0.here hx rfl (hb hby d5_2) rfl k) ?_
  refine own_go (st' := s₁.setTop (mkF m 6 #[.val (.long q1), .second, .val (.long q1), .second] [(.long (2 : Int64)), (.long q1)])) (X0.ldc2Long hx hown (mvT hZ (hw _ (List.mem_of_getElem? (i := 28) rfl))) (g := (mkF m 3 #[.val (.long q1), .second, .val (.long q1), .second] [(.long q1)])) rfl (hb hby d5_3)) ?_
  refine own_go (st' := s₁.setTop (mkF m 7 #[.val (.long q1), .second, .val (.long q1), .second] [(.long q1), (.long (2 : Int64)), (.long q1)])) (fun _ k => XS.lloadN X0.here hx rfl (hb hby d5_6) rfl k) ?_
  refine own_go (st' := s₁.setTop (mkF m 8 #[.val (.long q1), .second, .val (.long q1), .second] [(.long q1), (.long q1), (.long (2 : Int64)), (.long q1)])) (fun _ k => XS.lloadN X0.here hx rfl (hb hby d5_7) rfl k) ?_
  refine own_go (st' := s₁.setTop (mkF m 9 #[.val (.long q1), .second, .val (.long q1), .second] [(.long (q1 * q1)), (.long (2 : Int64)), (.long q1)])) (fun _ k => XS.lmul X0.here hx rfl (hb hby d5_8) rfl k) ?_
  refine own_go (st' := s₁.setTop (mkF m 10 #[.val (.long q1), .second, .val (.long q1), .second] [(.long ((2 : Int64) - (q1 * q1))), (.long q1)])) (fun _ k => XS.lsub X0.here hx rfl (hb hby d5_9) rfl k) ?_
  refine own_go (st' := s₁.setTop (mkF m 11 #[.val (.long q1), .second, .val (.long q1), .second] [(.long (q1 * ((2 : Int64) - (q1 * q1))))])) (fun _ k => XS.lmul X0.here hx rfl (hb hby d5_10) rfl k) ?_
  refine own_go (st' := s₁.setTop (mkF m 12 #[.val (.long q1), .second, .val (.long (q1 * ((2 : Int64) - (q1 * q1)))), .second] [])) (fun _ k => XS.lstoreN X0.here hx rfl (hb hby d5_11) rfl (l' := #[.val (.long q1), .second, .val (.long (q1 * ((2 : Int64) - (q1 * q1)))), .second]) rfl k) ?_
  refine own_go (st' := s₁.setTop (mkF m 13 #[.val (.long q1), .second, .val (.long (q1 * ((2 : Int64) - (q1 * q1)))), .second] [(.long (q1 * ((2 : Int64) - (q1 * q1))))])) (fun _ k => XS.lloadN X0.here hx rfl (hb hby d5_12) rfl k) ?_
  refine own_go (st' := s₁.setTop (mkF m 16 #[.val (.long q1), .second, .val (.long (q1 * ((2 : Int64) - (q1 * q1)))), .second] [(.long (2 : Int64)), (.long (q1 * ((2 : Int64) - (q1 * q1))))])) (X0.ldc2Long hx hown (mvT hZ (hw _ (List.mem_of_getElem? (i := 28) rfl))) (g := (mkF m 13 #[.val (.long q1), .second, .val (.long (q1 * ((2 : Int64) - (q1 * q1)))), .second] [(.long (q1 * ((2 : Int64) - (q1 * q1))))])) rfl (hb hby d5_13)) ?_
  refine own_go (st' := s₁.setTop (mkF m 17 #[.val (.long q1), .second, .val (.long (q1 * ((2 : Int64) - (q1 * q1)))), .second] [(.long q1), (.long (2 : Int64)), (.long (q1 * ((2 : Int64) - (q1 * q1))))])) (fun _ k => XS.lloadN X0.here hx rfl (hb hby d5_16) rfl k) ?_
  refine own_go (st' := s₁.setTop (mkF m 18 #[.val (.long q1), .second, .val (.long (q1 * ((2 : Int64) - (q1 * q1)))), .second] [(.long (q1 * ((2 : Int64) - (q1 * q1)))), (.long q1), (.long (2 : Int64)), (.long (q1 * ((2 : Int64) - (q1 * q1))))])) (fun _ k => XS.lloadN X0.here hx rfl (hb hby d5_17) rfl k) ?_
  refine own_go (st' := s₁.setTop (mkF m 19 #[.val (.long q1), .second, .val (.long (q1 * ((2 : Int64) - (q1 * q1)))), .second] [(.long (q1 * (q1 * ((2 : Int64) - (q1 * q1))))), (.long (2 : Int64)), (.long (q1 * ((2 : Int64) - (q1 * q1))))])) (fun _ k => XS.lmul X0.here hx rfl (hb hby d5_18) rfl k) ?_
  obtain ⟨x1, hx1⟩ : ∃ z : Int64, z = ((2 : Int64) - (q1 * (q1 * ((2 : Int64) - (q1 * q1))))) := ⟨_, rfl⟩
  refine own_go (st' := s₁.setTop (mkF m 20 #[.val (.long q1), .second, .val (.long (q1 * ((2 : Int64) - (q1 * q1)))), .second] [(.long x1), (.long (q1 * ((2 : Int64) - (q1 * q1))))])) (fun _ k => XS.lsub X0.here hx rfl (hb hby d5_19) rfl (by rw [hx1] at k; exact k)) ?_
  refine own_go (st' := s₁.setTop (mkF m 21 #[.val (.long q1), .second, .val (.long (q1 * ((2 : Int64) - (q1 * q1)))), .second] [(.long ((q1 * ((2 : Int64) - (q1 * q1))) * x1))])) (fun _ k => XS.lmul X0.here hx rfl (hb hby d5_20) rfl k) ?_
  refine own_go (st' := s₁.setTop (mkF m 22 #[.val (.long q1), .second, .val (.long ((q1 * ((2 : Int64) - (q1 * q1))) * x1)), .second] [])) (fun _ k => XS.lstoreN X0.here hx rfl (hb hby d5_21) rfl (l' := #[.val (.long q1), .second, .val (.long ((q1 * ((2 : Int64) - (q1 * q1))) * x1)), .second]) rfl k) ?_
  refine own_go (st' := s₁.setTop (mkF m 23 #[.val (.long q1), .second, .val (.long ((q1 * ((2 : Int64) - (q1 * q1))) * x1)), .second] [(.long ((q1 * ((2 : Int64) - (q1 * q1))) * x1))])) (fun _ k => XS.lloadN X0.here hx rfl (hb hby d5_22) rfl k) ?_
  refine own_go (st' := s₁.setTop (mkF m 26 #[.val (.long q1), .second, .val (.long ((q1 * ((2 : Int64) - (q1 * q1))) * x1)), .second] [(.long (2 : Int64)), (.long ((q1 * ((2 : Int64) - (q1 * q1))) * x1))])) (X0.ldc2Long hx hown (mvT hZ (hw _ (List.mem_of_getElem? (i := 28) rfl))) (g := (mkF m 23 #[.val (.long q1), .second, .val (.long ((q1 * ((2 : Int64) - (q1 * q1))) * x1)), .second] [(.long ((q1 * ((2 : Int64) - (q1 * q1))) * x1))])) rfl (hb hby d5_23)) ?_
  refine own_go (st' := s₁.setTop (mkF m 27 #[.val (.long q1), .second, .val (.long ((q1 * ((2 : Int64) - (q1 * q1))) * x1)), .second] [(.long q1), (.long (2 : Int64)), (.long ((q1 * ((2 : Int64) - (q1 * q1))) * x1))])) (fun _ k => XS.lloadN X0.here hx rfl (hb hby d5_26) rfl k) ?_
  refine own_go (st' := s₁.setTop (mkF m 28 #[.val (.long q1), .second, .val (.long ((q1 * ((2 : Int64) - (q1 * q1))) * x1)), .second] [(.long ((q1 * ((2 : Int64) - (q1 * q1))) * x1)), (.long q1), (.long (2 : Int64)), (.long ((q1 * ((2 : Int64) - (q1 * q1))) * x1))])) (fun _ k => XS.lloadN X0.here hx rfl (hb hby d5_27) rfl k) ?_
  obtain ⟨x2, hx2⟩ : ∃ z : Int64, z = (q1 * ((q1 * ((2 : Int64) - (q1 * q1))) * x1)) := ⟨_, rfl⟩
  refine own_go (st' := s₁.setTop (mkF m 29 #[.val (.long q1), .second, .val (.long ((q1 * ((2 : Int64) - (q1 * q1))) * x1)), .second] [(.long x2), (.long (2 : Int64)), (.long ((q1 * ((2 : Int64) - (q1 * q1))) * x1))])) (fun _ k => XS.lmul X0.here hx rfl (hb hby d5_28) rfl (by rw [hx2] at k; exact k)) ?_
  refine own_go (st' := s₁.setTop (mkF m 30 #[.val (.long q1), .second, .val (.long ((q1 * ((2 : Int64) - (q1 * q1))) * x1)), .second] [(.long ((2 : Int64) - x2)), (.long ((q1 * ((2 : Int64) - (q1 * q1))) * x1))])) (fun _ k => XS.lsub X0.here hx rfl (hb hby d5_29) rfl k) ?_
  obtain ⟨x3, hx3⟩ : ∃ z : Int64, z = (((q1 * ((2 : Int64) - (q1 * q1))) * x1) * ((2 : Int64) - x2)) := ⟨_, rfl⟩
  refine own_go (st' := s₁.setTop (mkF m 31 #[.val (.long q1), .second, .val (.long ((q1 * ((2 : Int64) - (q1 * q1))) * x1)), .second] [(.long x3)])) (fun _ k => XS.lmul X0.here hx rfl (hb hby d5_30) rfl (by rw [hx3] at k; exact k)) ?_
  refine own_go (st' := s₁.setTop (mkF m 32 #[.val (.long q1), .second, .val (.long x3), .second] [])) (fun _ k => XS.lstoreN X0.here hx rfl (hb hby d5_31) rfl (l' := #[.val (.long q1), .second, .val (.long x3), .second]) rfl k) ?_
  refine own_go (st' := s₁.setTop (mkF m 33 #[.val (.long q1), .second, .val (.long x3), .second] [(.long x3)])) (fun _ k => XS.lloadN X0.here hx rfl (hb hby d5_32) rfl k) ?_
  refine own_go (st' := s₁.setTop (mkF m 36 #[.val (.long q1), .second, .val (.long x3), .second] [(.long (2 : Int64)), (.long x3)])) (X0.ldc2Long hx hown (mvT hZ (hw _ (List.mem_of_getElem? (i := 28) rfl))) (g := (mkF m 33 #[.val (.long q1), .second, .val (.long x3), .second] [(.long x3)])) rfl (hb hby d5_33)) ?_
  refine own_go (st' := s₁.setTop (mkF m 37 #[.val (.long q1), .second, .val (.long x3), .second] [(.long q1), (.long (2 : Int64)), (.long x3)])) (fun _ k => XS.lloadN X0.here hx rfl (hb hby d5_36) rfl k) ?_
  refine own_go (st' := s₁.setTop (mkF m 38 #[.val (.long q1), .second, .val (.long x3), .second] [(.long x3), (.long q1), (.long (2 : Int64)), (.long x3)])) (fun _ k => XS.lloadN X0.here hx rfl (hb hby d5_37) rfl k) ?_
  refine own_go (st' := s₁.setTop (mkF m 39 #[.val (.long q1), .second, .val (.long x3), .second] [(.long (q1 * x3)), (.long (2 : Int64)), (.long x3)])) (fun _ k => XS.lmul X0.here hx rfl (hb hby d5_38) rfl k) ?_
  refine own_go (st' := s₁.setTop (mkF m 40 #[.val (.long q1), .second, .val (.long x3), .second] [(.long ((2 : Int64) - (q1 * x3))), (.long x3)])) (fun _ k => XS.lsub X0.here hx rfl (hb hby d5_39) rfl k) ?_
  refine own_go (st' := s₁.setTop (mkF m 41 #[.val (.long q1), .second, .val (.long x3), .second] [(.long (x3 * ((2 : Int64) - (q1 * x3))))])) (fun _ k => XS.lmul X0.here hx rfl (hb hby d5_40) rfl k) ?_
  refine own_go (st' := s₁.setTop (mkF m 42 #[.val (.long q1), .second, .val (.long (x3 * ((2 : Int64) - (q1 * x3)))), .second] [])) (fun _ k => XS.lstoreN X0.here hx rfl (hb hby d5_41) rfl (l' := #[.val (.long q1), .second, .val (.long (x3 * ((2 : Int64) - (q1 * x3)))), .second]) rfl k) ?_
  refine own_go (st' := s₁.setTop (mkF m 43 #[.val (.long q1), .second, .val (.long (x3 * ((2 : Int64) - (q1 * x3)))), .second] [(.long (x3 * ((2 : Int64) - (q1 * x3))))])) (fun _ k => XS.lloadN X0.here hx rfl (hb hby d5_42) rfl k) ?_
  refine own_go (st' := s₁.setTop (mkF m 46 #[.val (.long q1), .second, .val (.long (x3 * ((2 : Int64) - (q1 * x3)))), .second] [(.long (2 : Int64)), (.long (x3 * ((2 : Int64) - (q1 * x3))))])) (X0.ldc2Long hx hown (mvT hZ (hw _ (List.mem_of_getElem? (i := 28) rfl))) (g := (mkF m 43 #[.val (.long q1), .second, .val (.long (x3 * ((2 : Int64) - (q1 * x3)))), .second] [(.long (x3 * ((2 : Int64) - (q1 * x3))))])) rfl (hb hby d5_43)) ?_
  refine own_go (st' := s₁.setTop (mkF m 47 #[.val (.long q1), .second, .val (.long (x3 * ((2 : Int64) - (q1 * x3)))), .second] [(.long q1), (.long (2 : Int64)), (.long (x3 * ((2 : Int64) - (q1 * x3))))])) (fun _ k => XS.lloadN X0.here hx rfl (hb hby d5_46) rfl k) ?_
  refine own_go (st' := s₁.setTop (mkF m 48 #[.val (.long q1), .second, .val (.long (x3 * ((2 : Int64) - (q1 * x3)))), .second] [(.long (x3 * ((2 : Int64) - (q1 * x3)))), (.long q1), (.long (2 : Int64)), (.long (x3 * ((2 : Int64) - (q1 * x3))))])) (fun _ k => XS.lloadN X0.here hx rfl (hb hby d5_47) rfl k) ?_
  refine own_go (st' := s₁.setTop (mkF m 49 #[.val (.long q1), .second, .val (.long (x3 * ((2 : Int64) - (q1 * x3)))), .second] [(.long (q1 * (x3 * ((2 : Int64) - (q1 * x3))))), (.long (2 : Int64)), (.long (x3 * ((2 : Int64) - (q1 * x3))))])) (fun _ k => XS.lmul X0.here hx rfl (hb hby d5_48) rfl k) ?_
  obtain ⟨x4, hx4⟩ : ∃ z : Int64, z = ((2 : Int64) - (q1 * (x3 * ((2 : Int64) - (q1 * x3))))) := ⟨_, rfl⟩
  refine own_go (st' := s₁.setTop (mkF m 50 #[.val (.long q1), .second, .val (.long (x3 * ((2 : Int64) - (q1 * x3)))), .second] [(.long x4), (.long (x3 * ((2 : Int64) - (q1 * x3))))])) (fun _ k => XS.lsub X0.here hx rfl (hb hby d5_49) rfl (by rw [hx4] at k; exact k)) ?_
  refine own_go (st' := s₁.setTop (mkF m 51 #[.val (.long q1), .second, .val (.long (x3 * ((2 : Int64) - (q1 * x3)))), .second] [(.long ((x3 * ((2 : Int64) - (q1 * x3))) * x4))])) (fun _ k => XS.lmul X0.here hx rfl (hb hby d5_50) rfl k) ?_
  refine own_go (st' := s₁.setTop (mkF m 52 #[.val (.long q1), .second, .val (.long ((x3 * ((2 : Int64) - (q1 * x3))) * x4)), .second] [])) (fun _ k => XS.lstoreN X0.here hx rfl (hb hby d5_51) rfl (l' := #[.val (.long q1), .second, .val (.long ((x3 * ((2 : Int64) - (q1 * x3))) * x4)), .second]) rfl k) ?_
  refine own_go (st' := s₁.setTop (mkF m 53 #[.val (.long q1), .second, .val (.long ((x3 * ((2 : Int64) - (q1 * x3))) * x4)), .second] [(.long ((x3 * ((2 : Int64) - (q1 * x3))) * x4))])) (fun _ k => XS.lloadN X0.here hx rfl (hb hby d5_52) rfl k) ?_
  obtain ⟨fs, hr, hrun, hended, hW, hsame⟩ := X0.leave (v := some (.long ((x3 * ((2 : Int64) - (q1 * x3))) * x4))) (fun h => by rw [Bd.returns] at h; cases h)
  refine ⟨_, _, ?_, hP _ _ hrun hended ⟨_, _, rfl, ?_, ⟨_, rfl⟩, hW, hsame.mono (by decide) (by decide)⟩⟩
  · exact retOut X0 hx Bd.returns rfl (Or.inr (Or.inl ⟨rfl, rfl, _, rfl⟩)) (hb hby d5_53) hr
  · show Qrm5 Z q1 h0 n0 _ s₁.heap _
    rw [e0]
    exact ⟨(by subst hx4 hx3 hx2 hx1; rfl), N0, rfl⟩
theorem pd_0 : parseMethodDescriptor "(J)J" = some ⟨[.long], some .long⟩ := by decide +kernel
theorem d4_0 : decode method_4_code 0 = .ok (.lload_n 0, 1) := by decide +kernel
theorem d4_1 : decode method_4_code 1 = .ok (.lload_n 0, 1) := by decide +kernel
theorem d4_2 : decode method_4_code 2 = .ok (.bipush 31, 2) := by decide +kernel
theorem d4_4 : decode method_4_code 4 = .ok (.lushr, 1) := by decide +kernel
theorem d4_5 : decode method_4_code 5 = .ok (.lxor, 1) := by decide +kernel
theorem d4_6 : decode method_4_code 6 = .ok (.lload_n 0, 1) := by decide +kernel
theorem d4_7 : decode method_4_code 7 = .ok (.bipush 62, 2) := by decide +kernel
theorem d4_9 : decode method_4_code 9 = .ok (.lushr, 1) := by decide +kernel
theorem d4_10 : decode method_4_code 10 = .ok (.lxor, 1) := by decide +kernel
theorem d4_11 : decode method_4_code 11 = .ok (.lstore_n 2, 1) := by decide +kernel
theorem d4_12 : decode method_4_code 12 = .ok (.lload_n 2, 1) := by decide +kernel
theorem d4_13 : decode method_4_code 13 = .ok (.ldc2_w 26, 3) := by decide +kernel
theorem d4_16 : decode method_4_code 16 = .ok (.invokestatic 28, 3) := by decide +kernel
theorem d4_19 : decode method_4_code 19 = .ok (.lmul, 1) := by decide +kernel
theorem d4_20 : decode method_4_code 20 = .ok (.lstore_n 2, 1) := by decide +kernel
theorem d4_21 : decode method_4_code 21 = .ok (.lload_n 2, 1) := by decide +kernel
theorem d4_22 : decode method_4_code 22 = .ok (.lload_n 2, 1) := by decide +kernel
theorem d4_23 : decode method_4_code 23 = .ok (.bipush 27, 2) := by decide +kernel
theorem d4_25 : decode method_4_code 25 = .ok (.lushr, 1) := by decide +kernel
theorem d4_26 : decode method_4_code 26 = .ok (.lxor, 1) := by decide +kernel
theorem d4_27 : decode method_4_code 27 = .ok (.lload_n 2, 1) := by decide +kernel
theorem d4_28 : decode method_4_code 28 = .ok (.bipush 54, 2) := by decide +kernel
theorem d4_30 : decode method_4_code 30 = .ok (.lushr, 1) := by decide +kernel
theorem d4_31 : decode method_4_code 31 = .ok (.lxor, 1) := by decide +kernel
theorem d4_32 : decode method_4_code 32 = .ok (.lstore_n 2, 1) := by decide +kernel
theorem d4_33 : decode method_4_code 33 = .ok (.lload_n 2, 1) := by decide +kernel
theorem d4_34 : decode method_4_code 34 = .ok (.ldc2_w 31, 3) := by decide +kernel
theorem d4_37 : decode method_4_code 37 = .ok (.invokestatic 28, 3) := by decide +kernel
theorem d4_40 : decode method_4_code 40 = .ok (.lmul, 1) := by decide +kernel
theorem d4_41 : decode method_4_code 41 = .ok (.lstore_n 2, 1) := by decide +kernel
theorem d4_42 : decode method_4_code 42 = .ok (.lload_n 2, 1) := by decide +kernel
theorem d4_43 : decode method_4_code 43 = .ok (.lload_n 2, 1) := by decide +kernel
theorem d4_44 : decode method_4_code 44 = .ok (.bipush 30, 2) := by decide +kernel
theorem d4_46 : decode method_4_code 46 = .ok (.lushr, 1) := by decide +kernel
theorem d4_47 : decode method_4_code 47 = .ok (.lxor, 1) := by decide +kernel
theorem d4_48 : decode method_4_code 48 = .ok (.lload_n 2, 1) := by decide +kernel
theorem d4_49 : decode method_4_code 49 = .ok (.bipush 60, 2) := by decide +kernel
theorem d4_51 : decode method_4_code 51 = .ok (.lushr, 1) := by decide +kernel
theorem d4_52 : decode method_4_code 52 = .ok (.lxor, 1) := by decide +kernel
theorem d4_53 : decode method_4_code 53 = .ok (.lstore_n 2, 1) := by decide +kernel
theorem d4_54 : decode method_4_code 54 = .ok (.lload_n 2, 1) := by decide +kernel
theorem d4_55 : decode method_4_code 55 = .ok (.lreturn, 1) := by decide +kernel
theorem pn_4 : plainName "com/example/libtopk/libtopk/workload/SplitMix64NextLongPinLaw" = true := by first | (simp [plainName, overriddenIn]; done) | decide +kernel
theorem ef_rm4 (m : MethodId) (x0 : Int64) : entryFrame m #[(.long x0)] 4 = mkF m 0 #[.val (.long x0), .second, .unset, .unset] [] := by first | (simp [entryFrame, mkF, argsToLocals, Value.category]; done) | rfl
def Qrm4 (Z : State) (q1 : Int64) (h0 : Heap) (n0 : Nat) (v : Option Value) (h : Heap) (L : List Loc) : Prop := (v = some (.long (own_unmix q1))) ∧ (Fr n0 L) ∧ (h = h0)
set_option maxRecDepth 65536 in
set_option maxHeartbeats 40000000 in
theorem rm4 (l : Launch) (Z : State) (a0 : Array Value) (hw : ∀ d ∈ tables_1, d.before a0 Z = true) (ws : List Jvm.Cond) (q1 : Int64) (h0 : Heap) (n0 : Nat) (Z0 : n0 ≤ h0.size)  :
    MetFree l (⟨"com/example/libtopk/libtopk/workload/SplitMix64NextLongPinLaw", "unmix", "(J)J"⟩ : MethodName) (head1 (Jvm.Cond.code (⟨"com/example/libtopk/libtopk/workload/SplitMix64NextLongPinLaw", "unmix", "(J)J"⟩ : MethodName) method_4_code 4 (some .long) :: ws) ({ frames := 1, cells := 0, slots := 0, locals := 17 } : Room)) (fun a U => a = #[(.long q1)] ∧ Z.Warmed39 U.vm ∧ U.heap = h0) (fun _ _ _ _ _ => True) (fun _ U o U' => ∃ v L, o = .returned v ∧ Qrm4 Z q1 h0 n0 v U'.heap L ∧ FrameEnd U o U' L ({ frames := 1, cells := 0, slots := 0, locals := 17 } : Room).cells ({ frames := 1, cells := 0, slots := 0, locals := 17 } : Room).slots) := by
  refine MetFree.of_bodySF (plainFor_of_name pn_4) hisR ?_
  intro p e s m args below meth c s₁ Bd hml0 hP0 hK
  obtain ⟨rfl, hZ, hh⟩ := hP0
  have hx := Bd.exec
  have hby := Bd.bytes
  have hml : c.maxLocals = 4 := hml0
  have hown : s.vm.findClass "com/example/libtopk/libtopk/workload/SplitMix64NextLongPinLaw" = some m.cls := findClass_of_methodNamed Bd.named
  have hnm := (name_of_methodNamed Bd.named Bd.method).1
  have X0 : Stand p l e ({ frames := 1, cells := 0, slots := 0, locals := 17 } : Room) s m #[(.long q1)] below meth c s₁ [] 0 0 := Stand.of_body Bd
  have e0 : s₁.heap = h0 := by rw [← hh, Bd.state]; rfl
  have N0 := Fr.nil n0
  suffices own_H : ∀ (P : State → Outcome → Prop), (∀ U o, U.status = .running → Ended U below o → (∃ v L, o = .returned v ∧ Qrm4 Z q1 h0 n0 v U.heap L ∧ FrameEnd s o U L ({ frames := 1, cells := 0, slots := 0, locals := 17 } : Room).cells ({ frames := 1, cells := 0, slots := 0, locals := 17 } : Room).slots) → P U o) → own_Go p.tables e below P (s₁.setTop (mkF m 0 #[.val (.long q1), .second, .unset, .unset] [])) from own_go (fun _ k => castTop (ef_rm4 m q1) k) (own_H _ (fun U o h1 h2 h3 => ⟨h1, h2, h3⟩))
  intro P hP
  refine own_go (st' := s₁.setTop (mkF m 1 #[.val (.long q1), .second, .unset, .unset] [(.long q1)])) (fun _ k => XS.lloadN X0.here hx rfl (hb hby d4_0) rfl k) ?_
  refine own_go (st' := s₁.setTop (mkF m 2 #[.val (.long q1), .second, .unset, .unset] [(.long q1), (.long q1)])) (fun _ k => XS.lloadN X0.here hx rfl (hb hby d4_1) rfl k) ?_
  refine own_go (st' := s₁.setTop (mkF m 4 #[.val (.long q1), .second, .unset, .unset] [(.int (31 : Int32)), (.long q1), (.long q1)])) (fun _ k => XS.bipush X0.here hx rfl (hb hby d4_2) k) ?_
  obtain ⟨x1, hx1⟩ : ∃ z : Int64, z = ((q1.toUInt64 >>> ((31 : Int32) &&& 0x3f).toInt64.toUInt64).toInt64) := ⟨_, rfl⟩
  refine own_go (st' := s₁.setTop (mkF m 5 #[.val (.long q1), .second, .unset, .unset] [(.long x1), (.long q1)])) (fun _ k => XS.lushr X0.here hx rfl (hb hby d4_4) rfl (by rw [hx1] at k; exact k)) ?_
  refine own_go (st' := s₁.setTop (mkF m 6 #[.val (.long q1), .second, .unset, .unset] [(.long (q1 ^^^ x1))])) (fun _ k => XS.lxor X0.here hx rfl (hb hby d4_5) rfl k) ?_
  refine own_go (st' := s₁.setTop (mkF m 7 #[.val (.long q1), .second, .unset, .unset] [(.long q1), (.long (q1 ^^^ x1))])) (fun _ k => XS.lloadN X0.here hx rfl (hb hby d4_6) rfl k) ?_
  refine own_go (st' := s₁.setTop (mkF m 9 #[.val (.long q1), .second, .unset, .unset] [(.int (62 : Int32)), (.long q1), (.long (q1 ^^^ x1))])) (fun _ k => XS.bipush X0.here hx rfl (hb hby d4_7) k) ?_
  obtain ⟨x2, hx2⟩ : ∃ z : Int64, z = ((q1.toUInt64 >>> ((62 : Int32) &&& 0x3f).toInt64.toUInt64).toInt64) := ⟨_, rfl⟩
  refine own_go (st' := s₁.setTop (mkF m 10 #[.val (.long q1), .second, .unset, .unset] [(.long x2), (.long (q1 ^^^ x1))])) (fun _ k => XS.lushr X0.here hx rfl (hb hby d4_9) rfl (by rw [hx2] at k; exact k)) ?_
  refine own_go (st' := s₁.setTop (mkF m 11 #[.val (.long q1), .second, .unset, .unset] [(.long ((q1 ^^^ x1) ^^^ x2))])) (fun _ k => XS.lxor X0.here hx rfl (hb hby d4_10) rfl k) ?_
  refine own_go (st' := s₁.setTop (mkF m 12 #[.val (.long q1), .second, .val (.long ((q1 ^^^ x1) ^^^ x2)), .second] [])) (fun _ k => XS.lstoreN X0.here hx rfl (hb hby d4_11) rfl (l' := #[.val (.long q1), .second, .val (.long ((q1 ^^^ x1) ^^^ x2)), .second]) rfl k) ?_
  refine own_go (st' := s₁.setTop (mkF m 13 #[.val (.long q1), .second, .val (.long ((q1 ^^^ x1) ^^^ x2)), .second] [(.long ((q1 ^^^ x1) ^^^ x2))])) (fun _ k => XS.lloadN X0.here hx rfl (hb hby d4_12) rfl k) ?_
  refine own_go (st' := s₁.setTop (mkF m 16 #[.val (.long q1), .second, .val (.long ((q1 ^^^ x1) ^^^ x2)), .second] [(.long (-7723592293110705685 : Int64)), (.long ((q1 ^^^ x1) ^^^ x2))])) (X0.ldc2Long hx hown (mvT hZ (hw _ (List.mem_of_getElem? (i := 24) rfl))) (g := (mkF m 13 #[.val (.long q1), .second, .val (.long ((q1 ^^^ x1) ^^^ x2)), .second] [(.long ((q1 ^^^ x1) ^^^ x2))])) rfl (hb hby d4_13)) ?_
  obtain ⟨_, _, ⟨T3, LC3, kC3, nC3⟩, -, X3, ⟨Lc3, hQ3, lq3, yq3, zq3⟩, st3⟩ := Jvm.LawKit.callS X0 hx (y := (⟨"com/example/libtopk/libtopk/workload/SplitMix64NextLongPinLaw", "inverse", "(J)J"⟩ : MethodName)) hown (mvT hZ (hw _ (List.mem_of_getElem? (i := 25) rfl))) (mvT hZ (hw _ (List.mem_of_getElem? (i := 26) rfl))) (mvT hZ (hw _ (List.mem_of_getElem? (i := 22) rfl))) (mvT hZ (hw _ (List.mem_of_getElem? (i := 27) rfl))) (by decide) (backOf (W := 2) (rm5 l Z a0 hw [] (-7723592293110705685 : Int64) h0 n0 (by omega) ) hZ (hw _ (List.mem_of_getElem? (i := 27) rfl)) (hw _ (List.mem_of_getElem? (i := 22) rfl)) (by decide) (by decide)) (g := (mkF m 16 #[.val (.long q1), .second, .val (.long ((q1 ^^^ x1) ^^^ x2)), .second] [(.long (-7723592293110705685 : Int64)), (.long ((q1 ^^^ x1) ^^^ x2))])) rfl (by rw [hml]; rfl) (argsL := [(.long (-7723592293110705685 : Int64))]) (rest := [(.long ((q1 ^^^ x1) ^^^ x2))]) (lenOf pd_0 rfl) rfl (by show 2 * 0 + _ ≤ _; exact Nat.le_of_eq rfl) (hb hby d4_16) (fun _ _ => ⟨rfl, e0, (by decide : 0 + 0 ≤ _), (by decide : 0 + 0 ≤ _)⟩)
  dsimp only [Pt.U, Pt.locs, Pt.cells, Pt.slots] at X3 lq3 yq3 zq3 st3 hQ3
  subst lq3 yq3 zq3
  obtain ⟨rfl, Nq3, eq3⟩ := hQ3
  have N3 := Fr.app N0 Nq3
  refine own_go (st' := T3.setTop (mkF m 19 #[.val (.long q1), .second, .val (.long ((q1 ^^^ x1) ^^^ x2)), .second] [(.long (own_inverse (-7723592293110705685 : Int64))), (.long ((q1 ^^^ x1) ^^^ x2))])) (fun t k => st3 t k) ?_
  obtain ⟨x4, hx4⟩ : ∃ z : Int64, z = (((q1 ^^^ x1) ^^^ x2) * (own_inverse (-7723592293110705685 : Int64))) := ⟨_, rfl⟩
  refine own_go (st' := T3.setTop (mkF m 20 #[.val (.long q1), .second, .val (.long ((q1 ^^^ x1) ^^^ x2)), .second] [(.long x4)])) (fun _ k => XS.lmul X3.here hx rfl (hb hby d4_19) rfl (by rw [hx4] at k; exact k)) ?_
  refine own_go (st' := T3.setTop (mkF m 21 #[.val (.long q1), .second, .val (.long x4), .second] [])) (fun _ k => XS.lstoreN X3.here hx rfl (hb hby d4_20) rfl (l' := #[.val (.long q1), .second, .val (.long x4), .second]) rfl k) ?_
  refine own_go (st' := T3.setTop (mkF m 22 #[.val (.long q1), .second, .val (.long x4), .second] [(.long x4)])) (fun _ k => XS.lloadN X3.here hx rfl (hb hby d4_21) rfl k) ?_
  refine own_go (st' := T3.setTop (mkF m 23 #[.val (.long q1), .second, .val (.long x4), .second] [(.long x4), (.long x4)])) (fun _ k => XS.lloadN X3.here hx rfl (hb hby d4_22) rfl k) ?_
  refine own_go (st' := T3.setTop (mkF m 25 #[.val (.long q1), .second, .val (.long x4), .second] [(.int (27 : Int32)), (.long x4), (.long x4)])) (fun _ k => XS.bipush X3.here hx rfl (hb hby d4_23) k) ?_
  obtain ⟨x5, hx5⟩ : ∃ z : Int64, z = ((x4.toUInt64 >>> ((27 : Int32) &&& 0x3f).toInt64.toUInt64).toInt64) := ⟨_, rfl⟩
  refine own_go (st' := T3.setTop (mkF m 26 #[.val (.long q1), .second, .val (.long x4), .second] [(.long x5), (.long x4)])) (fun _ k => XS.lushr X3.here hx rfl (hb hby d4_25) rfl (by rw [hx5] at k; exact k)) ?_
  refine own_go (st' := T3.setTop (mkF m 27 #[.val (.long q1), .second, .val (.long x4), .second] [(.long (x4 ^^^ x5))])) (fun _ k => XS.lxor X3.here hx rfl (hb hby d4_26) rfl k) ?_
  refine own_go (st' := T3.setTop (mkF m 28 #[.val (.long q1), .second, .val (.long x4), .second] [(.long x4), (.long (x4 ^^^ x5))])) (fun _ k => XS.lloadN X3.here hx rfl (hb hby d4_27) rfl k) ?_
  refine own_go (st' := T3.setTop (mkF m 30 #[.val (.long q1), .second, .val (.long x4), .second] [(.int (54 : Int32)), (.long x4), (.long (x4 ^^^ x5))])) (fun _ k => XS.bipush X3.here hx rfl (hb hby d4_28) k) ?_
  obtain ⟨x6, hx6⟩ : ∃ z : Int64, z = ((x4.toUInt64 >>> ((54 : Int32) &&& 0x3f).toInt64.toUInt64).toInt64) := ⟨_, rfl⟩
  refine own_go (st' := T3.setTop (mkF m 31 #[.val (.long q1), .second, .val (.long x4), .second] [(.long x6), (.long (x4 ^^^ x5))])) (fun _ k => XS.lushr X3.here hx rfl (hb hby d4_30) rfl (by rw [hx6] at k; exact k)) ?_
  refine own_go (st' := T3.setTop (mkF m 32 #[.val (.long q1), .second, .val (.long x4), .second] [(.long ((x4 ^^^ x5) ^^^ x6))])) (fun _ k => XS.lxor X3.here hx rfl (hb hby d4_31) rfl k) ?_
  refine own_go (st' := T3.setTop (mkF m 33 #[.val (.long q1), .second, .val (.long ((x4 ^^^ x5) ^^^ x6)), .second] [])) (fun _ k => XS.lstoreN X3.here hx rfl (hb hby d4_32) rfl (l' := #[.val (.long q1), .second, .val (.long ((x4 ^^^ x5) ^^^ x6)), .second]) rfl k) ?_
  refine own_go (st' := T3.setTop (mkF m 34 #[.val (.long q1), .second, .val (.long ((x4 ^^^ x5) ^^^ x6)), .second] [(.long ((x4 ^^^ x5) ^^^ x6))])) (fun _ k => XS.lloadN X3.here hx rfl (hb hby d4_33) rfl k) ?_
  refine own_go (st' := T3.setTop (mkF m 37 #[.val (.long q1), .second, .val (.long ((x4 ^^^ x5) ^^^ x6)), .second] [(.long (-4658895280553007687 : Int64)), (.long ((x4 ^^^ x5) ^^^ x6))])) (X3.ldc2Long hx hown (mvT hZ (hw _ (List.mem_of_getElem? (i := 29) rfl))) (g := (mkF m 34 #[.val (.long q1), .second, .val (.long ((x4 ^^^ x5) ^^^ x6)), .second] [(.long ((x4 ^^^ x5) ^^^ x6))])) rfl (hb hby d4_34)) ?_
  obtain ⟨_, _, ⟨T7, LC7, kC7, nC7⟩, -, X7, ⟨Lc7, hQ7, lq7, yq7, zq7⟩, st7⟩ := Jvm.LawKit.callS X3 hx (y := (⟨"com/example/libtopk/libtopk/workload/SplitMix64NextLongPinLaw", "inverse", "(J)J"⟩ : MethodName)) hown (mvT hZ (hw _ (List.mem_of_getElem? (i := 25) rfl))) (mvT hZ (hw _ (List.mem_of_getElem? (i := 26) rfl))) (mvT hZ (hw _ (List.mem_of_getElem? (i := 22) rfl))) (mvT hZ (hw _ (List.mem_of_getElem? (i := 27) rfl))) (by decide) (backOf (W := 2) (rm5 l Z a0 hw [] (-4658895280553007687 : Int64) h0 n0 (by omega) ) hZ (hw _ (List.mem_of_getElem? (i := 27) rfl)) (hw _ (List.mem_of_getElem? (i := 22) rfl)) (by decide) (by decide)) (g := (mkF m 37 #[.val (.long q1), .second, .val (.long ((x4 ^^^ x5) ^^^ x6)), .second] [(.long (-4658895280553007687 : Int64)), (.long ((x4 ^^^ x5) ^^^ x6))])) rfl (by rw [hml]; rfl) (argsL := [(.long (-4658895280553007687 : Int64))]) (rest := [(.long ((x4 ^^^ x5) ^^^ x6))]) (lenOf pd_0 rfl) rfl (by show 2 * 0 + _ ≤ _; exact Nat.le_of_eq rfl) (hb hby d4_37) (fun _ _ => ⟨rfl, eq3, (by decide : 0 + 0 ≤ _), (by decide : 0 + 0 ≤ _)⟩)
  dsimp only [Pt.U, Pt.locs, Pt.cells, Pt.slots] at X7 lq7 yq7 zq7 st7 hQ7
  subst lq7 yq7 zq7
  obtain ⟨rfl, Nq7, eq7⟩ := hQ7
  have N7 := Fr.app N3 Nq7
  refine own_go (st' := T7.setTop (mkF m 40 #[.val (.long q1), .second, .val (.long ((x4 ^^^ x5) ^^^ x6)), .second] [(.long (own_inverse (-4658895280553007687 : Int64))), (.long ((x4 ^^^ x5) ^^^ x6))])) (fun t k => st7 t k) ?_
  obtain ⟨x8, hx8⟩ : ∃ z : Int64, z = (((x4 ^^^ x5) ^^^ x6) * (own_inverse (-4658895280553007687 : Int64))) := ⟨_, rfl⟩
  refine own_go (st' := T7.setTop (mkF m 41 #[.val (.long q1), .second, .val (.long ((x4 ^^^ x5) ^^^ x6)), .second] [(.long x8)])) (fun _ k => XS.lmul X7.here hx rfl (hb hby d4_40) rfl (by rw [hx8] at k; exact k)) ?_
  refine own_go (st' := T7.setTop (mkF m 42 #[.val (.long q1), .second, .val (.long x8), .second] [])) (fun _ k => XS.lstoreN X7.here hx rfl (hb hby d4_41) rfl (l' := #[.val (.long q1), .second, .val (.long x8), .second]) rfl k) ?_
  refine own_go (st' := T7.setTop (mkF m 43 #[.val (.long q1), .second, .val (.long x8), .second] [(.long x8)])) (fun _ k => XS.lloadN X7.here hx rfl (hb hby d4_42) rfl k) ?_
  refine own_go (st' := T7.setTop (mkF m 44 #[.val (.long q1), .second, .val (.long x8), .second] [(.long x8), (.long x8)])) (fun _ k => XS.lloadN X7.here hx rfl (hb hby d4_43) rfl k) ?_
  refine own_go (st' := T7.setTop (mkF m 46 #[.val (.long q1), .second, .val (.long x8), .second] [(.int (30 : Int32)), (.long x8), (.long x8)])) (fun _ k => XS.bipush X7.here hx rfl (hb hby d4_44) k) ?_
  obtain ⟨x9, hx9⟩ : ∃ z : Int64, z = ((x8.toUInt64 >>> ((30 : Int32) &&& 0x3f).toInt64.toUInt64).toInt64) := ⟨_, rfl⟩
  refine own_go (st' := T7.setTop (mkF m 47 #[.val (.long q1), .second, .val (.long x8), .second] [(.long x9), (.long x8)])) (fun _ k => XS.lushr X7.here hx rfl (hb hby d4_46) rfl (by rw [hx9] at k; exact k)) ?_
  refine own_go (st' := T7.setTop (mkF m 48 #[.val (.long q1), .second, .val (.long x8), .second] [(.long (x8 ^^^ x9))])) (fun _ k => XS.lxor X7.here hx rfl (hb hby d4_47) rfl k) ?_
  refine own_go (st' := T7.setTop (mkF m 49 #[.val (.long q1), .second, .val (.long x8), .second] [(.long x8), (.long (x8 ^^^ x9))])) (fun _ k => XS.lloadN X7.here hx rfl (hb hby d4_48) rfl k) ?_
  refine own_go (st' := T7.setTop (mkF m 51 #[.val (.long q1), .second, .val (.long x8), .second] [(.int (60 : Int32)), (.long x8), (.long (x8 ^^^ x9))])) (fun _ k => XS.bipush X7.here hx rfl (hb hby d4_49) k) ?_
  obtain ⟨x10, hx10⟩ : ∃ z : Int64, z = ((x8.toUInt64 >>> ((60 : Int32) &&& 0x3f).toInt64.toUInt64).toInt64) := ⟨_, rfl⟩
  refine own_go (st' := T7.setTop (mkF m 52 #[.val (.long q1), .second, .val (.long x8), .second] [(.long x10), (.long (x8 ^^^ x9))])) (fun _ k => XS.lushr X7.here hx rfl (hb hby d4_51) rfl (by rw [hx10] at k; exact k)) ?_
  refine own_go (st' := T7.setTop (mkF m 53 #[.val (.long q1), .second, .val (.long x8), .second] [(.long ((x8 ^^^ x9) ^^^ x10))])) (fun _ k => XS.lxor X7.here hx rfl (hb hby d4_52) rfl k) ?_
  refine own_go (st' := T7.setTop (mkF m 54 #[.val (.long q1), .second, .val (.long ((x8 ^^^ x9) ^^^ x10)), .second] [])) (fun _ k => XS.lstoreN X7.here hx rfl (hb hby d4_53) rfl (l' := #[.val (.long q1), .second, .val (.long ((x8 ^^^ x9) ^^^ x10)), .second]) rfl k) ?_
  refine own_go (st' := T7.setTop (mkF m 55 #[.val (.long q1), .second, .val (.long ((x8 ^^^ x9) ^^^ x10)), .second] [(.long ((x8 ^^^ x9) ^^^ x10))])) (fun _ k => XS.lloadN X7.here hx rfl (hb hby d4_54) rfl k) ?_
  obtain ⟨fs, hr, hrun, hended, hW, hsame⟩ := X7.leave (v := some (.long ((x8 ^^^ x9) ^^^ x10))) (fun h => by rw [Bd.returns] at h; cases h)
  refine ⟨_, _, ?_, hP _ _ hrun hended ⟨_, _, rfl, ?_, ⟨_, rfl⟩, hW, hsame.mono (by decide) (by decide)⟩⟩
  · exact retOut X7 hx Bd.returns rfl (Or.inr (Or.inl ⟨rfl, rfl, _, rfl⟩)) (hb hby d4_55) hr
  · show Qrm4 Z q1 h0 n0 _ T7.heap _
    rw [eq7]
    exact ⟨(by subst hx10 hx9 hx8 hx6 hx5 hx4 hx2 hx1; rfl), N7, rfl⟩
theorem pd_1 : parseMethodDescriptor "(J)V" = some ⟨[.long], none⟩ := by decide +kernel
theorem pd_2 : parseMethodDescriptor "()J" = some ⟨[], some .long⟩ := by decide +kernel
theorem pn_0 : plainName "com/example/libtopk/libtopk/workload/SplitMix64NextLongPinLaw" = true := by first | (simp [plainName, overriddenIn]; done) | decide +kernel
theorem ef_rm0 (m : MethodId) (x0 : Int64) : entryFrame m #[(.long x0)] maxLocals = mkF m 0 #[.val (.long x0), .second, .unset, .unset, .unset, .unset, .unset, .unset, .unset] [] := by first | (simp [entryFrame, mkF, argsToLocals, Value.category, maxLocals]; done) | rfl
def Qrm0 (Z : State) (sd : Int64) (h0 : Heap) (n0 : Nat) (v : Option Value) (h : Heap) (L : List Loc) : Prop := v = some (.int 1) ∧ Fr n0 L ∧ True
set_option maxRecDepth 65536 in
set_option maxHeartbeats 40000000 in
theorem rm0 (l : Launch) (Z : State) (a0 : Array Value) (hw : ∀ d ∈ tables_1, d.before a0 Z = true) (ws : List Jvm.Cond) (sd : Int64) (h0 : Heap) (n0 : Nat) (Z0 : n0 ≤ h0.size)  :
    MetFree l x (head1 (Jvm.Cond.code x code maxLocals ret :: ws) room_1) (fun a U => a = #[(.long sd)] ∧ Z.Warmed39 U.vm ∧ U.heap = h0) (fun _ _ _ _ _ => True) (fun _ U o U' => ∃ v L, o = .returned v ∧ Qrm0 Z sd h0 n0 v U'.heap L ∧ FrameEnd U o U' L 16 128) := by
  refine MetFree.of_bodySF (plainFor_of_name pn_0) hisR ?_
  intro p e s m args below meth c s₁ Bd hml0 hP0 hK
  obtain ⟨rfl, hZ, hh⟩ := hP0
  have hx := Bd.exec
  have hby := Bd.bytes
  have hml : c.maxLocals = 9 := hml0
  have hown : s.vm.findClass "com/example/libtopk/libtopk/workload/SplitMix64NextLongPinLaw" = some m.cls := findClass_of_methodNamed Bd.named
  have hnm := (name_of_methodNamed Bd.named Bd.method).1
  have X0 : Stand p l e room_1 s m #[(.long sd)] below meth c s₁ [] 0 0 := Stand.of_body Bd
  have e0 : s₁.heap = h0 := by rw [← hh, Bd.state]; rfl
  have N0 := Fr.nil n0
  suffices own_H : ∀ (P : State → Outcome → Prop), (∀ U o, U.status = .running → Ended U below o → (∃ v L, o = .returned v ∧ Qrm0 Z sd h0 n0 v U.heap L ∧ FrameEnd s o U L 16 128) → P U o) → own_Go p.tables e below P (s₁.setTop (mkF m 0 #[.val (.long sd), .second, .unset, .unset, .unset, .unset, .unset, .unset, .unset] [])) from own_go (fun _ k => castTop (ef_rm0 m sd) k) (own_H _ (fun U o h1 h2 h3 => ⟨h1, h2, h3⟩))
  intro P hP
  obtain ⟨T1, h1, X1, e1, E1, A1, D1, -, st1⟩ := newO X0 hx hZ hown (hw _ (List.mem_of_getElem? (i := 0) rfl)) (hw _ (List.mem_of_getElem? (i := 1) rfl)) (hw _ (List.mem_of_getElem? (i := 2) rfl)) e0 (g := (mkF m 0 #[.val (.long sd), .second, .unset, .unset, .unset, .unset, .unset, .unset, .unset] [])) rfl (hb hby at_0) (by decide) (by decide)
  obtain ⟨b1, g1⟩ : ∃ z, z = h0.size := ⟨_, rfl⟩
  rw [← g1] at A1 D1 st1
  have sz1 : h0.size ≤ h1.size := E1.1
  have lt1 : b1 < h1.size := A1.lt
  have f2 : Fld Z h1 b1 "com/example/libtopk/libtopk/workload/SplitMix64" "state" "J" (.long (0 : Int64)) := D1 (Or.inl (hw _ (List.mem_of_getElem? (i := 10) rfl))) (ty := .long) (by decide)
  refine own_go (st' := T1.setTop (mkF m 3 #[.val (.long sd), .second, .unset, .unset, .unset, .unset, .unset, .unset, .unset] [(.ref b1)])) (st1) ?_
  refine own_go (st' := T1.setTop (mkF m 4 #[.val (.long sd), .second, .unset, .unset, .unset, .unset, .unset, .unset, .unset] [(.ref b1), (.ref b1)])) (fun _ k => XS.dup X1.here hx rfl (hb hby at_3) rfl rfl k) ?_
  refine own_go (st' := T1.setTop (mkF m 5 #[.val (.long sd), .second, .unset, .unset, .unset, .unset, .unset, .unset, .unset] [(.long sd), (.ref b1), (.ref b1)])) (fun _ k => XS.lloadN X1.here hx rfl (hb hby at_4) rfl k) ?_
  obtain ⟨_, _, ⟨T3, LC3, kC3, nC3⟩, -, X3, ⟨Lc3, hQ3, lq3, yq3, zq3⟩, st3⟩ := X1.specialBack hx (y := (⟨"com/example/libtopk/libtopk/workload/SplitMix64", "<init>", "(J)V"⟩ : MethodName)) rfl hown (mvT hZ (hw _ (List.mem_of_getElem? (i := 3) rfl))) (mvT hZ (hw _ (List.mem_of_getElem? (i := 4) rfl))) (mvT hZ (hw _ (List.mem_of_getElem? (i := 5) rfl))) (by decide) (backOf (W := 1) (rm1 l Z a0 hw [] b1 sd (0 : Int64) h1 n0 (by omega) A1 f2 (by omega)) hZ (hw _ (List.mem_of_getElem? (i := 5) rfl)) (hw _ (List.mem_of_getElem? (i := 2) rfl)) (by decide) (by decide)) (g := (mkF m 5 #[.val (.long sd), .second, .unset, .unset, .unset, .unset, .unset, .unset, .unset] [(.long sd), (.ref b1), (.ref b1)])) rfl (by rw [hml]; rfl) (Steps.refl _) (a := b1) (argsL := [(.long sd)]) (rest := [(.ref b1)]) (lenOf pd_1 rfl) rfl (by show 2 * 0 + _ ≤ _; exact Nat.le_of_eq rfl) (hb hby at_5) (fun _ _ => ⟨rfl, e1, (by decide : 1 + 0 ≤ _), (by decide : 1 + 0 ≤ _)⟩)
  dsimp only [Pt.U, Pt.locs, Pt.cells, Pt.slots] at X3 lq3 yq3 zq3 st3 hQ3
  subst lq3 yq3 zq3
  obtain ⟨h3, e3⟩ : ∃ z, T3.heap = z := ⟨_, rfl⟩
  rw [e3] at hQ3
  obtain ⟨rfl, Nq3, K3, g3_0, g3_1⟩ := hQ3
  have sz3 : h1.size ≤ h3.size := K3.1
  have N3 := Fr.app N0 Nq3
  have lt3_1 : b1 < h3.size := g3_0.lt
  refine own_go (st' := T3.setTop (mkF m 8 #[.val (.long sd), .second, .unset, .unset, .unset, .unset, .unset, .unset, .unset] [(.ref b1)])) (fun _ k => st3.trans k) ?_
  refine own_go (st' := T3.setTop (mkF m 9 #[.val (.long sd), .second, .val (.ref b1), .unset, .unset, .unset, .unset, .unset, .unset] [])) (fun _ k => XS.astoreN X3.here hx rfl (hb hby at_8) rfl rfl (l' := #[.val (.long sd), .second, .val (.ref b1), .unset, .unset, .unset, .unset, .unset, .unset]) rfl k) ?_
  refine own_go (st' := T3.setTop (mkF m 10 #[.val (.long sd), .second, .val (.ref b1), .unset, .unset, .unset, .unset, .unset, .unset] [(.ref b1)])) (fun _ k => XS.aloadN X3.here hx rfl (hb hby at_9) rfl rfl k) ?_
  obtain ⟨cq4, kq4, q4a, q4b, q4c⟩ := isOf hZ e3 g3_0
  obtain ⟨_, _, ⟨T4, LC4, kC4, nC4⟩, -, X4, ⟨Lc4, hQ4, lq4, yq4, zq4⟩, st4⟩ := X3.virtualBack hx (y := (⟨"com/example/libtopk/libtopk/workload/SplitMix64", "nextLong", "()J"⟩ : MethodName)) (z := (⟨"com/example/libtopk/libtopk/workload/SplitMix64", "nextLong", "()J"⟩ : MethodName)) hown (mvT hZ (hw _ (List.mem_of_getElem? (i := 11) rfl))) (mvT hZ (hw _ (List.mem_of_getElem? (i := 12) rfl))) (notFace_of_selects (args := #[]) (mvT hZ (hw _ (List.mem_of_getElem? (i := 14) rfl)))) (mvT hZ (hw _ (List.mem_of_getElem? (i := 14) rfl))) (mvT hZ (hw _ (List.mem_of_getElem? (i := 13) rfl))) (by decide) (backOf (W := 0) (rm3 l Z a0 hw [] b1 sd h3 n0 (by omega) g3_0 g3_1 (by omega)) hZ (hw _ (List.mem_of_getElem? (i := 15) rfl)) (hw _ (List.mem_of_getElem? (i := 2) rfl)) (by decide) (by decide)) q4a q4c (g := (mkF m 10 #[.val (.long sd), .second, .val (.ref b1), .unset, .unset, .unset, .unset, .unset, .unset] [(.ref b1)])) rfl (by rw [hml]; rfl) (Steps.refl _) (argsL := []) (rest := []) (lenOf pd_2 rfl) rfl (by show 2 * 0 + _ ≤ _; exact Nat.le_of_eq rfl) (hb hby at_10) (fun _ _ => ⟨rfl, e3, (by decide : 1 + 0 ≤ _), (by decide : 1 + 0 ≤ _)⟩)
  dsimp only [Pt.U, Pt.locs, Pt.cells, Pt.slots] at X4 lq4 yq4 zq4 st4 hQ4
  subst lq4 yq4 zq4
  obtain ⟨h4, e4⟩ : ∃ z, T4.heap = z := ⟨_, rfl⟩
  rw [e4] at hQ4
  obtain ⟨rfl, Nq4, K4, g4_0, g4_1⟩ := hQ4
  have sz4 : h3.size ≤ h4.size := K4.1
  have N4 := Fr.app N3 Nq4
  have lt4_1 : b1 < h4.size := g4_0.lt
  refine own_go (st' := T4.setTop (mkF m 13 #[.val (.long sd), .second, .val (.ref b1), .unset, .unset, .unset, .unset, .unset, .unset] [(.long (own_mix (sd + (-7046029254386353131 : Int64))))])) (fun _ k => st4.trans k) ?_
  refine own_go (st' := T4.setTop (mkF m 14 #[.val (.long sd), .second, .val (.ref b1), .val (.long (own_mix (sd + (-7046029254386353131 : Int64)))), .second, .unset, .unset, .unset, .unset] [])) (fun _ k => XS.lstoreN X4.here hx rfl (hb hby at_13) rfl (l' := #[.val (.long sd), .second, .val (.ref b1), .val (.long (own_mix (sd + (-7046029254386353131 : Int64)))), .second, .unset, .unset, .unset, .unset]) rfl k) ?_
  refine own_go (st' := T4.setTop (mkF m 15 #[.val (.long sd), .second, .val (.ref b1), .val (.long (own_mix (sd + (-7046029254386353131 : Int64)))), .second, .unset, .unset, .unset, .unset] [(.ref b1)])) (fun _ k => XS.aloadN X4.here hx rfl (hb hby at_14) rfl rfl k) ?_
  obtain ⟨cq5, kq5, q5a, q5b, q5c⟩ := isOf hZ e4 g4_0
  obtain ⟨_, _, ⟨T5, LC5, kC5, nC5⟩, -, X5, ⟨Lc5, hQ5, lq5, yq5, zq5⟩, st5⟩ := X4.virtualBack hx (y := (⟨"com/example/libtopk/libtopk/workload/SplitMix64", "nextLong", "()J"⟩ : MethodName)) (z := (⟨"com/example/libtopk/libtopk/workload/SplitMix64", "nextLong", "()J"⟩ : MethodName)) hown (mvT hZ (hw _ (List.mem_of_getElem? (i := 11) rfl))) (mvT hZ (hw _ (List.mem_of_getElem? (i := 12) rfl))) (notFace_of_selects (args := #[]) (mvT hZ (hw _ (List.mem_of_getElem? (i := 14) rfl)))) (mvT hZ (hw _ (List.mem_of_getElem? (i := 14) rfl))) (mvT hZ (hw _ (List.mem_of_getElem? (i := 13) rfl))) (by decide) (backOf (W := 0) (rm3 l Z a0 hw [] b1 (sd + (-7046029254386353131 : Int64)) h4 n0 (by omega) g4_0 g4_1 (by omega)) hZ (hw _ (List.mem_of_getElem? (i := 15) rfl)) (hw _ (List.mem_of_getElem? (i := 2) rfl)) (by decide) (by decide)) q5a q5c (g := (mkF m 15 #[.val (.long sd), .second, .val (.ref b1), .val (.long (own_mix (sd + (-7046029254386353131 : Int64)))), .second, .unset, .unset, .unset, .unset] [(.ref b1)])) rfl (by rw [hml]; rfl) (Steps.refl _) (argsL := []) (rest := []) (lenOf pd_2 rfl) rfl (by show 2 * 0 + _ ≤ _; exact Nat.le_of_eq rfl) (hb hby at_15) (fun _ _ => ⟨rfl, e4, (by decide : 1 + 0 ≤ _), (by decide : 1 + 0 ≤ _)⟩)
  dsimp only [Pt.U, Pt.locs, Pt.cells, Pt.slots] at X5 lq5 yq5 zq5 st5 hQ5
  subst lq5 yq5 zq5
  obtain ⟨h5, e5⟩ : ∃ z, T5.heap = z := ⟨_, rfl⟩
  rw [e5] at hQ5
  obtain ⟨rfl, Nq5, K5, g5_0, g5_1⟩ := hQ5
  have sz5 : h4.size ≤ h5.size := K5.1
  have N5 := Fr.app N4 Nq5
  have lt5_1 : b1 < h5.size := g5_0.lt
  refine own_go (st' := T5.setTop (mkF m 18 #[.val (.long sd), .second, .val (.ref b1), .val (.long (own_mix (sd + (-7046029254386353131 : Int64)))), .second, .unset, .unset, .unset, .unset] [(.long (own_mix ((sd + (-7046029254386353131 : Int64)) + (-7046029254386353131 : Int64))))])) (fun _ k => st5.trans k) ?_
  refine own_go (st' := T5.setTop (mkF m 20 #[.val (.long sd), .second, .val (.ref b1), .val (.long (own_mix (sd + (-7046029254386353131 : Int64)))), .second, .val (.long (own_mix ((sd + (-7046029254386353131 : Int64)) + (-7046029254386353131 : Int64)))), .second, .unset, .unset] [])) (fun _ k => XS.lstore X5.here hx rfl (hb hby at_18) rfl (l' := #[.val (.long sd), .second, .val (.ref b1), .val (.long (own_mix (sd + (-7046029254386353131 : Int64)))), .second, .val (.long (own_mix ((sd + (-7046029254386353131 : Int64)) + (-7046029254386353131 : Int64)))), .second, .unset, .unset]) rfl k) ?_
  refine own_go (st' := T5.setTop (mkF m 23 #[.val (.long sd), .second, .val (.ref b1), .val (.long (own_mix (sd + (-7046029254386353131 : Int64)))), .second, .val (.long (own_mix ((sd + (-7046029254386353131 : Int64)) + (-7046029254386353131 : Int64)))), .second, .unset, .unset] [(.long (-7046029254386353131 : Int64))])) (X5.ldc2Long hx hown (mvT hZ (hw _ (List.mem_of_getElem? (i := 19) rfl))) (g := (mkF m 20 #[.val (.long sd), .second, .val (.ref b1), .val (.long (own_mix (sd + (-7046029254386353131 : Int64)))), .second, .val (.long (own_mix ((sd + (-7046029254386353131 : Int64)) + (-7046029254386353131 : Int64)))), .second, .unset, .unset] [])) rfl (hb hby at_20)) ?_
  refine own_go (st' := T5.setTop (mkF m 25 #[.val (.long sd), .second, .val (.ref b1), .val (.long (own_mix (sd + (-7046029254386353131 : Int64)))), .second, .val (.long (own_mix ((sd + (-7046029254386353131 : Int64)) + (-7046029254386353131 : Int64)))), .second, .val (.long (-7046029254386353131 : Int64)), .second] [])) (fun _ k => XS.lstore X5.here hx rfl (hb hby at_23) rfl (l' := #[.val (.long sd), .second, .val (.ref b1), .val (.long (own_mix (sd + (-7046029254386353131 : Int64)))), .second, .val (.long (own_mix ((sd + (-7046029254386353131 : Int64)) + (-7046029254386353131 : Int64)))), .second, .val (.long (-7046029254386353131 : Int64)), .second]) rfl k) ?_
  refine own_go (st' := T5.setTop (mkF m 26 #[.val (.long sd), .second, .val (.ref b1), .val (.long (own_mix (sd + (-7046029254386353131 : Int64)))), .second, .val (.long (own_mix ((sd + (-7046029254386353131 : Int64)) + (-7046029254386353131 : Int64)))), .second, .val (.long (-7046029254386353131 : Int64)), .second] [(.long (own_mix (sd + (-7046029254386353131 : Int64))))])) (fun _ k => XS.lloadN X5.here hx rfl (hb hby at_25) rfl k) ?_
  obtain ⟨_, _, ⟨T6, LC6, kC6, nC6⟩, -, X6, ⟨Lc6, hQ6, lq6, yq6, zq6⟩, st6⟩ := Jvm.LawKit.callS X5 hx (y := (⟨"com/example/libtopk/libtopk/workload/SplitMix64NextLongPinLaw", "unmix", "(J)J"⟩ : MethodName)) hown (mvT hZ (hw _ (List.mem_of_getElem? (i := 20) rfl))) (mvT hZ (hw _ (List.mem_of_getElem? (i := 21) rfl))) (mvT hZ (hw _ (List.mem_of_getElem? (i := 22) rfl))) (mvT hZ (hw _ (List.mem_of_getElem? (i := 23) rfl))) (by decide) (backOf (W := 0) (rm4 l Z a0 hw [] (own_mix (sd + (-7046029254386353131 : Int64))) h5 n0 (by omega) ) hZ (hw _ (List.mem_of_getElem? (i := 23) rfl)) (hw _ (List.mem_of_getElem? (i := 22) rfl)) (by decide) (by decide)) (g := (mkF m 26 #[.val (.long sd), .second, .val (.ref b1), .val (.long (own_mix (sd + (-7046029254386353131 : Int64)))), .second, .val (.long (own_mix ((sd + (-7046029254386353131 : Int64)) + (-7046029254386353131 : Int64)))), .second, .val (.long (-7046029254386353131 : Int64)), .second] [(.long (own_mix (sd + (-7046029254386353131 : Int64))))])) rfl (by rw [hml]; rfl) (argsL := [(.long (own_mix (sd + (-7046029254386353131 : Int64))))]) (rest := []) (lenOf pd_0 rfl) rfl (by show 2 * 0 + _ ≤ _; exact Nat.le_of_eq rfl) (hb hby at_26) (fun _ _ => ⟨rfl, e5, (by decide : 1 + 0 ≤ _), (by decide : 1 + 0 ≤ _)⟩)
  dsimp only [Pt.U, Pt.locs, Pt.cells, Pt.slots] at X6 lq6 yq6 zq6 st6 hQ6
  subst lq6 yq6 zq6
  obtain ⟨rfl, Nq6, eq6⟩ := hQ6
  have N6 := Fr.app N5 Nq6
  refine own_go (st' := T6.setTop (mkF m 29 #[.val (.long sd), .second, .val (.ref b1), .val (.long (own_mix (sd + (-7046029254386353131 : Int64)))), .second, .val (.long (own_mix ((sd + (-7046029254386353131 : Int64)) + (-7046029254386353131 : Int64)))), .second, .val (.long (-7046029254386353131 : Int64)), .second] [(.long (own_unmix (own_mix (sd + (-7046029254386353131 : Int64)))))])) (fun t k => st6 t k) ?_
  refine own_go (st' := T6.setTop (mkF m 30 #[.val (.long sd), .second, .val (.ref b1), .val (.long (own_mix (sd + (-7046029254386353131 : Int64)))), .second, .val (.long (own_mix ((sd + (-7046029254386353131 : Int64)) + (-7046029254386353131 : Int64)))), .second, .val (.long (-7046029254386353131 : Int64)), .second] [(.long sd), (.long (own_unmix (own_mix (sd + (-7046029254386353131 : Int64)))))])) (fun _ k => XS.lloadN X6.here hx rfl (hb hby at_29) rfl k) ?_
  refine own_go (st' := T6.setTop (mkF m 32 #[.val (.long sd), .second, .val (.ref b1), .val (.long (own_mix (sd + (-7046029254386353131 : Int64)))), .second, .val (.long (own_mix ((sd + (-7046029254386353131 : Int64)) + (-7046029254386353131 : Int64)))), .second, .val (.long (-7046029254386353131 : Int64)), .second] [(.long (-7046029254386353131 : Int64)), (.long sd), (.long (own_unmix (own_mix (sd + (-7046029254386353131 : Int64)))))])) (fun _ k => XS.lload X6.here hx rfl (hb hby at_30) rfl k) ?_
  refine own_go (st' := T6.setTop (mkF m 33 #[.val (.long sd), .second, .val (.ref b1), .val (.long (own_mix (sd + (-7046029254386353131 : Int64)))), .second, .val (.long (own_mix ((sd + (-7046029254386353131 : Int64)) + (-7046029254386353131 : Int64)))), .second, .val (.long (-7046029254386353131 : Int64)), .second] [(.long (sd + (-7046029254386353131 : Int64))), (.long (own_unmix (own_mix (sd + (-7046029254386353131 : Int64)))))])) (fun _ k => XS.ladd X6.here hx rfl (hb hby at_32) rfl k) ?_
  refine own_go (st' := T6.setTop (mkF m 34 #[.val (.long sd), .second, .val (.ref b1), .val (.long (own_mix (sd + (-7046029254386353131 : Int64)))), .second, .val (.long (own_mix ((sd + (-7046029254386353131 : Int64)) + (-7046029254386353131 : Int64)))), .second, .val (.long (-7046029254386353131 : Int64)), .second] [(.int (lcmpW (own_unmix (own_mix (sd + (-7046029254386353131 : Int64)))) (sd + (-7046029254386353131 : Int64))))])) (fun _ k => XS.lcmp X6.here hx rfl (hb hby at_33) rfl k) ?_
  have hc7 : (own_unmix (own_mix (sd + (-7046029254386353131 : Int64)))) = (sd + (-7046029254386353131 : Int64)) := own_inv _
  refine own_go (st' := T6.setTop (mkF m 37 #[.val (.long sd), .second, .val (.ref b1), .val (.long (own_mix (sd + (-7046029254386353131 : Int64)))), .second, .val (.long (own_mix ((sd + (-7046029254386353131 : Int64)) + (-7046029254386353131 : Int64)))), .second, .val (.long (-7046029254386353131 : Int64)), .second] [])) (fun _ k => XS.ifNo X6.here hx rfl (hb hby at_34) rfl ((if0 _ _).trans (teq ((lw_eq (own_unmix (own_mix (sd + (-7046029254386353131 : Int64)))) (sd + (-7046029254386353131 : Int64))).mpr hc7)).2) k) ?_
  refine own_go (st' := T6.setTop (mkF m 39 #[.val (.long sd), .second, .val (.ref b1), .val (.long (own_mix (sd + (-7046029254386353131 : Int64)))), .second, .val (.long (own_mix ((sd + (-7046029254386353131 : Int64)) + (-7046029254386353131 : Int64)))), .second, .val (.long (-7046029254386353131 : Int64)), .second] [(.long (own_mix ((sd + (-7046029254386353131 : Int64)) + (-7046029254386353131 : Int64))))])) (fun _ k => XS.lload X6.here hx rfl (hb hby at_37) rfl k) ?_
  obtain ⟨_, _, ⟨T8, LC8, kC8, nC8⟩, -, X8, ⟨Lc8, hQ8, lq8, yq8, zq8⟩, st8⟩ := Jvm.LawKit.callS X6 hx (y := (⟨"com/example/libtopk/libtopk/workload/SplitMix64NextLongPinLaw", "unmix", "(J)J"⟩ : MethodName)) hown (mvT hZ (hw _ (List.mem_of_getElem? (i := 20) rfl))) (mvT hZ (hw _ (List.mem_of_getElem? (i := 21) rfl))) (mvT hZ (hw _ (List.mem_of_getElem? (i := 22) rfl))) (mvT hZ (hw _ (List.mem_of_getElem? (i := 23) rfl))) (by decide) (backOf (W := 0) (rm4 l Z a0 hw [] (own_mix ((sd + (-7046029254386353131 : Int64)) + (-7046029254386353131 : Int64))) h5 n0 (by omega) ) hZ (hw _ (List.mem_of_getElem? (i := 23) rfl)) (hw _ (List.mem_of_getElem? (i := 22) rfl)) (by decide) (by decide)) (g := (mkF m 39 #[.val (.long sd), .second, .val (.ref b1), .val (.long (own_mix (sd + (-7046029254386353131 : Int64)))), .second, .val (.long (own_mix ((sd + (-7046029254386353131 : Int64)) + (-7046029254386353131 : Int64)))), .second, .val (.long (-7046029254386353131 : Int64)), .second] [(.long (own_mix ((sd + (-7046029254386353131 : Int64)) + (-7046029254386353131 : Int64))))])) rfl (by rw [hml]; rfl) (argsL := [(.long (own_mix ((sd + (-7046029254386353131 : Int64)) + (-7046029254386353131 : Int64))))]) (rest := []) (lenOf pd_0 rfl) rfl (by show 2 * 0 + _ ≤ _; exact Nat.le_of_eq rfl) (hb hby at_39) (fun _ _ => ⟨rfl, eq6, (by decide : 1 + 0 ≤ _), (by decide : 1 + 0 ≤ _)⟩)
  dsimp only [Pt.U, Pt.locs, Pt.cells, Pt.slots] at X8 lq8 yq8 zq8 st8 hQ8
  subst lq8 yq8 zq8
  obtain ⟨rfl, Nq8, eq8⟩ := hQ8
  have N8 := Fr.app N6 Nq8
  refine own_go (st' := T8.setTop (mkF m 42 #[.val (.long sd), .second, .val (.ref b1), .val (.long (own_mix (sd + (-7046029254386353131 : Int64)))), .second, .val (.long (own_mix ((sd + (-7046029254386353131 : Int64)) + (-7046029254386353131 : Int64)))), .second, .val (.long (-7046029254386353131 : Int64)), .second] [(.long (own_unmix (own_mix ((sd + (-7046029254386353131 : Int64)) + (-7046029254386353131 : Int64)))))])) (fun t k => st8 t k) ?_
  refine own_go (st' := T8.setTop (mkF m 43 #[.val (.long sd), .second, .val (.ref b1), .val (.long (own_mix (sd + (-7046029254386353131 : Int64)))), .second, .val (.long (own_mix ((sd + (-7046029254386353131 : Int64)) + (-7046029254386353131 : Int64)))), .second, .val (.long (-7046029254386353131 : Int64)), .second] [(.long sd), (.long (own_unmix (own_mix ((sd + (-7046029254386353131 : Int64)) + (-7046029254386353131 : Int64)))))])) (fun _ k => XS.lloadN X8.here hx rfl (hb hby at_42) rfl k) ?_
  refine own_go (st' := T8.setTop (mkF m 46 #[.val (.long sd), .second, .val (.ref b1), .val (.long (own_mix (sd + (-7046029254386353131 : Int64)))), .second, .val (.long (own_mix ((sd + (-7046029254386353131 : Int64)) + (-7046029254386353131 : Int64)))), .second, .val (.long (-7046029254386353131 : Int64)), .second] [(.long (2 : Int64)), (.long sd), (.long (own_unmix (own_mix ((sd + (-7046029254386353131 : Int64)) + (-7046029254386353131 : Int64)))))])) (X8.ldc2Long hx hown (mvT hZ (hw _ (List.mem_of_getElem? (i := 28) rfl))) (g := (mkF m 43 #[.val (.long sd), .second, .val (.ref b1), .val (.long (own_mix (sd + (-7046029254386353131 : Int64)))), .second, .val (.long (own_mix ((sd + (-7046029254386353131 : Int64)) + (-7046029254386353131 : Int64)))), .second, .val (.long (-7046029254386353131 : Int64)), .second] [(.long sd), (.long (own_unmix (own_mix ((sd + (-7046029254386353131 : Int64)) + (-7046029254386353131 : Int64)))))])) rfl (hb hby at_43)) ?_
  refine own_go (st' := T8.setTop (mkF m 48 #[.val (.long sd), .second, .val (.ref b1), .val (.long (own_mix (sd + (-7046029254386353131 : Int64)))), .second, .val (.long (own_mix ((sd + (-7046029254386353131 : Int64)) + (-7046029254386353131 : Int64)))), .second, .val (.long (-7046029254386353131 : Int64)), .second] [(.long (-7046029254386353131 : Int64)), (.long (2 : Int64)), (.long sd), (.long (own_unmix (own_mix ((sd + (-7046029254386353131 : Int64)) + (-7046029254386353131 : Int64)))))])) (fun _ k => XS.lload X8.here hx rfl (hb hby at_46) rfl k) ?_
  refine own_go (st' := T8.setTop (mkF m 49 #[.val (.long sd), .second, .val (.ref b1), .val (.long (own_mix (sd + (-7046029254386353131 : Int64)))), .second, .val (.long (own_mix ((sd + (-7046029254386353131 : Int64)) + (-7046029254386353131 : Int64)))), .second, .val (.long (-7046029254386353131 : Int64)), .second] [(.long (4354685564936845354 : Int64)), (.long sd), (.long (own_unmix (own_mix ((sd + (-7046029254386353131 : Int64)) + (-7046029254386353131 : Int64)))))])) (fun _ k => XS.lmul X8.here hx rfl (hb hby at_48) rfl (by rw [show ((2 : Int64) * (-7046029254386353131 : Int64)) = (4354685564936845354 : Int64) by decide]; exact k)) ?_
  refine own_go (st' := T8.setTop (mkF m 50 #[.val (.long sd), .second, .val (.ref b1), .val (.long (own_mix (sd + (-7046029254386353131 : Int64)))), .second, .val (.long (own_mix ((sd + (-7046029254386353131 : Int64)) + (-7046029254386353131 : Int64)))), .second, .val (.long (-7046029254386353131 : Int64)), .second] [(.long (sd + (4354685564936845354 : Int64))), (.long (own_unmix (own_mix ((sd + (-7046029254386353131 : Int64)) + (-7046029254386353131 : Int64)))))])) (fun _ k => XS.ladd X8.here hx rfl (hb hby at_49) rfl k) ?_
  refine own_go (st' := T8.setTop (mkF m 51 #[.val (.long sd), .second, .val (.ref b1), .val (.long (own_mix (sd + (-7046029254386353131 : Int64)))), .second, .val (.long (own_mix ((sd + (-7046029254386353131 : Int64)) + (-7046029254386353131 : Int64)))), .second, .val (.long (-7046029254386353131 : Int64)), .second] [(.int (lcmpW (own_unmix (own_mix ((sd + (-7046029254386353131 : Int64)) + (-7046029254386353131 : Int64)))) (sd + (4354685564936845354 : Int64))))])) (fun _ k => XS.lcmp X8.here hx rfl (hb hby at_50) rfl k) ?_
  have hc9 : (own_unmix (own_mix ((sd + (-7046029254386353131 : Int64)) + (-7046029254386353131 : Int64)))) = (sd + (4354685564936845354 : Int64)) := (own_inv _).trans (by rw [Int64.add_assoc]; rfl)
  refine own_go (st' := T8.setTop (mkF m 54 #[.val (.long sd), .second, .val (.ref b1), .val (.long (own_mix (sd + (-7046029254386353131 : Int64)))), .second, .val (.long (own_mix ((sd + (-7046029254386353131 : Int64)) + (-7046029254386353131 : Int64)))), .second, .val (.long (-7046029254386353131 : Int64)), .second] [])) (fun _ k => XS.ifNo X8.here hx rfl (hb hby at_51) rfl ((if0 _ _).trans (teq ((lw_eq (own_unmix (own_mix ((sd + (-7046029254386353131 : Int64)) + (-7046029254386353131 : Int64)))) (sd + (4354685564936845354 : Int64))).mpr hc9)).2) k) ?_
  refine own_go (st' := T8.setTop (mkF m 55 #[.val (.long sd), .second, .val (.ref b1), .val (.long (own_mix (sd + (-7046029254386353131 : Int64)))), .second, .val (.long (own_mix ((sd + (-7046029254386353131 : Int64)) + (-7046029254386353131 : Int64)))), .second, .val (.long (-7046029254386353131 : Int64)), .second] [(.int (1 : Int32))])) (fun _ k => XS.iconst X8.here hx rfl (hb hby at_54) k) ?_
  refine own_go (st' := T8.setTop (mkF m 59 #[.val (.long sd), .second, .val (.ref b1), .val (.long (own_mix (sd + (-7046029254386353131 : Int64)))), .second, .val (.long (own_mix ((sd + (-7046029254386353131 : Int64)) + (-7046029254386353131 : Int64)))), .second, .val (.long (-7046029254386353131 : Int64)), .second] [(.int (1 : Int32))])) (fun _ k => XS.goto X8.here hx rfl (pc0 := 55) (pc' := 59) rfl (hb hby at_55) (by decide) (by decide) k) ?_
  obtain ⟨fs, hr, hrun, hended, hW, hsame⟩ := X8.leave (v := some (.int (1 : Int32))) (fun h => by rw [Bd.returns] at h; cases h)
  refine ⟨_, _, ?_, hP _ _ hrun hended ⟨_, _, rfl, ?_, ⟨_, rfl⟩, hW, hsame.mono (by decide) (by decide)⟩⟩
  · exact retN X8 hx (t := .boolean) Bd.returns (by simp) (hb hby at_59) hr
  · show Qrm0 Z sd h0 n0 _ T8.heap _
    rw [eq8]
    exact ⟨rfl, N8, trivial⟩
set_option maxRecDepth 65536 in
set_option maxHeartbeats 40000000 in
theorem comes_1 {Post : Tables → Env → Array Value → State → Outcome → State → Prop} (hpost : ∀ tb e args s v u, (limb_1_1.after args s (.returned v) u = true ∧ limb_1_2.after args s (.returned v) u = true ∧ True) → FrameEnd s (.returned v) u (Jvm.fieldLocs frame_1_writes args s ++ Jvm.arrayLocs frame_1_arrays args s ++ Jvm.staticLocs frame_1_statics s) 16 128 → Post tb e args s (.returned v) u) :
    ArmFor flags0 classFile x code maxLocals ret World_1 tables_1 room_1 Calls_1 rest_1 Pre_1 Post := by
  intro l hfl _ _ p e ha hc hk s m args below hf hA hF happ hP
  obtain ⟨hcalls, hrest, hpre⟩ := hP
  obtain ⟨-, -, -, hnamed, -, -, -, hat⟩ := (Spec.applies_iff hf).mp happ
  obtain ⟨hg, hn⟩ := and_e (Cond.before_iff.mp (show (Jvm.Cond.and given_1 narrow_1).before args s = true from hpre))
  obtain ⟨h1, h2⟩ := and_e hg
  obtain ⟨w0, rfl⟩ : ∃ w0 : Value, args = #[w0] := by
    have hs : args.size = 1 := by simpa [Cond.value, given_1] using h1
    obtain ⟨L⟩ := args
    match L, hs with
    | [w0], _ => exact ⟨w0, rfl⟩
  have hw := fun d (hd : d ∈ tables_1) => atoms_spec (ws := Jvm.Cond.code x code maxLocals ret :: tables_1) hat d (List.mem_cons_of_mem _ hd)
  have hfit : Fit s := fun {y c} hc i hi => by
    obtain ⟨ha, rfl⟩ := Array.getElem?_eq_some_iff.mp hc
    have q := List.all_eq_true.mp ((Array.all_eq_true_iff_forall_mem.mp hF) _ (Array.getElem_mem ha)) i (List.mem_range.mpr hi)
    simpa [Array.getElem?_eq_getElem hi] using q
  obtain ⟨sd, ev0⟩ := isL_v h2
  obtain rfl : w0 = (.long sd) := Option.some.inj ev0
  obtain ⟨n, o, h1, h2, h3, _, L, rfl, hQ, hq⟩ := rm0 l s _ hw tables_1 sd s.heap s.heap.size (Nat.le_refl _)  p e ha hc hk s m _ below hf ((Spec.applies_iff_loose hf).mp happ).1 ⟨rfl, State.Warmed39.refl s, rfl⟩ trivial
  obtain ⟨rfl, N, -⟩ := hQ
  refine ⟨n, _, h1, h2, h3, hpost _ _ _ _ _ _ ⟨Cond.after_iff.mpr rfl, Cond.after_iff.mpr (eq_i res_at (Term.int_eval (1)) rfl), trivial⟩ ⟨hq.1, hq.2.1, (hq.2.2.sift fun y hy => Or.inr (N y hy)).mono (by decide) (by decide)⟩⟩
theorem main_1_1 : Claimed_1_1 := comes_1 fun _ _ _ _ _ _ h hF => ⟨h.1, hF⟩
theorem main_1_2 : Claimed_1_2 := comes_1 fun _ _ _ _ _ _ h hF => ⟨h.2.1, hF⟩
end Jvm.Pilot.@@N@@
namespace Jvm.Pilot.@@N@@
open Jvm Jvm.ClassFile Sem Op Lib Jvm.Free Jvm.Stand Jvm.Pilot.@@N@@.Jvm.D
/-! MADE BY PROGRAM (witnessworld.py) out of the Statement's table words and the real class files: 9 classes; the members and pool entries that the words name. The judged class is class 1, her method 1. -/
namespace start1
open Jvm.ClassFile
def u (s : String) : CpInfo := .utf8 (stringToUtf16 s)
/-- a pool by its gaps: so many unusable entries, then the entry; so many at the end -/
def gap : Nat → List CpInfo → List CpInfo
  | 0, r => r
  | n + 1, r => .unusable :: gap n r
def poolList (es : List (Nat × CpInfo)) (last : Nat) : List CpInfo := es.foldr (fun e r => gap e.1 (e.2 :: r)) (gap last [])
def pool (es : List (Nat × CpInfo)) (last : Nat) : Array CpInfo := ⟨poolList es last⟩
def fileOf (pool : Array CpInfo) (this : Nat) (attrs : Array Attribute := #[]) (ms : Array MethodInfo := #[]) (fl : Nat := 33) (sup : Nat := 0) (ifs : Array Nat := #[]) (fds : Array FieldInfo := #[]) : ClassFile where
  minorVersion := 0
  majorVersion := 65
  constantPool := pool
  accessFlags := fl
  thisClass := this
  superClass := sup
  interfaces := ifs
  fields := fds
  methods := ms
  attributes := attrs
def plain (name : String) (sup : Option ClassId) : Class where
  name := name
  kind := .ordinary
  loader := none
  accessFlags := 33
  super := sup
  interfaces := #[]
  cf := none
  fields := #[]
  methods := #[]
  instanceTypes := #[]
  staticTypes := #[]
  resolved := #[]
  callSites := []
  init := .initialized
  statics := none
  mirror := none

def pool0 : Array CpInfo := pool [(5, u "<init>"), (0, u "()V"), (1, .class_ 10), (1, u "java/lang/Object")] 113

def k0c0 : Code := { maxStack := 0, maxLocals := 1, code := object_method_1_code, exceptionTable := #[], attributes := #[] }
def k0m0 : Method := { name := "<init>", desc := "()V", sig := { parameters := [], returnType := none }, accessFlags := 1, code := some k0c0 }
/-- java/lang/Object -/
def k0 : Class := { plain "java/lang/Object" none with
  accessFlags := 33
  interfaces := #[]
  cf := some (fileOf pool0 8 #[] #[{ accessFlags := 1, nameIndex := 5, descriptorIndex := 6, attributes := #[] }] 33 0 #[] #[])
  fields := #[]
  methods := #[k0m0]
  instanceTypes := #[]
  staticTypes := #[]
  resolved := Array.replicate 124 none
  statics := none }

def pool1 : Array CpInfo := pool [(2, .class_ 4), (1, u "java/lang/Object"), (0, u "<init>"), (0, u "()V"), (0, .class_ 8), (0, u "com/example/libtopk/libtopk/workload/SplitMix64"), (0, .methodref 7 10), (0, .nameAndType 5 11), (0, u "(J)V"), (0, .methodref 7 13), (0, .nameAndType 14 15), (0, u "nextLong"), (0, u "()J"), (0, .long 11400714819323198485), (1, .methodref 19 20), (0, .class_ 21), (0, .nameAndType 22 23), (0, u "com/example/libtopk/libtopk/workload/SplitMix64NextLongPinLaw"), (0, u "unmix"), (0, u "(J)J"), (0, .long 2), (1, .long 10723151780598845931), (1, .methodref 19 29), (0, .nameAndType 30 23), (0, u "inverse"), (0, .long 13787848793156543929), (3, u "law"), (0, u "(J)Z")] 3

def k1m0 : Method := { name := "<init>", desc := "()V", sig := { parameters := [], returnType := none }, accessFlags := 1, code := none }
def k1c1 : Code := { maxStack := 8, maxLocals := 9, code := code, exceptionTable := #[], attributes := #[] }
def k1m1 : Method := { name := "law", desc := "(J)Z", sig := { parameters := [.long], returnType := some .boolean }, accessFlags := 9, code := some k1c1 }
def k1c2 : Code := { maxStack := 8, maxLocals := 4, code := method_3_code, exceptionTable := #[], attributes := #[] }
def k1m2 : Method := { name := "inverse", desc := "(J)J", sig := { parameters := [.long], returnType := some .long }, accessFlags := 10, code := some k1c2 }
def k1c3 : Code := { maxStack := 5, maxLocals := 4, code := method_4_code, exceptionTable := #[], attributes := #[] }
def k1m3 : Method := { name := "unmix", desc := "(J)J", sig := { parameters := [.long], returnType := some .long }, accessFlags := 10, code := some k1c3 }
/-- com/example/libtopk/libtopk/workload/SplitMix64NextLongPinLaw -/
def k1 : Class := { plain "com/example/libtopk/libtopk/workload/SplitMix64NextLongPinLaw" (some 0) with
  accessFlags := 49
  interfaces := #[]
  cf := some (fileOf pool1 19 #[] #[{ accessFlags := 1, nameIndex := 5, descriptorIndex := 6, attributes := #[] }, { accessFlags := 9, nameIndex := 35, descriptorIndex := 36, attributes := #[] }, { accessFlags := 10, nameIndex := 30, descriptorIndex := 23, attributes := #[] }, { accessFlags := 10, nameIndex := 22, descriptorIndex := 23, attributes := #[] }] 49 2 #[] #[])
  fields := #[]
  methods := #[k1m0, k1m1, k1m2, k1m3]
  instanceTypes := #[]
  staticTypes := #[]
  resolved := Array.replicate 40 none
  statics := none }

def pool2 : Array CpInfo := pool [(1, .methodref 2 3), (0, .class_ 4), (0, .nameAndType 5 6), (0, u "java/lang/Object"), (0, u "<init>"), (0, u "()V"), (0, .fieldref 8 9), (0, .class_ 10), (0, .nameAndType 11 12), (0, u "com/example/libtopk/libtopk/workload/SplitMix64"), (0, u "state"), (0, u "J"), (0, .long 11400714819323198485), (1, .long 13787848793156543929), (1, .long 10723151780598845931), (3, u "nextLong"), (0, u "()J"), (4, u "STEP"), (1, u "CHOICES"), (0, u "(J)V")] 9

def k2c0 : Code := { maxStack := 3, maxLocals := 3, code := prog_23_method_1_code, exceptionTable := #[], attributes := #[] }
def k2m0 : Method := { name := "<init>", desc := "(J)V", sig := { parameters := [.long], returnType := none }, accessFlags := 0, code := some k2c0 }
def k2c1 : Code := { maxStack := 5, maxLocals := 3, code := prog_23_method_2_code, exceptionTable := #[], attributes := #[] }
def k2m1 : Method := { name := "nextLong", desc := "()J", sig := { parameters := [], returnType := some .long }, accessFlags := 0, code := some k2c1 }
/-- com/example/libtopk/libtopk/workload/SplitMix64 -/
def k2 : Class := { plain "com/example/libtopk/libtopk/workload/SplitMix64" (some 0) with
  accessFlags := 48
  interfaces := #[]
  cf := some (fileOf pool2 8 #[] #[{ accessFlags := 0, nameIndex := 5, descriptorIndex := 30, attributes := #[] }, { accessFlags := 0, nameIndex := 21, descriptorIndex := 22, attributes := #[] }] 48 2 #[] #[{ accessFlags := 26, nameIndex := 27, descriptorIndex := 12, attributes := #[] }, { accessFlags := 26, nameIndex := 29, descriptorIndex := 12, attributes := #[] }, { accessFlags := 2, nameIndex := 11, descriptorIndex := 12, attributes := #[] }])
  fields := #[{ name := "STEP", type := .long, accessFlags := 26, slot := 0, constantValue := 0 }, { name := "CHOICES", type := .long, accessFlags := 26, slot := 1, constantValue := 0 }, { name := "state", type := .long, accessFlags := 2, slot := 0, constantValue := 0 }]
  methods := #[k2m0, k2m1]
  instanceTypes := #[.long]
  staticTypes := #[.long, .long]
  resolved := Array.replicate 40 none
  statics := none }

def pool3 : Array CpInfo := pool [(1, u "java/lang/Cloneable"), (0, .class_ 1), (0, u "java/lang/Object"), (0, .class_ 3)] 3

/-- java/lang/Cloneable -/
def k3 : Class := { plain "java/lang/Cloneable" (some 0) with
  accessFlags := 1537
  interfaces := #[]
  cf := some (fileOf pool3 2 #[] #[] 1537 4 #[] #[])
  fields := #[]
  methods := #[]
  instanceTypes := #[]
  staticTypes := #[]
  resolved := Array.replicate 8 none
  statics := none }

def pool4 : Array CpInfo := pool [(1, u "java/io/Serializable"), (0, .class_ 1), (0, u "java/lang/Object"), (0, .class_ 3)] 3

/-- java/io/Serializable -/
def k4 : Class := { plain "java/io/Serializable" (some 0) with
  accessFlags := 1537
  interfaces := #[]
  cf := some (fileOf pool4 2 #[] #[] 1537 4 #[] #[])
  fields := #[]
  methods := #[]
  instanceTypes := #[]
  staticTypes := #[]
  resolved := Array.replicate 8 none
  statics := none }

/-- the primitive byte -/
def k5 : Class := { plain "byte" none with kind := .primitive 'B', accessFlags := 0x411 }
/-- [B -/
def k6 : Class := { plain "[B" (some 0) with kind := .array 5 .byte, interfaces := #[3, 4], accessFlags := 1041 }

/-- the primitive int -/
def k7 : Class := { plain "int" none with kind := .primitive 'I', accessFlags := 0x411 }
/-- [I -/
def k8 : Class := { plain "[I" (some 0) with kind := .array 7 .int, interfaces := #[3, 4], accessFlags := 1041 }

def heap : Heap := #[]
def classes : Array Class := #[k0, k1, k2, k3, k4, k5, k6, k7, k8]
def interned : List (Array UInt16 × Addr) := []
def slotsUsed : Nat := 0
def theMethod : MethodId := ⟨1, 1⟩
def args0 : Array Value := #[.long 7]
def aboutOver (below : List Frame) : State where
  vm := { classes := classes, interned := interned.toArray }
  heap := heap
  slotsUsed := slotsUsed
  threads := #[{ frames := .invoking theMethod args0 :: below }]
def below0 : List Frame := [.native { method := ⟨0, 0⟩, args := #[] }]
def about1 : State := aboutOver below0
def p0 : Program := .bare "" "" ""
def e0 : Env := launch0.env 0 0 0
theorem w_frames : about1.frames = Frame.invoking theMethod args0 :: below0 := rfl
set_option maxRecDepth 65536 in
theorem w_args : argsFit about1.vm theMethod args0 = true := by decide +kernel
set_option maxRecDepth 65536 in
theorem w_heap : heapFits about1 = true := by decide +kernel
set_option maxRecDepth 65536 in
theorem w_runnable : about1.curStatus? = some .runnable := by decide +kernel
set_option maxRecDepth 65536 in
theorem w_alone : about1.alone = true := by decide +kernel
set_option maxRecDepth 65536 in
theorem w_named : about1.methodNamed? x = some theMethod := by decide +kernel
set_option maxRecDepth 65536 in
theorem w_hears : about1.hears theMethod below0 = true := by decide +kernel
set_option maxRecDepth 65536 in
theorem w_ripe : about1.ripe theMethod args0 below0 = true := by decide +kernel
theorem w_running : about1.status = .running := rfl
set_option maxRecDepth 65536 in
theorem w_room : about1.hasRoom e0.platform room_1 = true :=
  launch0.hasRoom_least _ room_1 (by decide +kernel) (by decide +kernel) (by decide +kernel) (by decide +kernel) (by decide +kernel) (by decide +kernel)
theorem allAtoms_all (ts : List Jvm.Cond) (a : Array Jvm.Value) (st : Jvm.State) : (allAtoms ts).before a st = ts.all (fun c => c.before a st) := by
  induction ts with
  | nil => rfl
  | cons c t ih =>
    show (Jvm.Cond.and c (allAtoms t)).before a st = _
    rw [Jvm.Cond.before_and, ih, List.all_cons]
def words1 : List Jvm.Cond := Jvm.Cond.code x code maxLocals ret :: tables_1
/-- a 'code' word, met by the world's own term for the bytes: nothing is compared byte by byte -/
theorem code_word {y : MethodName} {bytes : ByteArray} {mx : Nat} {rt : Option FieldType} {a : Array Value} {s : State} {m : MethodId} {meth : Method} {c : Code} (h1 : s.methodNamed? y = some m) (h2 : s.vm.method? m = some meth) (h3 : meth.code = some c) (h4 : c.code = bytes)
    (h5 : (c.maxLocals == mx && c.exceptionTable.isEmpty && decide (c.maxStack ≤ mostOperands) && decide (meth.sig.returnType = rt) && !meth.locks && decide (parseMethodDescriptor y.desc = some meth.sig)) = true) : (Jvm.Cond.code y bytes mx rt).before a s = true := by
  simp only [Bool.and_eq_true, beq_iff_eq, Bool.not_eq_true', decide_eq_true_eq] at h5
  obtain ⟨⟨⟨⟨⟨g1, g2⟩, g3⟩, g4⟩, g5⟩, g6⟩ := h5
  simp [Cond.before, Cond.holds, Cond.value, h1, h2, h3, h4, g1, g2, g3, g4, g5, g6]
def isCode : Jvm.Cond → Bool
  | .code _ _ _ _ => true
  | _ => false
theorem all_split {L : List Jvm.Cond} {P : Jvm.Cond → Bool} (h1 : L.all (fun c => isCode c || P c) = true) (h2 : ∀ c ∈ L.filter isCode, P c = true) : L.all P = true := by
  refine List.all_eq_true.mpr fun c hc => ?_
  have h := List.all_eq_true.mp h1 c hc
  rcases Bool.eq_false_or_eq_true (isCode c) with hi | hi
  · exact h2 c (List.mem_filter.mpr ⟨hc, hi⟩)
  · simpa [hi] using h
set_option maxRecDepth 65536 in
theorem w_c0 : (Jvm.Cond.code x code maxLocals ret).before args0 about1 = true := code_word (m := ⟨1, 1⟩) (meth := k1m1) (c := k1c1) (by decide +kernel) rfl rfl rfl (by decide +kernel)
set_option maxRecDepth 65536 in
theorem w_c1 : (Jvm.Cond.code ({ cls := "com/example/libtopk/libtopk/workload/SplitMix64", name := "<init>", desc := "(J)V" } : Jvm.MethodName) prog_23_method_1_code (3 : Nat) (Option.none : Option Jvm.ClassFile.FieldType)).before args0 about1 = true := code_word (m := ⟨2, 0⟩) (meth := k2m0) (c := k2c0) (by decide +kernel) rfl rfl rfl (by decide +kernel)
set_option maxRecDepth 65536 in
theorem w_c2 : (Jvm.Cond.code ({ cls := "java/lang/Object", name := "<init>", desc := "()V" } : Jvm.MethodName) object_method_1_code (1 : Nat) (Option.none : Option Jvm.ClassFile.FieldType)).before args0 about1 = true := code_word (m := ⟨0, 0⟩) (meth := k0m0) (c := k0c0) (by decide +kernel) rfl rfl rfl (by decide +kernel)
set_option maxRecDepth 65536 in
theorem w_c3 : (Jvm.Cond.code ({ cls := "com/example/libtopk/libtopk/workload/SplitMix64", name := "nextLong", desc := "()J" } : Jvm.MethodName) prog_23_method_2_code (3 : Nat) (Option.some Jvm.ClassFile.FieldType.long)).before args0 about1 = true := code_word (m := ⟨2, 1⟩) (meth := k2m1) (c := k2c1) (by decide +kernel) rfl rfl rfl (by decide +kernel)
set_option maxRecDepth 65536 in
theorem w_c4 : (Jvm.Cond.code ({ cls := "com/example/libtopk/libtopk/workload/SplitMix64NextLongPinLaw", name := "unmix", desc := "(J)J" } : Jvm.MethodName) method_4_code (4 : Nat) (Option.some Jvm.ClassFile.FieldType.long)).before args0 about1 = true := code_word (m := ⟨1, 3⟩) (meth := k1m3) (c := k1c3) (by decide +kernel) rfl rfl rfl (by decide +kernel)
set_option maxRecDepth 65536 in
theorem w_c5 : (Jvm.Cond.code ({ cls := "com/example/libtopk/libtopk/workload/SplitMix64NextLongPinLaw", name := "inverse", desc := "(J)J" } : Jvm.MethodName) method_3_code (4 : Nat) (Option.some Jvm.ClassFile.FieldType.long)).before args0 about1 = true := code_word (m := ⟨1, 2⟩) (meth := k1m2) (c := k1c2) (by decide +kernel) rfl rfl rfl (by decide +kernel)
def codes1 : List Jvm.Cond := [Jvm.Cond.code x code maxLocals ret, Jvm.Cond.code ({ cls := "com/example/libtopk/libtopk/workload/SplitMix64", name := "<init>", desc := "(J)V" } : Jvm.MethodName) prog_23_method_1_code (3 : Nat) (Option.none : Option Jvm.ClassFile.FieldType), Jvm.Cond.code ({ cls := "java/lang/Object", name := "<init>", desc := "()V" } : Jvm.MethodName) object_method_1_code (1 : Nat) (Option.none : Option Jvm.ClassFile.FieldType), Jvm.Cond.code ({ cls := "com/example/libtopk/libtopk/workload/SplitMix64", name := "nextLong", desc := "()J" } : Jvm.MethodName) prog_23_method_2_code (3 : Nat) (Option.some Jvm.ClassFile.FieldType.long), Jvm.Cond.code ({ cls := "com/example/libtopk/libtopk/workload/SplitMix64NextLongPinLaw", name := "unmix", desc := "(J)J" } : Jvm.MethodName) method_4_code (4 : Nat) (Option.some Jvm.ClassFile.FieldType.long), Jvm.Cond.code ({ cls := "com/example/libtopk/libtopk/workload/SplitMix64NextLongPinLaw", name := "inverse", desc := "(J)J" } : Jvm.MethodName) method_3_code (4 : Nat) (Option.some Jvm.ClassFile.FieldType.long)]
set_option maxRecDepth 65536 in
theorem codes_eq : words1.filter isCode = codes1 := rfl
theorem w_codes : ∀ c ∈ words1.filter isCode, c.before args0 about1 = true := by
  rw [codes_eq]
  intro c hc
  simp only [codes1, List.mem_cons, List.not_mem_nil, or_false] at hc
  rcases hc with rfl | rfl | rfl | rfl | rfl | rfl
  · exact w_c0
  · exact w_c1
  · exact w_c2
  · exact w_c3
  · exact w_c4
  · exact w_c5
set_option maxRecDepth 65536 in
theorem w_t1 : (words1.take 24).all (fun c => isCode c || c.before args0 about1) = true := by decide +kernel
set_option maxRecDepth 65536 in
theorem w_t2 : (words1.drop 24).all (fun c => isCode c || c.before args0 about1) = true := by decide +kernel
theorem w_tables : (allAtoms (Jvm.Cond.code x code maxLocals ret :: tables_1)).before args0 about1 = true := by
  rw [allAtoms_all]
  show words1.all (fun c => c.before args0 about1) = true
  refine all_split ?_ w_codes
  rw [← List.take_append_drop 24 words1, List.all_append, w_t1, w_t2]
  rfl
set_option maxRecDepth 65536 in
theorem w_case : (Jvm.Cond.and given_1 narrow_1).before args0 about1 = true := by decide +kernel
theorem w_applies : (headSpec (Jvm.Cond.code x code maxLocals ret :: tables_1) room_1).applies x e0.platform about1 = true :=
  (Spec.applies_iff w_frames).mpr ⟨w_running, w_runnable, w_alone, w_named, w_hears, w_ripe, w_room, w_tables⟩
theorem atStart : AtStart classFile x code maxLocals ret World_1 tables_1 room_1 Calls_1 rest_1 Pre_1 launch0 p0 e0 about1 theMethod args0 below0 :=
  ⟨lists_1, trivial, launch0.admits_env _ _ _, launch0.least_env, fairChoices_fair.cas, fairChoices_fair.clock, w_frames, w_args, w_heap, w_applies, trivial, trivial, w_case⟩
end start1
theorem witness_1 : WitnessClaimed_1 := ⟨start1.p0, start1.e0, start1.about1, start1.theMethod, start1.args0, start1.below0, start1.atStart⟩
end Jvm.Pilot.@@N@@
