import JvmDerived
import JvmDerived.Pilot.@@N@@Statement
import JvmDerived.Pilot.@@N@@Code
set_option linter.unusedVariables false
set_option linter.unusedSimpArgs false
namespace Jvm.Pilot.@@N@@
open Jvm Jvm.ClassFile Sem Op Lib Jvm.Free Jvm.Stand Jvm.LawKit Jvm.RoadKit Bundle Jvm.Pilot.@@N@@.Jvm.D
abbrev own_Go (tb : Tables) (e : Env) (below : List Frame) (P : State → Outcome → Prop) (st : State) : Prop := ∃ U o, Steps tb e below st U ∧ P U o
theorem own_go {tb : Tables} {e : Env} {below : List Frame} {P : State → Outcome → Prop} {st st' : State} (h : ∀ t, Steps tb e below st' t → Steps tb e below st t) (k : own_Go tb e below P st') : own_Go tb e below P st := by
  obtain ⟨U, o, h1, h2⟩ := k; exact ⟨U, o, h _ h1, h2⟩
theorem own_cat {v : Value} (h : v.isRef = true) : v.category = 1 := by rcases ref_cases h with rfl | ⟨a, rfl⟩ <;> rfl
theorem own_nar_ref {t : FieldType} {v : Value} (h : v.isRef = true) : narrow t v = v := by rcases ref_cases h with rfl | ⟨a, rfl⟩ <;> cases t <;> rfl
theorem own_fit_ref {t : FieldType} {v : Value} (h : v.isRef = true) (ht : t.isReference = true := by rfl) : fits t v = true := by rcases ref_cases h with rfl | ⟨a, rfl⟩ <;> cases t <;> first | rfl | (cases ht)
theorem own_widen {p : Program} {l : Launch} {e : Env} {R : Room} {s : State} {m : MethodId} {args : Array Value} {below : List Frame} {meth : Method} {c : Code} {T : State} {locs : List Loc} {cells slots cells' slots' : Nat} (X : Stand p l e R s m args below meth c T locs cells slots) (h1 : cells ≤ cells') (h2 : slots ≤ slots') : Stand p l e R s m args below meth c T locs cells' slots' :=
  { X with same := X.same.mono h1 h2 }
theorem own_sel_priv {s : State} {args : Array Value} {y : MethodName} {n : Nat} (wi : (Jvm.Cond.instantiable y.cls n).before args s = true) (hp : s.PrivateAt y) (hinst : (Jvm.Cond.instanceMethod y).before args s = true) (hy : y.cls ≠ "java/lang/invoke/MethodHandle" ∧ y.cls ≠ "java/lang/invoke/VarHandle") : (Jvm.Cond.selects y.cls y y).before args s = true := by
  obtain ⟨c, k, h1, h2, -, h4, -⟩ := Cond.instantiable_spec wi
  exact selects_self_of_private h1 h2 (Bool.or_eq_false_iff.mp h4).1 hp hinst hy
theorem own_sta_keep {Z : State} {h h' : Heap} {ws : List Addr} {C n d : String} {v : Value} (F : Sta Z h C n d v) (K : Keep h h' ws) (q : ∀ x ∈ ws, ∀ c : Cell, h[x]? = some c → c.vm.isStatics = false) : Sta Z h' C n d v := by
  obtain ⟨cf, i, k, f, st, cell, h1, h2, h3, h4, h5, h6, h7⟩ := F
  exact ⟨cf, i, k, f, st, cell, h1, h2, h3, h4, K.2.1 st cell h5 (fun z => by rw [q st z cell h5] at h6; cases h6), h6, h7⟩
theorem own_pl_exa {Z : State} {h : Heap} {a : Addr} {C : String} (F : Exa Z h a C) : ∀ c : Cell, h[a]? = some c → c.vm.isStatics = false := fun c hc => by
  obtain ⟨c1, k, h1, -, -, h4, -⟩ := F; cases h1.symm.trans hc; exact h4
theorem own_pl_fld {Z : State} {h : Heap} {a : Addr} {C n d : String} {v : Value} (F : Fld Z h a C n d v) : ∀ c : Cell, h[a]? = some c → c.vm.isStatics = false := old_plain F
theorem own_pl_arv {Z : State} {h : Heap} {a : Addr} {k : ClassId} {ty : FieldType} {n : Int32} {vs : List Value} {d : Value} (F : Arv Z h a k ty n vs d) : ∀ c : Cell, h[a]? = some c → c.vm.isStatics = false := fun c hc => by
  obtain ⟨c1, A, -⟩ := F; cases A.1.symm.trans hc; exact A.plain
def own_ids (i : Nat) : List Value := (List.range i).map fun j => Value.int (Nat.toInt32 j)
theorem own_ids_len (i : Nat) : (own_ids i).length = i := by simp [own_ids]
theorem own_ids_get (i j : Nat) (d : Value) (h : j < i) : (own_ids i).getD j d = .int (Nat.toInt32 j) := by
  simp [own_ids, List.getD_eq_getElem?_getD, h]
theorem own_ids_set (i : Nat) (v : Value) : (own_ids i ++ [v]).set i (.int (Nat.toInt32 i)) = own_ids (i + 1) := by
  have : own_ids (i + 1) = own_ids i ++ [.int (Nat.toInt32 i)] := by simp [own_ids, List.range_succ]
  rw [this, List.set_append_right _ _ (by rw [own_ids_len]; exact Nat.le_refl _), own_ids_len]; simp
theorem own_nat (i : Nat) (h : i < 2 ^ 31) : (Nat.toInt32 i).toInt = i := len_toInt h
theorem own_natc (i : Nat) (h : i < 2 ^ 31) : (Nat.toInt32 i).toNatClampNeg = i := by simp only [Int32.toNatClampNeg, own_nat i h]; rfl
theorem own_succ (i : Nat) (h : i < 2 ^ 30) : Nat.toInt32 i + 1 = Nat.toInt32 (i + 1) := by
  apply Int32.toInt_inj.mp
  have h1 := c_iadd (Nat.toInt32 i) 1
  have h2 := rng32 (Nat.toInt32 i + 1)
  rw [own_nat i (by omega), show (1 : Int32).toInt = 1 from rfl] at h1
  rw [own_nat (i + 1) (by omega)]; omega
theorem own_p (p : Int32) (hp : 0 ≤ p.toInt ∧ p.toInt ≤ 1023) : (p + 1).toInt = p.toInt + 1 := by
  have h1 := c_iadd p 1
  have h2 := rng32 (p + 1)
  rw [show (1 : Int32).toInt = 1 from rfl] at h1; omega
theorem own_pn (p : Int32) (hp : 0 ≤ p.toInt ∧ p.toInt ≤ 1023) : ((p + 1).toNatClampNeg : Int) = p.toInt + 1 := by
  have := own_p p hp
  simp only [Int32.toNatClampNeg]; omega
theorem own_pneg (p : Int32) (hp : 0 ≤ p.toInt ∧ p.toInt ≤ 1023) : ¬ (p + 1) < 0 := by
  have := own_p p hp
  rw [Int32.lt_iff_toInt_lt, show (0 : Int32).toInt = 0 from rfl]; omega
theorem own_cap (p : Int32) (hp : 0 ≤ p.toInt ∧ p.toInt ≤ 1023) : (p + 1).toNatClampNeg ≤ 1024 := by
  have := own_pn p hp; omega
theorem own_lt (p x : Int32) (i : Nat) (hp : 0 ≤ p.toInt ∧ p.toInt ≤ 1023) (hx : x = Nat.toInt32 i) (hi : i < 2 ^ 30) : x < (p + 1) ↔ i < (p + 1).toNatClampNeg := by
  have h1 := own_p p hp
  have h2 := own_pn p hp
  rw [Int32.lt_iff_toInt_lt, hx, own_nat i (by omega)]; omega
theorem own_xneg (x : Int32) (i : Nat) (hx : x = Nat.toInt32 i) (hi : i < 2 ^ 30) : ¬ x < 0 := by
  rw [Int32.lt_iff_toInt_lt, hx, own_nat i (by omega), show (0 : Int32).toInt = 0 from rfl]; omega
theorem own_and (x : Int32) : 0 ≤ (x &&& 1023).toInt ∧ (x &&& 1023).toInt ≤ 1023 := c_and x 1023 (by decide)
theorem own_rem (y p : Int32) (hp : 0 ≤ p.toInt ∧ p.toInt ≤ 1023) : 0 ≤ ((y &&& 2147483647) % (p + 1)).toInt ∧ ((y &&& 2147483647) % (p + 1)).toInt ≤ p.toInt := by
  have h0 := (c_and y 2147483647 (by decide)).1
  have h1 := own_p p hp
  rw [Int32.toInt_mod, Int.tmod_eq_emod_of_nonneg h0, h1]
  have h2 := Int.emod_nonneg (y &&& 2147483647).toInt (show p.toInt + 1 ≠ 0 by omega)
  have h3 := Int.emod_lt_of_pos (y &&& 2147483647).toInt (show 0 < p.toInt + 1 by omega)
  omega
theorem own_nz (p : Int32) (hp : 0 ≤ p.toInt ∧ p.toInt ≤ 1023) : (p + 1) ≠ 0 := fun e => by
  have h1 := own_p p hp; rw [e, show (0 : Int32).toInt = 0 from rfl] at h1; omega
theorem own_in (p j : Int32) (hp : 0 ≤ p.toInt ∧ p.toInt ≤ 1023) (hj : 0 ≤ j.toInt ∧ j.toInt ≤ p.toInt) : ¬ j < 0 ∧ j < (p + 1) := by
  have h1 := own_p p hp
  rw [Int32.lt_iff_toInt_lt, Int32.lt_iff_toInt_lt, show (0 : Int32).toInt = 0 from rfl]; omega
theorem own_at (p j : Int32) (hp : 0 ≤ p.toInt ∧ p.toInt ≤ 1023) (hj : 0 ≤ j.toInt ∧ j.toInt ≤ p.toInt) (d : Value) : (own_ids (p + 1).toNatClampNeg).getD j.toNatClampNeg d = .int j := by
  have h1 := own_pn p hp
  have h2 : (j.toNatClampNeg : Int) = j.toInt := by simp only [Int32.toNatClampNeg]; omega
  rw [own_ids_get _ _ _ (by omega)]
  congr 1
  apply Int32.toInt_inj.mp
  rw [own_nat _ (by omega)]; omega
theorem d1_0 : decode prog_5_method_14_code 0 = .ok (.iload_n 0, 1) := by decide +kernel
theorem d1_1 : decode prog_5_method_14_code 1 = .ok (.iconst 1, 1) := by decide +kernel
theorem d1_2 : decode prog_5_method_14_code 2 = .ok (.iadd, 1) := by decide +kernel
theorem d1_3 : decode prog_5_method_14_code 3 = .ok (.newarray .int, 2) := by decide +kernel
theorem d1_5 : decode prog_5_method_14_code 5 = .ok (.astore_n 1, 1) := by decide +kernel
theorem d1_6 : decode prog_5_method_14_code 6 = .ok (.iconst 0, 1) := by decide +kernel
theorem d1_7 : decode prog_5_method_14_code 7 = .ok (.istore_n 2, 1) := by decide +kernel
theorem d1_8 : decode prog_5_method_14_code 8 = .ok (.iload_n 2, 1) := by decide +kernel
theorem d1_9 : decode prog_5_method_14_code 9 = .ok (.aload_n 1, 1) := by decide +kernel
theorem d1_10 : decode prog_5_method_14_code 10 = .ok (.arraylength, 1) := by decide +kernel
theorem d1_11 : decode prog_5_method_14_code 11 = .ok (.if_icmp .ge 13, 3) := by decide +kernel
theorem d1_14 : decode prog_5_method_14_code 14 = .ok (.aload_n 1, 1) := by decide +kernel
theorem d1_15 : decode prog_5_method_14_code 15 = .ok (.iload_n 2, 1) := by decide +kernel
theorem d1_16 : decode prog_5_method_14_code 16 = .ok (.iload_n 2, 1) := by decide +kernel
theorem d1_17 : decode prog_5_method_14_code 17 = .ok (.iastore, 1) := by decide +kernel
theorem d1_18 : decode prog_5_method_14_code 18 = .ok (.iinc 2 1, 3) := by decide +kernel
theorem d1_21 : decode prog_5_method_14_code 21 = .ok (.goto (-13), 3) := by decide +kernel
theorem d1_24 : decode prog_5_method_14_code 24 = .ok (.aload_n 1, 1) := by decide +kernel
theorem d1_25 : decode prog_5_method_14_code 25 = .ok (.areturn, 1) := by decide +kernel
theorem pn_1 : plainName "com/example/festung/festung/engine/Constraint" = true := by first | (simp [plainName, overriddenIn]; done) | decide +kernel
theorem ef_rm1 (m : MethodId) (x0 : Int32) : entryFrame m #[(.int x0)] 3 = mkF m 0 #[.val (.int x0), .unset, .unset] [] := by first | (simp [entryFrame, mkF, argsToLocals, Value.category]; done) | rfl
def Qrm1 (Z : State) (p1 : Int32) (h0 : Heap) (n0 : Nat) (v : Option Value) (h : Heap) (L : List Loc) : Prop := ∃ (r : Addr) (kr : ClassId), (v = some (.ref r)) ∧ (Fr n0 L) ∧ (Keep h0 h []) ∧ (Arv Z h r kr .int (p1 + (1 : Int32)) (own_ids (p1 + (1 : Int32)).toNatClampNeg) (.int (0 : Int32)))
set_option maxRecDepth 65536 in
set_option maxHeartbeats 40000000 in
theorem rm1 (l : Launch) (Z : State) (a0 : Array Value) (hw : ∀ d ∈ tables_1, d.before a0 Z = true) (ws : List Jvm.Cond) (p1 : Int32) (h0 : Heap) (n0 : Nat) (Z0 : n0 ≤ h0.size) (hp : 0 ≤ p1.toInt ∧ p1.toInt ≤ 1023) :
    MetFree l (⟨"com/example/festung/festung/engine/Constraint", "identity", "(I)[I"⟩ : MethodName) (head1 (Jvm.Cond.code (⟨"com/example/festung/festung/engine/Constraint", "identity", "(I)[I"⟩ : MethodName) prog_5_method_14_code 3 (some (.array .int)) :: ws) ({ frames := 0, cells := 1, slots := 1024, locals := 0 } : Room)) (fun a U => a = #[(.int p1)] ∧ Z.Warmed39 U.vm ∧ U.heap = h0) (fun _ _ _ _ _ => True) (fun _ U o U' => ∃ v L, o = .returned v ∧ Qrm1 Z p1 h0 n0 v U'.heap L ∧ FrameEnd U o U' L ({ frames := 0, cells := 1, slots := 1024, locals := 0 } : Room).cells ({ frames := 0, cells := 1, slots := 1024, locals := 0 } : Room).slots) := by
  refine MetFree.of_bodySF (plainFor_of_name pn_1) hisR ?_
  intro p e s m args below meth c s₁ Bd hml0 hP0 hK
  obtain ⟨rfl, hZ, hh⟩ := hP0
  have hx := Bd.exec
  have hby := Bd.bytes
  have hml : c.maxLocals = 3 := hml0
  have hown : s.vm.findClass "com/example/festung/festung/engine/Constraint" = some m.cls := findClass_of_methodNamed Bd.named
  have hnm := (name_of_methodNamed Bd.named Bd.method).1
  have X0 : Stand p l e ({ frames := 0, cells := 1, slots := 1024, locals := 0 } : Room) s m #[(.int p1)] below meth c s₁ [] 0 0 := Stand.of_body Bd
  have e0 : s₁.heap = h0 := by rw [← hh, Bd.state]; rfl
  have N0 := Fr.nil n0
  suffices own_H : ∀ (P : State → Outcome → Prop), (∀ U o, U.status = .running → Ended U below o → (∃ v L, o = .returned v ∧ Qrm1 Z p1 h0 n0 v U.heap L ∧ FrameEnd s o U L ({ frames := 0, cells := 1, slots := 1024, locals := 0 } : Room).cells ({ frames := 0, cells := 1, slots := 1024, locals := 0 } : Room).slots) → P U o) → own_Go p.tables e below P (s₁.setTop (mkF m 0 #[.val (.int p1), .unset, .unset] [])) from own_go (fun _ k => castTop (ef_rm1 m p1) k) (own_H _ (fun U o h1 h2 h3 => ⟨h1, h2, h3⟩))
  intro P hP
  refine own_go (st' := s₁.setTop (mkF m 1 #[.val (.int p1), .unset, .unset] [(.int p1)])) (fun _ k => XS.iloadN X0.here hx rfl (hb hby d1_0) rfl k) ?_
  refine own_go (st' := s₁.setTop (mkF m 2 #[.val (.int p1), .unset, .unset] [(.int (1 : Int32)), (.int p1)])) (fun _ k => XS.iconst X0.here hx rfl (hb hby d1_1) k) ?_
  refine own_go (st' := s₁.setTop (mkF m 3 #[.val (.int p1), .unset, .unset] [(.int (p1 + (1 : Int32)))])) (fun _ k => XS.iadd X0.here hx rfl (hb hby d1_2) rfl k) ?_
  obtain ⟨T1, h1, k1, X1, e1, E1, A1, st1⟩ := newP X0 hx hZ (hw _ (List.mem_of_getElem? (i := 4) rfl)) e0 (g := (mkF m 3 #[.val (.int p1), .unset, .unset] [(.int (p1 + (1 : Int32)))])) rfl (hb hby d1_3) rfl (own_pneg p1 hp) (cap := 1024) (own_cap p1 hp) (by decide) (by decide) (by decide)
  obtain ⟨b1, g1⟩ : ∃ z, z = h0.size := ⟨_, rfl⟩
  rw [← g1] at A1 st1
  have sz1 : h0.size ≤ h1.size := E1.1
  have lt1 : @LT.lt Nat _ b1 h1.size := A1.lt
  have v1 : Arv Z h1 b1 k1 .int (p1 + (1 : Int32)) [] (.int (0 : Int32)) := Arv.new A1 (own_pneg p1 hp)
  refine own_go (st' := T1.setTop (mkF m 5 #[.val (.int p1), .unset, .unset] [(.ref b1)])) (st1) ?_
  refine own_go (st' := T1.setTop (mkF m 6 #[.val (.int p1), .val (.ref b1), .unset] [])) (fun _ k => XS.astoreN X1.here hx rfl (hb hby d1_5) rfl rfl (l' := #[.val (.int p1), .val (.ref b1), .unset]) rfl k) ?_
  refine own_go (st' := T1.setTop (mkF m 7 #[.val (.int p1), .val (.ref b1), .unset] [(.int (0 : Int32))])) (fun _ k => XS.iconst X1.here hx rfl (hb hby d1_6) k) ?_
  refine own_go (st' := T1.setTop (mkF m 8 #[.val (.int p1), .val (.ref b1), .val (.int (0 : Int32))] [])) (fun _ k => XS.istoreN X1.here hx rfl (hb hby d1_7) rfl (l' := #[.val (.int p1), .val (.ref b1), .val (.int (0 : Int32))]) rfl k) ?_
  have hcap := own_cap p1 hp
  have J8_2 : ∀ (kk : Nat) (Tj2 : State) (lj2 : List Loc) (hj2 : Heap) (ii : Nat) (xi : Int32) (Xj2 : Stand p l e ({ frames := 0, cells := 1, slots := 1024, locals := 0 } : Room) s m #[(.int p1)] below meth c Tj2 lj2 1 1024) (ej2 : Tj2.heap = hj2) (Nj2 : Fr n0 lj2) (hxi : xi = Nat.toInt32 ii) (hk : ii + kk = (p1 + (1 : Int32)).toNatClampNeg) (szj2 : h1.size ≤ hj2.size) (Kj2 : Keep h0 hj2 []) (fj2_0 : Arv Z hj2 b1 k1 .int (p1 + (1 : Int32)) (own_ids ii) (.int (0 : Int32))), own_Go p.tables e below P (Tj2.setTop (mkF m 8 #[.val (.int p1), .val (.ref b1), .val (.int xi)] [])) := by
    intro kk
    induction kk with
    | zero =>
      intro Tj2 lj2 hj2 ii xi Xj2 ej2 Nj2 hxi hk szj2 Kj2 fj2_0
      have ltj2_0 : @LT.lt Nat _ b1 hj2.size := fj2_0.lt
      refine own_go (st' := Tj2.setTop (mkF m 9 #[.val (.int p1), .val (.ref b1), .val (.int xi)] [(.int xi)])) (fun _ k => XS.iloadN Xj2.here hx rfl (hb hby d1_8) rfl k) ?_
      refine own_go (st' := Tj2.setTop (mkF m 10 #[.val (.int p1), .val (.ref b1), .val (.int xi)] [(.ref b1), (.int xi)])) (fun _ k => XS.aloadN Xj2.here hx rfl (hb hby d1_9) rfl rfl k) ?_
      obtain ⟨cl3, Ar3, -, S3, M3, -, -⟩ := id fj2_0
      refine own_go (st' := Tj2.setTop (mkF m 11 #[.val (.int p1), .val (.ref b1), .val (.int xi)] [(.int (p1 + (1 : Int32))), (.int xi)])) (fun t k => Xj2.arraylength hx (by rw [ej2]; exact Ar3.1) (State.isArrayOf_alike hZ.alike Ar3.2.1) (g := (mkF m 10 #[.val (.int p1), .val (.ref b1), .val (.int xi)] [(.ref b1), (.int xi)])) rfl rfl (hb hby d1_10) t (by rw [len_of S3 M3]; exact k)) ?_
      have hc4 : ¬ (xi < (p1 + (1 : Int32))) := fun q => by have := (own_lt p1 xi ii hp hxi (by omega)).mp q; omega
      refine own_go (st' := Tj2.setTop (mkF m 24 #[.val (.int p1), .val (.ref b1), .val (.int xi)] [])) (fun _ k => XS.icmpYes Xj2.here hx rfl (pc0 := 11) (pc' := 24) rfl (hb hby d1_11) rfl (flt hc4).2.1 (by decide) (by decide) k) ?_
      refine own_go (st' := Tj2.setTop (mkF m 25 #[.val (.int p1), .val (.ref b1), .val (.int xi)] [(.ref b1)])) (fun _ k => XS.aloadN Xj2.here hx rfl (hb hby d1_24) rfl rfl k) ?_
      obtain ⟨fs, hr, hrun, hended, hW, hsame⟩ := Xj2.leave (v := some (.ref b1)) (fun h => by rw [Bd.returns] at h; cases h)
      refine ⟨_, _, ?_, hP _ _ hrun hended ⟨_, _, rfl, ?_, ⟨_, rfl⟩, hW, hsame.mono (by decide) (by decide)⟩⟩
      · exact retOut Xj2 hx Bd.returns rfl (Or.inr (Or.inr (Or.inr (Or.inr ⟨rfl, rfl, rfl⟩)))) (hb hby d1_25) hr
      · show Qrm1 Z p1 h0 n0 _ Tj2.heap _
        rw [ej2]
        exact ⟨b1, k1, rfl, Nj2, Kj2, (by rw [← (show ii = (p1 + (1 : Int32)).toNatClampNeg by omega)]; exact fj2_0)⟩
    | succ kk ih =>
      intro Tj2 lj2 hj2 ii xi Xj2 ej2 Nj2 hxi hk szj2 Kj2 fj2_0
      have ltj2_0 : @LT.lt Nat _ b1 hj2.size := fj2_0.lt
      refine own_go (st' := Tj2.setTop (mkF m 9 #[.val (.int p1), .val (.ref b1), .val (.int xi)] [(.int xi)])) (fun _ k => XS.iloadN Xj2.here hx rfl (hb hby d1_8) rfl k) ?_
      refine own_go (st' := Tj2.setTop (mkF m 10 #[.val (.int p1), .val (.ref b1), .val (.int xi)] [(.ref b1), (.int xi)])) (fun _ k => XS.aloadN Xj2.here hx rfl (hb hby d1_9) rfl rfl k) ?_
      obtain ⟨cl6, Ar6, -, S6, M6, -, -⟩ := id fj2_0
      refine own_go (st' := Tj2.setTop (mkF m 11 #[.val (.int p1), .val (.ref b1), .val (.int xi)] [(.int (p1 + (1 : Int32))), (.int xi)])) (fun t k => Xj2.arraylength hx (by rw [ej2]; exact Ar6.1) (State.isArrayOf_alike hZ.alike Ar6.2.1) (g := (mkF m 10 #[.val (.int p1), .val (.ref b1), .val (.int xi)] [(.ref b1), (.int xi)])) rfl rfl (hb hby d1_10) t (by rw [len_of S6 M6]; exact k)) ?_
      have hc7 : xi < (p1 + (1 : Int32)) := (own_lt p1 xi ii hp hxi (by omega)).mpr (by omega)
      refine own_go (st' := Tj2.setTop (mkF m 14 #[.val (.int p1), .val (.ref b1), .val (.int xi)] [])) (fun _ k => XS.icmpNo Xj2.here hx rfl (hb hby d1_11) rfl (tlt hc7).2.1 k) ?_
      refine own_go (st' := Tj2.setTop (mkF m 15 #[.val (.int p1), .val (.ref b1), .val (.int xi)] [(.ref b1)])) (fun _ k => XS.aloadN Xj2.here hx rfl (hb hby d1_14) rfl rfl k) ?_
      refine own_go (st' := Tj2.setTop (mkF m 16 #[.val (.int p1), .val (.ref b1), .val (.int xi)] [(.int xi), (.ref b1)])) (fun _ k => XS.iloadN Xj2.here hx rfl (hb hby d1_15) rfl k) ?_
      refine own_go (st' := Tj2.setTop (mkF m 17 #[.val (.int p1), .val (.ref b1), .val (.int xi)] [(.int xi), (.int xi), (.ref b1)])) (fun _ k => XS.iloadN Xj2.here hx rfl (hb hby d1_16) rfl k) ?_
      have vp9 : Arv Z hj2 b1 k1 .int (p1 + (1 : Int32)) (own_ids ii ++ [(.int (0 : Int32))]) (.int (0 : Int32)) := fj2_0.pad (pad_rep (own_ids ii) (.int (0 : Int32)) 1)
      obtain ⟨cl8, Ar8, qc8, S8, M8, H8, G8⟩ := id vp9
      have hin8 : ¬ (xi < 0 ∨ cl8.slots.size ≤ (xi).toNatClampNeg) := (inb_of S8 ⟨own_xneg xi ii hxi (by omega), (own_lt p1 xi ii hp hxi (by omega)).mpr (by omega)⟩)
      obtain ⟨T8, h8, X8, e8, W8, st8⟩ := stI Xj2 hx hZ ej2 Ar8 (j := xi) hin8 (g := (mkF m 17 #[.val (.int p1), .val (.ref b1), .val (.int xi)] [(.int xi), (.int xi), (.ref b1)])) rfl rfl (hb hby d1_17)
      have sz8 : h8.size = hj2.size := W8.size
      have N8 := Fr.snoc X8 Nj2 (by omega)
      have v8 : Arv Z h8 b1 k1 .int (p1 + (1 : Int32)) (own_ids (ii + 1)) (.int (0 : Int32)) := (by have q := Arv.set Ar8 qc8 S8 M8 H8 G8 rfl W8 ii (by rw [hxi]; exact own_natc ii (by omega)) (by simp [own_ids_len]); rw [hxi, own_ids_set] at q; exact q)
      refine own_go (st' := T8.setTop (mkF m 18 #[.val (.int p1), .val (.ref b1), .val (.int xi)] [])) (st8) ?_
      refine own_go (st' := T8.setTop (mkF m 21 #[.val (.int p1), .val (.ref b1), .val (.int (xi + (1 : Int32)))] [])) (fun _ k => XS.iinc X8.here hx rfl (hb hby d1_18) rfl (l' := #[.val (.int p1), .val (.ref b1), .val (.int (xi + (1 : Int32)))]) rfl k) ?_
      refine own_go (st' := T8.setTop (mkF m 8 #[.val (.int p1), .val (.ref b1), .val (.int (xi + (1 : Int32)))] [])) (fun _ k => XS.goto X8.here hx rfl (pc0 := 21) (pc' := 8) rfl (hb hby d1_21) (by decide) (by decide) k) ?_
      exact ih _ _ _ (ii + 1) (xi + (1 : Int32)) X8 e8 N8 (by rw [hxi]; exact own_succ ii (by omega)) (by omega) (by omega) (Kj2.wr W8 (Or.inr (by omega))) v8
  exact J8_2 ((p1 + (1 : Int32)).toNatClampNeg) _ _ _ 0 (0 : Int32) X1 e1 N0 rfl (by omega) (by omega) ((Keep.refl h0 []).ext E1) v1
theorem pd_0 : parseMethodDescriptor "(I)[I" = some ⟨[.int], some (.array .int)⟩ := by decide +kernel
theorem pn_0 : plainName "com/example/festung/festung/engine/ConstraintIdentityPinLaw" = true := by first | (simp [plainName, overriddenIn]; done) | decide +kernel
theorem ef_rm0 (m : MethodId) (x0 : Int32) (x1 : Int32) (x2 : Int32) : entryFrame m #[(.int x0), (.int x1), (.int x2)] maxLocals = mkF m 0 #[.val (.int x0), .val (.int x1), .val (.int x2), .unset, .unset, .unset, .unset] [] := by first | (simp [entryFrame, mkF, argsToLocals, Value.category, maxLocals]; done) | rfl
def Qrm0 (Z : State) (xx : Int32) (yy : Int32) (zz : Int32) (h0 : Heap) (n0 : Nat) (v : Option Value) (h : Heap) (L : List Loc) : Prop := v = some (.int 1) ∧ Fr n0 L ∧ True
set_option maxRecDepth 65536 in
set_option maxHeartbeats 40000000 in
theorem rm0 (l : Launch) (Z : State) (a0 : Array Value) (hw : ∀ d ∈ tables_1, d.before a0 Z = true) (ws : List Jvm.Cond) (xx : Int32) (yy : Int32) (zz : Int32) (h0 : Heap) (n0 : Nat) (Z0 : n0 ≤ h0.size)  :
    MetFree l x (head1 (Jvm.Cond.code x code maxLocals ret :: ws) room_1) (fun a U => a = #[(.int xx), (.int yy), (.int zz)] ∧ Z.Warmed39 U.vm ∧ U.heap = h0) (fun _ _ _ _ _ => True) (fun _ U o U' => ∃ v L, o = .returned v ∧ Qrm0 Z xx yy zz h0 n0 v U'.heap L ∧ FrameEnd U o U' L 16 2112) := by
  refine MetFree.of_bodySF (plainFor_of_name pn_0) hisR ?_
  intro p e s m args below meth c s₁ Bd hml0 hP0 hK
  obtain ⟨rfl, hZ, hh⟩ := hP0
  have hx := Bd.exec
  have hby := Bd.bytes
  have hml : c.maxLocals = 7 := hml0
  have hown : s.vm.findClass "com/example/festung/festung/engine/ConstraintIdentityPinLaw" = some m.cls := findClass_of_methodNamed Bd.named
  have hnm := (name_of_methodNamed Bd.named Bd.method).1
  have X0 : Stand p l e room_1 s m #[(.int xx), (.int yy), (.int zz)] below meth c s₁ [] 0 0 := Stand.of_body Bd
  have e0 : s₁.heap = h0 := by rw [← hh, Bd.state]; rfl
  have N0 := Fr.nil n0
  suffices own_H : ∀ (P : State → Outcome → Prop), (∀ U o, U.status = .running → Ended U below o → (∃ v L, o = .returned v ∧ Qrm0 Z xx yy zz h0 n0 v U.heap L ∧ FrameEnd s o U L 16 2112) → P U o) → own_Go p.tables e below P (s₁.setTop (mkF m 0 #[.val (.int xx), .val (.int yy), .val (.int zz), .unset, .unset, .unset, .unset] [])) from own_go (fun _ k => castTop (ef_rm0 m xx yy zz) k) (own_H _ (fun U o h1 h2 h3 => ⟨h1, h2, h3⟩))
  intro P hP
  refine own_go (st' := s₁.setTop (mkF m 1 #[.val (.int xx), .val (.int yy), .val (.int zz), .unset, .unset, .unset, .unset] [(.int xx)])) (fun _ k => XS.iloadN X0.here hx rfl (hb hby at_0) rfl k) ?_
  refine own_go (st' := s₁.setTop (mkF m 4 #[.val (.int xx), .val (.int yy), .val (.int zz), .unset, .unset, .unset, .unset] [(.int (1023 : Int32)), (.int xx)])) (fun _ k => XS.sipush X0.here hx rfl (hb hby at_1) k) ?_
  refine own_go (st' := s₁.setTop (mkF m 5 #[.val (.int xx), .val (.int yy), .val (.int zz), .unset, .unset, .unset, .unset] [(.int (xx &&& (1023 : Int32)))])) (fun _ k => XS.iand X0.here hx rfl (hb hby at_4) rfl k) ?_
  refine own_go (st' := s₁.setTop (mkF m 6 #[.val (.int xx), .val (.int yy), .val (.int zz), .val (.int (xx &&& (1023 : Int32))), .unset, .unset, .unset] [])) (fun _ k => XS.istoreN X0.here hx rfl (hb hby at_5) rfl (l' := #[.val (.int xx), .val (.int yy), .val (.int zz), .val (.int (xx &&& (1023 : Int32))), .unset, .unset, .unset]) rfl k) ?_
  refine own_go (st' := s₁.setTop (mkF m 7 #[.val (.int xx), .val (.int yy), .val (.int zz), .val (.int (xx &&& (1023 : Int32))), .unset, .unset, .unset] [(.int (xx &&& (1023 : Int32)))])) (fun _ k => XS.iloadN X0.here hx rfl (hb hby at_6) rfl k) ?_
  obtain ⟨_, _, ⟨T1, LC1, kC1, nC1⟩, -, X1, ⟨Lc1, hQ1, lq1, yq1, zq1⟩, st1⟩ := Jvm.LawKit.callS X0 hx (y := (⟨"com/example/festung/festung/engine/Constraint", "identity", "(I)[I"⟩ : MethodName)) hown (mvT hZ (hw _ (List.mem_of_getElem? (i := 0) rfl))) (mvT hZ (hw _ (List.mem_of_getElem? (i := 1) rfl))) (mvT hZ (hw _ (List.mem_of_getElem? (i := 2) rfl))) (mvT hZ (hw _ (List.mem_of_getElem? (i := 3) rfl))) (by decide) (backOf (W := 0) (rm1 l Z a0 hw [] (xx &&& (1023 : Int32)) h0 n0 (by omega) (own_and xx)) hZ (hw _ (List.mem_of_getElem? (i := 3) rfl)) (hw _ (List.mem_of_getElem? (i := 2) rfl)) (by decide) (by decide)) (g := (mkF m 7 #[.val (.int xx), .val (.int yy), .val (.int zz), .val (.int (xx &&& (1023 : Int32))), .unset, .unset, .unset] [(.int (xx &&& (1023 : Int32)))])) rfl (by rw [hml]; rfl) (argsL := [(.int (xx &&& (1023 : Int32)))]) (rest := []) (lenOf pd_0 rfl) rfl (by show 2 * 0 + _ ≤ _; exact Nat.le_of_eq rfl) (hb hby at_7) (fun _ _ => ⟨rfl, e0, (by decide : 0 + 1 ≤ _), (by decide : 0 + 1024 ≤ _)⟩)
  dsimp only [Pt.U, Pt.locs, Pt.cells, Pt.slots] at X1 lq1 yq1 zq1 st1 hQ1
  subst lq1 yq1 zq1
  obtain ⟨h1, e1⟩ : ∃ z, T1.heap = z := ⟨_, rfl⟩
  rw [e1] at hQ1
  obtain ⟨r_1, kr_1, rfl, Nq1, K1, g1_0⟩ := hQ1
  have sz1 : h0.size ≤ h1.size := K1.1
  have N1 := Fr.app N0 Nq1
  have lt1_1 : @LT.lt Nat _ r_1 h1.size := g1_0.lt
  refine own_go (st' := T1.setTop (mkF m 10 #[.val (.int xx), .val (.int yy), .val (.int zz), .val (.int (xx &&& (1023 : Int32))), .unset, .unset, .unset] [(.ref r_1)])) (fun t k => st1 t k) ?_
  refine own_go (st' := T1.setTop (mkF m 12 #[.val (.int xx), .val (.int yy), .val (.int zz), .val (.int (xx &&& (1023 : Int32))), .val (.ref r_1), .unset, .unset] [])) (fun _ k => XS.astore X1.here hx rfl (hb hby at_10) rfl rfl (l' := #[.val (.int xx), .val (.int yy), .val (.int zz), .val (.int (xx &&& (1023 : Int32))), .val (.ref r_1), .unset, .unset]) rfl k) ?_
  refine own_go (st' := T1.setTop (mkF m 14 #[.val (.int xx), .val (.int yy), .val (.int zz), .val (.int (xx &&& (1023 : Int32))), .val (.ref r_1), .unset, .unset] [(.ref r_1)])) (fun _ k => XS.aload X1.here hx rfl (hb hby at_12) rfl rfl k) ?_
  obtain ⟨cl2, Ar2, -, S2, M2, -, -⟩ := id g1_0
  refine own_go (st' := T1.setTop (mkF m 15 #[.val (.int xx), .val (.int yy), .val (.int zz), .val (.int (xx &&& (1023 : Int32))), .val (.ref r_1), .unset, .unset] [(.int ((xx &&& (1023 : Int32)) + (1 : Int32)))])) (fun t k => X1.arraylength hx (by rw [e1]; exact Ar2.1) (State.isArrayOf_alike hZ.alike Ar2.2.1) (g := (mkF m 14 #[.val (.int xx), .val (.int yy), .val (.int zz), .val (.int (xx &&& (1023 : Int32))), .val (.ref r_1), .unset, .unset] [(.ref r_1)])) rfl rfl (hb hby at_14) t (by rw [len_of S2 M2]; exact k)) ?_
  refine own_go (st' := T1.setTop (mkF m 16 #[.val (.int xx), .val (.int yy), .val (.int zz), .val (.int (xx &&& (1023 : Int32))), .val (.ref r_1), .unset, .unset] [(.int (xx &&& (1023 : Int32))), (.int ((xx &&& (1023 : Int32)) + (1 : Int32)))])) (fun _ k => XS.iloadN X1.here hx rfl (hb hby at_15) rfl k) ?_
  refine own_go (st' := T1.setTop (mkF m 17 #[.val (.int xx), .val (.int yy), .val (.int zz), .val (.int (xx &&& (1023 : Int32))), .val (.ref r_1), .unset, .unset] [(.int (1 : Int32)), (.int (xx &&& (1023 : Int32))), (.int ((xx &&& (1023 : Int32)) + (1 : Int32)))])) (fun _ k => XS.iconst X1.here hx rfl (hb hby at_16) k) ?_
  refine own_go (st' := T1.setTop (mkF m 18 #[.val (.int xx), .val (.int yy), .val (.int zz), .val (.int (xx &&& (1023 : Int32))), .val (.ref r_1), .unset, .unset] [(.int ((xx &&& (1023 : Int32)) + (1 : Int32))), (.int ((xx &&& (1023 : Int32)) + (1 : Int32)))])) (fun _ k => XS.iadd X1.here hx rfl (hb hby at_17) rfl k) ?_
  have hc3 : ((xx &&& (1023 : Int32)) + (1 : Int32)) = ((xx &&& (1023 : Int32)) + (1 : Int32)) := rfl
  refine own_go (st' := T1.setTop (mkF m 23 #[.val (.int xx), .val (.int yy), .val (.int zz), .val (.int (xx &&& (1023 : Int32))), .val (.ref r_1), .unset, .unset] [])) (fun _ k => XS.icmpYes X1.here hx rfl (pc0 := 18) (pc' := 23) rfl (hb hby at_18) rfl (teq hc3).1 (by decide) (by decide) k) ?_
  refine own_go (st' := T1.setTop (mkF m 24 #[.val (.int xx), .val (.int yy), .val (.int zz), .val (.int (xx &&& (1023 : Int32))), .val (.ref r_1), .unset, .unset] [(.int yy)])) (fun _ k => XS.iloadN X1.here hx rfl (hb hby at_23) rfl k) ?_
  refine own_go (st' := T1.setTop (mkF m 26 #[.val (.int xx), .val (.int yy), .val (.int zz), .val (.int (xx &&& (1023 : Int32))), .val (.ref r_1), .unset, .unset] [(.int (2147483647 : Int32)), (.int yy)])) (X1.ldcInt hx hown (mvT hZ (hw _ (List.mem_of_getElem? (i := 5) rfl))) (g := (mkF m 24 #[.val (.int xx), .val (.int yy), .val (.int zz), .val (.int (xx &&& (1023 : Int32))), .val (.ref r_1), .unset, .unset] [(.int yy)])) rfl (hb hby at_24)) ?_
  refine own_go (st' := T1.setTop (mkF m 27 #[.val (.int xx), .val (.int yy), .val (.int zz), .val (.int (xx &&& (1023 : Int32))), .val (.ref r_1), .unset, .unset] [(.int (yy &&& (2147483647 : Int32)))])) (fun _ k => XS.iand X1.here hx rfl (hb hby at_26) rfl k) ?_
  refine own_go (st' := T1.setTop (mkF m 28 #[.val (.int xx), .val (.int yy), .val (.int zz), .val (.int (xx &&& (1023 : Int32))), .val (.ref r_1), .unset, .unset] [(.int (xx &&& (1023 : Int32))), (.int (yy &&& (2147483647 : Int32)))])) (fun _ k => XS.iloadN X1.here hx rfl (hb hby at_27) rfl k) ?_
  refine own_go (st' := T1.setTop (mkF m 29 #[.val (.int xx), .val (.int yy), .val (.int zz), .val (.int (xx &&& (1023 : Int32))), .val (.ref r_1), .unset, .unset] [(.int (1 : Int32)), (.int (xx &&& (1023 : Int32))), (.int (yy &&& (2147483647 : Int32)))])) (fun _ k => XS.iconst X1.here hx rfl (hb hby at_28) k) ?_
  refine own_go (st' := T1.setTop (mkF m 30 #[.val (.int xx), .val (.int yy), .val (.int zz), .val (.int (xx &&& (1023 : Int32))), .val (.ref r_1), .unset, .unset] [(.int ((xx &&& (1023 : Int32)) + (1 : Int32))), (.int (yy &&& (2147483647 : Int32)))])) (fun _ k => XS.iadd X1.here hx rfl (hb hby at_29) rfl k) ?_
  refine own_go (st' := T1.setTop (mkF m 31 #[.val (.int xx), .val (.int yy), .val (.int zz), .val (.int (xx &&& (1023 : Int32))), .val (.ref r_1), .unset, .unset] [(.int ((yy &&& (2147483647 : Int32)) % ((xx &&& (1023 : Int32)) + (1 : Int32))))])) (fun _ k => iremM X1 hx rfl (hb hby at_30) rfl (own_nz _ (own_and xx)) k) ?_
  refine own_go (st' := T1.setTop (mkF m 33 #[.val (.int xx), .val (.int yy), .val (.int zz), .val (.int (xx &&& (1023 : Int32))), .val (.ref r_1), .val (.int ((yy &&& (2147483647 : Int32)) % ((xx &&& (1023 : Int32)) + (1 : Int32)))), .unset] [])) (fun _ k => XS.istore X1.here hx rfl (hb hby at_31) rfl (l' := #[.val (.int xx), .val (.int yy), .val (.int zz), .val (.int (xx &&& (1023 : Int32))), .val (.ref r_1), .val (.int ((yy &&& (2147483647 : Int32)) % ((xx &&& (1023 : Int32)) + (1 : Int32)))), .unset]) rfl k) ?_
  refine own_go (st' := T1.setTop (mkF m 34 #[.val (.int xx), .val (.int yy), .val (.int zz), .val (.int (xx &&& (1023 : Int32))), .val (.ref r_1), .val (.int ((yy &&& (2147483647 : Int32)) % ((xx &&& (1023 : Int32)) + (1 : Int32)))), .unset] [(.int zz)])) (fun _ k => XS.iloadN X1.here hx rfl (hb hby at_33) rfl k) ?_
  refine own_go (st' := T1.setTop (mkF m 36 #[.val (.int xx), .val (.int yy), .val (.int zz), .val (.int (xx &&& (1023 : Int32))), .val (.ref r_1), .val (.int ((yy &&& (2147483647 : Int32)) % ((xx &&& (1023 : Int32)) + (1 : Int32)))), .unset] [(.int (2147483647 : Int32)), (.int zz)])) (X1.ldcInt hx hown (mvT hZ (hw _ (List.mem_of_getElem? (i := 5) rfl))) (g := (mkF m 34 #[.val (.int xx), .val (.int yy), .val (.int zz), .val (.int (xx &&& (1023 : Int32))), .val (.ref r_1), .val (.int ((yy &&& (2147483647 : Int32)) % ((xx &&& (1023 : Int32)) + (1 : Int32)))), .unset] [(.int zz)])) rfl (hb hby at_34)) ?_
  refine own_go (st' := T1.setTop (mkF m 37 #[.val (.int xx), .val (.int yy), .val (.int zz), .val (.int (xx &&& (1023 : Int32))), .val (.ref r_1), .val (.int ((yy &&& (2147483647 : Int32)) % ((xx &&& (1023 : Int32)) + (1 : Int32)))), .unset] [(.int (zz &&& (2147483647 : Int32)))])) (fun _ k => XS.iand X1.here hx rfl (hb hby at_36) rfl k) ?_
  refine own_go (st' := T1.setTop (mkF m 38 #[.val (.int xx), .val (.int yy), .val (.int zz), .val (.int (xx &&& (1023 : Int32))), .val (.ref r_1), .val (.int ((yy &&& (2147483647 : Int32)) % ((xx &&& (1023 : Int32)) + (1 : Int32)))), .unset] [(.int (xx &&& (1023 : Int32))), (.int (zz &&& (2147483647 : Int32)))])) (fun _ k => XS.iloadN X1.here hx rfl (hb hby at_37) rfl k) ?_
  refine own_go (st' := T1.setTop (mkF m 39 #[.val (.int xx), .val (.int yy), .val (.int zz), .val (.int (xx &&& (1023 : Int32))), .val (.ref r_1), .val (.int ((yy &&& (2147483647 : Int32)) % ((xx &&& (1023 : Int32)) + (1 : Int32)))), .unset] [(.int (1 : Int32)), (.int (xx &&& (1023 : Int32))), (.int (zz &&& (2147483647 : Int32)))])) (fun _ k => XS.iconst X1.here hx rfl (hb hby at_38) k) ?_
  refine own_go (st' := T1.setTop (mkF m 40 #[.val (.int xx), .val (.int yy), .val (.int zz), .val (.int (xx &&& (1023 : Int32))), .val (.ref r_1), .val (.int ((yy &&& (2147483647 : Int32)) % ((xx &&& (1023 : Int32)) + (1 : Int32)))), .unset] [(.int ((xx &&& (1023 : Int32)) + (1 : Int32))), (.int (zz &&& (2147483647 : Int32)))])) (fun _ k => XS.iadd X1.here hx rfl (hb hby at_39) rfl k) ?_
  refine own_go (st' := T1.setTop (mkF m 41 #[.val (.int xx), .val (.int yy), .val (.int zz), .val (.int (xx &&& (1023 : Int32))), .val (.ref r_1), .val (.int ((yy &&& (2147483647 : Int32)) % ((xx &&& (1023 : Int32)) + (1 : Int32)))), .unset] [(.int ((zz &&& (2147483647 : Int32)) % ((xx &&& (1023 : Int32)) + (1 : Int32))))])) (fun _ k => iremM X1 hx rfl (hb hby at_40) rfl (own_nz _ (own_and xx)) k) ?_
  refine own_go (st' := T1.setTop (mkF m 43 #[.val (.int xx), .val (.int yy), .val (.int zz), .val (.int (xx &&& (1023 : Int32))), .val (.ref r_1), .val (.int ((yy &&& (2147483647 : Int32)) % ((xx &&& (1023 : Int32)) + (1 : Int32)))), .val (.int ((zz &&& (2147483647 : Int32)) % ((xx &&& (1023 : Int32)) + (1 : Int32))))] [])) (fun _ k => XS.istore X1.here hx rfl (hb hby at_41) rfl (l' := #[.val (.int xx), .val (.int yy), .val (.int zz), .val (.int (xx &&& (1023 : Int32))), .val (.ref r_1), .val (.int ((yy &&& (2147483647 : Int32)) % ((xx &&& (1023 : Int32)) + (1 : Int32)))), .val (.int ((zz &&& (2147483647 : Int32)) % ((xx &&& (1023 : Int32)) + (1 : Int32))))]) rfl k) ?_
  refine own_go (st' := T1.setTop (mkF m 45 #[.val (.int xx), .val (.int yy), .val (.int zz), .val (.int (xx &&& (1023 : Int32))), .val (.ref r_1), .val (.int ((yy &&& (2147483647 : Int32)) % ((xx &&& (1023 : Int32)) + (1 : Int32)))), .val (.int ((zz &&& (2147483647 : Int32)) % ((xx &&& (1023 : Int32)) + (1 : Int32))))] [(.ref r_1)])) (fun _ k => XS.aload X1.here hx rfl (hb hby at_43) rfl rfl k) ?_
  refine own_go (st' := T1.setTop (mkF m 46 #[.val (.int xx), .val (.int yy), .val (.int zz), .val (.int (xx &&& (1023 : Int32))), .val (.ref r_1), .val (.int ((yy &&& (2147483647 : Int32)) % ((xx &&& (1023 : Int32)) + (1 : Int32)))), .val (.int ((zz &&& (2147483647 : Int32)) % ((xx &&& (1023 : Int32)) + (1 : Int32))))] [(.int (0 : Int32)), (.ref r_1)])) (fun _ k => XS.iconst X1.here hx rfl (hb hby at_45) k) ?_
  obtain ⟨cl4, Ar4, -, S4, M4, H4, -⟩ := id g1_0
  have hin4 : ¬ ((0 : Int32) < 0 ∨ cl4.slots.size ≤ ((0 : Int32)).toNatClampNeg) := (inb_of S4 (own_in (xx &&& (1023 : Int32)) (0 : Int32) (own_and xx) ⟨by decide, (own_and xx).1⟩))
  have hat4 : cl4.slots[((0 : Int32)).toNatClampNeg]? = some (.int (0 : Int32)) := (H4.at hin4 (own_at (xx &&& (1023 : Int32)) (0 : Int32) (own_and xx) ⟨by decide, (own_and xx).1⟩ _))
  refine own_go (st' := T1.setTop (mkF m 47 #[.val (.int xx), .val (.int yy), .val (.int zz), .val (.int (xx &&& (1023 : Int32))), .val (.ref r_1), .val (.int ((yy &&& (2147483647 : Int32)) % ((xx &&& (1023 : Int32)) + (1 : Int32)))), .val (.int ((zz &&& (2147483647 : Int32)) % ((xx &&& (1023 : Int32)) + (1 : Int32))))] [(.int (0 : Int32))])) (X1.iaload hx (j := (0 : Int32)) (v := (.int (0 : Int32))) (by rw [e1]; exact Ar4.1) (State.isArrayOf_alike hZ.alike Ar4.2.1) Ar4.2.2 hin4 hat4 (g := (mkF m 46 #[.val (.int xx), .val (.int yy), .val (.int zz), .val (.int (xx &&& (1023 : Int32))), .val (.ref r_1), .val (.int ((yy &&& (2147483647 : Int32)) % ((xx &&& (1023 : Int32)) + (1 : Int32)))), .val (.int ((zz &&& (2147483647 : Int32)) % ((xx &&& (1023 : Int32)) + (1 : Int32))))] [(.int (0 : Int32)), (.ref r_1)])) rfl rfl (hb hby at_46)) ?_
  have hc5 : (0 : Int32) = (0 : Int32) := by decide
  refine own_go (st' := T1.setTop (mkF m 50 #[.val (.int xx), .val (.int yy), .val (.int zz), .val (.int (xx &&& (1023 : Int32))), .val (.ref r_1), .val (.int ((yy &&& (2147483647 : Int32)) % ((xx &&& (1023 : Int32)) + (1 : Int32)))), .val (.int ((zz &&& (2147483647 : Int32)) % ((xx &&& (1023 : Int32)) + (1 : Int32))))] [])) (fun _ k => XS.ifNo X1.here hx rfl (hb hby at_47) rfl ((if0 _ _).trans (teq hc5).2) k) ?_
  refine own_go (st' := T1.setTop (mkF m 52 #[.val (.int xx), .val (.int yy), .val (.int zz), .val (.int (xx &&& (1023 : Int32))), .val (.ref r_1), .val (.int ((yy &&& (2147483647 : Int32)) % ((xx &&& (1023 : Int32)) + (1 : Int32)))), .val (.int ((zz &&& (2147483647 : Int32)) % ((xx &&& (1023 : Int32)) + (1 : Int32))))] [(.ref r_1)])) (fun _ k => XS.aload X1.here hx rfl (hb hby at_50) rfl rfl k) ?_
  refine own_go (st' := T1.setTop (mkF m 53 #[.val (.int xx), .val (.int yy), .val (.int zz), .val (.int (xx &&& (1023 : Int32))), .val (.ref r_1), .val (.int ((yy &&& (2147483647 : Int32)) % ((xx &&& (1023 : Int32)) + (1 : Int32)))), .val (.int ((zz &&& (2147483647 : Int32)) % ((xx &&& (1023 : Int32)) + (1 : Int32))))] [(.int (xx &&& (1023 : Int32))), (.ref r_1)])) (fun _ k => XS.iloadN X1.here hx rfl (hb hby at_52) rfl k) ?_
  obtain ⟨cl6, Ar6, -, S6, M6, H6, -⟩ := id g1_0
  have hin6 : ¬ ((xx &&& (1023 : Int32)) < 0 ∨ cl6.slots.size ≤ ((xx &&& (1023 : Int32))).toNatClampNeg) := (inb_of S6 (own_in (xx &&& (1023 : Int32)) (xx &&& (1023 : Int32)) (own_and xx) ⟨(own_and xx).1, Int.le_refl _⟩))
  have hat6 : cl6.slots[((xx &&& (1023 : Int32))).toNatClampNeg]? = some (.int (xx &&& (1023 : Int32))) := (H6.at hin6 (own_at (xx &&& (1023 : Int32)) (xx &&& (1023 : Int32)) (own_and xx) ⟨(own_and xx).1, Int.le_refl _⟩ _))
  refine own_go (st' := T1.setTop (mkF m 54 #[.val (.int xx), .val (.int yy), .val (.int zz), .val (.int (xx &&& (1023 : Int32))), .val (.ref r_1), .val (.int ((yy &&& (2147483647 : Int32)) % ((xx &&& (1023 : Int32)) + (1 : Int32)))), .val (.int ((zz &&& (2147483647 : Int32)) % ((xx &&& (1023 : Int32)) + (1 : Int32))))] [(.int (xx &&& (1023 : Int32)))])) (X1.iaload hx (j := (xx &&& (1023 : Int32))) (v := (.int (xx &&& (1023 : Int32)))) (by rw [e1]; exact Ar6.1) (State.isArrayOf_alike hZ.alike Ar6.2.1) Ar6.2.2 hin6 hat6 (g := (mkF m 53 #[.val (.int xx), .val (.int yy), .val (.int zz), .val (.int (xx &&& (1023 : Int32))), .val (.ref r_1), .val (.int ((yy &&& (2147483647 : Int32)) % ((xx &&& (1023 : Int32)) + (1 : Int32)))), .val (.int ((zz &&& (2147483647 : Int32)) % ((xx &&& (1023 : Int32)) + (1 : Int32))))] [(.int (xx &&& (1023 : Int32))), (.ref r_1)])) rfl rfl (hb hby at_53)) ?_
  refine own_go (st' := T1.setTop (mkF m 55 #[.val (.int xx), .val (.int yy), .val (.int zz), .val (.int (xx &&& (1023 : Int32))), .val (.ref r_1), .val (.int ((yy &&& (2147483647 : Int32)) % ((xx &&& (1023 : Int32)) + (1 : Int32)))), .val (.int ((zz &&& (2147483647 : Int32)) % ((xx &&& (1023 : Int32)) + (1 : Int32))))] [(.int (xx &&& (1023 : Int32))), (.int (xx &&& (1023 : Int32)))])) (fun _ k => XS.iloadN X1.here hx rfl (hb hby at_54) rfl k) ?_
  have hc7 : (xx &&& (1023 : Int32)) = (xx &&& (1023 : Int32)) := rfl
  refine own_go (st' := T1.setTop (mkF m 58 #[.val (.int xx), .val (.int yy), .val (.int zz), .val (.int (xx &&& (1023 : Int32))), .val (.ref r_1), .val (.int ((yy &&& (2147483647 : Int32)) % ((xx &&& (1023 : Int32)) + (1 : Int32)))), .val (.int ((zz &&& (2147483647 : Int32)) % ((xx &&& (1023 : Int32)) + (1 : Int32))))] [])) (fun _ k => XS.icmpNo X1.here hx rfl (hb hby at_55) rfl (teq hc7).2 k) ?_
  refine own_go (st' := T1.setTop (mkF m 60 #[.val (.int xx), .val (.int yy), .val (.int zz), .val (.int (xx &&& (1023 : Int32))), .val (.ref r_1), .val (.int ((yy &&& (2147483647 : Int32)) % ((xx &&& (1023 : Int32)) + (1 : Int32)))), .val (.int ((zz &&& (2147483647 : Int32)) % ((xx &&& (1023 : Int32)) + (1 : Int32))))] [(.ref r_1)])) (fun _ k => XS.aload X1.here hx rfl (hb hby at_58) rfl rfl k) ?_
  refine own_go (st' := T1.setTop (mkF m 62 #[.val (.int xx), .val (.int yy), .val (.int zz), .val (.int (xx &&& (1023 : Int32))), .val (.ref r_1), .val (.int ((yy &&& (2147483647 : Int32)) % ((xx &&& (1023 : Int32)) + (1 : Int32)))), .val (.int ((zz &&& (2147483647 : Int32)) % ((xx &&& (1023 : Int32)) + (1 : Int32))))] [(.int ((yy &&& (2147483647 : Int32)) % ((xx &&& (1023 : Int32)) + (1 : Int32)))), (.ref r_1)])) (fun _ k => XS.iload X1.here hx rfl (hb hby at_60) rfl k) ?_
  obtain ⟨cl8, Ar8, -, S8, M8, H8, -⟩ := id g1_0
  have hin8 : ¬ (((yy &&& (2147483647 : Int32)) % ((xx &&& (1023 : Int32)) + (1 : Int32))) < 0 ∨ cl8.slots.size ≤ (((yy &&& (2147483647 : Int32)) % ((xx &&& (1023 : Int32)) + (1 : Int32)))).toNatClampNeg) := (inb_of S8 (own_in (xx &&& (1023 : Int32)) ((yy &&& (2147483647 : Int32)) % ((xx &&& (1023 : Int32)) + (1 : Int32))) (own_and xx) (own_rem yy _ (own_and xx))))
  have hat8 : cl8.slots[(((yy &&& (2147483647 : Int32)) % ((xx &&& (1023 : Int32)) + (1 : Int32)))).toNatClampNeg]? = some (.int ((yy &&& (2147483647 : Int32)) % ((xx &&& (1023 : Int32)) + (1 : Int32)))) := (H8.at hin8 (own_at (xx &&& (1023 : Int32)) ((yy &&& (2147483647 : Int32)) % ((xx &&& (1023 : Int32)) + (1 : Int32))) (own_and xx) (own_rem yy _ (own_and xx)) _))
  refine own_go (st' := T1.setTop (mkF m 63 #[.val (.int xx), .val (.int yy), .val (.int zz), .val (.int (xx &&& (1023 : Int32))), .val (.ref r_1), .val (.int ((yy &&& (2147483647 : Int32)) % ((xx &&& (1023 : Int32)) + (1 : Int32)))), .val (.int ((zz &&& (2147483647 : Int32)) % ((xx &&& (1023 : Int32)) + (1 : Int32))))] [(.int ((yy &&& (2147483647 : Int32)) % ((xx &&& (1023 : Int32)) + (1 : Int32))))])) (X1.iaload hx (j := ((yy &&& (2147483647 : Int32)) % ((xx &&& (1023 : Int32)) + (1 : Int32)))) (v := (.int ((yy &&& (2147483647 : Int32)) % ((xx &&& (1023 : Int32)) + (1 : Int32))))) (by rw [e1]; exact Ar8.1) (State.isArrayOf_alike hZ.alike Ar8.2.1) Ar8.2.2 hin8 hat8 (g := (mkF m 62 #[.val (.int xx), .val (.int yy), .val (.int zz), .val (.int (xx &&& (1023 : Int32))), .val (.ref r_1), .val (.int ((yy &&& (2147483647 : Int32)) % ((xx &&& (1023 : Int32)) + (1 : Int32)))), .val (.int ((zz &&& (2147483647 : Int32)) % ((xx &&& (1023 : Int32)) + (1 : Int32))))] [(.int ((yy &&& (2147483647 : Int32)) % ((xx &&& (1023 : Int32)) + (1 : Int32)))), (.ref r_1)])) rfl rfl (hb hby at_62)) ?_
  refine own_go (st' := T1.setTop (mkF m 65 #[.val (.int xx), .val (.int yy), .val (.int zz), .val (.int (xx &&& (1023 : Int32))), .val (.ref r_1), .val (.int ((yy &&& (2147483647 : Int32)) % ((xx &&& (1023 : Int32)) + (1 : Int32)))), .val (.int ((zz &&& (2147483647 : Int32)) % ((xx &&& (1023 : Int32)) + (1 : Int32))))] [(.int ((yy &&& (2147483647 : Int32)) % ((xx &&& (1023 : Int32)) + (1 : Int32)))), (.int ((yy &&& (2147483647 : Int32)) % ((xx &&& (1023 : Int32)) + (1 : Int32))))])) (fun _ k => XS.iload X1.here hx rfl (hb hby at_63) rfl k) ?_
  have hc9 : ((yy &&& (2147483647 : Int32)) % ((xx &&& (1023 : Int32)) + (1 : Int32))) = ((yy &&& (2147483647 : Int32)) % ((xx &&& (1023 : Int32)) + (1 : Int32))) := rfl
  refine own_go (st' := T1.setTop (mkF m 68 #[.val (.int xx), .val (.int yy), .val (.int zz), .val (.int (xx &&& (1023 : Int32))), .val (.ref r_1), .val (.int ((yy &&& (2147483647 : Int32)) % ((xx &&& (1023 : Int32)) + (1 : Int32)))), .val (.int ((zz &&& (2147483647 : Int32)) % ((xx &&& (1023 : Int32)) + (1 : Int32))))] [])) (fun _ k => XS.icmpNo X1.here hx rfl (hb hby at_65) rfl (teq hc9).2 k) ?_
  refine own_go (st' := T1.setTop (mkF m 70 #[.val (.int xx), .val (.int yy), .val (.int zz), .val (.int (xx &&& (1023 : Int32))), .val (.ref r_1), .val (.int ((yy &&& (2147483647 : Int32)) % ((xx &&& (1023 : Int32)) + (1 : Int32)))), .val (.int ((zz &&& (2147483647 : Int32)) % ((xx &&& (1023 : Int32)) + (1 : Int32))))] [(.ref r_1)])) (fun _ k => XS.aload X1.here hx rfl (hb hby at_68) rfl rfl k) ?_
  refine own_go (st' := T1.setTop (mkF m 72 #[.val (.int xx), .val (.int yy), .val (.int zz), .val (.int (xx &&& (1023 : Int32))), .val (.ref r_1), .val (.int ((yy &&& (2147483647 : Int32)) % ((xx &&& (1023 : Int32)) + (1 : Int32)))), .val (.int ((zz &&& (2147483647 : Int32)) % ((xx &&& (1023 : Int32)) + (1 : Int32))))] [(.int ((zz &&& (2147483647 : Int32)) % ((xx &&& (1023 : Int32)) + (1 : Int32)))), (.ref r_1)])) (fun _ k => XS.iload X1.here hx rfl (hb hby at_70) rfl k) ?_
  obtain ⟨cl10, Ar10, -, S10, M10, H10, -⟩ := id g1_0
  have hin10 : ¬ (((zz &&& (2147483647 : Int32)) % ((xx &&& (1023 : Int32)) + (1 : Int32))) < 0 ∨ cl10.slots.size ≤ (((zz &&& (2147483647 : Int32)) % ((xx &&& (1023 : Int32)) + (1 : Int32)))).toNatClampNeg) := (inb_of S10 (own_in (xx &&& (1023 : Int32)) ((zz &&& (2147483647 : Int32)) % ((xx &&& (1023 : Int32)) + (1 : Int32))) (own_and xx) (own_rem zz _ (own_and xx))))
  have hat10 : cl10.slots[(((zz &&& (2147483647 : Int32)) % ((xx &&& (1023 : Int32)) + (1 : Int32)))).toNatClampNeg]? = some (.int ((zz &&& (2147483647 : Int32)) % ((xx &&& (1023 : Int32)) + (1 : Int32)))) := (H10.at hin10 (own_at (xx &&& (1023 : Int32)) ((zz &&& (2147483647 : Int32)) % ((xx &&& (1023 : Int32)) + (1 : Int32))) (own_and xx) (own_rem zz _ (own_and xx)) _))
  refine own_go (st' := T1.setTop (mkF m 73 #[.val (.int xx), .val (.int yy), .val (.int zz), .val (.int (xx &&& (1023 : Int32))), .val (.ref r_1), .val (.int ((yy &&& (2147483647 : Int32)) % ((xx &&& (1023 : Int32)) + (1 : Int32)))), .val (.int ((zz &&& (2147483647 : Int32)) % ((xx &&& (1023 : Int32)) + (1 : Int32))))] [(.int ((zz &&& (2147483647 : Int32)) % ((xx &&& (1023 : Int32)) + (1 : Int32))))])) (X1.iaload hx (j := ((zz &&& (2147483647 : Int32)) % ((xx &&& (1023 : Int32)) + (1 : Int32)))) (v := (.int ((zz &&& (2147483647 : Int32)) % ((xx &&& (1023 : Int32)) + (1 : Int32))))) (by rw [e1]; exact Ar10.1) (State.isArrayOf_alike hZ.alike Ar10.2.1) Ar10.2.2 hin10 hat10 (g := (mkF m 72 #[.val (.int xx), .val (.int yy), .val (.int zz), .val (.int (xx &&& (1023 : Int32))), .val (.ref r_1), .val (.int ((yy &&& (2147483647 : Int32)) % ((xx &&& (1023 : Int32)) + (1 : Int32)))), .val (.int ((zz &&& (2147483647 : Int32)) % ((xx &&& (1023 : Int32)) + (1 : Int32))))] [(.int ((zz &&& (2147483647 : Int32)) % ((xx &&& (1023 : Int32)) + (1 : Int32)))), (.ref r_1)])) rfl rfl (hb hby at_72)) ?_
  refine own_go (st' := T1.setTop (mkF m 75 #[.val (.int xx), .val (.int yy), .val (.int zz), .val (.int (xx &&& (1023 : Int32))), .val (.ref r_1), .val (.int ((yy &&& (2147483647 : Int32)) % ((xx &&& (1023 : Int32)) + (1 : Int32)))), .val (.int ((zz &&& (2147483647 : Int32)) % ((xx &&& (1023 : Int32)) + (1 : Int32))))] [(.int ((zz &&& (2147483647 : Int32)) % ((xx &&& (1023 : Int32)) + (1 : Int32)))), (.int ((zz &&& (2147483647 : Int32)) % ((xx &&& (1023 : Int32)) + (1 : Int32))))])) (fun _ k => XS.iload X1.here hx rfl (hb hby at_73) rfl k) ?_
  have hc11 : ((zz &&& (2147483647 : Int32)) % ((xx &&& (1023 : Int32)) + (1 : Int32))) = ((zz &&& (2147483647 : Int32)) % ((xx &&& (1023 : Int32)) + (1 : Int32))) := rfl
  refine own_go (st' := T1.setTop (mkF m 78 #[.val (.int xx), .val (.int yy), .val (.int zz), .val (.int (xx &&& (1023 : Int32))), .val (.ref r_1), .val (.int ((yy &&& (2147483647 : Int32)) % ((xx &&& (1023 : Int32)) + (1 : Int32)))), .val (.int ((zz &&& (2147483647 : Int32)) % ((xx &&& (1023 : Int32)) + (1 : Int32))))] [])) (fun _ k => XS.icmpNo X1.here hx rfl (hb hby at_75) rfl (teq hc11).2 k) ?_
  refine own_go (st' := T1.setTop (mkF m 79 #[.val (.int xx), .val (.int yy), .val (.int zz), .val (.int (xx &&& (1023 : Int32))), .val (.ref r_1), .val (.int ((yy &&& (2147483647 : Int32)) % ((xx &&& (1023 : Int32)) + (1 : Int32)))), .val (.int ((zz &&& (2147483647 : Int32)) % ((xx &&& (1023 : Int32)) + (1 : Int32))))] [(.int (1 : Int32))])) (fun _ k => XS.iconst X1.here hx rfl (hb hby at_78) k) ?_
  refine own_go (st' := T1.setTop (mkF m 83 #[.val (.int xx), .val (.int yy), .val (.int zz), .val (.int (xx &&& (1023 : Int32))), .val (.ref r_1), .val (.int ((yy &&& (2147483647 : Int32)) % ((xx &&& (1023 : Int32)) + (1 : Int32)))), .val (.int ((zz &&& (2147483647 : Int32)) % ((xx &&& (1023 : Int32)) + (1 : Int32))))] [(.int (1 : Int32))])) (fun _ k => XS.goto X1.here hx rfl (pc0 := 79) (pc' := 83) rfl (hb hby at_79) (by decide) (by decide) k) ?_
  obtain ⟨fs, hr, hrun, hended, hW, hsame⟩ := X1.leave (v := some (.int (1 : Int32))) (fun h => by rw [Bd.returns] at h; cases h)
  refine ⟨_, _, ?_, hP _ _ hrun hended ⟨_, _, rfl, ?_, ⟨_, rfl⟩, hW, hsame.mono (by decide) (by decide)⟩⟩
  · exact retN X1 hx (t := .boolean) Bd.returns (by simp) (hb hby at_83) hr
  · show Qrm0 Z xx yy zz h0 n0 _ T1.heap _
    rw [e1]
    exact ⟨rfl, N1, trivial⟩
set_option maxRecDepth 65536 in
set_option maxHeartbeats 40000000 in
theorem comes_1 {Post : Tables → Env → Array Value → State → Outcome → State → Prop} (hpost : ∀ tb e args s v u, (limb_1_1.after args s (.returned v) u = true ∧ limb_1_2.after args s (.returned v) u = true ∧ True) → FrameEnd s (.returned v) u (Jvm.fieldLocs frame_1_writes args s ++ Jvm.arrayLocs frame_1_arrays args s ++ Jvm.staticLocs frame_1_statics s) 16 2112 → Post tb e args s (.returned v) u) :
    ArmFor flags0 classFile x code maxLocals ret World_1 tables_1 room_1 Calls_1 rest_1 Pre_1 Post := by
  intro l hfl _ _ p e ha hc hk s m args below hf hA hF happ hP
  obtain ⟨hcalls, hrest, hpre⟩ := hP
  obtain ⟨-, -, -, hnamed, -, -, -, hat⟩ := (Spec.applies_iff hf).mp happ
  obtain ⟨hg, hn⟩ := and_e (Cond.before_iff.mp (show (Jvm.Cond.and given_1 narrow_1).before args s = true from hpre))
  obtain ⟨h1, h2⟩ := and_e hg
  obtain ⟨w0, w1, w2, rfl⟩ : ∃ w0 w1 w2 : Value, args = #[w0, w1, w2] := by
    have hs : args.size = 3 := by simpa [Cond.value, given_1] using h1
    obtain ⟨L⟩ := args
    match L, hs with
    | [w0, w1, w2], _ => exact ⟨w0, w1, w2, rfl⟩
  have hw := fun d (hd : d ∈ tables_1) => atoms_spec (ws := Jvm.Cond.code x code maxLocals ret :: tables_1) hat d (List.mem_cons_of_mem _ hd)
  have hfit : Fit s := fun {y c} hc i hi => by
    obtain ⟨ha, rfl⟩ := Array.getElem?_eq_some_iff.mp hc
    have q := List.all_eq_true.mp ((Array.all_eq_true_iff_forall_mem.mp hF) _ (Array.getElem_mem ha)) i (List.mem_range.mpr hi)
    simpa [Array.getElem?_eq_getElem hi] using q
  obtain ⟨ha0, hr0⟩ := and_e h2
  obtain ⟨xx, ev0⟩ := is_v ha0
  obtain rfl : w0 = (.int xx) := Option.some.inj ev0
  obtain ⟨ha1, hr1⟩ := and_e hr0
  obtain ⟨yy, ev1⟩ := is_v ha1
  obtain rfl : w1 = (.int yy) := Option.some.inj ev1
  obtain ⟨zz, ev2⟩ := is_v hr1
  obtain rfl : w2 = (.int zz) := Option.some.inj ev2
  obtain ⟨n, o, h1, h2, h3, _, L, rfl, hQ, hq⟩ := rm0 l s _ hw tables_1 xx yy zz s.heap s.heap.size (Nat.le_refl _)  p e ha hc hk s m _ below hf ((Spec.applies_iff_loose hf).mp happ).1 ⟨rfl, State.Warmed39.refl s, rfl⟩ trivial
  obtain ⟨rfl, N, -⟩ := hQ
  refine ⟨n, _, h1, h2, h3, hpost _ _ _ _ _ _ ⟨Cond.after_iff.mpr rfl, Cond.after_iff.mpr (eq_i res_at (Term.int_eval (1)) rfl), trivial⟩ ⟨hq.1, hq.2.1, (hq.2.2.sift fun y hy => Or.inr (N y hy)).mono (by decide) (by decide)⟩⟩
theorem main_1_1 : Claimed_1_1 := comes_1 fun _ _ _ _ _ _ h hF => ⟨h.1, hF⟩
theorem main_1_2 : Claimed_1_2 := comes_1 fun _ _ _ _ _ _ h hF => ⟨h.2.1, hF⟩
end Jvm.Pilot.@@N@@
namespace Jvm.Pilot.@@N@@
open Jvm Jvm.ClassFile Sem Op Lib Jvm.Free Jvm.Stand Jvm.Pilot.@@N@@.Jvm.D
/-! MADE BY PROGRAM (witnessworld.py) out of the Statement's table words and the real class files: 9 classes; the members and pool entries that the words name. The judged class is class 1, her method 1. -/
namespace start1
open Jvm.ClassFile
def u (s : String) : CpInfo := .utf8 (stringToUtf16 s)
/-- a pool by its gaps: so many unusable entries, then the entry; so many at the end -/
def gap : Nat → List CpInfo → List CpInfo
  | 0, r => r
  | n + 1, r => .unusable :: gap n r
def poolList (es : List (Nat × CpInfo)) (last : Nat) : List CpInfo := es.foldr (fun e r => gap e.1 (e.2 :: r)) (gap last [])
def pool (es : List (Nat × CpInfo)) (last : Nat) : Array CpInfo := ⟨poolList es last⟩
def fileOf (pool : Array CpInfo) (this : Nat) (attrs : Array Attribute := #[]) (ms : Array MethodInfo := #[]) (fl : Nat := 33) (sup : Nat := 0) (ifs : Array Nat := #[]) (fds : Array FieldInfo := #[]) : ClassFile where
  minorVersion := 0
  majorVersion := 65
  constantPool := pool
  accessFlags := fl
  thisClass := this
  superClass := sup
  interfaces := ifs
  fields := fds
  methods := ms
  attributes := attrs
def plain (name : String) (sup : Option ClassId) : Class where
  name := name
  kind := .ordinary
  loader := none
  accessFlags := 33
  super := sup
  interfaces := #[]
  cf := none
  fields := #[]
  methods := #[]
  instanceTypes := #[]
  staticTypes := #[]
  resolved := #[]
  callSites := []
  init := .initialized
  statics := none
  mirror := none

def pool0 : Array CpInfo := pool [(5, u "<init>"), (0, u "()V"), (1, .class_ 10), (1, u "java/lang/Object")] 113

def k0m0 : Method := { name := "<init>", desc := "()V", sig := { parameters := [], returnType := none }, accessFlags := 1, code := none }
/-- java/lang/Object -/
def k0 : Class := { plain "java/lang/Object" none with
  accessFlags := 33
  interfaces := #[]
  cf := some (fileOf pool0 8 #[] #[{ accessFlags := 1, nameIndex := 5, descriptorIndex := 6, attributes := #[] }] 33 0 #[] #[])
  fields := #[]
  methods := #[k0m0]
  instanceTypes := #[]
  staticTypes := #[]
  resolved := Array.replicate 124 none
  statics := none }

def pool1 : Array CpInfo := pool [(2, .class_ 4), (1, u "java/lang/Object"), (0, u "<init>"), (0, u "()V"), (0, .methodref 8 9), (0, .class_ 10), (0, .nameAndType 11 12), (0, u "com/example/festung/festung/engine/Constraint"), (0, u "identity"), (0, u "(I)[I"), (0, .integer 2147483647), (0, .class_ 15), (0, u "com/example/festung/festung/engine/ConstraintIdentityPinLaw"), (2, u "law"), (0, u "(III)Z")] 5

def k1m0 : Method := { name := "<init>", desc := "()V", sig := { parameters := [], returnType := none }, accessFlags := 2, code := none }
def k1c1 : Code := { maxStack := 3, maxLocals := 7, code := code, exceptionTable := #[], attributes := #[] }
def k1m1 : Method := { name := "law", desc := "(III)Z", sig := { parameters := [.int, .int, .int], returnType := some .boolean }, accessFlags := 9, code := some k1c1 }
/-- com/example/festung/festung/engine/ConstraintIdentityPinLaw -/
def k1 : Class := { plain "com/example/festung/festung/engine/ConstraintIdentityPinLaw" (some 0) with
  accessFlags := 49
  interfaces := #[]
  cf := some (fileOf pool1 14 #[] #[{ accessFlags := 2, nameIndex := 5, descriptorIndex := 6, attributes := #[] }, { accessFlags := 9, nameIndex := 18, descriptorIndex := 19, attributes := #[] }] 49 2 #[] #[])
  fields := #[]
  methods := #[k1m0, k1m1]
  instanceTypes := #[]
  staticTypes := #[]
  resolved := Array.replicate 25 none
  statics := none }

def pool2 : Array CpInfo := pool [(2, .class_ 4), (1, u "java/lang/Object"), (3, .class_ 10), (1, u "com/example/festung/festung/engine/Constraint"), (0, u "dbm"), (0, u "Lcom/example/festung/festung/engine/Dbm;"), (2, u "bools"), (0, u "[Lcom/example/festung/festung/engine/Truth;"), (79, u "identity"), (0, u "(I)[I")] 101

def k2c0 : Code := { maxStack := 3, maxLocals := 3, code := prog_5_method_14_code, exceptionTable := #[], attributes := #[] }
def k2m0 : Method := { name := "identity", desc := "(I)[I", sig := { parameters := [.int], returnType := some (.array .int) }, accessFlags := 8, code := some k2c0 }
/-- com/example/festung/festung/engine/Constraint -/
def k2 : Class := { plain "com/example/festung/festung/engine/Constraint" (some 0) with
  accessFlags := 32
  interfaces := #[]
  cf := some (fileOf pool2 8 #[] #[{ accessFlags := 8, nameIndex := 96, descriptorIndex := 97, attributes := #[] }] 32 2 #[] #[{ accessFlags := 18, nameIndex := 11, descriptorIndex := 12, attributes := #[] }, { accessFlags := 18, nameIndex := 15, descriptorIndex := 16, attributes := #[] }])
  fields := #[{ name := "dbm", type := (.object "com/example/festung/festung/engine/Dbm"), accessFlags := 18, slot := 0, constantValue := 0 }, { name := "bools", type := (.array (.object "com/example/festung/festung/engine/Truth")), accessFlags := 18, slot := 1, constantValue := 0 }]
  methods := #[k2m0]
  instanceTypes := #[(.object "com/example/festung/festung/engine/Dbm"), (.array (.object "com/example/festung/festung/engine/Truth"))]
  staticTypes := #[]
  resolved := Array.replicate 199 none
  statics := none }

def pool3 : Array CpInfo := pool [(1, u "java/lang/Cloneable"), (0, .class_ 1), (0, u "java/lang/Object"), (0, .class_ 3)] 3

/-- java/lang/Cloneable -/
def k3 : Class := { plain "java/lang/Cloneable" (some 0) with
  accessFlags := 1537
  interfaces := #[]
  cf := some (fileOf pool3 2 #[] #[] 1537 4 #[] #[])
  fields := #[]
  methods := #[]
  instanceTypes := #[]
  staticTypes := #[]
  resolved := Array.replicate 8 none
  statics := none }

def pool4 : Array CpInfo := pool [(1, u "java/io/Serializable"), (0, .class_ 1), (0, u "java/lang/Object"), (0, .class_ 3)] 3

/-- java/io/Serializable -/
def k4 : Class := { plain "java/io/Serializable" (some 0) with
  accessFlags := 1537
  interfaces := #[]
  cf := some (fileOf pool4 2 #[] #[] 1537 4 #[] #[])
  fields := #[]
  methods := #[]
  instanceTypes := #[]
  staticTypes := #[]
  resolved := Array.replicate 8 none
  statics := none }

/-- the primitive byte -/
def k5 : Class := { plain "byte" none with kind := .primitive 'B', accessFlags := 0x411 }
/-- [B -/
def k6 : Class := { plain "[B" (some 0) with kind := .array 5 .byte, interfaces := #[3, 4], accessFlags := 1041 }

/-- the primitive int -/
def k7 : Class := { plain "int" none with kind := .primitive 'I', accessFlags := 0x411 }
/-- [I -/
def k8 : Class := { plain "[I" (some 0) with kind := .array 7 .int, interfaces := #[3, 4], accessFlags := 1041 }

def heap : Heap := #[]
def classes : Array Class := #[k0, k1, k2, k3, k4, k5, k6, k7, k8]
def interned : List (Array UInt16 × Addr) := []
def slotsUsed : Nat := 0
def theMethod : MethodId := ⟨1, 1⟩
def args0 : Array Value := #[.int 5, .int 7, .int 9]
def aboutOver (below : List Frame) : State where
  vm := { classes := classes, interned := interned.toArray }
  heap := heap
  slotsUsed := slotsUsed
  threads := #[{ frames := .invoking theMethod args0 :: below }]
def below0 : List Frame := [.native { method := ⟨0, 0⟩, args := #[] }]
def about1 : State := aboutOver below0
def p0 : Program := .bare "" "" ""
def e0 : Env := launch0.env 0 0 0
theorem w_frames : about1.frames = Frame.invoking theMethod args0 :: below0 := rfl
set_option maxRecDepth 65536 in
theorem w_args : argsFit about1.vm theMethod args0 = true := by decide +kernel
set_option maxRecDepth 65536 in
theorem w_heap : heapFits about1 = true := by decide +kernel
set_option maxRecDepth 65536 in
theorem w_runnable : about1.curStatus? = some .runnable := by decide +kernel
set_option maxRecDepth 65536 in
theorem w_alone : about1.alone = true := by decide +kernel
set_option maxRecDepth 65536 in
theorem w_named : about1.methodNamed? x = some theMethod := by decide +kernel
set_option maxRecDepth 65536 in
theorem w_hears : about1.hears theMethod below0 = true := by decide +kernel
set_option maxRecDepth 65536 in
theorem w_ripe : about1.ripe theMethod args0 below0 = true := by decide +kernel
theorem w_running : about1.status = .running := rfl
set_option maxRecDepth 65536 in
theorem w_room : about1.hasRoom e0.platform room_1 = true :=
  launch0.hasRoom_least _ room_1 (by decide +kernel) (by decide +kernel) (by decide +kernel) (by decide +kernel) (by decide +kernel) (by decide +kernel)
theorem allAtoms_all (ts : List Jvm.Cond) (a : Array Jvm.Value) (st : Jvm.State) : (allAtoms ts).before a st = ts.all (fun c => c.before a st) := by
  induction ts with
  | nil => rfl
  | cons c t ih =>
    show (Jvm.Cond.and c (allAtoms t)).before a st = _
    rw [Jvm.Cond.before_and, ih, List.all_cons]
def words1 : List Jvm.Cond := Jvm.Cond.code x code maxLocals ret :: tables_1
/-- a 'code' word, met by the world's own term for the bytes: nothing is compared byte by byte -/
theorem code_word {y : MethodName} {bytes : ByteArray} {mx : Nat} {rt : Option FieldType} {a : Array Value} {s : State} {m : MethodId} {meth : Method} {c : Code} (h1 : s.methodNamed? y = some m) (h2 : s.vm.method? m = some meth) (h3 : meth.code = some c) (h4 : c.code = bytes)
    (h5 : (c.maxLocals == mx && c.exceptionTable.isEmpty && decide (c.maxStack ≤ mostOperands) && decide (meth.sig.returnType = rt) && !meth.locks && decide (parseMethodDescriptor y.desc = some meth.sig)) = true) : (Jvm.Cond.code y bytes mx rt).before a s = true := by
  simp only [Bool.and_eq_true, beq_iff_eq, Bool.not_eq_true', decide_eq_true_eq] at h5
  obtain ⟨⟨⟨⟨⟨g1, g2⟩, g3⟩, g4⟩, g5⟩, g6⟩ := h5
  simp [Cond.before, Cond.holds, Cond.value, h1, h2, h3, h4, g1, g2, g3, g4, g5, g6]
def isCode : Jvm.Cond → Bool
  | .code _ _ _ _ => true
  | _ => false
theorem all_split {L : List Jvm.Cond} {P : Jvm.Cond → Bool} (h1 : L.all (fun c => isCode c || P c) = true) (h2 : ∀ c ∈ L.filter isCode, P c = true) : L.all P = true := by
  refine List.all_eq_true.mpr fun c hc => ?_
  have h := List.all_eq_true.mp h1 c hc
  rcases Bool.eq_false_or_eq_true (isCode c) with hi | hi
  · exact h2 c (List.mem_filter.mpr ⟨hc, hi⟩)
  · simpa [hi] using h
set_option maxRecDepth 65536 in
theorem w_c0 : (Jvm.Cond.code x code maxLocals ret).before args0 about1 = true := code_word (m := ⟨1, 1⟩) (meth := k1m1) (c := k1c1) (by decide +kernel) rfl rfl rfl (by decide +kernel)
set_option maxRecDepth 65536 in
theorem w_c1 : (Jvm.Cond.code ({ cls := "com/example/festung/festung/engine/Constraint", name := "identity", desc := "(I)[I" } : Jvm.MethodName) prog_5_method_14_code (3 : Nat) (Option.some (Jvm.ClassFile.FieldType.array Jvm.ClassFile.FieldType.int))).before args0 about1 = true := code_word (m := ⟨2, 0⟩) (meth := k2m0) (c := k2c0) (by decide +kernel) rfl rfl rfl (by decide +kernel)
def codes1 : List Jvm.Cond := [Jvm.Cond.code x code maxLocals ret, Jvm.Cond.code ({ cls := "com/example/festung/festung/engine/Constraint", name := "identity", desc := "(I)[I" } : Jvm.MethodName) prog_5_method_14_code (3 : Nat) (Option.some (Jvm.ClassFile.FieldType.array Jvm.ClassFile.FieldType.int))]
set_option maxRecDepth 65536 in
theorem codes_eq : words1.filter isCode = codes1 := rfl
theorem w_codes : ∀ c ∈ words1.filter isCode, c.before args0 about1 = true := by
  rw [codes_eq]
  intro c hc
  simp only [codes1, List.mem_cons, List.not_mem_nil, or_false] at hc
  rcases hc with rfl | rfl
  · exact w_c0
  · exact w_c1
set_option maxRecDepth 65536 in
theorem w_t1 : words1.all (fun c => isCode c || c.before args0 about1) = true := by decide +kernel
theorem w_tables : (allAtoms (Jvm.Cond.code x code maxLocals ret :: tables_1)).before args0 about1 = true := by
  rw [allAtoms_all]
  show words1.all (fun c => c.before args0 about1) = true
  refine all_split ?_ w_codes
  rw [w_t1]
set_option maxRecDepth 65536 in
theorem w_case : (Jvm.Cond.and given_1 narrow_1).before args0 about1 = true := by decide +kernel
theorem w_applies : (headSpec (Jvm.Cond.code x code maxLocals ret :: tables_1) room_1).applies x e0.platform about1 = true :=
  (Spec.applies_iff w_frames).mpr ⟨w_running, w_runnable, w_alone, w_named, w_hears, w_ripe, w_room, w_tables⟩
theorem atStart : AtStart classFile x code maxLocals ret World_1 tables_1 room_1 Calls_1 rest_1 Pre_1 launch0 p0 e0 about1 theMethod args0 below0 :=
  ⟨lists_1, trivial, launch0.admits_env _ _ _, launch0.least_env, fairChoices_fair.cas, fairChoices_fair.clock, w_frames, w_args, w_heap, w_applies, trivial, trivial, w_case⟩
end start1
theorem witness_1 : WitnessClaimed_1 := ⟨start1.p0, start1.e0, start1.about1, start1.theMethod, start1.args0, start1.below0, start1.atStart⟩
end Jvm.Pilot.@@N@@
