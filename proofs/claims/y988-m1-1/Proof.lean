import JvmDerived
import JvmDerived.Pilot.@@N@@Statement
import JvmDerived.Pilot.@@N@@Code
set_option linter.unusedVariables false
set_option linter.unusedSimpArgs false
namespace Jvm.Pilot.@@N@@
open Jvm Jvm.ClassFile Sem Op Lib Jvm.Free Jvm.Stand Jvm.LawKit Jvm.RoadKit Bundle Jvm.Pilot.@@N@@.Jvm.D
abbrev own_Go (tb : Tables) (e : Env) (below : List Frame) (P : State → Outcome → Prop) (st : State) : Prop := ∃ U o, Steps tb e below st U ∧ P U o
theorem own_go {tb : Tables} {e : Env} {below : List Frame} {P : State → Outcome → Prop} {st st' : State} (h : ∀ t, Steps tb e below st' t → Steps tb e below st t) (k : own_Go tb e below P st') : own_Go tb e below P st := by
  obtain ⟨U, o, h1, h2⟩ := k; exact ⟨U, o, h _ h1, h2⟩
theorem own_hw {a0 : Array Value} {Z : State} {d : Jvm.Cond} (hw : ∀ d ∈ tables_1, d.before a0 Z = true) (i : Nat) (h : tables_1[i]? = some d := by rfl) : d.before a0 Z = true := hw _ (List.mem_of_getElem? h)
theorem own_ne {a b : Nat} (h : a < b ∨ b < a) : a ≠ b := by omega
theorem own_cat {v : Value} (h : v.isRef = true) : v.category = 1 := by rcases ref_cases h with rfl | ⟨a, rfl⟩ <;> rfl
theorem own_nar_ref {t : FieldType} {v : Value} (h : v.isRef = true) : narrow t v = v := by rcases ref_cases h with rfl | ⟨a, rfl⟩ <;> cases t <;> rfl
theorem own_fit_ref {t : FieldType} {v : Value} (h : v.isRef = true) (ht : t.isReference = true := by rfl) : fits t v = true := by rcases ref_cases h with rfl | ⟨a, rfl⟩ <;> cases t <;> first | rfl | (cases ht)
theorem own_widen {p : Program} {l : Launch} {e : Env} {R : Room} {s : State} {m : MethodId} {args : Array Value} {below : List Frame} {meth : Method} {c : Code} {T : State} {locs : List Loc} {cells slots cells' slots' : Nat} (X : Stand p l e R s m args below meth c T locs cells slots) (h1 : cells ≤ cells') (h2 : slots ≤ slots') : Stand p l e R s m args below meth c T locs cells' slots' :=
  { X with same := X.same.mono h1 h2 }
theorem own_sel_priv {s : State} {args : Array Value} {y : MethodName} {n : Nat} (wi : (Jvm.Cond.instantiable y.cls n).before args s = true) (hp : s.PrivateAt y) (hinst : (Jvm.Cond.instanceMethod y).before args s = true) (hy : y.cls ≠ "java/lang/invoke/MethodHandle" ∧ y.cls ≠ "java/lang/invoke/VarHandle") : (Jvm.Cond.selects y.cls y y).before args s = true := by
  obtain ⟨c, k, h1, h2, -, h4, -⟩ := Cond.instantiable_spec wi
  exact selects_self_of_private h1 h2 (Bool.or_eq_false_iff.mp h4).1 hp hinst hy
theorem own_NS_root {Z : State} {a0 : Array Value} {O K : String} {n : Nat} (w : (Cond.noSuperclass O).before a0 Z = true) (wk : (Cond.instantiable K n).before a0 Z = true) (hn : O ≠ K) : NS Z O K := by
  obtain ⟨c, k, h1, h2, h3, -, -⟩ := Cond.noSuperclass_spec w
  obtain ⟨t, -, g1, -⟩ := Cond.instantiable_spec wk
  have ne := ids_ne h1 g1 hn
  refine ⟨c, t, h1, g1, fun fuel => ?_⟩
  cases fuel with
  | zero => rfl
  | succ f => simp [Vm.isSubclassAux, ne, h2, h3]
theorem own_NS_no {Z : State} {a0 : Array Value} {C S K : String} {n : Nat} (w : (Cond.superclass C S).before a0 Z = true) (wk : (Cond.instantiable K n).before a0 Z = true) (m : NS Z C K) (hn : C ≠ K) : ∃ c t, Z.vm.findClass C = some c ∧ Z.vm.findClass K = some t ∧ Z.vm.assignable c t = false := by
  obtain ⟨c, t, h0, g0, n3⟩ := m
  obtain ⟨p, k, kp, h1, h2, h3, h4, h5, -, h7⟩ := Cond.superclass_spec h0 w
  obtain ⟨t', k', q1, g2, g5, g6, -, -⟩ := Cond.instantiable_spec wk
  cases g0.symm.trans q1
  have g7 : k'.isInterface = false := (Bool.or_eq_false_iff.mp g6).1
  have ne := ids_ne h0 g0 hn
  refine ⟨c, t, h0, g0, ?_⟩
  show Z.vm.assignableAux (255 + 1) c t = false
  simp [Vm.assignableAux, ne, h2, g2, h5, g5, g7, Vm.isSubclass, n3]
theorem own_sta_keep {Z : State} {h h' : Heap} {ws : List Addr} {C n d : String} {v : Value} (F : Sta Z h C n d v) (K : Keep h h' ws) (q : ∀ x ∈ ws, ∀ c : Cell, h[x]? = some c → c.vm.isStatics = false) : Sta Z h' C n d v := by
  obtain ⟨cf, i, k, f, st, cell, h1, h2, h3, h4, h5, h6, h7⟩ := F
  exact ⟨cf, i, k, f, st, cell, h1, h2, h3, h4, K.2.1 st cell h5 (fun z => by rw [q st z cell h5] at h6; cases h6), h6, h7⟩
theorem own_pl_exa {Z : State} {h : Heap} {a : Addr} {C : String} (F : Exa Z h a C) : ∀ c : Cell, h[a]? = some c → c.vm.isStatics = false := fun c hc => by
  obtain ⟨c1, k, h1, -, -, h4, -⟩ := F; cases h1.symm.trans hc; exact h4
theorem own_pl_fld {Z : State} {h : Heap} {a : Addr} {C n d : String} {v : Value} (F : Fld Z h a C n d v) : ∀ c : Cell, h[a]? = some c → c.vm.isStatics = false := old_plain F
theorem own_pl_arv {Z : State} {h : Heap} {a : Addr} {k : ClassId} {ty : FieldType} {n : Int32} {vs : List Value} {d : Value} (F : Arv Z h a k ty n vs d) : ∀ c : Cell, h[a]? = some c → c.vm.isStatics = false := fun c hc => by
  obtain ⟨c1, A, -⟩ := F; cases A.1.symm.trans hc; exact A.plain
def own_lmin (a b : Int64) : Int64 := if b < a then b else a
def own_lmax (a b : Int64) : Int64 := if a < b then b else a
def own_mc (w : Int64) (l s : Int32) : Int64 := (((2 : Int64) * (l / s).toInt64) + (1 : Int64)) * w
def own_pr (p w : Int64) (l s : Int32) : Int64 := if 0 < l then own_lmax (own_lmin p (own_mc w l s)) (own_mc w (l - (1 : Int32)) s) else own_lmin p (own_mc w l s)
def own_exp (p w : Int64) (l s : Int32) : Int64 := if own_mc w l s < p then own_mc w l s else if 0 < l then (if p < own_mc w (l - (1 : Int32)) s then own_mc w (l - (1 : Int32)) s else p) else p
theorem own_div (l s : Int32) (hl : 0 ≤ l.toInt) (hs : 1 ≤ s.toInt) : (l / s).toInt = l.toInt / s.toInt := by
  rw [Int32.toInt_div_of_ne_right l s (fun q => by rw [q] at hs; exact absurd hs (by decide)), Int.tdiv_eq_ediv_of_nonneg hl]
theorem own_mul64 (x y : Int64) (a b : Int) (hx : x.toInt = a) (hy : y.toInt = b) (h0 : 0 ≤ a * b) (h1 : a * b ≤ 1000000) : (x * y).toInt = a * b := by
  have h := c_lmul x y
  have r := rng64 (x * y)
  rw [hx, hy] at h
  generalize a * b = m at *
  omega
theorem own_mc_int (w : Int64) (l s : Int32) (hl : 0 ≤ l.toInt ∧ l.toInt ≤ 7) (hs : 1 ≤ s.toInt ∧ s.toInt ≤ 4) (hw : 1 ≤ w.toInt ∧ w.toInt ≤ 15) :
    (own_mc w l s).toInt = (2 * (l.toInt / s.toInt) + 1) * w.toInt ∧ 0 ≤ (2 * (l.toInt / s.toInt) + 1) * w.toInt ∧ (2 * (l.toInt / s.toInt) + 1) * w.toInt ≤ 225 := by
  have q := own_div l s hl.1 hs.1
  have q0 : 0 ≤ l.toInt / s.toInt := Int.ediv_nonneg hl.1 (by omega)
  have q1 : l.toInt / s.toInt ≤ 7 := Int.le_trans (Int.ediv_le_self _ hl.1) hl.2
  generalize l.toInt / s.toInt = k at *
  have e1 : ((l / s).toInt64).toInt = k := by rw [c_i2l]; exact q
  have e2 : ((2 : Int64) * (l / s).toInt64).toInt = 2 * k := own_mul64 _ _ 2 k rfl e1 (by omega) (by omega)
  have e3 : (((2 : Int64) * (l / s).toInt64) + (1 : Int64)).toInt = 2 * k + 1 := by
    have h := c_ladd ((2 : Int64) * (l / s).toInt64) 1
    have r := rng64 (((2 : Int64) * (l / s).toInt64) + (1 : Int64))
    rw [e2, show (1 : Int64).toInt = 1 from rfl] at h; omega
  have b1 : 0 ≤ (2 * k + 1) * w.toInt := Int.mul_nonneg (by omega) (by omega)
  have b2 : (2 * k + 1) * w.toInt ≤ 15 * 15 := Int.mul_le_mul (by omega) hw.2 (by omega) (by omega)
  refine ⟨own_mul64 _ _ _ _ e3 rfl b1 (by omega), b1, by omega⟩
theorem own_mono (w : Int64) (l s : Int32) (hl : 0 ≤ l.toInt ∧ l.toInt ≤ 7) (hs : 1 ≤ s.toInt ∧ s.toInt ≤ 4) (hw : 1 ≤ w.toInt ∧ w.toInt ≤ 15) (h0 : 0 < l) : (own_mc w (l - (1 : Int32)) s).toInt ≤ (own_mc w l s).toInt := by
  rw [Int32.lt_iff_toInt_lt, show (0 : Int32).toInt = 0 from rfl] at h0
  have e : (l - (1 : Int32)).toInt = l.toInt - 1 := by
    have h := c_isub l 1
    have r := rng32 (l - 1)
    rw [show (1 : Int32).toInt = 1 from rfl] at h; omega
  rw [(own_mc_int w l s hl hs hw).1, (own_mc_int w (l - (1 : Int32)) s (by omega) hs hw).1, e]
  have d : (l.toInt - 1) / s.toInt ≤ l.toInt / s.toInt := Int.ediv_le_ediv (by omega) (by omega)
  exact Int.mul_le_mul_of_nonneg_right (by omega) (by omega)
theorem own_pr_exp (p w : Int64) (l s : Int32) (hl : 0 ≤ l.toInt ∧ l.toInt ≤ 7) (hs : 1 ≤ s.toInt ∧ s.toInt ≤ 4) (hw : 1 ≤ w.toInt ∧ w.toInt ≤ 15) : own_pr p w l s = own_exp p w l s := by
  unfold own_pr own_exp
  by_cases h1 : own_mc w l s < p
  · have e1 : own_lmin p (own_mc w l s) = own_mc w l s := if_pos h1
    rw [e1, if_pos h1]
    by_cases h2 : 0 < l
    · rw [if_pos h2]
      have m := own_mono w l s hl hs hw h2
      exact if_neg (by rw [Int64.lt_iff_toInt_lt]; omega)
    · rw [if_neg h2]
  · have e1 : own_lmin p (own_mc w l s) = p := if_neg h1
    rw [e1, if_neg h1]
    by_cases h2 : 0 < l
    · rw [if_pos h2, if_pos h2]; rfl
    · rw [if_neg h2, if_neg h2]
theorem own_pr_le (p w : Int64) (l s : Int32) (hl : 0 ≤ l.toInt ∧ l.toInt ≤ 7) (hs : 1 ≤ s.toInt ∧ s.toInt ≤ 4) (hw : 1 ≤ w.toInt ∧ w.toInt ≤ 15) : (own_pr p w l s).toInt ≤ 225 := by
  have b := own_mc_int w l s hl hs hw
  rw [own_pr_exp p w l s hl hs hw]
  unfold own_exp
  by_cases h1 : own_mc w l s < p
  · rw [if_pos h1]; omega
  · rw [if_neg h1]
    rw [Int64.lt_iff_toInt_lt] at h1
    by_cases h2 : 0 < l
    · have m := own_mono w l s hl hs hw h2
      rw [if_pos h2]; split <;> omega
    · rw [if_neg h2]; omega
theorem own_negneg (x : Int64) : -(-x) = x := Int64.neg_neg
theorem own_tp (x : Int64) (h : x.toInt ≤ 225) : ¬ ((own_lmin (9223372036854775807 : Int64) (-(-x))) + (1 : Int64)) < (-(-x)) := by
  rw [own_negneg]
  have e : own_lmin (9223372036854775807 : Int64) x = x := by
    unfold own_lmin
    exact if_pos (by rw [Int64.lt_iff_toInt_lt, show (9223372036854775807 : Int64).toInt = 9223372036854775807 from rfl]; omega)
  rw [e, Int64.lt_iff_toInt_lt]
  have hh := c_ladd x 1
  have r := rng64 (x + 1)
  have r2 := rng64 x
  rw [show (1 : Int64).toInt = 1 from rfl] at hh
  omega
theorem own_price (x : Int64) : (0 : Int64) - (-x) = x := by rw [Int64.sub_neg, Int64.zero_add]
theorem own_z1 (c : Int32) : ¬ (0 : Int32) < (c - c) := by rw [Int32.sub_self]; decide
theorem own_z2 (c : Int32) : ¬ (0 : Int32) < ((-c) + c) := by rw [Int32.add_comm, ← Int32.sub_eq_add_neg, Int32.sub_self]; decide
theorem own_z3 (t a b : Int32) (h : t = a + b) : ¬ (0 : Int32) < (((-t) + a) + b) := by
  have e : ((-t) + a) + b = 0 := by
    rw [h]
    apply Int32.toInt_inj.mp
    have h1 := c_ineg (a + b); have h2 := c_iadd (-(a + b)) a; have h3 := c_iadd (-(a + b) + a) b; have h4 := c_iadd a b
    have r := rng32 (-(a + b) + a + b)
    have : (0 : Int32).toInt = 0 := rfl
    omega
  rw [e]; decide
theorem own_tot (a b : Int32) : (((0 : Int64) + a.toInt64) + b.toInt64).toInt32 = a + b := by
  apply Int32.toInt_inj.mp
  have h1 := c_l2i (((0 : Int64) + a.toInt64) + b.toInt64)
  have h2 := c_ladd ((0 : Int64) + a.toInt64) b.toInt64
  have h3 := c_ladd (0 : Int64) a.toInt64
  have h4 := c_i2l a; have h5 := c_i2l b; have h6 := c_iadd a b
  have r1 := rng32 (a + b); have r2 := rng32 (((0 : Int64) + a.toInt64) + b.toInt64).toInt32
  have : (0 : Int64).toInt = 0 := rfl
  omega
theorem own_w (a b : Int32) (ha : 0 ≤ a.toInt ∧ a.toInt ≤ 7) (hb : 0 ≤ b.toInt ∧ b.toInt ≤ 7) : 1 ≤ ((((0 : Int64) + a.toInt64) + b.toInt64) + (1 : Int64)).toInt ∧ ((((0 : Int64) + a.toInt64) + b.toInt64) + (1 : Int64)).toInt ≤ 15 := by
  have h1 := c_ladd (((0 : Int64) + a.toInt64) + b.toInt64) 1
  have h2 := c_ladd ((0 : Int64) + a.toInt64) b.toInt64
  have h3 := c_ladd (0 : Int64) a.toInt64
  have h4 := c_i2l a; have h5 := c_i2l b
  have r1 := rng64 ((((0 : Int64) + a.toInt64) + b.toInt64) + (1 : Int64)); have r2 := rng64 (((0 : Int64) + a.toInt64) + b.toInt64); have r3 := rng64 ((0 : Int64) + a.toInt64)
  have z0 : (0 : Int64).toInt = 0 := rfl
  have z1 : (1 : Int64).toInt = 1 := rfl
  omega
theorem own_7 (x : Int32) : 0 ≤ (x &&& (7 : Int32)).toInt ∧ (x &&& (7 : Int32)).toInt ≤ 7 := c_and x 7 (by decide)
theorem own_4 (x : Int32) : 1 ≤ ((x &&& (3 : Int32)) + (1 : Int32)).toInt ∧ ((x &&& (3 : Int32)) + (1 : Int32)).toInt ≤ 4 := by
  have h := c_and x 3 (by decide)
  have h2 := c_iadd (x &&& 3) 1
  have r := rng32 ((x &&& 3) + 1)
  have z1 : (1 : Int32).toInt = 1 := rfl
  have z3 : (3 : Int32).toInt = 3 := rfl
  omega
theorem own_nz4 (x : Int32) (h : 1 ≤ x.toInt ∧ x.toInt ≤ 4) : x ≠ 0 := fun e => by rw [e] at h; exact absurd h.1 (by decide)
abbrev oi (x : Int32) : Slot := .val (.int x)
abbrev oj (x : Int64) : Slot := .val (.long x)
abbrev oR (x : Addr) : Slot := .val (.ref x)
abbrev oM0 : MethodName := ⟨"com/example/limpet/limpet/StickyShares", "marginalCost", "(II)J"⟩
abbrev oM1 : MethodName := ⟨"com/example/limpet/limpet/StickyShares", "load", "(I)I"⟩
abbrev oM2 : MethodName := ⟨"com/example/limpet/limpet/StickyShares", "price", "(I)J"⟩
abbrev oM3 : MethodName := ⟨"java/lang/Math", "min", "(JJ)J"⟩
abbrev oM4 : MethodName := ⟨"com/example/limpet/limpet/StickyShares", "groupArcs", "([I[I)[I"⟩
abbrev oM5 : MethodName := ⟨"java/lang/Math", "max", "(JJ)J"⟩
abbrev oM6 : MethodName := ⟨"com/example/limpet/limpet/StickyShares", "solve", "([I[J)V"⟩
abbrev oM7 : MethodName := ⟨"com/example/limpet/limpet/StickySharesPricePinLaw", "expected", "(JIIJ)J"⟩
abbrev oM8 : MethodName := ⟨"java/lang/Math", "min", "(II)I"⟩
abbrev oM9 : MethodName := ⟨"java/util/Arrays", "copyOf", "([II)[I"⟩
abbrev oM10 : MethodName := ⟨"java/util/Arrays", "fill", "([II)V"⟩
abbrev oM11 : MethodName := ⟨"com/example/limpet/limpet/StickyShares$NodeHeap", "<init>", "(I[J)V"⟩
abbrev oM12 : MethodName := ⟨"com/example/limpet/limpet/StickyShares", "<init>", "([I[I[I[I[I)V"⟩
abbrev oM13 : MethodName := ⟨"com/example/limpet/limpet/StickyShares", "anySource", "()Z"⟩
abbrev oS0 : String := "com/example/limpet/limpet/StickyShares"
abbrev oS1 : String := "com/example/limpet/limpet/StickyShares$NodeHeap"
abbrev oS2 : String := "topicArcStart"
abbrev oS3 : String := "balanceWeight"
theorem d5_0 : decode jdk_29_method_69_code 0 = .ok (.iload_n 0, 1) := by decide +kernel
theorem d5_1 : decode jdk_29_method_69_code 1 = .ok (.iload_n 1, 1) := by decide +kernel
theorem d5_2 : decode jdk_29_method_69_code 2 = .ok (.if_icmp .gt 7, 3) := by decide +kernel
theorem d5_9 : decode jdk_29_method_69_code 9 = .ok (.iload_n 1, 1) := by decide +kernel
theorem d5_10 : decode jdk_29_method_69_code 10 = .ok (.ireturn, 1) := by decide +kernel
theorem pn_5 : plainFor (⟨"java/lang/Math", "min", "(II)I"⟩ : MethodName) = true := by decide +kernel
theorem ef_rm5 (m : MethodId) (x0 : Int32) (x1 : Int32) : entryFrame m #[(.int x0), (.int x1)] 2 = mkF m 0 #[.val (.int x0), .val (.int x1)] [] := by first | (simp [entryFrame, mkF, argsToLocals, Value.category]; done) | rfl
def Qrm5 (Z : State)  (h0 : Heap) (n0 : Nat) (v : Option Value) (h : Heap) (L : List Loc) : Prop := (v = some (.int (2 : Int32))) ∧ (Fr n0 L) ∧ (h = h0)
set_option maxRecDepth 65536 in
set_option maxHeartbeats 40000000 in
theorem rm5 (l : Launch) (Z : State) (a0 : Array Value) (hw : ∀ d ∈ tables_1, d.before a0 Z = true) (ws : List Jvm.Cond)  (h0 : Heap) (n0 : Nat) (Z0 : n0 ≤ h0.size)  :
    MetFree l oM8 (head1 (Jvm.Cond.code oM8 jdk_29_method_69_code 2 (some .int) :: ws) ({ frames := 0, cells := 0, slots := 0, locals := 0 } : Room)) (fun a U => a = #[(.int (3 : Int32)), (.int (2 : Int32))] ∧ Z.Warmed39 U.vm ∧ U.heap = h0) (fun _ _ _ _ _ => True) (fun _ U o U' => ∃ v L, o = .returned v ∧ Qrm5 Z  h0 n0 v U'.heap L ∧ FrameEnd U o U' L ({ frames := 0, cells := 0, slots := 0, locals := 0 } : Room).cells ({ frames := 0, cells := 0, slots := 0, locals := 0 } : Room).slots) := by
  refine MetFree.of_bodySF pn_5 hisR ?_
  intro p e s m args below meth c s₁ Bd hml0 hP0 hK
  obtain ⟨rfl, hZ, hh⟩ := hP0
  have hx := Bd.exec
  have hby := Bd.bytes
  have hml : c.maxLocals = 2 := hml0
  have hown : s.vm.findClass "java/lang/Math" = some m.cls := findClass_of_methodNamed Bd.named
  have hnm := (name_of_methodNamed Bd.named Bd.method).1
  have X0 : Stand p l e ({ frames := 0, cells := 0, slots := 0, locals := 0 } : Room) s m #[(.int (3 : Int32)), (.int (2 : Int32))] below meth c s₁ [] 0 0 := Stand.of_body Bd
  have e0 : s₁.heap = h0 := by rw [← hh, Bd.state]; rfl
  have N0 := Fr.nil n0
  suffices own_H : ∀ (P : State → Outcome → Prop), (∀ U o, U.status = .running → Ended U below o → (∃ v L, o = .returned v ∧ Qrm5 Z  h0 n0 v U.heap L ∧ FrameEnd s o U L ({ frames := 0, cells := 0, slots := 0, locals := 0 } : Room).cells ({ frames := 0, cells := 0, slots := 0, locals := 0 } : Room).slots) → P U o) → own_Go p.tables e below P (s₁.setTop (mkF m 0 #[oi 3, oi 2] [])) from own_go (fun _ k => castTop (ef_rm5 m (3 : Int32) (2 : Int32)) k) (own_H _ (fun U o h1 h2 h3 => ⟨h1, h2, h3⟩))
  intro P hP
  refine own_go (st' := s₁.setTop (mkF m 1 #[oi 3, oi 2] [(.int (3 : Int32))])) (fun _ k => XS.iloadN X0.here hx rfl (hb hby d5_0) rfl k) ?_
  refine own_go (st' := s₁.setTop (mkF m 2 #[oi 3, oi 2] [(.int (2 : Int32)), (.int (3 : Int32))])) (fun _ k => XS.iloadN X0.here hx rfl (hb hby d5_1) rfl k) ?_
  have hc1 : (2 : Int32) < (3 : Int32) := by decide
  refine own_go (st' := s₁.setTop (mkF m 9 #[oi 3, oi 2] [])) (fun _ k => XS.icmpYes X0.here hx rfl (pc0 := 2) (pc' := 9) rfl (hb hby d5_2) rfl (tlt hc1).2.2.1 (by decide) (by decide) k) ?_
  refine own_go (st' := s₁.setTop (mkF m 10 #[oi 3, oi 2] [(.int (2 : Int32))])) (fun _ k => XS.iloadN X0.here hx rfl (hb hby d5_9) rfl k) ?_
  obtain ⟨fs, hr, hrun, hended, hW, hsame⟩ := X0.leave (v := some (.int (2 : Int32))) (fun h => by rw [Bd.returns] at h; cases h)
  refine ⟨_, _, ?_, hP _ _ hrun hended ⟨_, _, rfl, ?_, ⟨_, rfl⟩, hW, hsame.mono (by decide) (by decide)⟩⟩
  · exact retOut X0 hx Bd.returns rfl (Or.inl ⟨rfl, Or.inl rfl, _, rfl⟩) (hb hby d5_10) hr
  · show Qrm5 Z  h0 n0 _ s₁.heap _
    rw [e0]
    exact ⟨rfl, N0, rfl⟩
theorem pd_0 : parseMethodDescriptor "(II)I" = some ⟨[.int, .int], some .int⟩ := by decide +kernel
theorem d4_0 : decode jdk_65_method_123_code 0 = .ok (.iload_n 1, 1) := by decide +kernel
theorem d4_1 : decode jdk_65_method_123_code 1 = .ok (.aload_n 0, 1) := by decide +kernel
theorem d4_2 : decode jdk_65_method_123_code 2 = .ok (.arraylength, 1) := by decide +kernel
theorem d4_3 : decode jdk_65_method_123_code 3 = .ok (.if_icmp .ne 11, 3) := by decide +kernel
theorem d4_14 : decode jdk_65_method_123_code 14 = .ok (.iload_n 1, 1) := by decide +kernel
theorem d4_15 : decode jdk_65_method_123_code 15 = .ok (.newarray .int, 2) := by decide +kernel
theorem d4_17 : decode jdk_65_method_123_code 17 = .ok (.astore_n 2, 1) := by decide +kernel
theorem d4_18 : decode jdk_65_method_123_code 18 = .ok (.aload_n 0, 1) := by decide +kernel
theorem d4_19 : decode jdk_65_method_123_code 19 = .ok (.iconst 0, 1) := by decide +kernel
theorem d4_20 : decode jdk_65_method_123_code 20 = .ok (.aload_n 2, 1) := by decide +kernel
theorem d4_21 : decode jdk_65_method_123_code 21 = .ok (.iconst 0, 1) := by decide +kernel
theorem d4_22 : decode jdk_65_method_123_code 22 = .ok (.aload_n 0, 1) := by decide +kernel
theorem d4_23 : decode jdk_65_method_123_code 23 = .ok (.arraylength, 1) := by decide +kernel
theorem d4_24 : decode jdk_65_method_123_code 24 = .ok (.iload_n 1, 1) := by decide +kernel
theorem d4_25 : decode jdk_65_method_123_code 25 = .ok (.invokestatic 304, 3) := by decide +kernel
theorem d4_28 : decode jdk_65_method_123_code 28 = .ok (.invokestatic 150, 3) := by decide +kernel
theorem d4_31 : decode jdk_65_method_123_code 31 = .ok (.aload_n 2, 1) := by decide +kernel
theorem d4_32 : decode jdk_65_method_123_code 32 = .ok (.areturn, 1) := by decide +kernel
theorem pn_4 : plainName "java/util/Arrays" = true := by first | (simp [plainName, overriddenIn]; done) | decide +kernel
theorem ef_rm4 (m : MethodId) (x0 : Addr) (x1 : Int32) : entryFrame m #[(.ref x0), (.int x1)] 3 = mkF m 0 #[.val (.ref x0), .val (.int x1), .unset] [] := by first | (simp [entryFrame, mkF, argsToLocals, Value.category]; done) | rfl
def Qrm4 (Z : State) (ko : Addr) (kk : ClassId) (h0 : Heap) (n0 : Nat) (v : Option Value) (h : Heap) (L : List Loc) : Prop := ∃ (r : Addr) (kr : ClassId), (v = some (.ref r)) ∧ (Fr n0 L) ∧ (Keep h0 h []) ∧ (Arv Z h r kr .int (2 : Int32) [(.int (0 : Int32)), (.int (1 : Int32))] (.int (0 : Int32))) ∧ (h0.size ≤ r)
set_option maxRecDepth 65536 in
set_option maxHeartbeats 40000000 in
theorem rm4 (l : Launch) (Z : State) (a0 : Array Value) (hw : ∀ d ∈ tables_1, d.before a0 Z = true) (ws : List Jvm.Cond) (ko : Addr) (kk : ClassId) (h0 : Heap) (n0 : Nat) (Z0 : n0 ≤ h0.size) (pr1 : Arv Z h0 ko kk .int (3 : Int32) [(.int (0 : Int32)), (.int (1 : Int32)), (.int (2 : Int32))] (.int (0 : Int32))) :
    MetFree l oM9 (head1 (Jvm.Cond.code oM9 jdk_65_method_123_code 3 (some (.array .int)) :: ws) ({ frames := 1, cells := 1, slots := 2, locals := 64 } : Room)) (fun a U => a = #[(.ref ko), (.int (2 : Int32))] ∧ Z.Warmed39 U.vm ∧ U.heap = h0) (fun _ _ _ _ _ => True) (fun _ U o U' => ∃ v L, o = .returned v ∧ Qrm4 Z ko kk h0 n0 v U'.heap L ∧ FrameEnd U o U' L ({ frames := 1, cells := 1, slots := 2, locals := 64 } : Room).cells ({ frames := 1, cells := 1, slots := 2, locals := 64 } : Room).slots) := by
  refine MetFree.of_bodySF (plainFor_of_name pn_4) hisR ?_
  intro p e s m args below meth c s₁ Bd hml0 hP0 hK
  obtain ⟨rfl, hZ, hh⟩ := hP0
  have hx := Bd.exec
  have hby := Bd.bytes
  have hml : c.maxLocals = 3 := hml0
  have hown : s.vm.findClass "java/util/Arrays" = some m.cls := findClass_of_methodNamed Bd.named
  have hnm := (name_of_methodNamed Bd.named Bd.method).1
  have X0 : Stand p l e ({ frames := 1, cells := 1, slots := 2, locals := 64 } : Room) s m #[(.ref ko), (.int (2 : Int32))] below meth c s₁ [] 0 0 := Stand.of_body Bd
  have e0 : s₁.heap = h0 := by rw [← hh, Bd.state]; rfl
  have N0 := Fr.nil n0
  suffices own_H : ∀ (P : State → Outcome → Prop), (∀ U o, U.status = .running → Ended U below o → (∃ v L, o = .returned v ∧ Qrm4 Z ko kk h0 n0 v U.heap L ∧ FrameEnd s o U L ({ frames := 1, cells := 1, slots := 2, locals := 64 } : Room).cells ({ frames := 1, cells := 1, slots := 2, locals := 64 } : Room).slots) → P U o) → own_Go p.tables e below P (s₁.setTop (mkF m 0 #[oR ko, oi 2, .unset] [])) from own_go (fun _ k => castTop (ef_rm4 m ko (2 : Int32)) k) (own_H _ (fun U o h1 h2 h3 => ⟨h1, h2, h3⟩))
  intro P hP
  have lt_ko : @LT.lt Nat _ ko h0.size := pr1.lt
  refine own_go (st' := s₁.setTop (mkF m 1 #[oR ko, oi 2, .unset] [(.int (2 : Int32))])) (fun _ k => XS.iloadN X0.here hx rfl (hb hby d4_0) rfl k) ?_
  refine own_go (st' := s₁.setTop (mkF m 2 #[oR ko, oi 2, .unset] [(.ref ko), (.int (2 : Int32))])) (fun _ k => XS.aloadN X0.here hx rfl (hb hby d4_1) rfl rfl k) ?_
  obtain ⟨cl1, Ar1, -, S1, M1, -, -⟩ := id pr1
  refine own_go (st' := s₁.setTop (mkF m 3 #[oR ko, oi 2, .unset] [(.int (3 : Int32)), (.int (2 : Int32))])) (fun t k => X0.arraylength hx (by rw [e0]; exact Ar1.1) (State.isArrayOf_alike hZ.alike Ar1.2.1) (g := (mkF m 2 #[oR ko, oi 2, .unset] [(.ref ko), (.int (2 : Int32))])) rfl rfl (hb hby d4_2) t (by rw [len_of S1 M1]; exact k)) ?_
  have hc2 : ¬ ((2 : Int32) = (3 : Int32)) := by decide
  refine own_go (st' := s₁.setTop (mkF m 14 #[oR ko, oi 2, .unset] [])) (fun _ k => XS.icmpYes X0.here hx rfl (pc0 := 3) (pc' := 14) rfl (hb hby d4_3) rfl (feq hc2).2 (by decide) (by decide) k) ?_
  refine own_go (st' := s₁.setTop (mkF m 15 #[oR ko, oi 2, .unset] [(.int (2 : Int32))])) (fun _ k => XS.iloadN X0.here hx rfl (hb hby d4_14) rfl k) ?_
  obtain ⟨T3, h3, k3, X3, e3, E3, A3, st3⟩ := newP X0 hx hZ (own_hw hw 4) e0 (g := (mkF m 15 #[oR ko, oi 2, .unset] [(.int (2 : Int32))])) rfl (hb hby d4_15) rfl (by decide) (cap := 2) (by decide) (by decide) (by decide) (by decide)
  obtain ⟨b3, g3⟩ : ∃ z, z = h0.size := ⟨_, rfl⟩
  rw [← g3] at A3 st3
  have sz3 : h0.size ≤ h3.size := E3.1
  have lt3 : @LT.lt Nat _ b3 h3.size := A3.lt
  have v3 : Arv Z h3 b3 k3 .int (2 : Int32) [(.int (0 : Int32)), (.int (0 : Int32))] (.int (0 : Int32)) := (Arv.new A3 (by decide)).pad (pad_rep [] (.int (0 : Int32)) 2)
  refine own_go (st' := T3.setTop (mkF m 17 #[oR ko, oi 2, .unset] [(.ref b3)])) (st3) ?_
  refine own_go (st' := T3.setTop (mkF m 18 #[oR ko, oi 2, oR b3] [])) (fun _ k => XS.astoreN X3.here hx rfl (hb hby d4_17) rfl rfl (l' := #[oR ko, oi 2, oR b3]) rfl k) ?_
  refine own_go (st' := T3.setTop (mkF m 19 #[oR ko, oi 2, oR b3] [(.ref ko)])) (fun _ k => XS.aloadN X3.here hx rfl (hb hby d4_18) rfl rfl k) ?_
  refine own_go (st' := T3.setTop (mkF m 20 #[oR ko, oi 2, oR b3] [(.int (0 : Int32)), (.ref ko)])) (fun _ k => XS.iconst X3.here hx rfl (hb hby d4_19) k) ?_
  refine own_go (st' := T3.setTop (mkF m 21 #[oR ko, oi 2, oR b3] [(.ref b3), (.int (0 : Int32)), (.ref ko)])) (fun _ k => XS.aloadN X3.here hx rfl (hb hby d4_20) rfl rfl k) ?_
  refine own_go (st' := T3.setTop (mkF m 22 #[oR ko, oi 2, oR b3] [(.int (0 : Int32)), (.ref b3), (.int (0 : Int32)), (.ref ko)])) (fun _ k => XS.iconst X3.here hx rfl (hb hby d4_21) k) ?_
  refine own_go (st' := T3.setTop (mkF m 23 #[oR ko, oi 2, oR b3] [(.ref ko), (.int (0 : Int32)), (.ref b3), (.int (0 : Int32)), (.ref ko)])) (fun _ k => XS.aloadN X3.here hx rfl (hb hby d4_22) rfl rfl k) ?_
  have c4 : Arv Z h3 ko kk .int (3 : Int32) [(.int (0 : Int32)), (.int (1 : Int32)), (.int (2 : Int32))] (.int (0 : Int32)) := (pr1.ext E3)
  obtain ⟨cl5, Ar5, -, S5, M5, -, -⟩ := id c4
  refine own_go (st' := T3.setTop (mkF m 24 #[oR ko, oi 2, oR b3] [(.int (3 : Int32)), (.int (0 : Int32)), (.ref b3), (.int (0 : Int32)), (.ref ko)])) (fun t k => X3.arraylength hx (by rw [e3]; exact Ar5.1) (State.isArrayOf_alike hZ.alike Ar5.2.1) (g := (mkF m 23 #[oR ko, oi 2, oR b3] [(.ref ko), (.int (0 : Int32)), (.ref b3), (.int (0 : Int32)), (.ref ko)])) rfl rfl (hb hby d4_23) t (by rw [len_of S5 M5]; exact k)) ?_
  refine own_go (st' := T3.setTop (mkF m 25 #[oR ko, oi 2, oR b3] [(.int (2 : Int32)), (.int (3 : Int32)), (.int (0 : Int32)), (.ref b3), (.int (0 : Int32)), (.ref ko)])) (fun _ k => XS.iloadN X3.here hx rfl (hb hby d4_24) rfl k) ?_
  obtain ⟨_, _, ⟨T6, LC6, kC6, nC6⟩, -, X6, ⟨Lc6, hQ6, lq6, yq6, zq6⟩, st6⟩ := Jvm.LawKit.callS X3 hx (y := oM8) hown (mvT hZ (own_hw hw 38)) (mvT hZ (own_hw hw 39)) (mvT hZ (own_hw hw 40)) (mvT hZ (own_hw hw 41)) (by decide) (backOf (W := 4) (rm5 l Z a0 hw []  h3 n0 (by omega) ) hZ (own_hw hw 41) (own_hw hw 40) (by decide) (by decide)) (g := (mkF m 25 #[oR ko, oi 2, oR b3] [(.int (2 : Int32)), (.int (3 : Int32)), (.int (0 : Int32)), (.ref b3), (.int (0 : Int32)), (.ref ko)])) rfl (by rw [hml]; rfl) (argsL := [(.int (3 : Int32)), (.int (2 : Int32))]) (rest := [(.int (0 : Int32)), (.ref b3), (.int (0 : Int32)), (.ref ko)]) (lenOf pd_0 rfl) rfl (by show 2 * 0 + _ ≤ _; exact Nat.le_of_eq rfl) (hb hby d4_25) (fun _ _ => ⟨rfl, e3, (by decide : 1 + 0 ≤ _), (by decide : 2 + 0 ≤ _)⟩)
  dsimp only [Pt.U, Pt.locs, Pt.cells, Pt.slots] at X6 lq6 yq6 zq6 st6 hQ6
  subst lq6 yq6 zq6
  obtain ⟨rfl, Nq6, eq6⟩ := hQ6
  have N6 := Fr.app N0 Nq6
  refine own_go (st' := T6.setTop (mkF m 28 #[oR ko, oi 2, oR b3] [(.int (2 : Int32)), (.int (0 : Int32)), (.ref b3), (.int (0 : Int32)), (.ref ko)])) (fun t k => st6 t k) ?_
  obtain ⟨T7, h7, LL7, X7, e7, N7, K7, V7, st7⟩ := cpA X6 hx hZ hown (own_hw hw 42) (own_hw hw 45) (own_hw hw 43) (own_hw hw 44) eq6 c4 v3 (us := [(.int (0 : Int32)), (.int (1 : Int32))]) (Or.inl ⟨rfl, rfl⟩) (sp := (0 : Int32)) (dp := (0 : Int32)) (nn := (2 : Int32)) (by decide) (by decide) (by decide) (by decide) (by decide) rfl (by decide) N6 (by omega) (g := (mkF m 28 #[oR ko, oi 2, oR b3] [(.int (2 : Int32)), (.int (0 : Int32)), (.ref b3), (.int (0 : Int32)), (.ref ko)])) rfl (by rw [hml]; rfl) rfl (hb hby d4_28) (by decide) (W := 0) (by show 2 * 0 + _ ≤ _; exact Nat.le_of_eq rfl) (by decide)
  have sz7 : h3.size ≤ h7.size := K7.1
  have v7 : Arv Z h7 b3 k3 .int (2 : Int32) [(.int (0 : Int32)), (.int (1 : Int32))] (.int (0 : Int32)) := V7
  refine own_go (st' := T7.setTop (mkF m 31 #[oR ko, oi 2, oR b3] [])) (st7) ?_
  refine own_go (st' := T7.setTop (mkF m 32 #[oR ko, oi 2, oR b3] [(.ref b3)])) (fun _ k => XS.aloadN X7.here hx rfl (hb hby d4_31) rfl rfl k) ?_
  obtain ⟨fs, hr, hrun, hended, hW, hsame⟩ := X7.leave (v := some (.ref b3)) (fun h => by rw [Bd.returns] at h; cases h)
  refine ⟨_, _, ?_, hP _ _ hrun hended ⟨_, _, rfl, ?_, ⟨_, rfl⟩, hW, hsame.mono (by decide) (by decide)⟩⟩
  · exact retOut X7 hx Bd.returns rfl (Or.inr (Or.inr (Or.inr (Or.inr ⟨rfl, rfl, rfl⟩)))) (hb hby d4_32) hr
  · show Qrm4 Z ko kk h0 n0 _ T7.heap _
    rw [e7]
    exact ⟨b3, k3, rfl, N7, (((Keep.refl h0 []).ext E3).trans K7 (allS (P := fun x => x ∈ [] ∨ h0.size ≤ x) (Or.inr (by omega)) all0)), v7, (by omega)⟩
theorem pd_1 : parseMethodDescriptor "([II)[I" = some ⟨[(.array .int), .int], some (.array .int)⟩ := by decide +kernel
theorem d3_0 : decode prog_29_method_2_code 0 = .ok (.aload_n 0, 1) := by decide +kernel
theorem d3_1 : decode prog_29_method_2_code 1 = .ok (.astore_n 2, 1) := by decide +kernel
theorem d3_2 : decode prog_29_method_2_code 2 = .ok (.aload_n 2, 1) := by decide +kernel
theorem d3_3 : decode prog_29_method_2_code 3 = .ok (.arraylength, 1) := by decide +kernel
theorem d3_4 : decode prog_29_method_2_code 4 = .ok (.istore_n 3, 1) := by decide +kernel
theorem d3_5 : decode prog_29_method_2_code 5 = .ok (.iconst 0, 1) := by decide +kernel
theorem d3_6 : decode prog_29_method_2_code 6 = .ok (.istore 4, 2) := by decide +kernel
theorem d3_8 : decode prog_29_method_2_code 8 = .ok (.iload 4, 2) := by decide +kernel
theorem d3_10 : decode prog_29_method_2_code 10 = .ok (.iload_n 3, 1) := by decide +kernel
theorem d3_11 : decode prog_29_method_2_code 11 = .ok (.if_icmp .ge 25, 3) := by decide +kernel
theorem d3_14 : decode prog_29_method_2_code 14 = .ok (.aload_n 2, 1) := by decide +kernel
theorem d3_15 : decode prog_29_method_2_code 15 = .ok (.iload 4, 2) := by decide +kernel
theorem d3_17 : decode prog_29_method_2_code 17 = .ok (.iaload, 1) := by decide +kernel
theorem d3_18 : decode prog_29_method_2_code 18 = .ok (.istore 5, 2) := by decide +kernel
theorem d3_20 : decode prog_29_method_2_code 20 = .ok (.aload_n 1, 1) := by decide +kernel
theorem d3_21 : decode prog_29_method_2_code 21 = .ok (.iload 5, 2) := by decide +kernel
theorem d3_23 : decode prog_29_method_2_code 23 = .ok (.iconst 1, 1) := by decide +kernel
theorem d3_24 : decode prog_29_method_2_code 24 = .ok (.iadd, 1) := by decide +kernel
theorem d3_25 : decode prog_29_method_2_code 25 = .ok (.dup2, 1) := by decide +kernel
theorem d3_26 : decode prog_29_method_2_code 26 = .ok (.iaload, 1) := by decide +kernel
theorem d3_27 : decode prog_29_method_2_code 27 = .ok (.iconst 1, 1) := by decide +kernel
theorem d3_28 : decode prog_29_method_2_code 28 = .ok (.iadd, 1) := by decide +kernel
theorem d3_29 : decode prog_29_method_2_code 29 = .ok (.iastore, 1) := by decide +kernel
theorem d3_30 : decode prog_29_method_2_code 30 = .ok (.iinc 4 1, 3) := by decide +kernel
theorem d3_33 : decode prog_29_method_2_code 33 = .ok (.goto (-25), 3) := by decide +kernel
theorem d3_36 : decode prog_29_method_2_code 36 = .ok (.iconst 1, 1) := by decide +kernel
theorem d3_37 : decode prog_29_method_2_code 37 = .ok (.istore_n 2, 1) := by decide +kernel
theorem d3_38 : decode prog_29_method_2_code 38 = .ok (.iload_n 2, 1) := by decide +kernel
theorem d3_39 : decode prog_29_method_2_code 39 = .ok (.aload_n 1, 1) := by decide +kernel
theorem d3_40 : decode prog_29_method_2_code 40 = .ok (.arraylength, 1) := by decide +kernel
theorem d3_41 : decode prog_29_method_2_code 41 = .ok (.if_icmp .ge 20, 3) := by decide +kernel
theorem d3_44 : decode prog_29_method_2_code 44 = .ok (.aload_n 1, 1) := by decide +kernel
theorem d3_45 : decode prog_29_method_2_code 45 = .ok (.iload_n 2, 1) := by decide +kernel
theorem d3_46 : decode prog_29_method_2_code 46 = .ok (.dup2, 1) := by decide +kernel
theorem d3_47 : decode prog_29_method_2_code 47 = .ok (.iaload, 1) := by decide +kernel
theorem d3_48 : decode prog_29_method_2_code 48 = .ok (.aload_n 1, 1) := by decide +kernel
theorem d3_49 : decode prog_29_method_2_code 49 = .ok (.iload_n 2, 1) := by decide +kernel
theorem d3_50 : decode prog_29_method_2_code 50 = .ok (.iconst 1, 1) := by decide +kernel
theorem d3_51 : decode prog_29_method_2_code 51 = .ok (.isub, 1) := by decide +kernel
theorem d3_52 : decode prog_29_method_2_code 52 = .ok (.iaload, 1) := by decide +kernel
theorem d3_53 : decode prog_29_method_2_code 53 = .ok (.iadd, 1) := by decide +kernel
theorem d3_54 : decode prog_29_method_2_code 54 = .ok (.iastore, 1) := by decide +kernel
theorem d3_55 : decode prog_29_method_2_code 55 = .ok (.iinc 2 1, 3) := by decide +kernel
theorem d3_58 : decode prog_29_method_2_code 58 = .ok (.goto (-20), 3) := by decide +kernel
theorem d3_61 : decode prog_29_method_2_code 61 = .ok (.aload_n 0, 1) := by decide +kernel
theorem d3_62 : decode prog_29_method_2_code 62 = .ok (.arraylength, 1) := by decide +kernel
theorem d3_63 : decode prog_29_method_2_code 63 = .ok (.newarray .int, 2) := by decide +kernel
theorem d3_65 : decode prog_29_method_2_code 65 = .ok (.astore_n 2, 1) := by decide +kernel
theorem d3_66 : decode prog_29_method_2_code 66 = .ok (.aload_n 1, 1) := by decide +kernel
theorem d3_67 : decode prog_29_method_2_code 67 = .ok (.aload_n 1, 1) := by decide +kernel
theorem d3_68 : decode prog_29_method_2_code 68 = .ok (.arraylength, 1) := by decide +kernel
theorem d3_69 : decode prog_29_method_2_code 69 = .ok (.iconst 1, 1) := by decide +kernel
theorem d3_70 : decode prog_29_method_2_code 70 = .ok (.isub, 1) := by decide +kernel
theorem d3_71 : decode prog_29_method_2_code 71 = .ok (.invokestatic 114, 3) := by decide +kernel
theorem d3_74 : decode prog_29_method_2_code 74 = .ok (.astore_n 3, 1) := by decide +kernel
theorem d3_75 : decode prog_29_method_2_code 75 = .ok (.iconst 0, 1) := by decide +kernel
theorem d3_76 : decode prog_29_method_2_code 76 = .ok (.istore 4, 2) := by decide +kernel
theorem d3_78 : decode prog_29_method_2_code 78 = .ok (.iload 4, 2) := by decide +kernel
theorem d3_80 : decode prog_29_method_2_code 80 = .ok (.aload_n 0, 1) := by decide +kernel
theorem d3_81 : decode prog_29_method_2_code 81 = .ok (.arraylength, 1) := by decide +kernel
theorem d3_82 : decode prog_29_method_2_code 82 = .ok (.if_icmp .ge 24, 3) := by decide +kernel
theorem d3_85 : decode prog_29_method_2_code 85 = .ok (.aload_n 2, 1) := by decide +kernel
theorem d3_86 : decode prog_29_method_2_code 86 = .ok (.aload_n 3, 1) := by decide +kernel
theorem d3_87 : decode prog_29_method_2_code 87 = .ok (.aload_n 0, 1) := by decide +kernel
theorem d3_88 : decode prog_29_method_2_code 88 = .ok (.iload 4, 2) := by decide +kernel
theorem d3_90 : decode prog_29_method_2_code 90 = .ok (.iaload, 1) := by decide +kernel
theorem d3_91 : decode prog_29_method_2_code 91 = .ok (.dup2, 1) := by decide +kernel
theorem d3_92 : decode prog_29_method_2_code 92 = .ok (.iaload, 1) := by decide +kernel
theorem d3_93 : decode prog_29_method_2_code 93 = .ok (.dup_x2, 1) := by decide +kernel
theorem d3_94 : decode prog_29_method_2_code 94 = .ok (.iconst 1, 1) := by decide +kernel
theorem d3_95 : decode prog_29_method_2_code 95 = .ok (.iadd, 1) := by decide +kernel
theorem d3_96 : decode prog_29_method_2_code 96 = .ok (.iastore, 1) := by decide +kernel
theorem d3_97 : decode prog_29_method_2_code 97 = .ok (.iload 4, 2) := by decide +kernel
theorem d3_99 : decode prog_29_method_2_code 99 = .ok (.iastore, 1) := by decide +kernel
theorem d3_100 : decode prog_29_method_2_code 100 = .ok (.iinc 4 1, 3) := by decide +kernel
theorem d3_103 : decode prog_29_method_2_code 103 = .ok (.goto (-25), 3) := by decide +kernel
theorem d3_106 : decode prog_29_method_2_code 106 = .ok (.aload_n 2, 1) := by decide +kernel
theorem d3_107 : decode prog_29_method_2_code 107 = .ok (.areturn, 1) := by decide +kernel
theorem pn_3 : plainName "com/example/limpet/limpet/StickyShares" = true := by first | (simp [plainName, overriddenIn]; done) | decide +kernel
theorem ef_rm3 (m : MethodId) (x0 : Addr) (x1 : Addr) : entryFrame m #[(.ref x0), (.ref x1)] 6 = mkF m 0 #[.val (.ref x0), .val (.ref x1), .unset, .unset, .unset, .unset] [] := by first | (simp [entryFrame, mkF, argsToLocals, Value.category]; done) | rfl
def Qrm3 (Z : State) (ak : Addr) (ks : Addr) (k1a : ClassId) (k2a : ClassId) (h0 : Heap) (n0 : Nat) (v : Option Value) (h : Heap) (L : List Loc) : Prop := ∃ (r : Addr) (kr : ClassId), (v = some (.ref r)) ∧ (Fr n0 L) ∧ (Keep h0 h [ks]) ∧ (Arv Z h ks k2a .int (3 : Int32) [(.int (0 : Int32)), (.int (1 : Int32)), (.int (2 : Int32))] (.int (0 : Int32))) ∧ (Arv Z h r kr .int (2 : Int32) [(.int (0 : Int32)), (.int (1 : Int32))] (.int (0 : Int32))) ∧ (h0.size ≤ r)
set_option maxRecDepth 65536 in
set_option maxHeartbeats 40000000 in
theorem rm3 (l : Launch) (Z : State) (a0 : Array Value) (hw : ∀ d ∈ tables_1, d.before a0 Z = true) (ws : List Jvm.Cond) (ak : Addr) (ks : Addr) (k1a : ClassId) (k2a : ClassId) (h0 : Heap) (n0 : Nat) (Z0 : n0 ≤ h0.size) (pr1 : Arv Z h0 ak k1a .int (2 : Int32) [(.int (0 : Int32)), (.int (1 : Int32))] (.int (0 : Int32))) (pr2 : Arv Z h0 ks k2a .int (3 : Int32) [(.int (0 : Int32)), (.int (0 : Int32)), (.int (0 : Int32))] (.int (0 : Int32))) (pr3 : n0 ≤ ks) (pr4 : @Ne Nat ak ks) :
    MetFree l oM4 (head1 (Jvm.Cond.code oM4 prog_29_method_2_code 6 (some (.array .int)) :: ws) ({ frames := 2, cells := 2, slots := 4, locals := 78 } : Room)) (fun a U => a = #[(.ref ak), (.ref ks)] ∧ Z.Warmed39 U.vm ∧ U.heap = h0) (fun _ _ _ _ _ => True) (fun _ U o U' => ∃ v L, o = .returned v ∧ Qrm3 Z ak ks k1a k2a h0 n0 v U'.heap L ∧ FrameEnd U o U' L ({ frames := 2, cells := 2, slots := 4, locals := 78 } : Room).cells ({ frames := 2, cells := 2, slots := 4, locals := 78 } : Room).slots) := by
  refine MetFree.of_bodySF (plainFor_of_name pn_3) hisR ?_
  intro p e s m args below meth c s₁ Bd hml0 hP0 hK
  obtain ⟨rfl, hZ, hh⟩ := hP0
  have hx := Bd.exec
  have hby := Bd.bytes
  have hml : c.maxLocals = 6 := hml0
  have hown : s.vm.findClass oS0 = some m.cls := findClass_of_methodNamed Bd.named
  have hnm := (name_of_methodNamed Bd.named Bd.method).1
  have X0 : Stand p l e ({ frames := 2, cells := 2, slots := 4, locals := 78 } : Room) s m #[(.ref ak), (.ref ks)] below meth c s₁ [] 0 0 := Stand.of_body Bd
  have e0 : s₁.heap = h0 := by rw [← hh, Bd.state]; rfl
  have N0 := Fr.nil n0
  suffices own_H : ∀ (P : State → Outcome → Prop), (∀ U o, U.status = .running → Ended U below o → (∃ v L, o = .returned v ∧ Qrm3 Z ak ks k1a k2a h0 n0 v U.heap L ∧ FrameEnd s o U L ({ frames := 2, cells := 2, slots := 4, locals := 78 } : Room).cells ({ frames := 2, cells := 2, slots := 4, locals := 78 } : Room).slots) → P U o) → own_Go p.tables e below P (s₁.setTop (mkF m 0 #[oR ak, oR ks, .unset, .unset, .unset, .unset] [])) from own_go (fun _ k => castTop (ef_rm3 m ak ks) k) (own_H _ (fun U o h1 h2 h3 => ⟨h1, h2, h3⟩))
  intro P hP
  have lt_ak : @LT.lt Nat _ ak h0.size := pr1.lt
  have lt_ks : @LT.lt Nat _ ks h0.size := pr2.lt
  refine own_go (st' := s₁.setTop (mkF m 1 #[oR ak, oR ks, .unset, .unset, .unset, .unset] [(.ref ak)])) (fun _ k => XS.aloadN X0.here hx rfl (hb hby d3_0) rfl rfl k) ?_
  refine own_go (st' := s₁.setTop (mkF m 2 #[oR ak, oR ks, oR ak, .unset, .unset, .unset] [])) (fun _ k => XS.astoreN X0.here hx rfl (hb hby d3_1) rfl rfl (l' := #[oR ak, oR ks, oR ak, .unset, .unset, .unset]) rfl k) ?_
  refine own_go (st' := s₁.setTop (mkF m 3 #[oR ak, oR ks, oR ak, .unset, .unset, .unset] [(.ref ak)])) (fun _ k => XS.aloadN X0.here hx rfl (hb hby d3_2) rfl rfl k) ?_
  obtain ⟨cl1, Ar1, -, S1, M1, -, -⟩ := id pr1
  refine own_go (st' := s₁.setTop (mkF m 4 #[oR ak, oR ks, oR ak, .unset, .unset, .unset] [(.int (2 : Int32))])) (fun t k => X0.arraylength hx (by rw [e0]; exact Ar1.1) (State.isArrayOf_alike hZ.alike Ar1.2.1) (g := (mkF m 3 #[oR ak, oR ks, oR ak, .unset, .unset, .unset] [(.ref ak)])) rfl rfl (hb hby d3_3) t (by rw [len_of S1 M1]; exact k)) ?_
  refine own_go (st' := s₁.setTop (mkF m 5 #[oR ak, oR ks, oR ak, oi 2, .unset, .unset] [])) (fun _ k => XS.istoreN X0.here hx rfl (hb hby d3_4) rfl (l' := #[oR ak, oR ks, oR ak, oi 2, .unset, .unset]) rfl k) ?_
  refine own_go (st' := s₁.setTop (mkF m 6 #[oR ak, oR ks, oR ak, oi 2, .unset, .unset] [(.int (0 : Int32))])) (fun _ k => XS.iconst X0.here hx rfl (hb hby d3_5) k) ?_
  refine own_go (st' := s₁.setTop (mkF m 8 #[oR ak, oR ks, oR ak, oi 2, oi 0, .unset] [])) (fun _ k => XS.istore X0.here hx rfl (hb hby d3_6) rfl (l' := #[oR ak, oR ks, oR ak, oi 2, oi 0, .unset]) rfl k) ?_
  refine own_go (st' := s₁.setTop (mkF m 10 #[oR ak, oR ks, oR ak, oi 2, oi 0, .unset] [(.int (0 : Int32))])) (fun _ k => XS.iload X0.here hx rfl (hb hby d3_8) rfl k) ?_
  refine own_go (st' := s₁.setTop (mkF m 11 #[oR ak, oR ks, oR ak, oi 2, oi 0, .unset] [(.int (2 : Int32)), (.int (0 : Int32))])) (fun _ k => XS.iloadN X0.here hx rfl (hb hby d3_10) rfl k) ?_
  have hc2 : (0 : Int32) < (2 : Int32) := by decide
  refine own_go (st' := s₁.setTop (mkF m 14 #[oR ak, oR ks, oR ak, oi 2, oi 0, .unset] [])) (fun _ k => XS.icmpNo X0.here hx rfl (hb hby d3_11) rfl (tlt hc2).2.1 k) ?_
  refine own_go (st' := s₁.setTop (mkF m 15 #[oR ak, oR ks, oR ak, oi 2, oi 0, .unset] [(.ref ak)])) (fun _ k => XS.aloadN X0.here hx rfl (hb hby d3_14) rfl rfl k) ?_
  refine own_go (st' := s₁.setTop (mkF m 17 #[oR ak, oR ks, oR ak, oi 2, oi 0, .unset] [(.int (0 : Int32)), (.ref ak)])) (fun _ k => XS.iload X0.here hx rfl (hb hby d3_15) rfl k) ?_
  obtain ⟨cl3, Ar3, -, S3, M3, H3, -⟩ := id pr1
  have hin3 : ¬ ((0 : Int32) < 0 ∨ cl3.slots.size ≤ ((0 : Int32)).toNatClampNeg) := (inb_of S3 ⟨by decide, by decide⟩)
  have hat3 : cl3.slots[((0 : Int32)).toNatClampNeg]? = some (.int (0 : Int32)) := (H3.at hin3 rfl)
  refine own_go (st' := s₁.setTop (mkF m 18 #[oR ak, oR ks, oR ak, oi 2, oi 0, .unset] [(.int (0 : Int32))])) (X0.iaload hx (j := (0 : Int32)) (v := (.int (0 : Int32))) (by rw [e0]; exact Ar3.1) (State.isArrayOf_alike hZ.alike Ar3.2.1) Ar3.2.2 hin3 hat3 (g := (mkF m 17 #[oR ak, oR ks, oR ak, oi 2, oi 0, .unset] [(.int (0 : Int32)), (.ref ak)])) rfl rfl (hb hby d3_17)) ?_
  refine own_go (st' := s₁.setTop (mkF m 20 #[oR ak, oR ks, oR ak, oi 2, oi 0, oi 0] [])) (fun _ k => XS.istore X0.here hx rfl (hb hby d3_18) rfl (l' := #[oR ak, oR ks, oR ak, oi 2, oi 0, oi 0]) rfl k) ?_
  refine own_go (st' := s₁.setTop (mkF m 21 #[oR ak, oR ks, oR ak, oi 2, oi 0, oi 0] [(.ref ks)])) (fun _ k => XS.aloadN X0.here hx rfl (hb hby d3_20) rfl rfl k) ?_
  refine own_go (st' := s₁.setTop (mkF m 23 #[oR ak, oR ks, oR ak, oi 2, oi 0, oi 0] [(.int (0 : Int32)), (.ref ks)])) (fun _ k => XS.iload X0.here hx rfl (hb hby d3_21) rfl k) ?_
  refine own_go (st' := s₁.setTop (mkF m 24 #[oR ak, oR ks, oR ak, oi 2, oi 0, oi 0] [(.int (1 : Int32)), (.int (0 : Int32)), (.ref ks)])) (fun _ k => XS.iconst X0.here hx rfl (hb hby d3_23) k) ?_
  refine own_go (st' := s₁.setTop (mkF m 25 #[oR ak, oR ks, oR ak, oi 2, oi 0, oi 0] [(.int (1 : Int32)), (.ref ks)])) (fun _ k => XS.iadd X0.here hx rfl (hb hby d3_24) rfl (by rw [show ((0 : Int32) + (1 : Int32)) = (1 : Int32) by decide]; exact k)) ?_
  refine own_go (st' := s₁.setTop (mkF m 26 #[oR ak, oR ks, oR ak, oi 2, oi 0, oi 0] [(.int (1 : Int32)), (.ref ks), (.int (1 : Int32)), (.ref ks)])) (fun _ k => XT.dup2 X0.here hx rfl (hb hby d3_25) rfl rfl rfl k) ?_
  obtain ⟨cl4, Ar4, -, S4, M4, H4, -⟩ := id pr2
  have hin4 : ¬ ((1 : Int32) < 0 ∨ cl4.slots.size ≤ ((1 : Int32)).toNatClampNeg) := (inb_of S4 ⟨by decide, by decide⟩)
  have hat4 : cl4.slots[((1 : Int32)).toNatClampNeg]? = some (.int (0 : Int32)) := (H4.at hin4 rfl)
  refine own_go (st' := s₁.setTop (mkF m 27 #[oR ak, oR ks, oR ak, oi 2, oi 0, oi 0] [(.int (0 : Int32)), (.int (1 : Int32)), (.ref ks)])) (X0.iaload hx (j := (1 : Int32)) (v := (.int (0 : Int32))) (by rw [e0]; exact Ar4.1) (State.isArrayOf_alike hZ.alike Ar4.2.1) Ar4.2.2 hin4 hat4 (g := (mkF m 26 #[oR ak, oR ks, oR ak, oi 2, oi 0, oi 0] [(.int (1 : Int32)), (.ref ks), (.int (1 : Int32)), (.ref ks)])) rfl rfl (hb hby d3_26)) ?_
  refine own_go (st' := s₁.setTop (mkF m 28 #[oR ak, oR ks, oR ak, oi 2, oi 0, oi 0] [(.int (1 : Int32)), (.int (0 : Int32)), (.int (1 : Int32)), (.ref ks)])) (fun _ k => XS.iconst X0.here hx rfl (hb hby d3_27) k) ?_
  refine own_go (st' := s₁.setTop (mkF m 29 #[oR ak, oR ks, oR ak, oi 2, oi 0, oi 0] [(.int (1 : Int32)), (.int (1 : Int32)), (.ref ks)])) (fun _ k => XS.iadd X0.here hx rfl (hb hby d3_28) rfl (by rw [show ((0 : Int32) + (1 : Int32)) = (1 : Int32) by decide]; exact k)) ?_
  obtain ⟨cl5, Ar5, qc5, S5, M5, H5, G5⟩ := id pr2
  have hin5 : ¬ ((1 : Int32) < 0 ∨ cl5.slots.size ≤ ((1 : Int32)).toNatClampNeg) := (inb_of S5 ⟨by decide, by decide⟩)
  obtain ⟨T5, h5, X5, e5, W5, st5⟩ := stI X0 hx hZ e0 Ar5 (j := (1 : Int32)) hin5 (g := (mkF m 29 #[oR ak, oR ks, oR ak, oi 2, oi 0, oi 0] [(.int (1 : Int32)), (.int (1 : Int32)), (.ref ks)])) rfl rfl (hb hby d3_29)
  have sz5 : h5.size = h0.size := W5.size
  have N5 := Fr.snoc X5 N0 (by omega)
  have v5 : Arv Z h5 ks k2a .int (3 : Int32) [(.int (0 : Int32)), (.int (1 : Int32)), (.int (0 : Int32))] (.int (0 : Int32)) := Arv.set Ar5 qc5 S5 M5 H5 G5 rfl W5 1 rfl (Nat.le_of_ble_eq_true rfl)
  refine own_go (st' := T5.setTop (mkF m 30 #[oR ak, oR ks, oR ak, oi 2, oi 0, oi 0] [])) (st5) ?_
  refine own_go (st' := T5.setTop (mkF m 33 #[oR ak, oR ks, oR ak, oi 2, oi 1, oi 0] [])) (fun _ k => XS.iinc X5.here hx rfl (hb hby d3_30) rfl (l' := #[oR ak, oR ks, oR ak, oi 2, oi 1, oi 0]) (by rw [show ((0 : Int32) + Int32.ofInt 1) = (1 : Int32) by decide]; rfl) k) ?_
  refine own_go (st' := T5.setTop (mkF m 8 #[oR ak, oR ks, oR ak, oi 2, oi 1, oi 0] [])) (fun _ k => XS.goto X5.here hx rfl (pc0 := 33) (pc' := 8) rfl (hb hby d3_33) (by decide) (by decide) k) ?_
  refine own_go (st' := T5.setTop (mkF m 10 #[oR ak, oR ks, oR ak, oi 2, oi 1, oi 0] [(.int (1 : Int32))])) (fun _ k => XS.iload X5.here hx rfl (hb hby d3_8) rfl k) ?_
  refine own_go (st' := T5.setTop (mkF m 11 #[oR ak, oR ks, oR ak, oi 2, oi 1, oi 0] [(.int (2 : Int32)), (.int (1 : Int32))])) (fun _ k => XS.iloadN X5.here hx rfl (hb hby d3_10) rfl k) ?_
  have hc6 : (1 : Int32) < (2 : Int32) := by decide
  refine own_go (st' := T5.setTop (mkF m 14 #[oR ak, oR ks, oR ak, oi 2, oi 1, oi 0] [])) (fun _ k => XS.icmpNo X5.here hx rfl (hb hby d3_11) rfl (tlt hc6).2.1 k) ?_
  refine own_go (st' := T5.setTop (mkF m 15 #[oR ak, oR ks, oR ak, oi 2, oi 1, oi 0] [(.ref ak)])) (fun _ k => XS.aloadN X5.here hx rfl (hb hby d3_14) rfl rfl k) ?_
  refine own_go (st' := T5.setTop (mkF m 17 #[oR ak, oR ks, oR ak, oi 2, oi 1, oi 0] [(.int (1 : Int32)), (.ref ak)])) (fun _ k => XS.iload X5.here hx rfl (hb hby d3_15) rfl k) ?_
  have c7 : Arv Z h5 ak k1a .int (2 : Int32) [(.int (0 : Int32)), (.int (1 : Int32))] (.int (0 : Int32)) := (pr1.other W5 (own_ne (by omega)))
  obtain ⟨cl8, Ar8, -, S8, M8, H8, -⟩ := id c7
  have hin8 : ¬ ((1 : Int32) < 0 ∨ cl8.slots.size ≤ ((1 : Int32)).toNatClampNeg) := (inb_of S8 ⟨by decide, by decide⟩)
  have hat8 : cl8.slots[((1 : Int32)).toNatClampNeg]? = some (.int (1 : Int32)) := (H8.at hin8 rfl)
  refine own_go (st' := T5.setTop (mkF m 18 #[oR ak, oR ks, oR ak, oi 2, oi 1, oi 0] [(.int (1 : Int32))])) (X5.iaload hx (j := (1 : Int32)) (v := (.int (1 : Int32))) (by rw [e5]; exact Ar8.1) (State.isArrayOf_alike hZ.alike Ar8.2.1) Ar8.2.2 hin8 hat8 (g := (mkF m 17 #[oR ak, oR ks, oR ak, oi 2, oi 1, oi 0] [(.int (1 : Int32)), (.ref ak)])) rfl rfl (hb hby d3_17)) ?_
  refine own_go (st' := T5.setTop (mkF m 20 #[oR ak, oR ks, oR ak, oi 2, oi 1, oi 1] [])) (fun _ k => XS.istore X5.here hx rfl (hb hby d3_18) rfl (l' := #[oR ak, oR ks, oR ak, oi 2, oi 1, oi 1]) rfl k) ?_
  refine own_go (st' := T5.setTop (mkF m 21 #[oR ak, oR ks, oR ak, oi 2, oi 1, oi 1] [(.ref ks)])) (fun _ k => XS.aloadN X5.here hx rfl (hb hby d3_20) rfl rfl k) ?_
  refine own_go (st' := T5.setTop (mkF m 23 #[oR ak, oR ks, oR ak, oi 2, oi 1, oi 1] [(.int (1 : Int32)), (.ref ks)])) (fun _ k => XS.iload X5.here hx rfl (hb hby d3_21) rfl k) ?_
  refine own_go (st' := T5.setTop (mkF m 24 #[oR ak, oR ks, oR ak, oi 2, oi 1, oi 1] [(.int (1 : Int32)), (.int (1 : Int32)), (.ref ks)])) (fun _ k => XS.iconst X5.here hx rfl (hb hby d3_23) k) ?_
  refine own_go (st' := T5.setTop (mkF m 25 #[oR ak, oR ks, oR ak, oi 2, oi 1, oi 1] [(.int (2 : Int32)), (.ref ks)])) (fun _ k => XS.iadd X5.here hx rfl (hb hby d3_24) rfl (by rw [show ((1 : Int32) + (1 : Int32)) = (2 : Int32) by decide]; exact k)) ?_
  refine own_go (st' := T5.setTop (mkF m 26 #[oR ak, oR ks, oR ak, oi 2, oi 1, oi 1] [(.int (2 : Int32)), (.ref ks), (.int (2 : Int32)), (.ref ks)])) (fun _ k => XT.dup2 X5.here hx rfl (hb hby d3_25) rfl rfl rfl k) ?_
  obtain ⟨cl9, Ar9, -, S9, M9, H9, -⟩ := id v5
  have hin9 : ¬ ((2 : Int32) < 0 ∨ cl9.slots.size ≤ ((2 : Int32)).toNatClampNeg) := (inb_of S9 ⟨by decide, by decide⟩)
  have hat9 : cl9.slots[((2 : Int32)).toNatClampNeg]? = some (.int (0 : Int32)) := (H9.at hin9 rfl)
  refine own_go (st' := T5.setTop (mkF m 27 #[oR ak, oR ks, oR ak, oi 2, oi 1, oi 1] [(.int (0 : Int32)), (.int (2 : Int32)), (.ref ks)])) (X5.iaload hx (j := (2 : Int32)) (v := (.int (0 : Int32))) (by rw [e5]; exact Ar9.1) (State.isArrayOf_alike hZ.alike Ar9.2.1) Ar9.2.2 hin9 hat9 (g := (mkF m 26 #[oR ak, oR ks, oR ak, oi 2, oi 1, oi 1] [(.int (2 : Int32)), (.ref ks), (.int (2 : Int32)), (.ref ks)])) rfl rfl (hb hby d3_26)) ?_
  refine own_go (st' := T5.setTop (mkF m 28 #[oR ak, oR ks, oR ak, oi 2, oi 1, oi 1] [(.int (1 : Int32)), (.int (0 : Int32)), (.int (2 : Int32)), (.ref ks)])) (fun _ k => XS.iconst X5.here hx rfl (hb hby d3_27) k) ?_
  refine own_go (st' := T5.setTop (mkF m 29 #[oR ak, oR ks, oR ak, oi 2, oi 1, oi 1] [(.int (1 : Int32)), (.int (2 : Int32)), (.ref ks)])) (fun _ k => XS.iadd X5.here hx rfl (hb hby d3_28) rfl (by rw [show ((0 : Int32) + (1 : Int32)) = (1 : Int32) by decide]; exact k)) ?_
  obtain ⟨cl10, Ar10, qc10, S10, M10, H10, G10⟩ := id v5
  have hin10 : ¬ ((2 : Int32) < 0 ∨ cl10.slots.size ≤ ((2 : Int32)).toNatClampNeg) := (inb_of S10 ⟨by decide, by decide⟩)
  obtain ⟨T10, h10, X10, e10, W10, st10⟩ := stI X5 hx hZ e5 Ar10 (j := (2 : Int32)) hin10 (g := (mkF m 29 #[oR ak, oR ks, oR ak, oi 2, oi 1, oi 1] [(.int (1 : Int32)), (.int (2 : Int32)), (.ref ks)])) rfl rfl (hb hby d3_29)
  have sz10 : h10.size = h5.size := W10.size
  have N10 := Fr.snoc X10 N5 (by omega)
  have v10 : Arv Z h10 ks k2a .int (3 : Int32) [(.int (0 : Int32)), (.int (1 : Int32)), (.int (1 : Int32))] (.int (0 : Int32)) := Arv.set Ar10 qc10 S10 M10 H10 G10 rfl W10 2 rfl (Nat.le_of_ble_eq_true rfl)
  refine own_go (st' := T10.setTop (mkF m 30 #[oR ak, oR ks, oR ak, oi 2, oi 1, oi 1] [])) (st10) ?_
  refine own_go (st' := T10.setTop (mkF m 33 #[oR ak, oR ks, oR ak, oi 2, oi 2, oi 1] [])) (fun _ k => XS.iinc X10.here hx rfl (hb hby d3_30) rfl (l' := #[oR ak, oR ks, oR ak, oi 2, oi 2, oi 1]) (by rw [show ((1 : Int32) + Int32.ofInt 1) = (2 : Int32) by decide]; rfl) k) ?_
  refine own_go (st' := T10.setTop (mkF m 8 #[oR ak, oR ks, oR ak, oi 2, oi 2, oi 1] [])) (fun _ k => XS.goto X10.here hx rfl (pc0 := 33) (pc' := 8) rfl (hb hby d3_33) (by decide) (by decide) k) ?_
  refine own_go (st' := T10.setTop (mkF m 10 #[oR ak, oR ks, oR ak, oi 2, oi 2, oi 1] [(.int (2 : Int32))])) (fun _ k => XS.iload X10.here hx rfl (hb hby d3_8) rfl k) ?_
  refine own_go (st' := T10.setTop (mkF m 11 #[oR ak, oR ks, oR ak, oi 2, oi 2, oi 1] [(.int (2 : Int32)), (.int (2 : Int32))])) (fun _ k => XS.iloadN X10.here hx rfl (hb hby d3_10) rfl k) ?_
  have hc11 : ¬ ((2 : Int32) < (2 : Int32)) := by decide
  refine own_go (st' := T10.setTop (mkF m 36 #[oR ak, oR ks, oR ak, oi 2, oi 2, oi 1] [])) (fun _ k => XS.icmpYes X10.here hx rfl (pc0 := 11) (pc' := 36) rfl (hb hby d3_11) rfl (flt hc11).2.1 (by decide) (by decide) k) ?_
  refine own_go (st' := T10.setTop (mkF m 37 #[oR ak, oR ks, oR ak, oi 2, oi 2, oi 1] [(.int (1 : Int32))])) (fun _ k => XS.iconst X10.here hx rfl (hb hby d3_36) k) ?_
  refine own_go (st' := T10.setTop (mkF m 38 #[oR ak, oR ks, oi 1, oi 2, oi 2, oi 1] [])) (fun _ k => XS.istoreN X10.here hx rfl (hb hby d3_37) rfl (l' := #[oR ak, oR ks, oi 1, oi 2, oi 2, oi 1]) rfl k) ?_
  refine own_go (st' := T10.setTop (mkF m 39 #[oR ak, oR ks, oi 1, oi 2, oi 2, oi 1] [(.int (1 : Int32))])) (fun _ k => XS.iloadN X10.here hx rfl (hb hby d3_38) rfl k) ?_
  refine own_go (st' := T10.setTop (mkF m 40 #[oR ak, oR ks, oi 1, oi 2, oi 2, oi 1] [(.ref ks), (.int (1 : Int32))])) (fun _ k => XS.aloadN X10.here hx rfl (hb hby d3_39) rfl rfl k) ?_
  obtain ⟨cl12, Ar12, -, S12, M12, -, -⟩ := id v10
  refine own_go (st' := T10.setTop (mkF m 41 #[oR ak, oR ks, oi 1, oi 2, oi 2, oi 1] [(.int (3 : Int32)), (.int (1 : Int32))])) (fun t k => X10.arraylength hx (by rw [e10]; exact Ar12.1) (State.isArrayOf_alike hZ.alike Ar12.2.1) (g := (mkF m 40 #[oR ak, oR ks, oi 1, oi 2, oi 2, oi 1] [(.ref ks), (.int (1 : Int32))])) rfl rfl (hb hby d3_40) t (by rw [len_of S12 M12]; exact k)) ?_
  have hc13 : (1 : Int32) < (3 : Int32) := by decide
  refine own_go (st' := T10.setTop (mkF m 44 #[oR ak, oR ks, oi 1, oi 2, oi 2, oi 1] [])) (fun _ k => XS.icmpNo X10.here hx rfl (hb hby d3_41) rfl (tlt hc13).2.1 k) ?_
  refine own_go (st' := T10.setTop (mkF m 45 #[oR ak, oR ks, oi 1, oi 2, oi 2, oi 1] [(.ref ks)])) (fun _ k => XS.aloadN X10.here hx rfl (hb hby d3_44) rfl rfl k) ?_
  refine own_go (st' := T10.setTop (mkF m 46 #[oR ak, oR ks, oi 1, oi 2, oi 2, oi 1] [(.int (1 : Int32)), (.ref ks)])) (fun _ k => XS.iloadN X10.here hx rfl (hb hby d3_45) rfl k) ?_
  refine own_go (st' := T10.setTop (mkF m 47 #[oR ak, oR ks, oi 1, oi 2, oi 2, oi 1] [(.int (1 : Int32)), (.ref ks), (.int (1 : Int32)), (.ref ks)])) (fun _ k => XT.dup2 X10.here hx rfl (hb hby d3_46) rfl rfl rfl k) ?_
  obtain ⟨cl14, Ar14, -, S14, M14, H14, -⟩ := id v10
  have hin14 : ¬ ((1 : Int32) < 0 ∨ cl14.slots.size ≤ ((1 : Int32)).toNatClampNeg) := (inb_of S14 ⟨by decide, by decide⟩)
  have hat14 : cl14.slots[((1 : Int32)).toNatClampNeg]? = some (.int (1 : Int32)) := (H14.at hin14 rfl)
  refine own_go (st' := T10.setTop (mkF m 48 #[oR ak, oR ks, oi 1, oi 2, oi 2, oi 1] [(.int (1 : Int32)), (.int (1 : Int32)), (.ref ks)])) (X10.iaload hx (j := (1 : Int32)) (v := (.int (1 : Int32))) (by rw [e10]; exact Ar14.1) (State.isArrayOf_alike hZ.alike Ar14.2.1) Ar14.2.2 hin14 hat14 (g := (mkF m 47 #[oR ak, oR ks, oi 1, oi 2, oi 2, oi 1] [(.int (1 : Int32)), (.ref ks), (.int (1 : Int32)), (.ref ks)])) rfl rfl (hb hby d3_47)) ?_
  refine own_go (st' := T10.setTop (mkF m 49 #[oR ak, oR ks, oi 1, oi 2, oi 2, oi 1] [(.ref ks), (.int (1 : Int32)), (.int (1 : Int32)), (.ref ks)])) (fun _ k => XS.aloadN X10.here hx rfl (hb hby d3_48) rfl rfl k) ?_
  refine own_go (st' := T10.setTop (mkF m 50 #[oR ak, oR ks, oi 1, oi 2, oi 2, oi 1] [(.int (1 : Int32)), (.ref ks), (.int (1 : Int32)), (.int (1 : Int32)), (.ref ks)])) (fun _ k => XS.iloadN X10.here hx rfl (hb hby d3_49) rfl k) ?_
  refine own_go (st' := T10.setTop (mkF m 51 #[oR ak, oR ks, oi 1, oi 2, oi 2, oi 1] [(.int (1 : Int32)), (.int (1 : Int32)), (.ref ks), (.int (1 : Int32)), (.int (1 : Int32)), (.ref ks)])) (fun _ k => XS.iconst X10.here hx rfl (hb hby d3_50) k) ?_
  refine own_go (st' := T10.setTop (mkF m 52 #[oR ak, oR ks, oi 1, oi 2, oi 2, oi 1] [(.int (0 : Int32)), (.ref ks), (.int (1 : Int32)), (.int (1 : Int32)), (.ref ks)])) (fun _ k => XS.isub X10.here hx rfl (hb hby d3_51) rfl (by rw [show ((1 : Int32) - (1 : Int32)) = (0 : Int32) by decide]; exact k)) ?_
  obtain ⟨cl15, Ar15, -, S15, M15, H15, -⟩ := id v10
  have hin15 : ¬ ((0 : Int32) < 0 ∨ cl15.slots.size ≤ ((0 : Int32)).toNatClampNeg) := (inb_of S15 ⟨by decide, by decide⟩)
  have hat15 : cl15.slots[((0 : Int32)).toNatClampNeg]? = some (.int (0 : Int32)) := (H15.at hin15 rfl)
  refine own_go (st' := T10.setTop (mkF m 53 #[oR ak, oR ks, oi 1, oi 2, oi 2, oi 1] [(.int (0 : Int32)), (.int (1 : Int32)), (.int (1 : Int32)), (.ref ks)])) (X10.iaload hx (j := (0 : Int32)) (v := (.int (0 : Int32))) (by rw [e10]; exact Ar15.1) (State.isArrayOf_alike hZ.alike Ar15.2.1) Ar15.2.2 hin15 hat15 (g := (mkF m 52 #[oR ak, oR ks, oi 1, oi 2, oi 2, oi 1] [(.int (0 : Int32)), (.ref ks), (.int (1 : Int32)), (.int (1 : Int32)), (.ref ks)])) rfl rfl (hb hby d3_52)) ?_
  refine own_go (st' := T10.setTop (mkF m 54 #[oR ak, oR ks, oi 1, oi 2, oi 2, oi 1] [(.int (1 : Int32)), (.int (1 : Int32)), (.ref ks)])) (fun _ k => XS.iadd X10.here hx rfl (hb hby d3_53) rfl (by rw [show ((1 : Int32) + (0 : Int32)) = (1 : Int32) by decide]; exact k)) ?_
  obtain ⟨cl16, Ar16, qc16, S16, M16, H16, G16⟩ := id v10
  have hin16 : ¬ ((1 : Int32) < 0 ∨ cl16.slots.size ≤ ((1 : Int32)).toNatClampNeg) := (inb_of S16 ⟨by decide, by decide⟩)
  obtain ⟨T16, h16, X16, e16, W16, st16⟩ := stI X10 hx hZ e10 Ar16 (j := (1 : Int32)) hin16 (g := (mkF m 54 #[oR ak, oR ks, oi 1, oi 2, oi 2, oi 1] [(.int (1 : Int32)), (.int (1 : Int32)), (.ref ks)])) rfl rfl (hb hby d3_54)
  have sz16 : h16.size = h10.size := W16.size
  have N16 := Fr.snoc X16 N10 (by omega)
  have v16 : Arv Z h16 ks k2a .int (3 : Int32) [(.int (0 : Int32)), (.int (1 : Int32)), (.int (1 : Int32))] (.int (0 : Int32)) := Arv.set Ar16 qc16 S16 M16 H16 G16 rfl W16 1 rfl (Nat.le_of_ble_eq_true rfl)
  refine own_go (st' := T16.setTop (mkF m 55 #[oR ak, oR ks, oi 1, oi 2, oi 2, oi 1] [])) (st16) ?_
  refine own_go (st' := T16.setTop (mkF m 58 #[oR ak, oR ks, oi 2, oi 2, oi 2, oi 1] [])) (fun _ k => XS.iinc X16.here hx rfl (hb hby d3_55) rfl (l' := #[oR ak, oR ks, oi 2, oi 2, oi 2, oi 1]) (by rw [show ((1 : Int32) + Int32.ofInt 1) = (2 : Int32) by decide]; rfl) k) ?_
  refine own_go (st' := T16.setTop (mkF m 38 #[oR ak, oR ks, oi 2, oi 2, oi 2, oi 1] [])) (fun _ k => XS.goto X16.here hx rfl (pc0 := 58) (pc' := 38) rfl (hb hby d3_58) (by decide) (by decide) k) ?_
  refine own_go (st' := T16.setTop (mkF m 39 #[oR ak, oR ks, oi 2, oi 2, oi 2, oi 1] [(.int (2 : Int32))])) (fun _ k => XS.iloadN X16.here hx rfl (hb hby d3_38) rfl k) ?_
  refine own_go (st' := T16.setTop (mkF m 40 #[oR ak, oR ks, oi 2, oi 2, oi 2, oi 1] [(.ref ks), (.int (2 : Int32))])) (fun _ k => XS.aloadN X16.here hx rfl (hb hby d3_39) rfl rfl k) ?_
  obtain ⟨cl17, Ar17, -, S17, M17, -, -⟩ := id v16
  refine own_go (st' := T16.setTop (mkF m 41 #[oR ak, oR ks, oi 2, oi 2, oi 2, oi 1] [(.int (3 : Int32)), (.int (2 : Int32))])) (fun t k => X16.arraylength hx (by rw [e16]; exact Ar17.1) (State.isArrayOf_alike hZ.alike Ar17.2.1) (g := (mkF m 40 #[oR ak, oR ks, oi 2, oi 2, oi 2, oi 1] [(.ref ks), (.int (2 : Int32))])) rfl rfl (hb hby d3_40) t (by rw [len_of S17 M17]; exact k)) ?_
  have hc18 : (2 : Int32) < (3 : Int32) := by decide
  refine own_go (st' := T16.setTop (mkF m 44 #[oR ak, oR ks, oi 2, oi 2, oi 2, oi 1] [])) (fun _ k => XS.icmpNo X16.here hx rfl (hb hby d3_41) rfl (tlt hc18).2.1 k) ?_
  refine own_go (st' := T16.setTop (mkF m 45 #[oR ak, oR ks, oi 2, oi 2, oi 2, oi 1] [(.ref ks)])) (fun _ k => XS.aloadN X16.here hx rfl (hb hby d3_44) rfl rfl k) ?_
  refine own_go (st' := T16.setTop (mkF m 46 #[oR ak, oR ks, oi 2, oi 2, oi 2, oi 1] [(.int (2 : Int32)), (.ref ks)])) (fun _ k => XS.iloadN X16.here hx rfl (hb hby d3_45) rfl k) ?_
  refine own_go (st' := T16.setTop (mkF m 47 #[oR ak, oR ks, oi 2, oi 2, oi 2, oi 1] [(.int (2 : Int32)), (.ref ks), (.int (2 : Int32)), (.ref ks)])) (fun _ k => XT.dup2 X16.here hx rfl (hb hby d3_46) rfl rfl rfl k) ?_
  obtain ⟨cl19, Ar19, -, S19, M19, H19, -⟩ := id v16
  have hin19 : ¬ ((2 : Int32) < 0 ∨ cl19.slots.size ≤ ((2 : Int32)).toNatClampNeg) := (inb_of S19 ⟨by decide, by decide⟩)
  have hat19 : cl19.slots[((2 : Int32)).toNatClampNeg]? = some (.int (1 : Int32)) := (H19.at hin19 rfl)
  refine own_go (st' := T16.setTop (mkF m 48 #[oR ak, oR ks, oi 2, oi 2, oi 2, oi 1] [(.int (1 : Int32)), (.int (2 : Int32)), (.ref ks)])) (X16.iaload hx (j := (2 : Int32)) (v := (.int (1 : Int32))) (by rw [e16]; exact Ar19.1) (State.isArrayOf_alike hZ.alike Ar19.2.1) Ar19.2.2 hin19 hat19 (g := (mkF m 47 #[oR ak, oR ks, oi 2, oi 2, oi 2, oi 1] [(.int (2 : Int32)), (.ref ks), (.int (2 : Int32)), (.ref ks)])) rfl rfl (hb hby d3_47)) ?_
  refine own_go (st' := T16.setTop (mkF m 49 #[oR ak, oR ks, oi 2, oi 2, oi 2, oi 1] [(.ref ks), (.int (1 : Int32)), (.int (2 : Int32)), (.ref ks)])) (fun _ k => XS.aloadN X16.here hx rfl (hb hby d3_48) rfl rfl k) ?_
  refine own_go (st' := T16.setTop (mkF m 50 #[oR ak, oR ks, oi 2, oi 2, oi 2, oi 1] [(.int (2 : Int32)), (.ref ks), (.int (1 : Int32)), (.int (2 : Int32)), (.ref ks)])) (fun _ k => XS.iloadN X16.here hx rfl (hb hby d3_49) rfl k) ?_
  refine own_go (st' := T16.setTop (mkF m 51 #[oR ak, oR ks, oi 2, oi 2, oi 2, oi 1] [(.int (1 : Int32)), (.int (2 : Int32)), (.ref ks), (.int (1 : Int32)), (.int (2 : Int32)), (.ref ks)])) (fun _ k => XS.iconst X16.here hx rfl (hb hby d3_50) k) ?_
  refine own_go (st' := T16.setTop (mkF m 52 #[oR ak, oR ks, oi 2, oi 2, oi 2, oi 1] [(.int (1 : Int32)), (.ref ks), (.int (1 : Int32)), (.int (2 : Int32)), (.ref ks)])) (fun _ k => XS.isub X16.here hx rfl (hb hby d3_51) rfl (by rw [show ((2 : Int32) - (1 : Int32)) = (1 : Int32) by decide]; exact k)) ?_
  obtain ⟨cl20, Ar20, -, S20, M20, H20, -⟩ := id v16
  have hin20 : ¬ ((1 : Int32) < 0 ∨ cl20.slots.size ≤ ((1 : Int32)).toNatClampNeg) := (inb_of S20 ⟨by decide, by decide⟩)
  have hat20 : cl20.slots[((1 : Int32)).toNatClampNeg]? = some (.int (1 : Int32)) := (H20.at hin20 rfl)
  refine own_go (st' := T16.setTop (mkF m 53 #[oR ak, oR ks, oi 2, oi 2, oi 2, oi 1] [(.int (1 : Int32)), (.int (1 : Int32)), (.int (2 : Int32)), (.ref ks)])) (X16.iaload hx (j := (1 : Int32)) (v := (.int (1 : Int32))) (by rw [e16]; exact Ar20.1) (State.isArrayOf_alike hZ.alike Ar20.2.1) Ar20.2.2 hin20 hat20 (g := (mkF m 52 #[oR ak, oR ks, oi 2, oi 2, oi 2, oi 1] [(.int (1 : Int32)), (.ref ks), (.int (1 : Int32)), (.int (2 : Int32)), (.ref ks)])) rfl rfl (hb hby d3_52)) ?_
  refine own_go (st' := T16.setTop (mkF m 54 #[oR ak, oR ks, oi 2, oi 2, oi 2, oi 1] [(.int (2 : Int32)), (.int (2 : Int32)), (.ref ks)])) (fun _ k => XS.iadd X16.here hx rfl (hb hby d3_53) rfl (by rw [show ((1 : Int32) + (1 : Int32)) = (2 : Int32) by decide]; exact k)) ?_
  obtain ⟨cl21, Ar21, qc21, S21, M21, H21, G21⟩ := id v16
  have hin21 : ¬ ((2 : Int32) < 0 ∨ cl21.slots.size ≤ ((2 : Int32)).toNatClampNeg) := (inb_of S21 ⟨by decide, by decide⟩)
  obtain ⟨T21, h21, X21, e21, W21, st21⟩ := stI X16 hx hZ e16 Ar21 (j := (2 : Int32)) hin21 (g := (mkF m 54 #[oR ak, oR ks, oi 2, oi 2, oi 2, oi 1] [(.int (2 : Int32)), (.int (2 : Int32)), (.ref ks)])) rfl rfl (hb hby d3_54)
  have sz21 : h21.size = h16.size := W21.size
  have N21 := Fr.snoc X21 N16 (by omega)
  have v21 : Arv Z h21 ks k2a .int (3 : Int32) [(.int (0 : Int32)), (.int (1 : Int32)), (.int (2 : Int32))] (.int (0 : Int32)) := Arv.set Ar21 qc21 S21 M21 H21 G21 rfl W21 2 rfl (Nat.le_of_ble_eq_true rfl)
  refine own_go (st' := T21.setTop (mkF m 55 #[oR ak, oR ks, oi 2, oi 2, oi 2, oi 1] [])) (st21) ?_
  refine own_go (st' := T21.setTop (mkF m 58 #[oR ak, oR ks, oi 3, oi 2, oi 2, oi 1] [])) (fun _ k => XS.iinc X21.here hx rfl (hb hby d3_55) rfl (l' := #[oR ak, oR ks, oi 3, oi 2, oi 2, oi 1]) (by rw [show ((2 : Int32) + Int32.ofInt 1) = (3 : Int32) by decide]; rfl) k) ?_
  refine own_go (st' := T21.setTop (mkF m 38 #[oR ak, oR ks, oi 3, oi 2, oi 2, oi 1] [])) (fun _ k => XS.goto X21.here hx rfl (pc0 := 58) (pc' := 38) rfl (hb hby d3_58) (by decide) (by decide) k) ?_
  refine own_go (st' := T21.setTop (mkF m 39 #[oR ak, oR ks, oi 3, oi 2, oi 2, oi 1] [(.int (3 : Int32))])) (fun _ k => XS.iloadN X21.here hx rfl (hb hby d3_38) rfl k) ?_
  refine own_go (st' := T21.setTop (mkF m 40 #[oR ak, oR ks, oi 3, oi 2, oi 2, oi 1] [(.ref ks), (.int (3 : Int32))])) (fun _ k => XS.aloadN X21.here hx rfl (hb hby d3_39) rfl rfl k) ?_
  obtain ⟨cl22, Ar22, -, S22, M22, -, -⟩ := id v21
  refine own_go (st' := T21.setTop (mkF m 41 #[oR ak, oR ks, oi 3, oi 2, oi 2, oi 1] [(.int (3 : Int32)), (.int (3 : Int32))])) (fun t k => X21.arraylength hx (by rw [e21]; exact Ar22.1) (State.isArrayOf_alike hZ.alike Ar22.2.1) (g := (mkF m 40 #[oR ak, oR ks, oi 3, oi 2, oi 2, oi 1] [(.ref ks), (.int (3 : Int32))])) rfl rfl (hb hby d3_40) t (by rw [len_of S22 M22]; exact k)) ?_
  have hc23 : ¬ ((3 : Int32) < (3 : Int32)) := by decide
  refine own_go (st' := T21.setTop (mkF m 61 #[oR ak, oR ks, oi 3, oi 2, oi 2, oi 1] [])) (fun _ k => XS.icmpYes X21.here hx rfl (pc0 := 41) (pc' := 61) rfl (hb hby d3_41) rfl (flt hc23).2.1 (by decide) (by decide) k) ?_
  refine own_go (st' := T21.setTop (mkF m 62 #[oR ak, oR ks, oi 3, oi 2, oi 2, oi 1] [(.ref ak)])) (fun _ k => XS.aloadN X21.here hx rfl (hb hby d3_61) rfl rfl k) ?_
  have c24 : Arv Z h21 ak k1a .int (2 : Int32) [(.int (0 : Int32)), (.int (1 : Int32))] (.int (0 : Int32)) := (((c7.other W10 (own_ne (by omega))).other W16 (own_ne (by omega))).other W21 (own_ne (by omega)))
  obtain ⟨cl25, Ar25, -, S25, M25, -, -⟩ := id c24
  refine own_go (st' := T21.setTop (mkF m 63 #[oR ak, oR ks, oi 3, oi 2, oi 2, oi 1] [(.int (2 : Int32))])) (fun t k => X21.arraylength hx (by rw [e21]; exact Ar25.1) (State.isArrayOf_alike hZ.alike Ar25.2.1) (g := (mkF m 62 #[oR ak, oR ks, oi 3, oi 2, oi 2, oi 1] [(.ref ak)])) rfl rfl (hb hby d3_62) t (by rw [len_of S25 M25]; exact k)) ?_
  obtain ⟨T26, h26, k26, X26, e26, E26, A26, st26⟩ := newP X21 hx hZ (own_hw hw 4) e21 (g := (mkF m 63 #[oR ak, oR ks, oi 3, oi 2, oi 2, oi 1] [(.int (2 : Int32))])) rfl (hb hby d3_63) rfl (by decide) (cap := 2) (by decide) (by decide) (by decide) (by decide)
  obtain ⟨b26, g26⟩ : ∃ z, z = h21.size := ⟨_, rfl⟩
  rw [← g26] at A26 st26
  have sz26 : h21.size ≤ h26.size := E26.1
  have lt26 : @LT.lt Nat _ b26 h26.size := A26.lt
  have v26 : Arv Z h26 b26 k26 .int (2 : Int32) [(.int (0 : Int32)), (.int (0 : Int32))] (.int (0 : Int32)) := (Arv.new A26 (by decide)).pad (pad_rep [] (.int (0 : Int32)) 2)
  refine own_go (st' := T26.setTop (mkF m 65 #[oR ak, oR ks, oi 3, oi 2, oi 2, oi 1] [(.ref b26)])) (st26) ?_
  refine own_go (st' := T26.setTop (mkF m 66 #[oR ak, oR ks, oR b26, oi 2, oi 2, oi 1] [])) (fun _ k => XS.astoreN X26.here hx rfl (hb hby d3_65) rfl rfl (l' := #[oR ak, oR ks, oR b26, oi 2, oi 2, oi 1]) rfl k) ?_
  refine own_go (st' := T26.setTop (mkF m 67 #[oR ak, oR ks, oR b26, oi 2, oi 2, oi 1] [(.ref ks)])) (fun _ k => XS.aloadN X26.here hx rfl (hb hby d3_66) rfl rfl k) ?_
  refine own_go (st' := T26.setTop (mkF m 68 #[oR ak, oR ks, oR b26, oi 2, oi 2, oi 1] [(.ref ks), (.ref ks)])) (fun _ k => XS.aloadN X26.here hx rfl (hb hby d3_67) rfl rfl k) ?_
  have c27 : Arv Z h26 ks k2a .int (3 : Int32) [(.int (0 : Int32)), (.int (1 : Int32)), (.int (2 : Int32))] (.int (0 : Int32)) := (v21.ext E26)
  obtain ⟨cl28, Ar28, -, S28, M28, -, -⟩ := id c27
  refine own_go (st' := T26.setTop (mkF m 69 #[oR ak, oR ks, oR b26, oi 2, oi 2, oi 1] [(.int (3 : Int32)), (.ref ks)])) (fun t k => X26.arraylength hx (by rw [e26]; exact Ar28.1) (State.isArrayOf_alike hZ.alike Ar28.2.1) (g := (mkF m 68 #[oR ak, oR ks, oR b26, oi 2, oi 2, oi 1] [(.ref ks), (.ref ks)])) rfl rfl (hb hby d3_68) t (by rw [len_of S28 M28]; exact k)) ?_
  refine own_go (st' := T26.setTop (mkF m 70 #[oR ak, oR ks, oR b26, oi 2, oi 2, oi 1] [(.int (1 : Int32)), (.int (3 : Int32)), (.ref ks)])) (fun _ k => XS.iconst X26.here hx rfl (hb hby d3_69) k) ?_
  refine own_go (st' := T26.setTop (mkF m 71 #[oR ak, oR ks, oR b26, oi 2, oi 2, oi 1] [(.int (2 : Int32)), (.ref ks)])) (fun _ k => XS.isub X26.here hx rfl (hb hby d3_70) rfl (by rw [show ((3 : Int32) - (1 : Int32)) = (2 : Int32) by decide]; exact k)) ?_
  obtain ⟨_, _, ⟨T29, LC29, kC29, nC29⟩, -, X29, ⟨Lc29, hQ29, lq29, yq29, zq29⟩, st29⟩ := Jvm.LawKit.callS X26 hx (y := oM9) hown (mvT hZ (own_hw hw 34)) (mvT hZ (own_hw hw 35)) (mvT hZ (own_hw hw 36)) (mvT hZ (own_hw hw 37)) (by decide) (backOf (W := 0) (rm4 l Z a0 hw [] ks k2a h26 n0 (by omega) c27) hZ (own_hw hw 37) (own_hw hw 36) (by decide) (by decide)) (g := (mkF m 71 #[oR ak, oR ks, oR b26, oi 2, oi 2, oi 1] [(.int (2 : Int32)), (.ref ks)])) rfl (by rw [hml]; rfl) (argsL := [(.ref ks), (.int (2 : Int32))]) (rest := []) (lenOf pd_1 rfl) rfl (by show 2 * 0 + _ ≤ _; exact Nat.le_of_eq rfl) (hb hby d3_71) (fun _ _ => ⟨rfl, e26, (by decide : 1 + 1 ≤ _), (by decide : 2 + 2 ≤ _)⟩)
  dsimp only [Pt.U, Pt.locs, Pt.cells, Pt.slots] at X29 lq29 yq29 zq29 st29 hQ29
  subst lq29 yq29 zq29
  obtain ⟨h29, e29⟩ : ∃ z, T29.heap = z := ⟨_, rfl⟩
  rw [e29] at hQ29
  obtain ⟨r_29, kr_29, rfl, Nq29, K29, g29_0, g29_1⟩ := hQ29
  have sz29 : h26.size ≤ h29.size := K29.1
  have N29 := Fr.app N21 Nq29
  have lt29_1 : @LT.lt Nat _ r_29 h29.size := g29_0.lt
  refine own_go (st' := T29.setTop (mkF m 74 #[oR ak, oR ks, oR b26, oi 2, oi 2, oi 1] [(.ref r_29)])) (fun t k => st29 t k) ?_
  refine own_go (st' := T29.setTop (mkF m 75 #[oR ak, oR ks, oR b26, oR r_29, oi 2, oi 1] [])) (fun _ k => XS.astoreN X29.here hx rfl (hb hby d3_74) rfl rfl (l' := #[oR ak, oR ks, oR b26, oR r_29, oi 2, oi 1]) rfl k) ?_
  refine own_go (st' := T29.setTop (mkF m 76 #[oR ak, oR ks, oR b26, oR r_29, oi 2, oi 1] [(.int (0 : Int32))])) (fun _ k => XS.iconst X29.here hx rfl (hb hby d3_75) k) ?_
  refine own_go (st' := T29.setTop (mkF m 78 #[oR ak, oR ks, oR b26, oR r_29, oi 0, oi 1] [])) (fun _ k => XS.istore X29.here hx rfl (hb hby d3_76) rfl (l' := #[oR ak, oR ks, oR b26, oR r_29, oi 0, oi 1]) rfl k) ?_
  refine own_go (st' := T29.setTop (mkF m 80 #[oR ak, oR ks, oR b26, oR r_29, oi 0, oi 1] [(.int (0 : Int32))])) (fun _ k => XS.iload X29.here hx rfl (hb hby d3_78) rfl k) ?_
  refine own_go (st' := T29.setTop (mkF m 81 #[oR ak, oR ks, oR b26, oR r_29, oi 0, oi 1] [(.ref ak), (.int (0 : Int32))])) (fun _ k => XS.aloadN X29.here hx rfl (hb hby d3_80) rfl rfl k) ?_
  have c30 : Arv Z h29 ak k1a .int (2 : Int32) [(.int (0 : Int32)), (.int (1 : Int32))] (.int (0 : Int32)) := ((c24.ext E26).keep K29 nin0)
  obtain ⟨cl31, Ar31, -, S31, M31, -, -⟩ := id c30
  refine own_go (st' := T29.setTop (mkF m 82 #[oR ak, oR ks, oR b26, oR r_29, oi 0, oi 1] [(.int (2 : Int32)), (.int (0 : Int32))])) (fun t k => X29.arraylength hx (by rw [e29]; exact Ar31.1) (State.isArrayOf_alike hZ.alike Ar31.2.1) (g := (mkF m 81 #[oR ak, oR ks, oR b26, oR r_29, oi 0, oi 1] [(.ref ak), (.int (0 : Int32))])) rfl rfl (hb hby d3_81) t (by rw [len_of S31 M31]; exact k)) ?_
  have hc32 : (0 : Int32) < (2 : Int32) := by decide
  refine own_go (st' := T29.setTop (mkF m 85 #[oR ak, oR ks, oR b26, oR r_29, oi 0, oi 1] [])) (fun _ k => XS.icmpNo X29.here hx rfl (hb hby d3_82) rfl (tlt hc32).2.1 k) ?_
  refine own_go (st' := T29.setTop (mkF m 86 #[oR ak, oR ks, oR b26, oR r_29, oi 0, oi 1] [(.ref b26)])) (fun _ k => XS.aloadN X29.here hx rfl (hb hby d3_85) rfl rfl k) ?_
  refine own_go (st' := T29.setTop (mkF m 87 #[oR ak, oR ks, oR b26, oR r_29, oi 0, oi 1] [(.ref r_29), (.ref b26)])) (fun _ k => XS.aloadN X29.here hx rfl (hb hby d3_86) rfl rfl k) ?_
  refine own_go (st' := T29.setTop (mkF m 88 #[oR ak, oR ks, oR b26, oR r_29, oi 0, oi 1] [(.ref ak), (.ref r_29), (.ref b26)])) (fun _ k => XS.aloadN X29.here hx rfl (hb hby d3_87) rfl rfl k) ?_
  refine own_go (st' := T29.setTop (mkF m 90 #[oR ak, oR ks, oR b26, oR r_29, oi 0, oi 1] [(.int (0 : Int32)), (.ref ak), (.ref r_29), (.ref b26)])) (fun _ k => XS.iload X29.here hx rfl (hb hby d3_88) rfl k) ?_
  obtain ⟨cl33, Ar33, -, S33, M33, H33, -⟩ := id c30
  have hin33 : ¬ ((0 : Int32) < 0 ∨ cl33.slots.size ≤ ((0 : Int32)).toNatClampNeg) := (inb_of S33 ⟨by decide, by decide⟩)
  have hat33 : cl33.slots[((0 : Int32)).toNatClampNeg]? = some (.int (0 : Int32)) := (H33.at hin33 rfl)
  refine own_go (st' := T29.setTop (mkF m 91 #[oR ak, oR ks, oR b26, oR r_29, oi 0, oi 1] [(.int (0 : Int32)), (.ref r_29), (.ref b26)])) (X29.iaload hx (j := (0 : Int32)) (v := (.int (0 : Int32))) (by rw [e29]; exact Ar33.1) (State.isArrayOf_alike hZ.alike Ar33.2.1) Ar33.2.2 hin33 hat33 (g := (mkF m 90 #[oR ak, oR ks, oR b26, oR r_29, oi 0, oi 1] [(.int (0 : Int32)), (.ref ak), (.ref r_29), (.ref b26)])) rfl rfl (hb hby d3_90)) ?_
  refine own_go (st' := T29.setTop (mkF m 92 #[oR ak, oR ks, oR b26, oR r_29, oi 0, oi 1] [(.int (0 : Int32)), (.ref r_29), (.int (0 : Int32)), (.ref r_29), (.ref b26)])) (fun _ k => XT.dup2 X29.here hx rfl (hb hby d3_91) rfl rfl rfl k) ?_
  obtain ⟨cl34, Ar34, -, S34, M34, H34, -⟩ := id g29_0
  have hin34 : ¬ ((0 : Int32) < 0 ∨ cl34.slots.size ≤ ((0 : Int32)).toNatClampNeg) := (inb_of S34 ⟨by decide, by decide⟩)
  have hat34 : cl34.slots[((0 : Int32)).toNatClampNeg]? = some (.int (0 : Int32)) := (H34.at hin34 rfl)
  refine own_go (st' := T29.setTop (mkF m 93 #[oR ak, oR ks, oR b26, oR r_29, oi 0, oi 1] [(.int (0 : Int32)), (.int (0 : Int32)), (.ref r_29), (.ref b26)])) (X29.iaload hx (j := (0 : Int32)) (v := (.int (0 : Int32))) (by rw [e29]; exact Ar34.1) (State.isArrayOf_alike hZ.alike Ar34.2.1) Ar34.2.2 hin34 hat34 (g := (mkF m 92 #[oR ak, oR ks, oR b26, oR r_29, oi 0, oi 1] [(.int (0 : Int32)), (.ref r_29), (.int (0 : Int32)), (.ref r_29), (.ref b26)])) rfl rfl (hb hby d3_92)) ?_
  refine own_go (st' := T29.setTop (mkF m 94 #[oR ak, oR ks, oR b26, oR r_29, oi 0, oi 1] [(.int (0 : Int32)), (.int (0 : Int32)), (.ref r_29), (.int (0 : Int32)), (.ref b26)])) (fun _ k => by jvm_step X29.here [X29.here.top, hx, (hb hby d3_93), Value.category]; exact k) ?_
  refine own_go (st' := T29.setTop (mkF m 95 #[oR ak, oR ks, oR b26, oR r_29, oi 0, oi 1] [(.int (1 : Int32)), (.int (0 : Int32)), (.int (0 : Int32)), (.ref r_29), (.int (0 : Int32)), (.ref b26)])) (fun _ k => XS.iconst X29.here hx rfl (hb hby d3_94) k) ?_
  refine own_go (st' := T29.setTop (mkF m 96 #[oR ak, oR ks, oR b26, oR r_29, oi 0, oi 1] [(.int (1 : Int32)), (.int (0 : Int32)), (.ref r_29), (.int (0 : Int32)), (.ref b26)])) (fun _ k => XS.iadd X29.here hx rfl (hb hby d3_95) rfl (by rw [show ((0 : Int32) + (1 : Int32)) = (1 : Int32) by decide]; exact k)) ?_
  obtain ⟨cl35, Ar35, qc35, S35, M35, H35, G35⟩ := id g29_0
  have hin35 : ¬ ((0 : Int32) < 0 ∨ cl35.slots.size ≤ ((0 : Int32)).toNatClampNeg) := (inb_of S35 ⟨by decide, by decide⟩)
  obtain ⟨T35, h35, X35, e35, W35, st35⟩ := stI X29 hx hZ e29 Ar35 (j := (0 : Int32)) hin35 (g := (mkF m 96 #[oR ak, oR ks, oR b26, oR r_29, oi 0, oi 1] [(.int (1 : Int32)), (.int (0 : Int32)), (.ref r_29), (.int (0 : Int32)), (.ref b26)])) rfl rfl (hb hby d3_96)
  have sz35 : h35.size = h29.size := W35.size
  have N35 := Fr.snoc X35 N29 (by omega)
  have v35 : Arv Z h35 r_29 kr_29 .int (2 : Int32) [(.int (1 : Int32)), (.int (1 : Int32))] (.int (0 : Int32)) := Arv.set Ar35 qc35 S35 M35 H35 G35 rfl W35 0 rfl (Nat.le_of_ble_eq_true rfl)
  refine own_go (st' := T35.setTop (mkF m 97 #[oR ak, oR ks, oR b26, oR r_29, oi 0, oi 1] [(.int (0 : Int32)), (.ref b26)])) (st35) ?_
  refine own_go (st' := T35.setTop (mkF m 99 #[oR ak, oR ks, oR b26, oR r_29, oi 0, oi 1] [(.int (0 : Int32)), (.int (0 : Int32)), (.ref b26)])) (fun _ k => XS.iload X35.here hx rfl (hb hby d3_97) rfl k) ?_
  have c36 : Arv Z h35 b26 k26 .int (2 : Int32) [(.int (0 : Int32)), (.int (0 : Int32))] (.int (0 : Int32)) := ((v26.keep K29 nin0).other W35 (own_ne (by omega)))
  obtain ⟨cl37, Ar37, qc37, S37, M37, H37, G37⟩ := id c36
  have hin37 : ¬ ((0 : Int32) < 0 ∨ cl37.slots.size ≤ ((0 : Int32)).toNatClampNeg) := (inb_of S37 ⟨by decide, by decide⟩)
  obtain ⟨T37, h37, X37, e37, W37, st37⟩ := stI X35 hx hZ e35 Ar37 (j := (0 : Int32)) hin37 (g := (mkF m 99 #[oR ak, oR ks, oR b26, oR r_29, oi 0, oi 1] [(.int (0 : Int32)), (.int (0 : Int32)), (.ref b26)])) rfl rfl (hb hby d3_99)
  have sz37 : h37.size = h35.size := W37.size
  have N37 := Fr.snoc X37 N35 (by omega)
  have v37 : Arv Z h37 b26 k26 .int (2 : Int32) [(.int (0 : Int32)), (.int (0 : Int32))] (.int (0 : Int32)) := Arv.set Ar37 qc37 S37 M37 H37 G37 rfl W37 0 rfl (Nat.le_of_ble_eq_true rfl)
  refine own_go (st' := T37.setTop (mkF m 100 #[oR ak, oR ks, oR b26, oR r_29, oi 0, oi 1] [])) (st37) ?_
  refine own_go (st' := T37.setTop (mkF m 103 #[oR ak, oR ks, oR b26, oR r_29, oi 1, oi 1] [])) (fun _ k => XS.iinc X37.here hx rfl (hb hby d3_100) rfl (l' := #[oR ak, oR ks, oR b26, oR r_29, oi 1, oi 1]) (by rw [show ((0 : Int32) + Int32.ofInt 1) = (1 : Int32) by decide]; rfl) k) ?_
  refine own_go (st' := T37.setTop (mkF m 78 #[oR ak, oR ks, oR b26, oR r_29, oi 1, oi 1] [])) (fun _ k => XS.goto X37.here hx rfl (pc0 := 103) (pc' := 78) rfl (hb hby d3_103) (by decide) (by decide) k) ?_
  refine own_go (st' := T37.setTop (mkF m 80 #[oR ak, oR ks, oR b26, oR r_29, oi 1, oi 1] [(.int (1 : Int32))])) (fun _ k => XS.iload X37.here hx rfl (hb hby d3_78) rfl k) ?_
  refine own_go (st' := T37.setTop (mkF m 81 #[oR ak, oR ks, oR b26, oR r_29, oi 1, oi 1] [(.ref ak), (.int (1 : Int32))])) (fun _ k => XS.aloadN X37.here hx rfl (hb hby d3_80) rfl rfl k) ?_
  have c38 : Arv Z h37 ak k1a .int (2 : Int32) [(.int (0 : Int32)), (.int (1 : Int32))] (.int (0 : Int32)) := ((c30.other W35 (own_ne (by omega))).other W37 (own_ne (by omega)))
  obtain ⟨cl39, Ar39, -, S39, M39, -, -⟩ := id c38
  refine own_go (st' := T37.setTop (mkF m 82 #[oR ak, oR ks, oR b26, oR r_29, oi 1, oi 1] [(.int (2 : Int32)), (.int (1 : Int32))])) (fun t k => X37.arraylength hx (by rw [e37]; exact Ar39.1) (State.isArrayOf_alike hZ.alike Ar39.2.1) (g := (mkF m 81 #[oR ak, oR ks, oR b26, oR r_29, oi 1, oi 1] [(.ref ak), (.int (1 : Int32))])) rfl rfl (hb hby d3_81) t (by rw [len_of S39 M39]; exact k)) ?_
  have hc40 : (1 : Int32) < (2 : Int32) := by decide
  refine own_go (st' := T37.setTop (mkF m 85 #[oR ak, oR ks, oR b26, oR r_29, oi 1, oi 1] [])) (fun _ k => XS.icmpNo X37.here hx rfl (hb hby d3_82) rfl (tlt hc40).2.1 k) ?_
  refine own_go (st' := T37.setTop (mkF m 86 #[oR ak, oR ks, oR b26, oR r_29, oi 1, oi 1] [(.ref b26)])) (fun _ k => XS.aloadN X37.here hx rfl (hb hby d3_85) rfl rfl k) ?_
  refine own_go (st' := T37.setTop (mkF m 87 #[oR ak, oR ks, oR b26, oR r_29, oi 1, oi 1] [(.ref r_29), (.ref b26)])) (fun _ k => XS.aloadN X37.here hx rfl (hb hby d3_86) rfl rfl k) ?_
  refine own_go (st' := T37.setTop (mkF m 88 #[oR ak, oR ks, oR b26, oR r_29, oi 1, oi 1] [(.ref ak), (.ref r_29), (.ref b26)])) (fun _ k => XS.aloadN X37.here hx rfl (hb hby d3_87) rfl rfl k) ?_
  refine own_go (st' := T37.setTop (mkF m 90 #[oR ak, oR ks, oR b26, oR r_29, oi 1, oi 1] [(.int (1 : Int32)), (.ref ak), (.ref r_29), (.ref b26)])) (fun _ k => XS.iload X37.here hx rfl (hb hby d3_88) rfl k) ?_
  obtain ⟨cl41, Ar41, -, S41, M41, H41, -⟩ := id c38
  have hin41 : ¬ ((1 : Int32) < 0 ∨ cl41.slots.size ≤ ((1 : Int32)).toNatClampNeg) := (inb_of S41 ⟨by decide, by decide⟩)
  have hat41 : cl41.slots[((1 : Int32)).toNatClampNeg]? = some (.int (1 : Int32)) := (H41.at hin41 rfl)
  refine own_go (st' := T37.setTop (mkF m 91 #[oR ak, oR ks, oR b26, oR r_29, oi 1, oi 1] [(.int (1 : Int32)), (.ref r_29), (.ref b26)])) (X37.iaload hx (j := (1 : Int32)) (v := (.int (1 : Int32))) (by rw [e37]; exact Ar41.1) (State.isArrayOf_alike hZ.alike Ar41.2.1) Ar41.2.2 hin41 hat41 (g := (mkF m 90 #[oR ak, oR ks, oR b26, oR r_29, oi 1, oi 1] [(.int (1 : Int32)), (.ref ak), (.ref r_29), (.ref b26)])) rfl rfl (hb hby d3_90)) ?_
  refine own_go (st' := T37.setTop (mkF m 92 #[oR ak, oR ks, oR b26, oR r_29, oi 1, oi 1] [(.int (1 : Int32)), (.ref r_29), (.int (1 : Int32)), (.ref r_29), (.ref b26)])) (fun _ k => XT.dup2 X37.here hx rfl (hb hby d3_91) rfl rfl rfl k) ?_
  have c42 : Arv Z h37 r_29 kr_29 .int (2 : Int32) [(.int (1 : Int32)), (.int (1 : Int32))] (.int (0 : Int32)) := (v35.other W37 (own_ne (by omega)))
  obtain ⟨cl43, Ar43, -, S43, M43, H43, -⟩ := id c42
  have hin43 : ¬ ((1 : Int32) < 0 ∨ cl43.slots.size ≤ ((1 : Int32)).toNatClampNeg) := (inb_of S43 ⟨by decide, by decide⟩)
  have hat43 : cl43.slots[((1 : Int32)).toNatClampNeg]? = some (.int (1 : Int32)) := (H43.at hin43 rfl)
  refine own_go (st' := T37.setTop (mkF m 93 #[oR ak, oR ks, oR b26, oR r_29, oi 1, oi 1] [(.int (1 : Int32)), (.int (1 : Int32)), (.ref r_29), (.ref b26)])) (X37.iaload hx (j := (1 : Int32)) (v := (.int (1 : Int32))) (by rw [e37]; exact Ar43.1) (State.isArrayOf_alike hZ.alike Ar43.2.1) Ar43.2.2 hin43 hat43 (g := (mkF m 92 #[oR ak, oR ks, oR b26, oR r_29, oi 1, oi 1] [(.int (1 : Int32)), (.ref r_29), (.int (1 : Int32)), (.ref r_29), (.ref b26)])) rfl rfl (hb hby d3_92)) ?_
  refine own_go (st' := T37.setTop (mkF m 94 #[oR ak, oR ks, oR b26, oR r_29, oi 1, oi 1] [(.int (1 : Int32)), (.int (1 : Int32)), (.ref r_29), (.int (1 : Int32)), (.ref b26)])) (fun _ k => by jvm_step X37.here [X37.here.top, hx, (hb hby d3_93), Value.category]; exact k) ?_
  refine own_go (st' := T37.setTop (mkF m 95 #[oR ak, oR ks, oR b26, oR r_29, oi 1, oi 1] [(.int (1 : Int32)), (.int (1 : Int32)), (.int (1 : Int32)), (.ref r_29), (.int (1 : Int32)), (.ref b26)])) (fun _ k => XS.iconst X37.here hx rfl (hb hby d3_94) k) ?_
  refine own_go (st' := T37.setTop (mkF m 96 #[oR ak, oR ks, oR b26, oR r_29, oi 1, oi 1] [(.int (2 : Int32)), (.int (1 : Int32)), (.ref r_29), (.int (1 : Int32)), (.ref b26)])) (fun _ k => XS.iadd X37.here hx rfl (hb hby d3_95) rfl (by rw [show ((1 : Int32) + (1 : Int32)) = (2 : Int32) by decide]; exact k)) ?_
  obtain ⟨cl44, Ar44, qc44, S44, M44, H44, G44⟩ := id c42
  have hin44 : ¬ ((1 : Int32) < 0 ∨ cl44.slots.size ≤ ((1 : Int32)).toNatClampNeg) := (inb_of S44 ⟨by decide, by decide⟩)
  obtain ⟨T44, h44, X44, e44, W44, st44⟩ := stI X37 hx hZ e37 Ar44 (j := (1 : Int32)) hin44 (g := (mkF m 96 #[oR ak, oR ks, oR b26, oR r_29, oi 1, oi 1] [(.int (2 : Int32)), (.int (1 : Int32)), (.ref r_29), (.int (1 : Int32)), (.ref b26)])) rfl rfl (hb hby d3_96)
  have sz44 : h44.size = h37.size := W44.size
  have N44 := Fr.snoc X44 N37 (by omega)
  have v44 : Arv Z h44 r_29 kr_29 .int (2 : Int32) [(.int (1 : Int32)), (.int (2 : Int32))] (.int (0 : Int32)) := Arv.set Ar44 qc44 S44 M44 H44 G44 rfl W44 1 rfl (Nat.le_of_ble_eq_true rfl)
  refine own_go (st' := T44.setTop (mkF m 97 #[oR ak, oR ks, oR b26, oR r_29, oi 1, oi 1] [(.int (1 : Int32)), (.ref b26)])) (st44) ?_
  refine own_go (st' := T44.setTop (mkF m 99 #[oR ak, oR ks, oR b26, oR r_29, oi 1, oi 1] [(.int (1 : Int32)), (.int (1 : Int32)), (.ref b26)])) (fun _ k => XS.iload X44.here hx rfl (hb hby d3_97) rfl k) ?_
  have c45 : Arv Z h44 b26 k26 .int (2 : Int32) [(.int (0 : Int32)), (.int (0 : Int32))] (.int (0 : Int32)) := (v37.other W44 (own_ne (by omega)))
  obtain ⟨cl46, Ar46, qc46, S46, M46, H46, G46⟩ := id c45
  have hin46 : ¬ ((1 : Int32) < 0 ∨ cl46.slots.size ≤ ((1 : Int32)).toNatClampNeg) := (inb_of S46 ⟨by decide, by decide⟩)
  obtain ⟨T46, h46, X46, e46, W46, st46⟩ := stI X44 hx hZ e44 Ar46 (j := (1 : Int32)) hin46 (g := (mkF m 99 #[oR ak, oR ks, oR b26, oR r_29, oi 1, oi 1] [(.int (1 : Int32)), (.int (1 : Int32)), (.ref b26)])) rfl rfl (hb hby d3_99)
  have sz46 : h46.size = h44.size := W46.size
  have N46 := Fr.snoc X46 N44 (by omega)
  have v46 : Arv Z h46 b26 k26 .int (2 : Int32) [(.int (0 : Int32)), (.int (1 : Int32))] (.int (0 : Int32)) := Arv.set Ar46 qc46 S46 M46 H46 G46 rfl W46 1 rfl (Nat.le_of_ble_eq_true rfl)
  refine own_go (st' := T46.setTop (mkF m 100 #[oR ak, oR ks, oR b26, oR r_29, oi 1, oi 1] [])) (st46) ?_
  refine own_go (st' := T46.setTop (mkF m 103 #[oR ak, oR ks, oR b26, oR r_29, oi 2, oi 1] [])) (fun _ k => XS.iinc X46.here hx rfl (hb hby d3_100) rfl (l' := #[oR ak, oR ks, oR b26, oR r_29, oi 2, oi 1]) (by rw [show ((1 : Int32) + Int32.ofInt 1) = (2 : Int32) by decide]; rfl) k) ?_
  refine own_go (st' := T46.setTop (mkF m 78 #[oR ak, oR ks, oR b26, oR r_29, oi 2, oi 1] [])) (fun _ k => XS.goto X46.here hx rfl (pc0 := 103) (pc' := 78) rfl (hb hby d3_103) (by decide) (by decide) k) ?_
  refine own_go (st' := T46.setTop (mkF m 80 #[oR ak, oR ks, oR b26, oR r_29, oi 2, oi 1] [(.int (2 : Int32))])) (fun _ k => XS.iload X46.here hx rfl (hb hby d3_78) rfl k) ?_
  refine own_go (st' := T46.setTop (mkF m 81 #[oR ak, oR ks, oR b26, oR r_29, oi 2, oi 1] [(.ref ak), (.int (2 : Int32))])) (fun _ k => XS.aloadN X46.here hx rfl (hb hby d3_80) rfl rfl k) ?_
  have c47 : Arv Z h46 ak k1a .int (2 : Int32) [(.int (0 : Int32)), (.int (1 : Int32))] (.int (0 : Int32)) := ((c38.other W44 (own_ne (by omega))).other W46 (own_ne (by omega)))
  obtain ⟨cl48, Ar48, -, S48, M48, -, -⟩ := id c47
  refine own_go (st' := T46.setTop (mkF m 82 #[oR ak, oR ks, oR b26, oR r_29, oi 2, oi 1] [(.int (2 : Int32)), (.int (2 : Int32))])) (fun t k => X46.arraylength hx (by rw [e46]; exact Ar48.1) (State.isArrayOf_alike hZ.alike Ar48.2.1) (g := (mkF m 81 #[oR ak, oR ks, oR b26, oR r_29, oi 2, oi 1] [(.ref ak), (.int (2 : Int32))])) rfl rfl (hb hby d3_81) t (by rw [len_of S48 M48]; exact k)) ?_
  have hc49 : ¬ ((2 : Int32) < (2 : Int32)) := by decide
  refine own_go (st' := T46.setTop (mkF m 106 #[oR ak, oR ks, oR b26, oR r_29, oi 2, oi 1] [])) (fun _ k => XS.icmpYes X46.here hx rfl (pc0 := 82) (pc' := 106) rfl (hb hby d3_82) rfl (flt hc49).2.1 (by decide) (by decide) k) ?_
  refine own_go (st' := T46.setTop (mkF m 107 #[oR ak, oR ks, oR b26, oR r_29, oi 2, oi 1] [(.ref b26)])) (fun _ k => XS.aloadN X46.here hx rfl (hb hby d3_106) rfl rfl k) ?_
  obtain ⟨fs, hr, hrun, hended, hW, hsame⟩ := X46.leave (v := some (.ref b26)) (fun h => by rw [Bd.returns] at h; cases h)
  refine ⟨_, _, ?_, hP _ _ hrun hended ⟨_, _, rfl, ?_, ⟨_, rfl⟩, hW, hsame.mono (by decide) (by decide)⟩⟩
  · exact retOut X46 hx Bd.returns rfl (Or.inr (Or.inr (Or.inr (Or.inr ⟨rfl, rfl, rfl⟩)))) (hb hby d3_107) hr
  · show Qrm3 Z ak ks k1a k2a h0 n0 _ T46.heap _
    have c51 : Arv Z h46 ks k2a .int (3 : Int32) [(.int (0 : Int32)), (.int (1 : Int32)), (.int (2 : Int32))] (.int (0 : Int32)) := (((((c27.keep K29 nin0).other W35 (own_ne (by omega))).other W37 (own_ne (by omega))).other W44 (own_ne (by omega))).other W46 (own_ne (by omega)))
    rw [e46]
    exact ⟨b26, k26, rfl, N46, (((((((((((Keep.refl h0 [ks]).wr W5 (Or.inl (List.mem_of_getElem? (i := 0) rfl))).wr W10 (Or.inl (List.mem_of_getElem? (i := 0) rfl))).wr W16 (Or.inl (List.mem_of_getElem? (i := 0) rfl))).wr W21 (Or.inl (List.mem_of_getElem? (i := 0) rfl))).ext E26).trans K29 all0).wr W35 (Or.inr (by omega))).wr W37 (Or.inr (by omega))).wr W44 (Or.inr (by omega))).wr W46 (Or.inr (by omega))), c51, v46, (by omega)⟩
theorem d7_0 : decode jdk_65_method_103_code 0 = .ok (.iconst 0, 1) := by decide +kernel
theorem d7_1 : decode jdk_65_method_103_code 1 = .ok (.istore_n 2, 1) := by decide +kernel
theorem d7_2 : decode jdk_65_method_103_code 2 = .ok (.aload_n 0, 1) := by decide +kernel
theorem d7_3 : decode jdk_65_method_103_code 3 = .ok (.arraylength, 1) := by decide +kernel
theorem d7_4 : decode jdk_65_method_103_code 4 = .ok (.istore_n 3, 1) := by decide +kernel
theorem d7_5 : decode jdk_65_method_103_code 5 = .ok (.iload_n 2, 1) := by decide +kernel
theorem d7_6 : decode jdk_65_method_103_code 6 = .ok (.iload_n 3, 1) := by decide +kernel
theorem d7_7 : decode jdk_65_method_103_code 7 = .ok (.if_icmp .ge 13, 3) := by decide +kernel
theorem d7_10 : decode jdk_65_method_103_code 10 = .ok (.aload_n 0, 1) := by decide +kernel
theorem d7_11 : decode jdk_65_method_103_code 11 = .ok (.iload_n 2, 1) := by decide +kernel
theorem d7_12 : decode jdk_65_method_103_code 12 = .ok (.iload_n 1, 1) := by decide +kernel
theorem d7_13 : decode jdk_65_method_103_code 13 = .ok (.iastore, 1) := by decide +kernel
theorem d7_14 : decode jdk_65_method_103_code 14 = .ok (.iinc 2 1, 3) := by decide +kernel
theorem d7_17 : decode jdk_65_method_103_code 17 = .ok (.goto (-12), 3) := by decide +kernel
theorem d7_20 : decode jdk_65_method_103_code 20 = .ok (.return_, 1) := by decide +kernel
theorem pn_7 : plainName "java/util/Arrays" = true := by first | (simp [plainName, overriddenIn]; done) | decide +kernel
theorem ef_rm7 (m : MethodId) (x0 : Addr) (x1 : Int32) : entryFrame m #[(.ref x0), (.int x1)] 4 = mkF m 0 #[.val (.ref x0), .val (.int x1), .unset, .unset] [] := by first | (simp [entryFrame, mkF, argsToLocals, Value.category]; done) | rfl
def Qrm7 (Z : State) (ar : Addr) (kar : ClassId) (h0 : Heap) (n0 : Nat) (v : Option Value) (h : Heap) (L : List Loc) : Prop := (v = none) ∧ (Fr n0 L) ∧ (Keep h0 h [ar]) ∧ (Arv Z h ar kar .int (5 : Int32) [(.int (-1 : Int32)), (.int (-1 : Int32)), (.int (-1 : Int32)), (.int (-1 : Int32)), (.int (-1 : Int32))] (.int (0 : Int32)))
set_option maxRecDepth 65536 in
set_option maxHeartbeats 40000000 in
theorem rm7 (l : Launch) (Z : State) (a0 : Array Value) (hw : ∀ d ∈ tables_1, d.before a0 Z = true) (ws : List Jvm.Cond) (ar : Addr) (kar : ClassId) (h0 : Heap) (n0 : Nat) (Z0 : n0 ≤ h0.size) (pr1 : Arv Z h0 ar kar .int (5 : Int32) [(.int (0 : Int32)), (.int (0 : Int32)), (.int (0 : Int32)), (.int (0 : Int32)), (.int (0 : Int32))] (.int (0 : Int32))) (pr2 : n0 ≤ ar) :
    MetFree l oM10 (head1 (Jvm.Cond.code oM10 jdk_65_method_103_code 4 none :: ws) ({ frames := 0, cells := 0, slots := 0, locals := 0 } : Room)) (fun a U => a = #[(.ref ar), (.int (-1 : Int32))] ∧ Z.Warmed39 U.vm ∧ U.heap = h0) (fun _ _ _ _ _ => True) (fun _ U o U' => ∃ v L, o = .returned v ∧ Qrm7 Z ar kar h0 n0 v U'.heap L ∧ FrameEnd U o U' L ({ frames := 0, cells := 0, slots := 0, locals := 0 } : Room).cells ({ frames := 0, cells := 0, slots := 0, locals := 0 } : Room).slots) := by
  refine MetFree.of_bodySF (plainFor_of_name pn_7) hisR ?_
  intro p e s m args below meth c s₁ Bd hml0 hP0 hK
  obtain ⟨rfl, hZ, hh⟩ := hP0
  have hx := Bd.exec
  have hby := Bd.bytes
  have hml : c.maxLocals = 4 := hml0
  have hown : s.vm.findClass "java/util/Arrays" = some m.cls := findClass_of_methodNamed Bd.named
  have hnm := (name_of_methodNamed Bd.named Bd.method).1
  have X0 : Stand p l e ({ frames := 0, cells := 0, slots := 0, locals := 0 } : Room) s m #[(.ref ar), (.int (-1 : Int32))] below meth c s₁ [] 0 0 := Stand.of_body Bd
  have e0 : s₁.heap = h0 := by rw [← hh, Bd.state]; rfl
  have N0 := Fr.nil n0
  suffices own_H : ∀ (P : State → Outcome → Prop), (∀ U o, U.status = .running → Ended U below o → (∃ v L, o = .returned v ∧ Qrm7 Z ar kar h0 n0 v U.heap L ∧ FrameEnd s o U L ({ frames := 0, cells := 0, slots := 0, locals := 0 } : Room).cells ({ frames := 0, cells := 0, slots := 0, locals := 0 } : Room).slots) → P U o) → own_Go p.tables e below P (s₁.setTop (mkF m 0 #[oR ar, oi (-1), .unset, .unset] [])) from own_go (fun _ k => castTop (ef_rm7 m ar (-1 : Int32)) k) (own_H _ (fun U o h1 h2 h3 => ⟨h1, h2, h3⟩))
  intro P hP
  have lt_ar : @LT.lt Nat _ ar h0.size := pr1.lt
  refine own_go (st' := s₁.setTop (mkF m 1 #[oR ar, oi (-1), .unset, .unset] [(.int (0 : Int32))])) (fun _ k => XS.iconst X0.here hx rfl (hb hby d7_0) k) ?_
  refine own_go (st' := s₁.setTop (mkF m 2 #[oR ar, oi (-1), oi 0, .unset] [])) (fun _ k => XS.istoreN X0.here hx rfl (hb hby d7_1) rfl (l' := #[oR ar, oi (-1), oi 0, .unset]) rfl k) ?_
  refine own_go (st' := s₁.setTop (mkF m 3 #[oR ar, oi (-1), oi 0, .unset] [(.ref ar)])) (fun _ k => XS.aloadN X0.here hx rfl (hb hby d7_2) rfl rfl k) ?_
  obtain ⟨cl1, Ar1, -, S1, M1, -, -⟩ := id pr1
  refine own_go (st' := s₁.setTop (mkF m 4 #[oR ar, oi (-1), oi 0, .unset] [(.int (5 : Int32))])) (fun t k => X0.arraylength hx (by rw [e0]; exact Ar1.1) (State.isArrayOf_alike hZ.alike Ar1.2.1) (g := (mkF m 3 #[oR ar, oi (-1), oi 0, .unset] [(.ref ar)])) rfl rfl (hb hby d7_3) t (by rw [len_of S1 M1]; exact k)) ?_
  refine own_go (st' := s₁.setTop (mkF m 5 #[oR ar, oi (-1), oi 0, oi 5] [])) (fun _ k => XS.istoreN X0.here hx rfl (hb hby d7_4) rfl (l' := #[oR ar, oi (-1), oi 0, oi 5]) rfl k) ?_
  refine own_go (st' := s₁.setTop (mkF m 6 #[oR ar, oi (-1), oi 0, oi 5] [(.int (0 : Int32))])) (fun _ k => XS.iloadN X0.here hx rfl (hb hby d7_5) rfl k) ?_
  refine own_go (st' := s₁.setTop (mkF m 7 #[oR ar, oi (-1), oi 0, oi 5] [(.int (5 : Int32)), (.int (0 : Int32))])) (fun _ k => XS.iloadN X0.here hx rfl (hb hby d7_6) rfl k) ?_
  have hc2 : (0 : Int32) < (5 : Int32) := by decide
  refine own_go (st' := s₁.setTop (mkF m 10 #[oR ar, oi (-1), oi 0, oi 5] [])) (fun _ k => XS.icmpNo X0.here hx rfl (hb hby d7_7) rfl (tlt hc2).2.1 k) ?_
  refine own_go (st' := s₁.setTop (mkF m 11 #[oR ar, oi (-1), oi 0, oi 5] [(.ref ar)])) (fun _ k => XS.aloadN X0.here hx rfl (hb hby d7_10) rfl rfl k) ?_
  refine own_go (st' := s₁.setTop (mkF m 12 #[oR ar, oi (-1), oi 0, oi 5] [(.int (0 : Int32)), (.ref ar)])) (fun _ k => XS.iloadN X0.here hx rfl (hb hby d7_11) rfl k) ?_
  refine own_go (st' := s₁.setTop (mkF m 13 #[oR ar, oi (-1), oi 0, oi 5] [(.int (-1 : Int32)), (.int (0 : Int32)), (.ref ar)])) (fun _ k => XS.iloadN X0.here hx rfl (hb hby d7_12) rfl k) ?_
  obtain ⟨cl3, Ar3, qc3, S3, M3, H3, G3⟩ := id pr1
  have hin3 : ¬ ((0 : Int32) < 0 ∨ cl3.slots.size ≤ ((0 : Int32)).toNatClampNeg) := (inb_of S3 ⟨by decide, by decide⟩)
  obtain ⟨T3, h3, X3, e3, W3, st3⟩ := stI X0 hx hZ e0 Ar3 (j := (0 : Int32)) hin3 (g := (mkF m 13 #[oR ar, oi (-1), oi 0, oi 5] [(.int (-1 : Int32)), (.int (0 : Int32)), (.ref ar)])) rfl rfl (hb hby d7_13)
  have sz3 : h3.size = h0.size := W3.size
  have N3 := Fr.snoc X3 N0 (by omega)
  have v3 : Arv Z h3 ar kar .int (5 : Int32) [(.int (-1 : Int32)), (.int (0 : Int32)), (.int (0 : Int32)), (.int (0 : Int32)), (.int (0 : Int32))] (.int (0 : Int32)) := Arv.set Ar3 qc3 S3 M3 H3 G3 rfl W3 0 rfl (Nat.le_of_ble_eq_true rfl)
  refine own_go (st' := T3.setTop (mkF m 14 #[oR ar, oi (-1), oi 0, oi 5] [])) (st3) ?_
  refine own_go (st' := T3.setTop (mkF m 17 #[oR ar, oi (-1), oi 1, oi 5] [])) (fun _ k => XS.iinc X3.here hx rfl (hb hby d7_14) rfl (l' := #[oR ar, oi (-1), oi 1, oi 5]) (by rw [show ((0 : Int32) + Int32.ofInt 1) = (1 : Int32) by decide]; rfl) k) ?_
  refine own_go (st' := T3.setTop (mkF m 5 #[oR ar, oi (-1), oi 1, oi 5] [])) (fun _ k => XS.goto X3.here hx rfl (pc0 := 17) (pc' := 5) rfl (hb hby d7_17) (by decide) (by decide) k) ?_
  refine own_go (st' := T3.setTop (mkF m 6 #[oR ar, oi (-1), oi 1, oi 5] [(.int (1 : Int32))])) (fun _ k => XS.iloadN X3.here hx rfl (hb hby d7_5) rfl k) ?_
  refine own_go (st' := T3.setTop (mkF m 7 #[oR ar, oi (-1), oi 1, oi 5] [(.int (5 : Int32)), (.int (1 : Int32))])) (fun _ k => XS.iloadN X3.here hx rfl (hb hby d7_6) rfl k) ?_
  have hc4 : (1 : Int32) < (5 : Int32) := by decide
  refine own_go (st' := T3.setTop (mkF m 10 #[oR ar, oi (-1), oi 1, oi 5] [])) (fun _ k => XS.icmpNo X3.here hx rfl (hb hby d7_7) rfl (tlt hc4).2.1 k) ?_
  refine own_go (st' := T3.setTop (mkF m 11 #[oR ar, oi (-1), oi 1, oi 5] [(.ref ar)])) (fun _ k => XS.aloadN X3.here hx rfl (hb hby d7_10) rfl rfl k) ?_
  refine own_go (st' := T3.setTop (mkF m 12 #[oR ar, oi (-1), oi 1, oi 5] [(.int (1 : Int32)), (.ref ar)])) (fun _ k => XS.iloadN X3.here hx rfl (hb hby d7_11) rfl k) ?_
  refine own_go (st' := T3.setTop (mkF m 13 #[oR ar, oi (-1), oi 1, oi 5] [(.int (-1 : Int32)), (.int (1 : Int32)), (.ref ar)])) (fun _ k => XS.iloadN X3.here hx rfl (hb hby d7_12) rfl k) ?_
  obtain ⟨cl5, Ar5, qc5, S5, M5, H5, G5⟩ := id v3
  have hin5 : ¬ ((1 : Int32) < 0 ∨ cl5.slots.size ≤ ((1 : Int32)).toNatClampNeg) := (inb_of S5 ⟨by decide, by decide⟩)
  obtain ⟨T5, h5, X5, e5, W5, st5⟩ := stI X3 hx hZ e3 Ar5 (j := (1 : Int32)) hin5 (g := (mkF m 13 #[oR ar, oi (-1), oi 1, oi 5] [(.int (-1 : Int32)), (.int (1 : Int32)), (.ref ar)])) rfl rfl (hb hby d7_13)
  have sz5 : h5.size = h3.size := W5.size
  have N5 := Fr.snoc X5 N3 (by omega)
  have v5 : Arv Z h5 ar kar .int (5 : Int32) [(.int (-1 : Int32)), (.int (-1 : Int32)), (.int (0 : Int32)), (.int (0 : Int32)), (.int (0 : Int32))] (.int (0 : Int32)) := Arv.set Ar5 qc5 S5 M5 H5 G5 rfl W5 1 rfl (Nat.le_of_ble_eq_true rfl)
  refine own_go (st' := T5.setTop (mkF m 14 #[oR ar, oi (-1), oi 1, oi 5] [])) (st5) ?_
  refine own_go (st' := T5.setTop (mkF m 17 #[oR ar, oi (-1), oi 2, oi 5] [])) (fun _ k => XS.iinc X5.here hx rfl (hb hby d7_14) rfl (l' := #[oR ar, oi (-1), oi 2, oi 5]) (by rw [show ((1 : Int32) + Int32.ofInt 1) = (2 : Int32) by decide]; rfl) k) ?_
  refine own_go (st' := T5.setTop (mkF m 5 #[oR ar, oi (-1), oi 2, oi 5] [])) (fun _ k => XS.goto X5.here hx rfl (pc0 := 17) (pc' := 5) rfl (hb hby d7_17) (by decide) (by decide) k) ?_
  refine own_go (st' := T5.setTop (mkF m 6 #[oR ar, oi (-1), oi 2, oi 5] [(.int (2 : Int32))])) (fun _ k => XS.iloadN X5.here hx rfl (hb hby d7_5) rfl k) ?_
  refine own_go (st' := T5.setTop (mkF m 7 #[oR ar, oi (-1), oi 2, oi 5] [(.int (5 : Int32)), (.int (2 : Int32))])) (fun _ k => XS.iloadN X5.here hx rfl (hb hby d7_6) rfl k) ?_
  have hc6 : (2 : Int32) < (5 : Int32) := by decide
  refine own_go (st' := T5.setTop (mkF m 10 #[oR ar, oi (-1), oi 2, oi 5] [])) (fun _ k => XS.icmpNo X5.here hx rfl (hb hby d7_7) rfl (tlt hc6).2.1 k) ?_
  refine own_go (st' := T5.setTop (mkF m 11 #[oR ar, oi (-1), oi 2, oi 5] [(.ref ar)])) (fun _ k => XS.aloadN X5.here hx rfl (hb hby d7_10) rfl rfl k) ?_
  refine own_go (st' := T5.setTop (mkF m 12 #[oR ar, oi (-1), oi 2, oi 5] [(.int (2 : Int32)), (.ref ar)])) (fun _ k => XS.iloadN X5.here hx rfl (hb hby d7_11) rfl k) ?_
  refine own_go (st' := T5.setTop (mkF m 13 #[oR ar, oi (-1), oi 2, oi 5] [(.int (-1 : Int32)), (.int (2 : Int32)), (.ref ar)])) (fun _ k => XS.iloadN X5.here hx rfl (hb hby d7_12) rfl k) ?_
  obtain ⟨cl7, Ar7, qc7, S7, M7, H7, G7⟩ := id v5
  have hin7 : ¬ ((2 : Int32) < 0 ∨ cl7.slots.size ≤ ((2 : Int32)).toNatClampNeg) := (inb_of S7 ⟨by decide, by decide⟩)
  obtain ⟨T7, h7, X7, e7, W7, st7⟩ := stI X5 hx hZ e5 Ar7 (j := (2 : Int32)) hin7 (g := (mkF m 13 #[oR ar, oi (-1), oi 2, oi 5] [(.int (-1 : Int32)), (.int (2 : Int32)), (.ref ar)])) rfl rfl (hb hby d7_13)
  have sz7 : h7.size = h5.size := W7.size
  have N7 := Fr.snoc X7 N5 (by omega)
  have v7 : Arv Z h7 ar kar .int (5 : Int32) [(.int (-1 : Int32)), (.int (-1 : Int32)), (.int (-1 : Int32)), (.int (0 : Int32)), (.int (0 : Int32))] (.int (0 : Int32)) := Arv.set Ar7 qc7 S7 M7 H7 G7 rfl W7 2 rfl (Nat.le_of_ble_eq_true rfl)
  refine own_go (st' := T7.setTop (mkF m 14 #[oR ar, oi (-1), oi 2, oi 5] [])) (st7) ?_
  refine own_go (st' := T7.setTop (mkF m 17 #[oR ar, oi (-1), oi 3, oi 5] [])) (fun _ k => XS.iinc X7.here hx rfl (hb hby d7_14) rfl (l' := #[oR ar, oi (-1), oi 3, oi 5]) (by rw [show ((2 : Int32) + Int32.ofInt 1) = (3 : Int32) by decide]; rfl) k) ?_
  refine own_go (st' := T7.setTop (mkF m 5 #[oR ar, oi (-1), oi 3, oi 5] [])) (fun _ k => XS.goto X7.here hx rfl (pc0 := 17) (pc' := 5) rfl (hb hby d7_17) (by decide) (by decide) k) ?_
  refine own_go (st' := T7.setTop (mkF m 6 #[oR ar, oi (-1), oi 3, oi 5] [(.int (3 : Int32))])) (fun _ k => XS.iloadN X7.here hx rfl (hb hby d7_5) rfl k) ?_
  refine own_go (st' := T7.setTop (mkF m 7 #[oR ar, oi (-1), oi 3, oi 5] [(.int (5 : Int32)), (.int (3 : Int32))])) (fun _ k => XS.iloadN X7.here hx rfl (hb hby d7_6) rfl k) ?_
  have hc8 : (3 : Int32) < (5 : Int32) := by decide
  refine own_go (st' := T7.setTop (mkF m 10 #[oR ar, oi (-1), oi 3, oi 5] [])) (fun _ k => XS.icmpNo X7.here hx rfl (hb hby d7_7) rfl (tlt hc8).2.1 k) ?_
  refine own_go (st' := T7.setTop (mkF m 11 #[oR ar, oi (-1), oi 3, oi 5] [(.ref ar)])) (fun _ k => XS.aloadN X7.here hx rfl (hb hby d7_10) rfl rfl k) ?_
  refine own_go (st' := T7.setTop (mkF m 12 #[oR ar, oi (-1), oi 3, oi 5] [(.int (3 : Int32)), (.ref ar)])) (fun _ k => XS.iloadN X7.here hx rfl (hb hby d7_11) rfl k) ?_
  refine own_go (st' := T7.setTop (mkF m 13 #[oR ar, oi (-1), oi 3, oi 5] [(.int (-1 : Int32)), (.int (3 : Int32)), (.ref ar)])) (fun _ k => XS.iloadN X7.here hx rfl (hb hby d7_12) rfl k) ?_
  obtain ⟨cl9, Ar9, qc9, S9, M9, H9, G9⟩ := id v7
  have hin9 : ¬ ((3 : Int32) < 0 ∨ cl9.slots.size ≤ ((3 : Int32)).toNatClampNeg) := (inb_of S9 ⟨by decide, by decide⟩)
  obtain ⟨T9, h9, X9, e9, W9, st9⟩ := stI X7 hx hZ e7 Ar9 (j := (3 : Int32)) hin9 (g := (mkF m 13 #[oR ar, oi (-1), oi 3, oi 5] [(.int (-1 : Int32)), (.int (3 : Int32)), (.ref ar)])) rfl rfl (hb hby d7_13)
  have sz9 : h9.size = h7.size := W9.size
  have N9 := Fr.snoc X9 N7 (by omega)
  have v9 : Arv Z h9 ar kar .int (5 : Int32) [(.int (-1 : Int32)), (.int (-1 : Int32)), (.int (-1 : Int32)), (.int (-1 : Int32)), (.int (0 : Int32))] (.int (0 : Int32)) := Arv.set Ar9 qc9 S9 M9 H9 G9 rfl W9 3 rfl (Nat.le_of_ble_eq_true rfl)
  refine own_go (st' := T9.setTop (mkF m 14 #[oR ar, oi (-1), oi 3, oi 5] [])) (st9) ?_
  refine own_go (st' := T9.setTop (mkF m 17 #[oR ar, oi (-1), oi 4, oi 5] [])) (fun _ k => XS.iinc X9.here hx rfl (hb hby d7_14) rfl (l' := #[oR ar, oi (-1), oi 4, oi 5]) (by rw [show ((3 : Int32) + Int32.ofInt 1) = (4 : Int32) by decide]; rfl) k) ?_
  refine own_go (st' := T9.setTop (mkF m 5 #[oR ar, oi (-1), oi 4, oi 5] [])) (fun _ k => XS.goto X9.here hx rfl (pc0 := 17) (pc' := 5) rfl (hb hby d7_17) (by decide) (by decide) k) ?_
  refine own_go (st' := T9.setTop (mkF m 6 #[oR ar, oi (-1), oi 4, oi 5] [(.int (4 : Int32))])) (fun _ k => XS.iloadN X9.here hx rfl (hb hby d7_5) rfl k) ?_
  refine own_go (st' := T9.setTop (mkF m 7 #[oR ar, oi (-1), oi 4, oi 5] [(.int (5 : Int32)), (.int (4 : Int32))])) (fun _ k => XS.iloadN X9.here hx rfl (hb hby d7_6) rfl k) ?_
  have hc10 : (4 : Int32) < (5 : Int32) := by decide
  refine own_go (st' := T9.setTop (mkF m 10 #[oR ar, oi (-1), oi 4, oi 5] [])) (fun _ k => XS.icmpNo X9.here hx rfl (hb hby d7_7) rfl (tlt hc10).2.1 k) ?_
  refine own_go (st' := T9.setTop (mkF m 11 #[oR ar, oi (-1), oi 4, oi 5] [(.ref ar)])) (fun _ k => XS.aloadN X9.here hx rfl (hb hby d7_10) rfl rfl k) ?_
  refine own_go (st' := T9.setTop (mkF m 12 #[oR ar, oi (-1), oi 4, oi 5] [(.int (4 : Int32)), (.ref ar)])) (fun _ k => XS.iloadN X9.here hx rfl (hb hby d7_11) rfl k) ?_
  refine own_go (st' := T9.setTop (mkF m 13 #[oR ar, oi (-1), oi 4, oi 5] [(.int (-1 : Int32)), (.int (4 : Int32)), (.ref ar)])) (fun _ k => XS.iloadN X9.here hx rfl (hb hby d7_12) rfl k) ?_
  obtain ⟨cl11, Ar11, qc11, S11, M11, H11, G11⟩ := id v9
  have hin11 : ¬ ((4 : Int32) < 0 ∨ cl11.slots.size ≤ ((4 : Int32)).toNatClampNeg) := (inb_of S11 ⟨by decide, by decide⟩)
  obtain ⟨T11, h11, X11, e11, W11, st11⟩ := stI X9 hx hZ e9 Ar11 (j := (4 : Int32)) hin11 (g := (mkF m 13 #[oR ar, oi (-1), oi 4, oi 5] [(.int (-1 : Int32)), (.int (4 : Int32)), (.ref ar)])) rfl rfl (hb hby d7_13)
  have sz11 : h11.size = h9.size := W11.size
  have N11 := Fr.snoc X11 N9 (by omega)
  have v11 : Arv Z h11 ar kar .int (5 : Int32) [(.int (-1 : Int32)), (.int (-1 : Int32)), (.int (-1 : Int32)), (.int (-1 : Int32)), (.int (-1 : Int32))] (.int (0 : Int32)) := Arv.set Ar11 qc11 S11 M11 H11 G11 rfl W11 4 rfl (Nat.le_of_ble_eq_true rfl)
  refine own_go (st' := T11.setTop (mkF m 14 #[oR ar, oi (-1), oi 4, oi 5] [])) (st11) ?_
  refine own_go (st' := T11.setTop (mkF m 17 #[oR ar, oi (-1), oi 5, oi 5] [])) (fun _ k => XS.iinc X11.here hx rfl (hb hby d7_14) rfl (l' := #[oR ar, oi (-1), oi 5, oi 5]) (by rw [show ((4 : Int32) + Int32.ofInt 1) = (5 : Int32) by decide]; rfl) k) ?_
  refine own_go (st' := T11.setTop (mkF m 5 #[oR ar, oi (-1), oi 5, oi 5] [])) (fun _ k => XS.goto X11.here hx rfl (pc0 := 17) (pc' := 5) rfl (hb hby d7_17) (by decide) (by decide) k) ?_
  refine own_go (st' := T11.setTop (mkF m 6 #[oR ar, oi (-1), oi 5, oi 5] [(.int (5 : Int32))])) (fun _ k => XS.iloadN X11.here hx rfl (hb hby d7_5) rfl k) ?_
  refine own_go (st' := T11.setTop (mkF m 7 #[oR ar, oi (-1), oi 5, oi 5] [(.int (5 : Int32)), (.int (5 : Int32))])) (fun _ k => XS.iloadN X11.here hx rfl (hb hby d7_6) rfl k) ?_
  have hc12 : ¬ ((5 : Int32) < (5 : Int32)) := by decide
  refine own_go (st' := T11.setTop (mkF m 20 #[oR ar, oi (-1), oi 5, oi 5] [])) (fun _ k => XS.icmpYes X11.here hx rfl (pc0 := 7) (pc' := 20) rfl (hb hby d7_7) rfl (flt hc12).2.1 (by decide) (by decide) k) ?_
  obtain ⟨fs, hr, hrun, hended, hW, hsame⟩ := X11.leave (v := none) (fun _ => rfl)
  refine ⟨_, _, ?_, hP _ _ hrun hended ⟨_, _, rfl, ?_, ⟨_, rfl⟩, hW, hsame.mono (by decide) (by decide)⟩⟩
  · exact X11.returnOut hx Bd.returns (hb hby d7_20) hr
  · show Qrm7 Z ar kar h0 n0 _ T11.heap _
    rw [e11]
    exact ⟨rfl, N11, ((((((Keep.refl h0 [ar]).wr W3 (Or.inl (List.mem_of_getElem? (i := 0) rfl))).wr W5 (Or.inl (List.mem_of_getElem? (i := 0) rfl))).wr W7 (Or.inl (List.mem_of_getElem? (i := 0) rfl))).wr W9 (Or.inl (List.mem_of_getElem? (i := 0) rfl))).wr W11 (Or.inl (List.mem_of_getElem? (i := 0) rfl))), v11⟩
theorem pd_2 : parseMethodDescriptor "([II)V" = some ⟨[(.array .int), .int], none⟩ := by decide +kernel
theorem d6_0 : decode prog_30_method_1_code 0 = .ok (.aload_n 0, 1) := by decide +kernel
theorem d6_1 : decode prog_30_method_1_code 1 = .ok (.invokespecial 1, 3) := by decide +kernel
theorem d6_4 : decode prog_30_method_1_code 4 = .ok (.aload_n 0, 1) := by decide +kernel
theorem d6_5 : decode prog_30_method_1_code 5 = .ok (.iload_n 1, 1) := by decide +kernel
theorem d6_6 : decode prog_30_method_1_code 6 = .ok (.newarray .int, 2) := by decide +kernel
theorem d6_8 : decode prog_30_method_1_code 8 = .ok (.putfield 7, 3) := by decide +kernel
theorem d6_11 : decode prog_30_method_1_code 11 = .ok (.aload_n 0, 1) := by decide +kernel
theorem d6_12 : decode prog_30_method_1_code 12 = .ok (.iload_n 1, 1) := by decide +kernel
theorem d6_13 : decode prog_30_method_1_code 13 = .ok (.newarray .int, 2) := by decide +kernel
theorem d6_15 : decode prog_30_method_1_code 15 = .ok (.putfield 13, 3) := by decide +kernel
theorem d6_18 : decode prog_30_method_1_code 18 = .ok (.aload_n 0, 1) := by decide +kernel
theorem d6_19 : decode prog_30_method_1_code 19 = .ok (.aload_n 2, 1) := by decide +kernel
theorem d6_20 : decode prog_30_method_1_code 20 = .ok (.putfield 16, 3) := by decide +kernel
theorem d6_23 : decode prog_30_method_1_code 23 = .ok (.aload_n 0, 1) := by decide +kernel
theorem d6_24 : decode prog_30_method_1_code 24 = .ok (.getfield 13, 3) := by decide +kernel
theorem d6_27 : decode prog_30_method_1_code 27 = .ok (.iconst (-1), 1) := by decide +kernel
theorem d6_28 : decode prog_30_method_1_code 28 = .ok (.invokestatic 20, 3) := by decide +kernel
theorem d6_31 : decode prog_30_method_1_code 31 = .ok (.return_, 1) := by decide +kernel
theorem pn_6 : plainName "com/example/limpet/limpet/StickyShares$NodeHeap" = true := by first | (simp [plainName, overriddenIn]; done) | decide +kernel
theorem ef_rm6 (m : MethodId) (x0 : Addr) (x1 : Int32) (x2 : Addr) : entryFrame m #[(.ref x0), (.int x1), (.ref x2)] 3 = mkF m 0 #[.val (.ref x0), .val (.int x1), .val (.ref x2)] [] := by first | (simp [entryFrame, mkF, argsToLocals, Value.category]; done) | rfl
def Qrm6 (Z : State) (a1 : Addr) (ad : Addr) (h0 : Heap) (n0 : Nat) (v : Option Value) (h : Heap) (L : List Loc) : Prop := (v = none) ∧ (Fr n0 L) ∧ (Keep h0 h [a1]) ∧ (Exa Z h a1 "com/example/limpet/limpet/StickyShares$NodeHeap")
set_option maxRecDepth 65536 in
set_option maxHeartbeats 40000000 in
theorem rm6 (l : Launch) (Z : State) (a0 : Array Value) (hw : ∀ d ∈ tables_1, d.before a0 Z = true) (ws : List Jvm.Cond) (a1 : Addr) (ad : Addr) (h0 : Heap) (n0 : Nat) (Z0 : n0 ≤ h0.size) (pr1 : Exa Z h0 a1 "com/example/limpet/limpet/StickyShares$NodeHeap") (pr2 : Fld Z h0 a1 "com/example/limpet/limpet/StickyShares$NodeHeap" "nodes" "[I" .null) (pr3 : Fld Z h0 a1 "com/example/limpet/limpet/StickyShares$NodeHeap" "position" "[I" .null) (pr4 : Fld Z h0 a1 "com/example/limpet/limpet/StickyShares$NodeHeap" "key" "[J" .null) (pr5 : n0 ≤ a1) :
    MetFree l oM11 (head1 (Jvm.Cond.code oM11 prog_30_method_1_code 3 none :: ws) ({ frames := 1, cells := 2, slots := 10, locals := 15 } : Room)) (fun a U => a = #[(.ref a1), (.int (5 : Int32)), (.ref ad)] ∧ Z.Warmed39 U.vm ∧ U.heap = h0) (fun _ _ _ _ _ => True) (fun _ U o U' => ∃ v L, o = .returned v ∧ Qrm6 Z a1 ad h0 n0 v U'.heap L ∧ FrameEnd U o U' L ({ frames := 1, cells := 2, slots := 10, locals := 15 } : Room).cells ({ frames := 1, cells := 2, slots := 10, locals := 15 } : Room).slots) := by
  refine MetFree.of_bodySF (plainFor_of_name pn_6) hisR ?_
  intro p e s m args below meth c s₁ Bd hml0 hP0 hK
  obtain ⟨rfl, hZ, hh⟩ := hP0
  have hx := Bd.exec
  have hby := Bd.bytes
  have hml : c.maxLocals = 3 := hml0
  have hown : s.vm.findClass oS1 = some m.cls := findClass_of_methodNamed Bd.named
  have hnm := (name_of_methodNamed Bd.named Bd.method).1
  have X0 : Stand p l e ({ frames := 1, cells := 2, slots := 10, locals := 15 } : Room) s m #[(.ref a1), (.int (5 : Int32)), (.ref ad)] below meth c s₁ [] 0 0 := Stand.of_body Bd
  have e0 : s₁.heap = h0 := by rw [← hh, Bd.state]; rfl
  have N0 := Fr.nil n0
  suffices own_H : ∀ (P : State → Outcome → Prop), (∀ U o, U.status = .running → Ended U below o → (∃ v L, o = .returned v ∧ Qrm6 Z a1 ad h0 n0 v U.heap L ∧ FrameEnd s o U L ({ frames := 1, cells := 2, slots := 10, locals := 15 } : Room).cells ({ frames := 1, cells := 2, slots := 10, locals := 15 } : Room).slots) → P U o) → own_Go p.tables e below P (s₁.setTop (mkF m 0 #[oR a1, oi 5, oR ad] [])) from own_go (fun _ k => castTop (ef_rm6 m a1 (5 : Int32) ad) k) (own_H _ (fun U o h1 h2 h3 => ⟨h1, h2, h3⟩))
  intro P hP
  have lt_a1 : @LT.lt Nat _ a1 h0.size := pr1.lt
  refine own_go (st' := s₁.setTop (mkF m 1 #[oR a1, oi 5, oR ad] [(.ref a1)])) (fun _ k => XS.aloadN X0.here hx rfl (hb hby d6_0) rfl rfl k) ?_
  obtain ⟨T1, X1, e1, st1⟩ := initO X0 hx hZ hown (own_hw hw 80) (own_hw hw 9) (own_hw hw 10) e0 (g := (mkF m 1 #[oR a1, oi 5, oR ad] [(.ref a1)])) rfl (by rw [hml]; rfl) rfl (hb hby d6_1) (by decide) (W := 0) (by show 2 * 0 + _ ≤ _; exact Nat.le_of_eq rfl) (by decide)
  refine own_go (st' := T1.setTop (mkF m 4 #[oR a1, oi 5, oR ad] [])) (st1) ?_
  refine own_go (st' := T1.setTop (mkF m 5 #[oR a1, oi 5, oR ad] [(.ref a1)])) (fun _ k => XS.aloadN X1.here hx rfl (hb hby d6_4) rfl rfl k) ?_
  refine own_go (st' := T1.setTop (mkF m 6 #[oR a1, oi 5, oR ad] [(.int (5 : Int32)), (.ref a1)])) (fun _ k => XS.iloadN X1.here hx rfl (hb hby d6_5) rfl k) ?_
  obtain ⟨T2, h2, k2, X2, e2, E2, A2, st2⟩ := newP X1 hx hZ (own_hw hw 4) e1 (g := (mkF m 6 #[oR a1, oi 5, oR ad] [(.int (5 : Int32)), (.ref a1)])) rfl (hb hby d6_6) rfl (by decide) (cap := 5) (by decide) (by decide) (by decide) (by decide)
  obtain ⟨b2, g2⟩ : ∃ z, z = h0.size := ⟨_, rfl⟩
  rw [← g2] at A2 st2
  have sz2 : h0.size ≤ h2.size := E2.1
  have lt2 : @LT.lt Nat _ b2 h2.size := A2.lt
  have v2 : Arv Z h2 b2 k2 .int (5 : Int32) [(.int (0 : Int32)), (.int (0 : Int32)), (.int (0 : Int32)), (.int (0 : Int32)), (.int (0 : Int32))] (.int (0 : Int32)) := (Arv.new A2 (by decide)).pad (pad_rep [] (.int (0 : Int32)) 5)
  refine own_go (st' := T2.setTop (mkF m 8 #[oR a1, oi 5, oR ad] [(.ref b2), (.ref a1)])) (st2) ?_
  have c3 : Fld Z h2 a1 oS1 "nodes" "[I" .null := (pr2.ext E2)
  have c4 : Exa Z h2 a1 oS1 := (pr1.ext E2)
  obtain ⟨T5, h5, X5, e5, W5, st5⟩ := putF X2 hx hZ hown (host := "") (Or.inl (own_hw hw 81)) Via.refl e2 c3 c4 (Or.inr ⟨(own_hw hw 82), rfl, hnm⟩) (own_hw hw 75) (ty := (.array .int)) (by decide) rfl rfl (g := (mkF m 8 #[oR a1, oi 5, oR ad] [(.ref b2), (.ref a1)])) rfl rfl (hb hby d6_8)
  have sz5 : h5.size = h2.size := W5.size
  have N5 := Fr.snoc X5 N0 (by omega)
  have f5 : Fld Z h5 a1 oS1 "nodes" "[I" (.ref b2) := c3.same W5
  refine own_go (st' := T5.setTop (mkF m 11 #[oR a1, oi 5, oR ad] [])) (st5) ?_
  refine own_go (st' := T5.setTop (mkF m 12 #[oR a1, oi 5, oR ad] [(.ref a1)])) (fun _ k => XS.aloadN X5.here hx rfl (hb hby d6_11) rfl rfl k) ?_
  refine own_go (st' := T5.setTop (mkF m 13 #[oR a1, oi 5, oR ad] [(.int (5 : Int32)), (.ref a1)])) (fun _ k => XS.iloadN X5.here hx rfl (hb hby d6_12) rfl k) ?_
  obtain ⟨T6, h6, k6, X6, e6, E6, A6, st6⟩ := newP X5 hx hZ (own_hw hw 4) e5 (g := (mkF m 13 #[oR a1, oi 5, oR ad] [(.int (5 : Int32)), (.ref a1)])) rfl (hb hby d6_13) rfl (by decide) (cap := 5) (by decide) (by decide) (by decide) (by decide)
  obtain ⟨b6, g6⟩ : ∃ z, z = h5.size := ⟨_, rfl⟩
  rw [← g6] at A6 st6
  have sz6 : h5.size ≤ h6.size := E6.1
  have lt6 : @LT.lt Nat _ b6 h6.size := A6.lt
  have v6 : Arv Z h6 b6 k6 .int (5 : Int32) [(.int (0 : Int32)), (.int (0 : Int32)), (.int (0 : Int32)), (.int (0 : Int32)), (.int (0 : Int32))] (.int (0 : Int32)) := (Arv.new A6 (by decide)).pad (pad_rep [] (.int (0 : Int32)) 5)
  refine own_go (st' := T6.setTop (mkF m 15 #[oR a1, oi 5, oR ad] [(.ref b6), (.ref a1)])) (st6) ?_
  have c7 : Fld Z h6 a1 oS1 "position" "[I" .null := (((pr3.ext E2).other W5 (Or.inr (slot_ne (Or.inr (own_hw hw 84)) (Or.inr (own_hw hw 82)) (by decide) (t := (.array .int)) (t' := (.array .int)) (by decide) (by decide)))).ext E6)
  have c8 : Exa Z h6 a1 oS1 := ((c4.wr W5).ext E6)
  obtain ⟨T9, h9, X9, e9, W9, st9⟩ := putF X6 hx hZ hown (host := "") (Or.inl (own_hw hw 83)) Via.refl e6 c7 c8 (Or.inr ⟨(own_hw hw 84), rfl, hnm⟩) (own_hw hw 75) (ty := (.array .int)) (by decide) rfl rfl (g := (mkF m 15 #[oR a1, oi 5, oR ad] [(.ref b6), (.ref a1)])) rfl rfl (hb hby d6_15)
  have sz9 : h9.size = h6.size := W9.size
  have N9 := Fr.snoc X9 N5 (by omega)
  have f9 : Fld Z h9 a1 oS1 "position" "[I" (.ref b6) := c7.same W9
  refine own_go (st' := T9.setTop (mkF m 18 #[oR a1, oi 5, oR ad] [])) (st9) ?_
  refine own_go (st' := T9.setTop (mkF m 19 #[oR a1, oi 5, oR ad] [(.ref a1)])) (fun _ k => XS.aloadN X9.here hx rfl (hb hby d6_18) rfl rfl k) ?_
  refine own_go (st' := T9.setTop (mkF m 20 #[oR a1, oi 5, oR ad] [(.ref ad), (.ref a1)])) (fun _ k => XS.aloadN X9.here hx rfl (hb hby d6_19) rfl rfl k) ?_
  have c10 : Fld Z h9 a1 oS1 "key" "[J" .null := ((((pr4.ext E2).other W5 (Or.inr (slot_ne (Or.inr (own_hw hw 86)) (Or.inr (own_hw hw 82)) (by decide) (t := (.array .long)) (t' := (.array .int)) (by decide) (by decide)))).ext E6).other W9 (Or.inr (slot_ne (Or.inr (own_hw hw 86)) (Or.inr (own_hw hw 84)) (by decide) (t := (.array .long)) (t' := (.array .int)) (by decide) (by decide))))
  have c11 : Exa Z h9 a1 oS1 := (c8.wr W9)
  obtain ⟨T12, h12, X12, e12, W12, st12⟩ := putF X9 hx hZ hown (host := "") (Or.inl (own_hw hw 85)) Via.refl e9 c10 c11 (Or.inr ⟨(own_hw hw 86), rfl, hnm⟩) (own_hw hw 75) (ty := (.array .long)) (by decide) rfl rfl (g := (mkF m 20 #[oR a1, oi 5, oR ad] [(.ref ad), (.ref a1)])) rfl rfl (hb hby d6_20)
  have sz12 : h12.size = h9.size := W12.size
  have N12 := Fr.snoc X12 N9 (by omega)
  have f12 : Fld Z h12 a1 oS1 "key" "[J" (.ref ad) := c10.same W12
  refine own_go (st' := T12.setTop (mkF m 23 #[oR a1, oi 5, oR ad] [])) (st12) ?_
  refine own_go (st' := T12.setTop (mkF m 24 #[oR a1, oi 5, oR ad] [(.ref a1)])) (fun _ k => XS.aloadN X12.here hx rfl (hb hby d6_23) rfl rfl k) ?_
  have c13 : Fld Z h12 a1 oS1 "position" "[I" (.ref b6) := (f9.other W12 (Or.inr (slot_ne (Or.inr (own_hw hw 84)) (Or.inr (own_hw hw 86)) (by decide) (t := (.array .int)) (t' := (.array .long)) (by decide) (by decide))))
  obtain ⟨T14, X14, e14, st14⟩ := getF X12 hx hZ hown (host := "") (Or.inl (own_hw hw 83)) Via.refl e12 c13 (g := (mkF m 24 #[oR a1, oi 5, oR ad] [(.ref a1)])) rfl rfl (hb hby d6_24)
  refine own_go (st' := T14.setTop (mkF m 27 #[oR a1, oi 5, oR ad] [(.ref b6)])) (st14) ?_
  refine own_go (st' := T14.setTop (mkF m 28 #[oR a1, oi 5, oR ad] [(.int (-1 : Int32)), (.ref b6)])) (fun _ k => XS.iconst X14.here hx rfl (hb hby d6_27) k) ?_
  have c16 : Arv Z h12 b6 k6 .int (5 : Int32) [(.int (0 : Int32)), (.int (0 : Int32)), (.int (0 : Int32)), (.int (0 : Int32)), (.int (0 : Int32))] (.int (0 : Int32)) := ((v6.other W9 (own_ne (by omega))).other W12 (own_ne (by omega)))
  obtain ⟨_, _, ⟨T15, LC15, kC15, nC15⟩, -, X15, ⟨Lc15, hQ15, lq15, yq15, zq15⟩, st15⟩ := Jvm.LawKit.callS X14 hx (y := oM10) hown (mvT hZ (own_hw hw 87)) (mvT hZ (own_hw hw 88)) (mvT hZ (own_hw hw 36)) (mvT hZ (own_hw hw 89)) (by decide) (backOf (W := 0) (rm7 l Z a0 hw [] b6 k6 h12 n0 (by omega) c16 (by omega)) hZ (own_hw hw 89) (own_hw hw 36) (by decide) (by decide)) (g := (mkF m 28 #[oR a1, oi 5, oR ad] [(.int (-1 : Int32)), (.ref b6)])) rfl (by rw [hml]; rfl) (argsL := [(.ref b6), (.int (-1 : Int32))]) (rest := []) (lenOf pd_2 rfl) rfl (by show 2 * 0 + _ ≤ _; exact Nat.le_of_eq rfl) (hb hby d6_28) (fun _ _ => ⟨rfl, e14, (by decide : 2 + 0 ≤ _), (by decide : 10 + 0 ≤ _)⟩)
  dsimp only [Pt.U, Pt.locs, Pt.cells, Pt.slots] at X15 lq15 yq15 zq15 st15 hQ15
  subst lq15 yq15 zq15
  obtain ⟨h15, e15⟩ : ∃ z, T15.heap = z := ⟨_, rfl⟩
  rw [e15] at hQ15
  obtain ⟨rfl, Nq15, K15, g15_0⟩ := hQ15
  have sz15 : h12.size ≤ h15.size := K15.1
  have N15 := Fr.app N12 Nq15
  have lt15_1 : @LT.lt Nat _ b6 h15.size := g15_0.lt
  refine own_go (st' := T15.setTop (mkF m 31 #[oR a1, oi 5, oR ad] [])) (fun t k => st15 t k) ?_
  obtain ⟨fs, hr, hrun, hended, hW, hsame⟩ := X15.leave (v := none) (fun _ => rfl)
  refine ⟨_, _, ?_, hP _ _ hrun hended ⟨_, _, rfl, ?_, ⟨_, rfl⟩, hW, hsame.mono (by decide) (by decide)⟩⟩
  · exact X15.returnOut hx Bd.returns (hb hby d6_31) hr
  · show Qrm6 Z a1 ad h0 n0 _ T15.heap _
    have c18 : Exa Z h15 a1 oS1 := ((c11.wr W12).keep K15)
    rw [e15]
    exact ⟨rfl, N15, (((((((Keep.refl h0 [a1]).ext E2).wr W5 (Or.inl (List.mem_of_getElem? (i := 0) rfl))).ext E6).wr W9 (Or.inl (List.mem_of_getElem? (i := 0) rfl))).wr W12 (Or.inl (List.mem_of_getElem? (i := 0) rfl))).trans K15 (allS (P := fun x => x ∈ [a1] ∨ h0.size ≤ x) (Or.inr (by omega)) all0)), c18⟩
theorem pd_3 : parseMethodDescriptor "([I[I)[I" = some ⟨[(.array .int), (.array .int)], some (.array .int)⟩ := by decide +kernel
theorem pd_4 : parseMethodDescriptor "(I[J)V" = some ⟨[.int, (.array .long)], none⟩ := by decide +kernel
theorem d1_0 : decode prog_29_method_1_code 0 = .ok (.aload_n 0, 1) := by decide +kernel
theorem d1_1 : decode prog_29_method_1_code 1 = .ok (.invokespecial 5, 3) := by decide +kernel
theorem d1_4 : decode prog_29_method_1_code 4 = .ok (.lconst 0, 1) := by decide +kernel
theorem d1_5 : decode prog_29_method_1_code 5 = .ok (.lstore 6, 2) := by decide +kernel
theorem d1_7 : decode prog_29_method_1_code 7 = .ok (.aload_n 1, 1) := by decide +kernel
theorem d1_8 : decode prog_29_method_1_code 8 = .ok (.astore 8, 2) := by decide +kernel
theorem d1_10 : decode prog_29_method_1_code 10 = .ok (.aload 8, 2) := by decide +kernel
theorem d1_12 : decode prog_29_method_1_code 12 = .ok (.arraylength, 1) := by decide +kernel
theorem d1_13 : decode prog_29_method_1_code 13 = .ok (.istore 9, 2) := by decide +kernel
theorem d1_15 : decode prog_29_method_1_code 15 = .ok (.iconst 0, 1) := by decide +kernel
theorem d1_16 : decode prog_29_method_1_code 16 = .ok (.istore 10, 2) := by decide +kernel
theorem d1_18 : decode prog_29_method_1_code 18 = .ok (.iload 10, 2) := by decide +kernel
theorem d1_20 : decode prog_29_method_1_code 20 = .ok (.iload 9, 2) := by decide +kernel
theorem d1_22 : decode prog_29_method_1_code 22 = .ok (.if_icmp .ge 24, 3) := by decide +kernel
theorem d1_25 : decode prog_29_method_1_code 25 = .ok (.aload 8, 2) := by decide +kernel
theorem d1_27 : decode prog_29_method_1_code 27 = .ok (.iload 10, 2) := by decide +kernel
theorem d1_29 : decode prog_29_method_1_code 29 = .ok (.iaload, 1) := by decide +kernel
theorem d1_30 : decode prog_29_method_1_code 30 = .ok (.istore 11, 2) := by decide +kernel
theorem d1_32 : decode prog_29_method_1_code 32 = .ok (.lload 6, 2) := by decide +kernel
theorem d1_34 : decode prog_29_method_1_code 34 = .ok (.iload 11, 2) := by decide +kernel
theorem d1_36 : decode prog_29_method_1_code 36 = .ok (.i2l, 1) := by decide +kernel
theorem d1_37 : decode prog_29_method_1_code 37 = .ok (.ladd, 1) := by decide +kernel
theorem d1_38 : decode prog_29_method_1_code 38 = .ok (.lstore 6, 2) := by decide +kernel
theorem d1_40 : decode prog_29_method_1_code 40 = .ok (.iinc 10 1, 3) := by decide +kernel
theorem d1_43 : decode prog_29_method_1_code 43 = .ok (.goto (-25), 3) := by decide +kernel
theorem d1_46 : decode prog_29_method_1_code 46 = .ok (.aload_n 0, 1) := by decide +kernel
theorem d1_47 : decode prog_29_method_1_code 47 = .ok (.aload_n 1, 1) := by decide +kernel
theorem d1_48 : decode prog_29_method_1_code 48 = .ok (.arraylength, 1) := by decide +kernel
theorem d1_49 : decode prog_29_method_1_code 49 = .ok (.putfield 11, 3) := by decide +kernel
theorem d1_52 : decode prog_29_method_1_code 52 = .ok (.aload_n 0, 1) := by decide +kernel
theorem d1_53 : decode prog_29_method_1_code 53 = .ok (.aload 5, 2) := by decide +kernel
theorem d1_55 : decode prog_29_method_1_code 55 = .ok (.arraylength, 1) := by decide +kernel
theorem d1_56 : decode prog_29_method_1_code 56 = .ok (.putfield 17, 3) := by decide +kernel
theorem d1_59 : decode prog_29_method_1_code 59 = .ok (.aload_n 0, 1) := by decide +kernel
theorem d1_60 : decode prog_29_method_1_code 60 = .ok (.aload_n 0, 1) := by decide +kernel
theorem d1_61 : decode prog_29_method_1_code 61 = .ok (.getfield 11, 3) := by decide +kernel
theorem d1_64 : decode prog_29_method_1_code 64 = .ok (.aload_n 0, 1) := by decide +kernel
theorem d1_65 : decode prog_29_method_1_code 65 = .ok (.getfield 17, 3) := by decide +kernel
theorem d1_68 : decode prog_29_method_1_code 68 = .ok (.iadd, 1) := by decide +kernel
theorem d1_69 : decode prog_29_method_1_code 69 = .ok (.putfield 20, 3) := by decide +kernel
theorem d1_72 : decode prog_29_method_1_code 72 = .ok (.aload_n 0, 1) := by decide +kernel
theorem d1_73 : decode prog_29_method_1_code 73 = .ok (.lload 6, 2) := by decide +kernel
theorem d1_75 : decode prog_29_method_1_code 75 = .ok (.l2i, 1) := by decide +kernel
theorem d1_76 : decode prog_29_method_1_code 76 = .ok (.putfield 23, 3) := by decide +kernel
theorem d1_79 : decode prog_29_method_1_code 79 = .ok (.aload_n 0, 1) := by decide +kernel
theorem d1_80 : decode prog_29_method_1_code 80 = .ok (.lload 6, 2) := by decide +kernel
theorem d1_82 : decode prog_29_method_1_code 82 = .ok (.lconst 1, 1) := by decide +kernel
theorem d1_83 : decode prog_29_method_1_code 83 = .ok (.ladd, 1) := by decide +kernel
theorem d1_84 : decode prog_29_method_1_code 84 = .ok (.putfield 26, 3) := by decide +kernel
theorem d1_87 : decode prog_29_method_1_code 87 = .ok (.aload_n 0, 1) := by decide +kernel
theorem d1_88 : decode prog_29_method_1_code 88 = .ok (.aload_n 2, 1) := by decide +kernel
theorem d1_89 : decode prog_29_method_1_code 89 = .ok (.putfield 30, 3) := by decide +kernel
theorem d1_92 : decode prog_29_method_1_code 92 = .ok (.aload_n 0, 1) := by decide +kernel
theorem d1_93 : decode prog_29_method_1_code 93 = .ok (.aload_n 3, 1) := by decide +kernel
theorem d1_94 : decode prog_29_method_1_code 94 = .ok (.putfield 34, 3) := by decide +kernel
theorem d1_97 : decode prog_29_method_1_code 97 = .ok (.aload_n 0, 1) := by decide +kernel
theorem d1_98 : decode prog_29_method_1_code 98 = .ok (.aload 4, 2) := by decide +kernel
theorem d1_100 : decode prog_29_method_1_code 100 = .ok (.putfield 37, 3) := by decide +kernel
theorem d1_103 : decode prog_29_method_1_code 103 = .ok (.aload_n 0, 1) := by decide +kernel
theorem d1_104 : decode prog_29_method_1_code 104 = .ok (.aload 5, 2) := by decide +kernel
theorem d1_106 : decode prog_29_method_1_code 106 = .ok (.putfield 40, 3) := by decide +kernel
theorem d1_109 : decode prog_29_method_1_code 109 = .ok (.aload_n 0, 1) := by decide +kernel
theorem d1_110 : decode prog_29_method_1_code 110 = .ok (.aload_n 0, 1) := by decide +kernel
theorem d1_111 : decode prog_29_method_1_code 111 = .ok (.getfield 11, 3) := by decide +kernel
theorem d1_114 : decode prog_29_method_1_code 114 = .ok (.iconst 1, 1) := by decide +kernel
theorem d1_115 : decode prog_29_method_1_code 115 = .ok (.iadd, 1) := by decide +kernel
theorem d1_116 : decode prog_29_method_1_code 116 = .ok (.newarray .int, 2) := by decide +kernel
theorem d1_118 : decode prog_29_method_1_code 118 = .ok (.putfield 43, 3) := by decide +kernel
theorem d1_121 : decode prog_29_method_1_code 121 = .ok (.aload_n 0, 1) := by decide +kernel
theorem d1_122 : decode prog_29_method_1_code 122 = .ok (.aload_n 2, 1) := by decide +kernel
theorem d1_123 : decode prog_29_method_1_code 123 = .ok (.aload_n 0, 1) := by decide +kernel
theorem d1_124 : decode prog_29_method_1_code 124 = .ok (.getfield 43, 3) := by decide +kernel
theorem d1_127 : decode prog_29_method_1_code 127 = .ok (.invokestatic 46, 3) := by decide +kernel
theorem d1_130 : decode prog_29_method_1_code 130 = .ok (.putfield 50, 3) := by decide +kernel
theorem d1_133 : decode prog_29_method_1_code 133 = .ok (.aload_n 0, 1) := by decide +kernel
theorem d1_134 : decode prog_29_method_1_code 134 = .ok (.aload_n 0, 1) := by decide +kernel
theorem d1_135 : decode prog_29_method_1_code 135 = .ok (.getfield 17, 3) := by decide +kernel
theorem d1_138 : decode prog_29_method_1_code 138 = .ok (.iconst 1, 1) := by decide +kernel
theorem d1_139 : decode prog_29_method_1_code 139 = .ok (.iadd, 1) := by decide +kernel
theorem d1_140 : decode prog_29_method_1_code 140 = .ok (.newarray .int, 2) := by decide +kernel
theorem d1_142 : decode prog_29_method_1_code 142 = .ok (.putfield 53, 3) := by decide +kernel
theorem d1_145 : decode prog_29_method_1_code 145 = .ok (.aload_n 0, 1) := by decide +kernel
theorem d1_146 : decode prog_29_method_1_code 146 = .ok (.aload_n 3, 1) := by decide +kernel
theorem d1_147 : decode prog_29_method_1_code 147 = .ok (.aload_n 0, 1) := by decide +kernel
theorem d1_148 : decode prog_29_method_1_code 148 = .ok (.getfield 53, 3) := by decide +kernel
theorem d1_151 : decode prog_29_method_1_code 151 = .ok (.invokestatic 46, 3) := by decide +kernel
theorem d1_154 : decode prog_29_method_1_code 154 = .ok (.putfield 56, 3) := by decide +kernel
theorem d1_157 : decode prog_29_method_1_code 157 = .ok (.iconst 0, 1) := by decide +kernel
theorem d1_158 : decode prog_29_method_1_code 158 = .ok (.istore 8, 2) := by decide +kernel
theorem d1_160 : decode prog_29_method_1_code 160 = .ok (.iload 8, 2) := by decide +kernel
theorem d1_162 : decode prog_29_method_1_code 162 = .ok (.aload_n 0, 1) := by decide +kernel
theorem d1_163 : decode prog_29_method_1_code 163 = .ok (.getfield 11, 3) := by decide +kernel
theorem d1_166 : decode prog_29_method_1_code 166 = .ok (.if_icmp .ge 50, 3) := by decide +kernel
theorem d1_169 : decode prog_29_method_1_code 169 = .ok (.aload_n 1, 1) := by decide +kernel
theorem d1_170 : decode prog_29_method_1_code 170 = .ok (.iload 8, 2) := by decide +kernel
theorem d1_172 : decode prog_29_method_1_code 172 = .ok (.iaload, 1) := by decide +kernel
theorem d1_173 : decode prog_29_method_1_code 173 = .ok (.ifCond .le 37, 3) := by decide +kernel
theorem d1_176 : decode prog_29_method_1_code 176 = .ok (.aload_n 0, 1) := by decide +kernel
theorem d1_177 : decode prog_29_method_1_code 177 = .ok (.getfield 43, 3) := by decide +kernel
theorem d1_180 : decode prog_29_method_1_code 180 = .ok (.iload 8, 2) := by decide +kernel
theorem d1_182 : decode prog_29_method_1_code 182 = .ok (.iaload, 1) := by decide +kernel
theorem d1_183 : decode prog_29_method_1_code 183 = .ok (.aload_n 0, 1) := by decide +kernel
theorem d1_184 : decode prog_29_method_1_code 184 = .ok (.getfield 43, 3) := by decide +kernel
theorem d1_187 : decode prog_29_method_1_code 187 = .ok (.iload 8, 2) := by decide +kernel
theorem d1_189 : decode prog_29_method_1_code 189 = .ok (.iconst 1, 1) := by decide +kernel
theorem d1_190 : decode prog_29_method_1_code 190 = .ok (.iadd, 1) := by decide +kernel
theorem d1_191 : decode prog_29_method_1_code 191 = .ok (.iaload, 1) := by decide +kernel
theorem d1_192 : decode prog_29_method_1_code 192 = .ok (.if_icmp .ne 18, 3) := by decide +kernel
theorem d1_210 : decode prog_29_method_1_code 210 = .ok (.iinc 8 1, 3) := by decide +kernel
theorem d1_213 : decode prog_29_method_1_code 213 = .ok (.goto (-53), 3) := by decide +kernel
theorem d1_216 : decode prog_29_method_1_code 216 = .ok (.aload_n 0, 1) := by decide +kernel
theorem d1_217 : decode prog_29_method_1_code 217 = .ok (.aload_n 2, 1) := by decide +kernel
theorem d1_218 : decode prog_29_method_1_code 218 = .ok (.arraylength, 1) := by decide +kernel
theorem d1_219 : decode prog_29_method_1_code 219 = .ok (.newarray .int, 2) := by decide +kernel
theorem d1_221 : decode prog_29_method_1_code 221 = .ok (.putfield 68, 3) := by decide +kernel
theorem d1_224 : decode prog_29_method_1_code 224 = .ok (.aload_n 0, 1) := by decide +kernel
theorem d1_225 : decode prog_29_method_1_code 225 = .ok (.aload_n 0, 1) := by decide +kernel
theorem d1_226 : decode prog_29_method_1_code 226 = .ok (.getfield 17, 3) := by decide +kernel
theorem d1_229 : decode prog_29_method_1_code 229 = .ok (.newarray .int, 2) := by decide +kernel
theorem d1_231 : decode prog_29_method_1_code 231 = .ok (.putfield 71, 3) := by decide +kernel
theorem d1_234 : decode prog_29_method_1_code 234 = .ok (.aload_n 0, 1) := by decide +kernel
theorem d1_235 : decode prog_29_method_1_code 235 = .ok (.getfield 20, 3) := by decide +kernel
theorem d1_238 : decode prog_29_method_1_code 238 = .ok (.iconst 1, 1) := by decide +kernel
theorem d1_239 : decode prog_29_method_1_code 239 = .ok (.iadd, 1) := by decide +kernel
theorem d1_240 : decode prog_29_method_1_code 240 = .ok (.istore 8, 2) := by decide +kernel
theorem d1_242 : decode prog_29_method_1_code 242 = .ok (.aload_n 0, 1) := by decide +kernel
theorem d1_243 : decode prog_29_method_1_code 243 = .ok (.iload 8, 2) := by decide +kernel
theorem d1_245 : decode prog_29_method_1_code 245 = .ok (.newarray .int, 2) := by decide +kernel
theorem d1_247 : decode prog_29_method_1_code 247 = .ok (.putfield 74, 3) := by decide +kernel
theorem d1_250 : decode prog_29_method_1_code 250 = .ok (.aload_n 1, 1) := by decide +kernel
theorem d1_251 : decode prog_29_method_1_code 251 = .ok (.iconst 0, 1) := by decide +kernel
theorem d1_252 : decode prog_29_method_1_code 252 = .ok (.aload_n 0, 1) := by decide +kernel
theorem d1_253 : decode prog_29_method_1_code 253 = .ok (.getfield 74, 3) := by decide +kernel
theorem d1_256 : decode prog_29_method_1_code 256 = .ok (.iconst 0, 1) := by decide +kernel
theorem d1_257 : decode prog_29_method_1_code 257 = .ok (.aload_n 0, 1) := by decide +kernel
theorem d1_258 : decode prog_29_method_1_code 258 = .ok (.getfield 11, 3) := by decide +kernel
theorem d1_261 : decode prog_29_method_1_code 261 = .ok (.invokestatic 77, 3) := by decide +kernel
theorem d1_264 : decode prog_29_method_1_code 264 = .ok (.aload_n 0, 1) := by decide +kernel
theorem d1_265 : decode prog_29_method_1_code 265 = .ok (.iload 8, 2) := by decide +kernel
theorem d1_267 : decode prog_29_method_1_code 267 = .ok (.newarray .long, 2) := by decide +kernel
theorem d1_269 : decode prog_29_method_1_code 269 = .ok (.putfield 83, 3) := by decide +kernel
theorem d1_272 : decode prog_29_method_1_code 272 = .ok (.aload_n 0, 1) := by decide +kernel
theorem d1_273 : decode prog_29_method_1_code 273 = .ok (.iload 8, 2) := by decide +kernel
theorem d1_275 : decode prog_29_method_1_code 275 = .ok (.newarray .long, 2) := by decide +kernel
theorem d1_277 : decode prog_29_method_1_code 277 = .ok (.putfield 87, 3) := by decide +kernel
theorem d1_280 : decode prog_29_method_1_code 280 = .ok (.aload_n 0, 1) := by decide +kernel
theorem d1_281 : decode prog_29_method_1_code 281 = .ok (.iload 8, 2) := by decide +kernel
theorem d1_283 : decode prog_29_method_1_code 283 = .ok (.newarray .int, 2) := by decide +kernel
theorem d1_285 : decode prog_29_method_1_code 285 = .ok (.putfield 90, 3) := by decide +kernel
theorem d1_288 : decode prog_29_method_1_code 288 = .ok (.aload_n 0, 1) := by decide +kernel
theorem d1_289 : decode prog_29_method_1_code 289 = .ok (.iload 8, 2) := by decide +kernel
theorem d1_291 : decode prog_29_method_1_code 291 = .ok (.newarray .int, 2) := by decide +kernel
theorem d1_293 : decode prog_29_method_1_code 293 = .ok (.putfield 93, 3) := by decide +kernel
theorem d1_296 : decode prog_29_method_1_code 296 = .ok (.aload_n 0, 1) := by decide +kernel
theorem d1_297 : decode prog_29_method_1_code 297 = .ok (.iload 8, 2) := by decide +kernel
theorem d1_299 : decode prog_29_method_1_code 299 = .ok (.newarray .int, 2) := by decide +kernel
theorem d1_301 : decode prog_29_method_1_code 301 = .ok (.putfield 96, 3) := by decide +kernel
theorem d1_304 : decode prog_29_method_1_code 304 = .ok (.aload_n 0, 1) := by decide +kernel
theorem d1_305 : decode prog_29_method_1_code 305 = .ok (.iload 8, 2) := by decide +kernel
theorem d1_307 : decode prog_29_method_1_code 307 = .ok (.newarray .int, 2) := by decide +kernel
theorem d1_309 : decode prog_29_method_1_code 309 = .ok (.putfield 99, 3) := by decide +kernel
theorem d1_312 : decode prog_29_method_1_code 312 = .ok (.aload_n 0, 1) := by decide +kernel
theorem d1_313 : decode prog_29_method_1_code 313 = .ok (.iload 8, 2) := by decide +kernel
theorem d1_315 : decode prog_29_method_1_code 315 = .ok (.newarray .int, 2) := by decide +kernel
theorem d1_317 : decode prog_29_method_1_code 317 = .ok (.putfield 102, 3) := by decide +kernel
theorem d1_320 : decode prog_29_method_1_code 320 = .ok (.aload_n 0, 1) := by decide +kernel
theorem d1_321 : decode prog_29_method_1_code 321 = .ok (.new 105, 3) := by decide +kernel
theorem d1_324 : decode prog_29_method_1_code 324 = .ok (.dup, 1) := by decide +kernel
theorem d1_325 : decode prog_29_method_1_code 325 = .ok (.iload 8, 2) := by decide +kernel
theorem d1_327 : decode prog_29_method_1_code 327 = .ok (.aload_n 0, 1) := by decide +kernel
theorem d1_328 : decode prog_29_method_1_code 328 = .ok (.getfield 87, 3) := by decide +kernel
theorem d1_331 : decode prog_29_method_1_code 331 = .ok (.invokespecial 107, 3) := by decide +kernel
theorem d1_334 : decode prog_29_method_1_code 334 = .ok (.putfield 110, 3) := by decide +kernel
theorem d1_337 : decode prog_29_method_1_code 337 = .ok (.return_, 1) := by decide +kernel
theorem pn_1 : plainName "com/example/limpet/limpet/StickyShares" = true := by first | (simp [plainName, overriddenIn]; done) | decide +kernel
theorem ef_rm1 (m : MethodId) (x0 : Addr) (x1 : Addr) (x2 : Addr) (x3 : Addr) (x4 : Addr) (x5 : Addr) : entryFrame m #[(.ref x0), (.ref x1), (.ref x2), (.ref x3), (.ref x4), (.ref x5)] 12 = mkF m 0 #[.val (.ref x0), .val (.ref x1), .val (.ref x2), .val (.ref x3), .val (.ref x4), .val (.ref x5), .unset, .unset, .unset, .unset, .unset, .unset] [] := by first | (simp [entryFrame, mkF, argsToLocals, Value.category]; done) | rfl
def Qrm1 (Z : State) (a1 : Addr) (pc : Addr) (att : Addr) (au : Addr) (ao : Addr) (us : Addr) (kpc : ClassId) (katt : ClassId) (kau : ClassId) (kus : ClassId) (ca : Int32) (cb : Int32) (sa : Int32) (sb : Int32) (h0 : Heap) (n0 : Nat) (v : Option Value) (h : Heap) (L : List Loc) : Prop := ∃ (rts : Addr) (rta : Addr) (rf : Addr) (rl : Addr) (re : Addr) (rp : Addr) (krts : ClassId) (krta : ClassId) (krf : ClassId) (krl : ClassId) (kre : ClassId) (krp : ClassId), (v = none) ∧ (Fr n0 L) ∧ (Keep h0 h [a1]) ∧ (Exa Z h a1 "com/example/limpet/limpet/StickyShares") ∧ (Fld Z h a1 "com/example/limpet/limpet/StickyShares" "topicCount" "I" (.int (2 : Int32))) ∧ (Fld Z h a1 "com/example/limpet/limpet/StickyShares" "unitCount" "I" (.int (2 : Int32))) ∧ (Fld Z h a1 "com/example/limpet/limpet/StickyShares" "sink" "I" (.int (4 : Int32))) ∧ (Fld Z h a1 "com/example/limpet/limpet/StickyShares" "total" "I" (.int (((0 : Int64) + ca.toInt64) + cb.toInt64).toInt32)) ∧ (Fld Z h a1 "com/example/limpet/limpet/StickyShares" "balanceWeight" "J" (.long ((((0 : Int64) + ca.toInt64) + cb.toInt64) + (1 : Int64)))) ∧ (Fld Z h a1 "com/example/limpet/limpet/StickyShares" "arcUnit" "[I" (.ref au)) ∧ (Fld Z h a1 "com/example/limpet/limpet/StickyShares" "arcOwned" "[I" (.ref ao)) ∧ (Fld Z h a1 "com/example/limpet/limpet/StickyShares" "unitSize" "[I" (.ref us)) ∧ (Fld Z h a1 "com/example/limpet/limpet/StickyShares" "topicArcStart" "[I" (.ref rts)) ∧ (Fld Z h a1 "com/example/limpet/limpet/StickyShares" "topicArcs" "[I" (.ref rta)) ∧ (Fld Z h a1 "com/example/limpet/limpet/StickyShares" "flow" "[I" (.ref rf)) ∧ (Fld Z h a1 "com/example/limpet/limpet/StickyShares" "load" "[I" (.ref rl)) ∧ (Fld Z h a1 "com/example/limpet/limpet/StickyShares" "excess" "[I" (.ref re)) ∧ (Fld Z h a1 "com/example/limpet/limpet/StickyShares" "potential" "[J" (.ref rp)) ∧ (Arv Z h rts krts .int (3 : Int32) [(.int (0 : Int32)), (.int (1 : Int32)), (.int (2 : Int32))] (.int (0 : Int32))) ∧ (Arv Z h rta krta .int (2 : Int32) [(.int (0 : Int32)), (.int (1 : Int32))] (.int (0 : Int32))) ∧ (Arv Z h rf krf .int (2 : Int32) [(.int (0 : Int32)), (.int (0 : Int32))] (.int (0 : Int32))) ∧ (Arv Z h rl krl .int (2 : Int32) [(.int (0 : Int32)), (.int (0 : Int32))] (.int (0 : Int32))) ∧ (Arv Z h re kre .int (5 : Int32) [(.int ca), (.int cb), (.int (0 : Int32)), (.int (0 : Int32)), (.int (0 : Int32))] (.int (0 : Int32))) ∧ (Arv Z h rp krp .long (5 : Int32) [(.long (0 : Int64)), (.long (0 : Int64)), (.long (0 : Int64)), (.long (0 : Int64)), (.long (0 : Int64))] (.long (0 : Int64))) ∧ (h0.size ≤ rts) ∧ (@LT.lt Nat _ rts rta) ∧ (@LT.lt Nat _ rta rf) ∧ (@LT.lt Nat _ rf rl) ∧ (@LT.lt Nat _ rl re) ∧ (@LT.lt Nat _ re rp)
set_option maxRecDepth 65536 in
set_option maxHeartbeats 40000000 in
theorem rm1 (l : Launch) (Z : State) (a0 : Array Value) (hw : ∀ d ∈ tables_1, d.before a0 Z = true) (ws : List Jvm.Cond) (a1 : Addr) (pc : Addr) (att : Addr) (au : Addr) (ao : Addr) (us : Addr) (kpc : ClassId) (katt : ClassId) (kau : ClassId) (kus : ClassId) (ca : Int32) (cb : Int32) (sa : Int32) (sb : Int32) (h0 : Heap) (n0 : Nat) (Z0 : n0 ≤ h0.size) (pr1 : Exa Z h0 a1 "com/example/limpet/limpet/StickyShares") (pr2 : Fld Z h0 a1 "com/example/limpet/limpet/StickyShares" "topicCount" "I" (.int (0 : Int32))) (pr3 : Fld Z h0 a1 "com/example/limpet/limpet/StickyShares" "unitCount" "I" (.int (0 : Int32))) (pr4 : Fld Z h0 a1 "com/example/limpet/limpet/StickyShares" "sink" "I" (.int (0 : Int32))) (pr5 : Fld Z h0 a1 "com/example/limpet/limpet/StickyShares" "total" "I" (.int (0 : Int32))) (pr6 : Fld Z h0 a1 "com/example/limpet/limpet/StickyShares" "balanceWeight" "J" (.long (0 : Int64))) (pr7 : Fld Z h0 a1 "com/example/limpet/limpet/StickyShares" "arcTopic" "[I" .null) (pr8 : Fld Z h0 a1 "com/example/limpet/limpet/StickyShares" "arcUnit" "[I" .null) (pr9 : Fld Z h0 a1 "com/example/limpet/limpet/StickyShares" "arcOwned" "[I" .null) (pr10 : Fld Z h0 a1 "com/example/limpet/limpet/StickyShares" "unitSize" "[I" .null) (pr11 : Fld Z h0 a1 "com/example/limpet/limpet/StickyShares" "topicArcStart" "[I" .null) (pr12 : Fld Z h0 a1 "com/example/limpet/limpet/StickyShares" "topicArcs" "[I" .null) (pr13 : Fld Z h0 a1 "com/example/limpet/limpet/StickyShares" "unitArcStart" "[I" .null) (pr14 : Fld Z h0 a1 "com/example/limpet/limpet/StickyShares" "unitArcs" "[I" .null) (pr15 : Fld Z h0 a1 "com/example/limpet/limpet/StickyShares" "flow" "[I" .null) (pr16 : Fld Z h0 a1 "com/example/limpet/limpet/StickyShares" "load" "[I" .null) (pr17 : Fld Z h0 a1 "com/example/limpet/limpet/StickyShares" "excess" "[I" .null) (pr18 : Fld Z h0 a1 "com/example/limpet/limpet/StickyShares" "level" "[I" .null) (pr19 : Fld Z h0 a1 "com/example/limpet/limpet/StickyShares" "queue" "[I" .null) (pr20 : Fld Z h0 a1 "com/example/limpet/limpet/StickyShares" "nextArc" "[I" .null) (pr21 : Fld Z h0 a1 "com/example/limpet/limpet/StickyShares" "pathNode" "[I" .null) (pr22 : Fld Z h0 a1 "com/example/limpet/limpet/StickyShares" "pathArc" "[I" .null) (pr23 : Fld Z h0 a1 "com/example/limpet/limpet/StickyShares" "potential" "[J" .null) (pr24 : Fld Z h0 a1 "com/example/limpet/limpet/StickyShares" "distance" "[J" .null) (pr25 : Fld Z h0 a1 "com/example/limpet/limpet/StickyShares" "heap" "Lcom/example/limpet/limpet/StickyShares$NodeHeap;" .null) (pr26 : Arv Z h0 pc kpc .int (2 : Int32) [(.int ca), (.int cb)] (.int (0 : Int32))) (pr27 : Arv Z h0 att katt .int (2 : Int32) [(.int (0 : Int32)), (.int (1 : Int32))] (.int (0 : Int32))) (pr28 : Arv Z h0 au kau .int (2 : Int32) [(.int (0 : Int32)), (.int (1 : Int32))] (.int (0 : Int32))) (pr29 : Arv Z h0 us kus .int (2 : Int32) [(.int sa), (.int sb)] (.int (0 : Int32))) (pr30 : n0 ≤ a1) (hch : @LT.lt Nat _ a1 pc ∧ @LT.lt Nat _ pc att ∧ @LT.lt Nat _ att au ∧ @LT.lt Nat _ au us) :
    MetFree l oM12 (head1 (Jvm.Cond.code oM12 prog_29_method_1_code 12 none :: ws) ({ frames := 3, cells := 19, slots := 72, locals := 96 } : Room)) (fun a U => a = #[(.ref a1), (.ref pc), (.ref att), (.ref au), (.ref ao), (.ref us)] ∧ Z.Warmed39 U.vm ∧ U.heap = h0) (fun _ _ _ _ _ => True) (fun _ U o U' => ∃ v L, o = .returned v ∧ Qrm1 Z a1 pc att au ao us kpc katt kau kus ca cb sa sb h0 n0 v U'.heap L ∧ FrameEnd U o U' L ({ frames := 3, cells := 19, slots := 72, locals := 96 } : Room).cells ({ frames := 3, cells := 19, slots := 72, locals := 96 } : Room).slots) := by
  refine MetFree.of_bodySF (plainFor_of_name pn_1) hisR ?_
  intro p e s m args below meth c s₁ Bd hml0 hP0 hK
  obtain ⟨rfl, hZ, hh⟩ := hP0
  have hx := Bd.exec
  have hby := Bd.bytes
  have hml : c.maxLocals = 12 := hml0
  have hown : s.vm.findClass oS0 = some m.cls := findClass_of_methodNamed Bd.named
  have hnm := (name_of_methodNamed Bd.named Bd.method).1
  have X0 : Stand p l e ({ frames := 3, cells := 19, slots := 72, locals := 96 } : Room) s m #[(.ref a1), (.ref pc), (.ref att), (.ref au), (.ref ao), (.ref us)] below meth c s₁ [] 0 0 := Stand.of_body Bd
  have e0 : s₁.heap = h0 := by rw [← hh, Bd.state]; rfl
  have N0 := Fr.nil n0
  suffices own_H : ∀ (P : State → Outcome → Prop), (∀ U o, U.status = .running → Ended U below o → (∃ v L, o = .returned v ∧ Qrm1 Z a1 pc att au ao us kpc katt kau kus ca cb sa sb h0 n0 v U.heap L ∧ FrameEnd s o U L ({ frames := 3, cells := 19, slots := 72, locals := 96 } : Room).cells ({ frames := 3, cells := 19, slots := 72, locals := 96 } : Room).slots) → P U o) → own_Go p.tables e below P (s₁.setTop (mkF m 0 #[oR a1, oR pc, oR att, oR au, oR ao, oR us, .unset, .unset, .unset, .unset, .unset, .unset] [])) from own_go (fun _ k => castTop (ef_rm1 m a1 pc att au ao us) k) (own_H _ (fun U o h1 h2 h3 => ⟨h1, h2, h3⟩))
  intro P hP
  have lt_a1 : @LT.lt Nat _ a1 h0.size := pr1.lt
  have lt_pc : @LT.lt Nat _ pc h0.size := pr26.lt
  have lt_att : @LT.lt Nat _ att h0.size := pr27.lt
  have lt_au : @LT.lt Nat _ au h0.size := pr28.lt
  have lt_us : @LT.lt Nat _ us h0.size := pr29.lt
  refine own_go (st' := s₁.setTop (mkF m 1 #[oR a1, oR pc, oR att, oR au, oR ao, oR us, .unset, .unset, .unset, .unset, .unset, .unset] [(.ref a1)])) (fun _ k => XS.aloadN X0.here hx rfl (hb hby d1_0) rfl rfl k) ?_
  obtain ⟨T1, X1, e1, st1⟩ := initO X0 hx hZ hown (own_hw hw 8) (own_hw hw 9) (own_hw hw 10) e0 (g := (mkF m 1 #[oR a1, oR pc, oR att, oR au, oR ao, oR us, .unset, .unset, .unset, .unset, .unset, .unset] [(.ref a1)])) rfl (by rw [hml]; rfl) rfl (hb hby d1_1) (by decide) (W := 0) (by show 2 * 0 + _ ≤ _; exact Nat.le_of_eq rfl) (by decide)
  refine own_go (st' := T1.setTop (mkF m 4 #[oR a1, oR pc, oR att, oR au, oR ao, oR us, .unset, .unset, .unset, .unset, .unset, .unset] [])) (st1) ?_
  refine own_go (st' := T1.setTop (mkF m 5 #[oR a1, oR pc, oR att, oR au, oR ao, oR us, .unset, .unset, .unset, .unset, .unset, .unset] [(.long (0 : Int64))])) (fun _ k => XS.lconst X1.here hx rfl (hb hby d1_4) k) ?_
  refine own_go (st' := T1.setTop (mkF m 7 #[oR a1, oR pc, oR att, oR au, oR ao, oR us, .val (.long (0 : Int64)), .second, .unset, .unset, .unset, .unset] [])) (fun _ k => XS.lstore X1.here hx rfl (hb hby d1_5) rfl (l' := #[oR a1, oR pc, oR att, oR au, oR ao, oR us, .val (.long (0 : Int64)), .second, .unset, .unset, .unset, .unset]) rfl k) ?_
  refine own_go (st' := T1.setTop (mkF m 8 #[oR a1, oR pc, oR att, oR au, oR ao, oR us, .val (.long (0 : Int64)), .second, .unset, .unset, .unset, .unset] [(.ref pc)])) (fun _ k => XS.aloadN X1.here hx rfl (hb hby d1_7) rfl rfl k) ?_
  refine own_go (st' := T1.setTop (mkF m 10 #[oR a1, oR pc, oR att, oR au, oR ao, oR us, .val (.long (0 : Int64)), .second, oR pc, .unset, .unset, .unset] [])) (fun _ k => XS.astore X1.here hx rfl (hb hby d1_8) rfl rfl (l' := #[oR a1, oR pc, oR att, oR au, oR ao, oR us, .val (.long (0 : Int64)), .second, oR pc, .unset, .unset, .unset]) rfl k) ?_
  refine own_go (st' := T1.setTop (mkF m 12 #[oR a1, oR pc, oR att, oR au, oR ao, oR us, .val (.long (0 : Int64)), .second, oR pc, .unset, .unset, .unset] [(.ref pc)])) (fun _ k => XS.aload X1.here hx rfl (hb hby d1_10) rfl rfl k) ?_
  obtain ⟨cl2, Ar2, -, S2, M2, -, -⟩ := id pr26
  refine own_go (st' := T1.setTop (mkF m 13 #[oR a1, oR pc, oR att, oR au, oR ao, oR us, .val (.long (0 : Int64)), .second, oR pc, .unset, .unset, .unset] [(.int (2 : Int32))])) (fun t k => X1.arraylength hx (by rw [e1]; exact Ar2.1) (State.isArrayOf_alike hZ.alike Ar2.2.1) (g := (mkF m 12 #[oR a1, oR pc, oR att, oR au, oR ao, oR us, .val (.long (0 : Int64)), .second, oR pc, .unset, .unset, .unset] [(.ref pc)])) rfl rfl (hb hby d1_12) t (by rw [len_of S2 M2]; exact k)) ?_
  refine own_go (st' := T1.setTop (mkF m 15 #[oR a1, oR pc, oR att, oR au, oR ao, oR us, .val (.long (0 : Int64)), .second, oR pc, oi 2, .unset, .unset] [])) (fun _ k => XS.istore X1.here hx rfl (hb hby d1_13) rfl (l' := #[oR a1, oR pc, oR att, oR au, oR ao, oR us, .val (.long (0 : Int64)), .second, oR pc, oi 2, .unset, .unset]) rfl k) ?_
  refine own_go (st' := T1.setTop (mkF m 16 #[oR a1, oR pc, oR att, oR au, oR ao, oR us, .val (.long (0 : Int64)), .second, oR pc, oi 2, .unset, .unset] [(.int (0 : Int32))])) (fun _ k => XS.iconst X1.here hx rfl (hb hby d1_15) k) ?_
  refine own_go (st' := T1.setTop (mkF m 18 #[oR a1, oR pc, oR att, oR au, oR ao, oR us, .val (.long (0 : Int64)), .second, oR pc, oi 2, oi 0, .unset] [])) (fun _ k => XS.istore X1.here hx rfl (hb hby d1_16) rfl (l' := #[oR a1, oR pc, oR att, oR au, oR ao, oR us, .val (.long (0 : Int64)), .second, oR pc, oi 2, oi 0, .unset]) rfl k) ?_
  refine own_go (st' := T1.setTop (mkF m 20 #[oR a1, oR pc, oR att, oR au, oR ao, oR us, .val (.long (0 : Int64)), .second, oR pc, oi 2, oi 0, .unset] [(.int (0 : Int32))])) (fun _ k => XS.iload X1.here hx rfl (hb hby d1_18) rfl k) ?_
  refine own_go (st' := T1.setTop (mkF m 22 #[oR a1, oR pc, oR att, oR au, oR ao, oR us, .val (.long (0 : Int64)), .second, oR pc, oi 2, oi 0, .unset] [(.int (2 : Int32)), (.int (0 : Int32))])) (fun _ k => XS.iload X1.here hx rfl (hb hby d1_20) rfl k) ?_
  have hc3 : (0 : Int32) < (2 : Int32) := by decide
  refine own_go (st' := T1.setTop (mkF m 25 #[oR a1, oR pc, oR att, oR au, oR ao, oR us, .val (.long (0 : Int64)), .second, oR pc, oi 2, oi 0, .unset] [])) (fun _ k => XS.icmpNo X1.here hx rfl (hb hby d1_22) rfl (tlt hc3).2.1 k) ?_
  refine own_go (st' := T1.setTop (mkF m 27 #[oR a1, oR pc, oR att, oR au, oR ao, oR us, .val (.long (0 : Int64)), .second, oR pc, oi 2, oi 0, .unset] [(.ref pc)])) (fun _ k => XS.aload X1.here hx rfl (hb hby d1_25) rfl rfl k) ?_
  refine own_go (st' := T1.setTop (mkF m 29 #[oR a1, oR pc, oR att, oR au, oR ao, oR us, .val (.long (0 : Int64)), .second, oR pc, oi 2, oi 0, .unset] [(.int (0 : Int32)), (.ref pc)])) (fun _ k => XS.iload X1.here hx rfl (hb hby d1_27) rfl k) ?_
  obtain ⟨cl4, Ar4, -, S4, M4, H4, -⟩ := id pr26
  have hin4 : ¬ ((0 : Int32) < 0 ∨ cl4.slots.size ≤ ((0 : Int32)).toNatClampNeg) := (inb_of S4 ⟨by decide, by decide⟩)
  have hat4 : cl4.slots[((0 : Int32)).toNatClampNeg]? = some (.int ca) := (H4.at hin4 rfl)
  refine own_go (st' := T1.setTop (mkF m 30 #[oR a1, oR pc, oR att, oR au, oR ao, oR us, .val (.long (0 : Int64)), .second, oR pc, oi 2, oi 0, .unset] [(.int ca)])) (X1.iaload hx (j := (0 : Int32)) (v := (.int ca)) (by rw [e1]; exact Ar4.1) (State.isArrayOf_alike hZ.alike Ar4.2.1) Ar4.2.2 hin4 hat4 (g := (mkF m 29 #[oR a1, oR pc, oR att, oR au, oR ao, oR us, .val (.long (0 : Int64)), .second, oR pc, oi 2, oi 0, .unset] [(.int (0 : Int32)), (.ref pc)])) rfl rfl (hb hby d1_29)) ?_
  refine own_go (st' := T1.setTop (mkF m 32 #[oR a1, oR pc, oR att, oR au, oR ao, oR us, .val (.long (0 : Int64)), .second, oR pc, oi 2, oi 0, oi ca] [])) (fun _ k => XS.istore X1.here hx rfl (hb hby d1_30) rfl (l' := #[oR a1, oR pc, oR att, oR au, oR ao, oR us, .val (.long (0 : Int64)), .second, oR pc, oi 2, oi 0, oi ca]) rfl k) ?_
  refine own_go (st' := T1.setTop (mkF m 34 #[oR a1, oR pc, oR att, oR au, oR ao, oR us, .val (.long (0 : Int64)), .second, oR pc, oi 2, oi 0, oi ca] [(.long (0 : Int64))])) (fun _ k => XS.lload X1.here hx rfl (hb hby d1_32) rfl k) ?_
  refine own_go (st' := T1.setTop (mkF m 36 #[oR a1, oR pc, oR att, oR au, oR ao, oR us, .val (.long (0 : Int64)), .second, oR pc, oi 2, oi 0, oi ca] [(.int ca), (.long (0 : Int64))])) (fun _ k => XS.iload X1.here hx rfl (hb hby d1_34) rfl k) ?_
  refine own_go (st' := T1.setTop (mkF m 37 #[oR a1, oR pc, oR att, oR au, oR ao, oR us, .val (.long (0 : Int64)), .second, oR pc, oi 2, oi 0, oi ca] [(.long ca.toInt64), (.long (0 : Int64))])) (fun _ k => XS.i2l X1.here hx rfl (hb hby d1_36) rfl k) ?_
  refine own_go (st' := T1.setTop (mkF m 38 #[oR a1, oR pc, oR att, oR au, oR ao, oR us, .val (.long (0 : Int64)), .second, oR pc, oi 2, oi 0, oi ca] [(.long ((0 : Int64) + ca.toInt64))])) (fun _ k => XS.ladd X1.here hx rfl (hb hby d1_37) rfl k) ?_
  refine own_go (st' := T1.setTop (mkF m 40 #[oR a1, oR pc, oR att, oR au, oR ao, oR us, .val (.long ((0 : Int64) + ca.toInt64)), .second, oR pc, oi 2, oi 0, oi ca] [])) (fun _ k => XS.lstore X1.here hx rfl (hb hby d1_38) rfl (l' := #[oR a1, oR pc, oR att, oR au, oR ao, oR us, .val (.long ((0 : Int64) + ca.toInt64)), .second, oR pc, oi 2, oi 0, oi ca]) rfl k) ?_
  refine own_go (st' := T1.setTop (mkF m 43 #[oR a1, oR pc, oR att, oR au, oR ao, oR us, .val (.long ((0 : Int64) + ca.toInt64)), .second, oR pc, oi 2, oi 1, oi ca] [])) (fun _ k => XS.iinc X1.here hx rfl (hb hby d1_40) rfl (l' := #[oR a1, oR pc, oR att, oR au, oR ao, oR us, .val (.long ((0 : Int64) + ca.toInt64)), .second, oR pc, oi 2, oi 1, oi ca]) (by rw [show ((0 : Int32) + Int32.ofInt 1) = (1 : Int32) by decide]; rfl) k) ?_
  refine own_go (st' := T1.setTop (mkF m 18 #[oR a1, oR pc, oR att, oR au, oR ao, oR us, .val (.long ((0 : Int64) + ca.toInt64)), .second, oR pc, oi 2, oi 1, oi ca] [])) (fun _ k => XS.goto X1.here hx rfl (pc0 := 43) (pc' := 18) rfl (hb hby d1_43) (by decide) (by decide) k) ?_
  refine own_go (st' := T1.setTop (mkF m 20 #[oR a1, oR pc, oR att, oR au, oR ao, oR us, .val (.long ((0 : Int64) + ca.toInt64)), .second, oR pc, oi 2, oi 1, oi ca] [(.int (1 : Int32))])) (fun _ k => XS.iload X1.here hx rfl (hb hby d1_18) rfl k) ?_
  refine own_go (st' := T1.setTop (mkF m 22 #[oR a1, oR pc, oR att, oR au, oR ao, oR us, .val (.long ((0 : Int64) + ca.toInt64)), .second, oR pc, oi 2, oi 1, oi ca] [(.int (2 : Int32)), (.int (1 : Int32))])) (fun _ k => XS.iload X1.here hx rfl (hb hby d1_20) rfl k) ?_
  have hc5 : (1 : Int32) < (2 : Int32) := by decide
  refine own_go (st' := T1.setTop (mkF m 25 #[oR a1, oR pc, oR att, oR au, oR ao, oR us, .val (.long ((0 : Int64) + ca.toInt64)), .second, oR pc, oi 2, oi 1, oi ca] [])) (fun _ k => XS.icmpNo X1.here hx rfl (hb hby d1_22) rfl (tlt hc5).2.1 k) ?_
  refine own_go (st' := T1.setTop (mkF m 27 #[oR a1, oR pc, oR att, oR au, oR ao, oR us, .val (.long ((0 : Int64) + ca.toInt64)), .second, oR pc, oi 2, oi 1, oi ca] [(.ref pc)])) (fun _ k => XS.aload X1.here hx rfl (hb hby d1_25) rfl rfl k) ?_
  refine own_go (st' := T1.setTop (mkF m 29 #[oR a1, oR pc, oR att, oR au, oR ao, oR us, .val (.long ((0 : Int64) + ca.toInt64)), .second, oR pc, oi 2, oi 1, oi ca] [(.int (1 : Int32)), (.ref pc)])) (fun _ k => XS.iload X1.here hx rfl (hb hby d1_27) rfl k) ?_
  obtain ⟨cl6, Ar6, -, S6, M6, H6, -⟩ := id pr26
  have hin6 : ¬ ((1 : Int32) < 0 ∨ cl6.slots.size ≤ ((1 : Int32)).toNatClampNeg) := (inb_of S6 ⟨by decide, by decide⟩)
  have hat6 : cl6.slots[((1 : Int32)).toNatClampNeg]? = some (.int cb) := (H6.at hin6 rfl)
  refine own_go (st' := T1.setTop (mkF m 30 #[oR a1, oR pc, oR att, oR au, oR ao, oR us, .val (.long ((0 : Int64) + ca.toInt64)), .second, oR pc, oi 2, oi 1, oi ca] [(.int cb)])) (X1.iaload hx (j := (1 : Int32)) (v := (.int cb)) (by rw [e1]; exact Ar6.1) (State.isArrayOf_alike hZ.alike Ar6.2.1) Ar6.2.2 hin6 hat6 (g := (mkF m 29 #[oR a1, oR pc, oR att, oR au, oR ao, oR us, .val (.long ((0 : Int64) + ca.toInt64)), .second, oR pc, oi 2, oi 1, oi ca] [(.int (1 : Int32)), (.ref pc)])) rfl rfl (hb hby d1_29)) ?_
  refine own_go (st' := T1.setTop (mkF m 32 #[oR a1, oR pc, oR att, oR au, oR ao, oR us, .val (.long ((0 : Int64) + ca.toInt64)), .second, oR pc, oi 2, oi 1, oi cb] [])) (fun _ k => XS.istore X1.here hx rfl (hb hby d1_30) rfl (l' := #[oR a1, oR pc, oR att, oR au, oR ao, oR us, .val (.long ((0 : Int64) + ca.toInt64)), .second, oR pc, oi 2, oi 1, oi cb]) rfl k) ?_
  refine own_go (st' := T1.setTop (mkF m 34 #[oR a1, oR pc, oR att, oR au, oR ao, oR us, .val (.long ((0 : Int64) + ca.toInt64)), .second, oR pc, oi 2, oi 1, oi cb] [(.long ((0 : Int64) + ca.toInt64))])) (fun _ k => XS.lload X1.here hx rfl (hb hby d1_32) rfl k) ?_
  refine own_go (st' := T1.setTop (mkF m 36 #[oR a1, oR pc, oR att, oR au, oR ao, oR us, .val (.long ((0 : Int64) + ca.toInt64)), .second, oR pc, oi 2, oi 1, oi cb] [(.int cb), (.long ((0 : Int64) + ca.toInt64))])) (fun _ k => XS.iload X1.here hx rfl (hb hby d1_34) rfl k) ?_
  refine own_go (st' := T1.setTop (mkF m 37 #[oR a1, oR pc, oR att, oR au, oR ao, oR us, .val (.long ((0 : Int64) + ca.toInt64)), .second, oR pc, oi 2, oi 1, oi cb] [(.long cb.toInt64), (.long ((0 : Int64) + ca.toInt64))])) (fun _ k => XS.i2l X1.here hx rfl (hb hby d1_36) rfl k) ?_
  refine own_go (st' := T1.setTop (mkF m 38 #[oR a1, oR pc, oR att, oR au, oR ao, oR us, .val (.long ((0 : Int64) + ca.toInt64)), .second, oR pc, oi 2, oi 1, oi cb] [(.long (((0 : Int64) + ca.toInt64) + cb.toInt64))])) (fun _ k => XS.ladd X1.here hx rfl (hb hby d1_37) rfl k) ?_
  refine own_go (st' := T1.setTop (mkF m 40 #[oR a1, oR pc, oR att, oR au, oR ao, oR us, .val (.long (((0 : Int64) + ca.toInt64) + cb.toInt64)), .second, oR pc, oi 2, oi 1, oi cb] [])) (fun _ k => XS.lstore X1.here hx rfl (hb hby d1_38) rfl (l' := #[oR a1, oR pc, oR att, oR au, oR ao, oR us, .val (.long (((0 : Int64) + ca.toInt64) + cb.toInt64)), .second, oR pc, oi 2, oi 1, oi cb]) rfl k) ?_
  refine own_go (st' := T1.setTop (mkF m 43 #[oR a1, oR pc, oR att, oR au, oR ao, oR us, .val (.long (((0 : Int64) + ca.toInt64) + cb.toInt64)), .second, oR pc, oi 2, oi 2, oi cb] [])) (fun _ k => XS.iinc X1.here hx rfl (hb hby d1_40) rfl (l' := #[oR a1, oR pc, oR att, oR au, oR ao, oR us, .val (.long (((0 : Int64) + ca.toInt64) + cb.toInt64)), .second, oR pc, oi 2, oi 2, oi cb]) (by rw [show ((1 : Int32) + Int32.ofInt 1) = (2 : Int32) by decide]; rfl) k) ?_
  refine own_go (st' := T1.setTop (mkF m 18 #[oR a1, oR pc, oR att, oR au, oR ao, oR us, .val (.long (((0 : Int64) + ca.toInt64) + cb.toInt64)), .second, oR pc, oi 2, oi 2, oi cb] [])) (fun _ k => XS.goto X1.here hx rfl (pc0 := 43) (pc' := 18) rfl (hb hby d1_43) (by decide) (by decide) k) ?_
  refine own_go (st' := T1.setTop (mkF m 20 #[oR a1, oR pc, oR att, oR au, oR ao, oR us, .val (.long (((0 : Int64) + ca.toInt64) + cb.toInt64)), .second, oR pc, oi 2, oi 2, oi cb] [(.int (2 : Int32))])) (fun _ k => XS.iload X1.here hx rfl (hb hby d1_18) rfl k) ?_
  refine own_go (st' := T1.setTop (mkF m 22 #[oR a1, oR pc, oR att, oR au, oR ao, oR us, .val (.long (((0 : Int64) + ca.toInt64) + cb.toInt64)), .second, oR pc, oi 2, oi 2, oi cb] [(.int (2 : Int32)), (.int (2 : Int32))])) (fun _ k => XS.iload X1.here hx rfl (hb hby d1_20) rfl k) ?_
  have hc7 : ¬ ((2 : Int32) < (2 : Int32)) := by decide
  refine own_go (st' := T1.setTop (mkF m 46 #[oR a1, oR pc, oR att, oR au, oR ao, oR us, .val (.long (((0 : Int64) + ca.toInt64) + cb.toInt64)), .second, oR pc, oi 2, oi 2, oi cb] [])) (fun _ k => XS.icmpYes X1.here hx rfl (pc0 := 22) (pc' := 46) rfl (hb hby d1_22) rfl (flt hc7).2.1 (by decide) (by decide) k) ?_
  refine own_go (st' := T1.setTop (mkF m 47 #[oR a1, oR pc, oR att, oR au, oR ao, oR us, .val (.long (((0 : Int64) + ca.toInt64) + cb.toInt64)), .second, oR pc, oi 2, oi 2, oi cb] [(.ref a1)])) (fun _ k => XS.aloadN X1.here hx rfl (hb hby d1_46) rfl rfl k) ?_
  refine own_go (st' := T1.setTop (mkF m 48 #[oR a1, oR pc, oR att, oR au, oR ao, oR us, .val (.long (((0 : Int64) + ca.toInt64) + cb.toInt64)), .second, oR pc, oi 2, oi 2, oi cb] [(.ref pc), (.ref a1)])) (fun _ k => XS.aloadN X1.here hx rfl (hb hby d1_47) rfl rfl k) ?_
  obtain ⟨cl8, Ar8, -, S8, M8, -, -⟩ := id pr26
  refine own_go (st' := T1.setTop (mkF m 49 #[oR a1, oR pc, oR att, oR au, oR ao, oR us, .val (.long (((0 : Int64) + ca.toInt64) + cb.toInt64)), .second, oR pc, oi 2, oi 2, oi cb] [(.int (2 : Int32)), (.ref a1)])) (fun t k => X1.arraylength hx (by rw [e1]; exact Ar8.1) (State.isArrayOf_alike hZ.alike Ar8.2.1) (g := (mkF m 48 #[oR a1, oR pc, oR att, oR au, oR ao, oR us, .val (.long (((0 : Int64) + ca.toInt64) + cb.toInt64)), .second, oR pc, oi 2, oi 2, oi cb] [(.ref pc), (.ref a1)])) rfl rfl (hb hby d1_48) t (by rw [len_of S8 M8]; exact k)) ?_
  obtain ⟨T9, h9, X9, e9, W9, st9⟩ := putF X1 hx hZ hown (host := "") (Or.inl (own_hw hw 11)) Via.refl e1 pr2 pr1 (Or.inr ⟨(own_hw hw 12), rfl, hnm⟩) (own_hw hw 2) (ty := .int) (by decide) rfl rfl (g := (mkF m 49 #[oR a1, oR pc, oR att, oR au, oR ao, oR us, .val (.long (((0 : Int64) + ca.toInt64) + cb.toInt64)), .second, oR pc, oi 2, oi 2, oi cb] [(.int (2 : Int32)), (.ref a1)])) rfl rfl (hb hby d1_49)
  have sz9 : h9.size = h0.size := W9.size
  have N9 := Fr.snoc X9 N0 (by omega)
  have f9 : Fld Z h9 a1 oS0 "topicCount" "I" (.int (2 : Int32)) := pr2.same W9
  refine own_go (st' := T9.setTop (mkF m 52 #[oR a1, oR pc, oR att, oR au, oR ao, oR us, .val (.long (((0 : Int64) + ca.toInt64) + cb.toInt64)), .second, oR pc, oi 2, oi 2, oi cb] [])) (st9) ?_
  refine own_go (st' := T9.setTop (mkF m 53 #[oR a1, oR pc, oR att, oR au, oR ao, oR us, .val (.long (((0 : Int64) + ca.toInt64) + cb.toInt64)), .second, oR pc, oi 2, oi 2, oi cb] [(.ref a1)])) (fun _ k => XS.aloadN X9.here hx rfl (hb hby d1_52) rfl rfl k) ?_
  refine own_go (st' := T9.setTop (mkF m 55 #[oR a1, oR pc, oR att, oR au, oR ao, oR us, .val (.long (((0 : Int64) + ca.toInt64) + cb.toInt64)), .second, oR pc, oi 2, oi 2, oi cb] [(.ref us), (.ref a1)])) (fun _ k => XS.aload X9.here hx rfl (hb hby d1_53) rfl rfl k) ?_
  have c10 : Arv Z h9 us kus .int (2 : Int32) [(.int sa), (.int sb)] (.int (0 : Int32)) := (pr29.other W9 (own_ne (by omega)))
  obtain ⟨cl11, Ar11, -, S11, M11, -, -⟩ := id c10
  refine own_go (st' := T9.setTop (mkF m 56 #[oR a1, oR pc, oR att, oR au, oR ao, oR us, .val (.long (((0 : Int64) + ca.toInt64) + cb.toInt64)), .second, oR pc, oi 2, oi 2, oi cb] [(.int (2 : Int32)), (.ref a1)])) (fun t k => X9.arraylength hx (by rw [e9]; exact Ar11.1) (State.isArrayOf_alike hZ.alike Ar11.2.1) (g := (mkF m 55 #[oR a1, oR pc, oR att, oR au, oR ao, oR us, .val (.long (((0 : Int64) + ca.toInt64) + cb.toInt64)), .second, oR pc, oi 2, oi 2, oi cb] [(.ref us), (.ref a1)])) rfl rfl (hb hby d1_55) t (by rw [len_of S11 M11]; exact k)) ?_
  have c12 : Fld Z h9 a1 oS0 "unitCount" "I" (.int (0 : Int32)) := (pr3.other W9 (Or.inr (slot_ne (Or.inr (own_hw hw 14)) (Or.inr (own_hw hw 12)) (by decide) (t := .int) (t' := .int) (by decide) (by decide))))
  have c13 : Exa Z h9 a1 oS0 := (pr1.wr W9)
  obtain ⟨T14, h14, X14, e14, W14, st14⟩ := putF X9 hx hZ hown (host := "") (Or.inl (own_hw hw 13)) Via.refl e9 c12 c13 (Or.inr ⟨(own_hw hw 14), rfl, hnm⟩) (own_hw hw 2) (ty := .int) (by decide) rfl rfl (g := (mkF m 56 #[oR a1, oR pc, oR att, oR au, oR ao, oR us, .val (.long (((0 : Int64) + ca.toInt64) + cb.toInt64)), .second, oR pc, oi 2, oi 2, oi cb] [(.int (2 : Int32)), (.ref a1)])) rfl rfl (hb hby d1_56)
  have sz14 : h14.size = h9.size := W14.size
  have N14 := Fr.snoc X14 N9 (by omega)
  have f14 : Fld Z h14 a1 oS0 "unitCount" "I" (.int (2 : Int32)) := c12.same W14
  refine own_go (st' := T14.setTop (mkF m 59 #[oR a1, oR pc, oR att, oR au, oR ao, oR us, .val (.long (((0 : Int64) + ca.toInt64) + cb.toInt64)), .second, oR pc, oi 2, oi 2, oi cb] [])) (st14) ?_
  refine own_go (st' := T14.setTop (mkF m 60 #[oR a1, oR pc, oR att, oR au, oR ao, oR us, .val (.long (((0 : Int64) + ca.toInt64) + cb.toInt64)), .second, oR pc, oi 2, oi 2, oi cb] [(.ref a1)])) (fun _ k => XS.aloadN X14.here hx rfl (hb hby d1_59) rfl rfl k) ?_
  refine own_go (st' := T14.setTop (mkF m 61 #[oR a1, oR pc, oR att, oR au, oR ao, oR us, .val (.long (((0 : Int64) + ca.toInt64) + cb.toInt64)), .second, oR pc, oi 2, oi 2, oi cb] [(.ref a1), (.ref a1)])) (fun _ k => XS.aloadN X14.here hx rfl (hb hby d1_60) rfl rfl k) ?_
  have c15 : Fld Z h14 a1 oS0 "topicCount" "I" (.int (2 : Int32)) := (f9.other W14 (Or.inr (slot_ne (Or.inr (own_hw hw 12)) (Or.inr (own_hw hw 14)) (by decide) (t := .int) (t' := .int) (by decide) (by decide))))
  obtain ⟨T16, X16, e16, st16⟩ := getF X14 hx hZ hown (host := "") (Or.inl (own_hw hw 11)) Via.refl e14 c15 (g := (mkF m 61 #[oR a1, oR pc, oR att, oR au, oR ao, oR us, .val (.long (((0 : Int64) + ca.toInt64) + cb.toInt64)), .second, oR pc, oi 2, oi 2, oi cb] [(.ref a1), (.ref a1)])) rfl rfl (hb hby d1_61)
  refine own_go (st' := T16.setTop (mkF m 64 #[oR a1, oR pc, oR att, oR au, oR ao, oR us, .val (.long (((0 : Int64) + ca.toInt64) + cb.toInt64)), .second, oR pc, oi 2, oi 2, oi cb] [(.int (2 : Int32)), (.ref a1)])) (st16) ?_
  refine own_go (st' := T16.setTop (mkF m 65 #[oR a1, oR pc, oR att, oR au, oR ao, oR us, .val (.long (((0 : Int64) + ca.toInt64) + cb.toInt64)), .second, oR pc, oi 2, oi 2, oi cb] [(.ref a1), (.int (2 : Int32)), (.ref a1)])) (fun _ k => XS.aloadN X16.here hx rfl (hb hby d1_64) rfl rfl k) ?_
  obtain ⟨T17, X17, e17, st17⟩ := getF X16 hx hZ hown (host := "") (Or.inl (own_hw hw 13)) Via.refl e16 f14 (g := (mkF m 65 #[oR a1, oR pc, oR att, oR au, oR ao, oR us, .val (.long (((0 : Int64) + ca.toInt64) + cb.toInt64)), .second, oR pc, oi 2, oi 2, oi cb] [(.ref a1), (.int (2 : Int32)), (.ref a1)])) rfl rfl (hb hby d1_65)
  refine own_go (st' := T17.setTop (mkF m 68 #[oR a1, oR pc, oR att, oR au, oR ao, oR us, .val (.long (((0 : Int64) + ca.toInt64) + cb.toInt64)), .second, oR pc, oi 2, oi 2, oi cb] [(.int (2 : Int32)), (.int (2 : Int32)), (.ref a1)])) (st17) ?_
  refine own_go (st' := T17.setTop (mkF m 69 #[oR a1, oR pc, oR att, oR au, oR ao, oR us, .val (.long (((0 : Int64) + ca.toInt64) + cb.toInt64)), .second, oR pc, oi 2, oi 2, oi cb] [(.int (4 : Int32)), (.ref a1)])) (fun _ k => XS.iadd X17.here hx rfl (hb hby d1_68) rfl (by rw [show ((2 : Int32) + (2 : Int32)) = (4 : Int32) by decide]; exact k)) ?_
  have c18 : Fld Z h14 a1 oS0 "sink" "I" (.int (0 : Int32)) := ((pr4.other W9 (Or.inr (slot_ne (Or.inr (own_hw hw 16)) (Or.inr (own_hw hw 12)) (by decide) (t := .int) (t' := .int) (by decide) (by decide)))).other W14 (Or.inr (slot_ne (Or.inr (own_hw hw 16)) (Or.inr (own_hw hw 14)) (by decide) (t := .int) (t' := .int) (by decide) (by decide))))
  have c19 : Exa Z h14 a1 oS0 := (c13.wr W14)
  obtain ⟨T20, h20, X20, e20, W20, st20⟩ := putF X17 hx hZ hown (host := "") (Or.inl (own_hw hw 15)) Via.refl e17 c18 c19 (Or.inr ⟨(own_hw hw 16), rfl, hnm⟩) (own_hw hw 2) (ty := .int) (by decide) rfl rfl (g := (mkF m 69 #[oR a1, oR pc, oR att, oR au, oR ao, oR us, .val (.long (((0 : Int64) + ca.toInt64) + cb.toInt64)), .second, oR pc, oi 2, oi 2, oi cb] [(.int (4 : Int32)), (.ref a1)])) rfl rfl (hb hby d1_69)
  have sz20 : h20.size = h14.size := W20.size
  have N20 := Fr.snoc X20 N14 (by omega)
  have f20 : Fld Z h20 a1 oS0 "sink" "I" (.int (4 : Int32)) := c18.same W20
  refine own_go (st' := T20.setTop (mkF m 72 #[oR a1, oR pc, oR att, oR au, oR ao, oR us, .val (.long (((0 : Int64) + ca.toInt64) + cb.toInt64)), .second, oR pc, oi 2, oi 2, oi cb] [])) (st20) ?_
  refine own_go (st' := T20.setTop (mkF m 73 #[oR a1, oR pc, oR att, oR au, oR ao, oR us, .val (.long (((0 : Int64) + ca.toInt64) + cb.toInt64)), .second, oR pc, oi 2, oi 2, oi cb] [(.ref a1)])) (fun _ k => XS.aloadN X20.here hx rfl (hb hby d1_72) rfl rfl k) ?_
  refine own_go (st' := T20.setTop (mkF m 75 #[oR a1, oR pc, oR att, oR au, oR ao, oR us, .val (.long (((0 : Int64) + ca.toInt64) + cb.toInt64)), .second, oR pc, oi 2, oi 2, oi cb] [(.long (((0 : Int64) + ca.toInt64) + cb.toInt64)), (.ref a1)])) (fun _ k => XS.lload X20.here hx rfl (hb hby d1_73) rfl k) ?_
  refine own_go (st' := T20.setTop (mkF m 76 #[oR a1, oR pc, oR att, oR au, oR ao, oR us, .val (.long (((0 : Int64) + ca.toInt64) + cb.toInt64)), .second, oR pc, oi 2, oi 2, oi cb] [(.int (((0 : Int64) + ca.toInt64) + cb.toInt64).toInt32), (.ref a1)])) (fun _ k => XS.l2i X20.here hx rfl (hb hby d1_75) rfl k) ?_
  have c21 : Fld Z h20 a1 oS0 "total" "I" (.int (0 : Int32)) := (((pr5.other W9 (Or.inr (slot_ne (Or.inr (own_hw hw 18)) (Or.inr (own_hw hw 12)) (by decide) (t := .int) (t' := .int) (by decide) (by decide)))).other W14 (Or.inr (slot_ne (Or.inr (own_hw hw 18)) (Or.inr (own_hw hw 14)) (by decide) (t := .int) (t' := .int) (by decide) (by decide)))).other W20 (Or.inr (slot_ne (Or.inr (own_hw hw 18)) (Or.inr (own_hw hw 16)) (by decide) (t := .int) (t' := .int) (by decide) (by decide))))
  have c22 : Exa Z h20 a1 oS0 := (c19.wr W20)
  obtain ⟨T23, h23, X23, e23, W23, st23⟩ := putF X20 hx hZ hown (host := "") (Or.inl (own_hw hw 17)) Via.refl e20 c21 c22 (Or.inr ⟨(own_hw hw 18), rfl, hnm⟩) (own_hw hw 2) (ty := .int) (by decide) rfl rfl (g := (mkF m 76 #[oR a1, oR pc, oR att, oR au, oR ao, oR us, .val (.long (((0 : Int64) + ca.toInt64) + cb.toInt64)), .second, oR pc, oi 2, oi 2, oi cb] [(.int (((0 : Int64) + ca.toInt64) + cb.toInt64).toInt32), (.ref a1)])) rfl rfl (hb hby d1_76)
  have sz23 : h23.size = h20.size := W23.size
  have N23 := Fr.snoc X23 N20 (by omega)
  have f23 : Fld Z h23 a1 oS0 "total" "I" (.int (((0 : Int64) + ca.toInt64) + cb.toInt64).toInt32) := c21.same W23
  refine own_go (st' := T23.setTop (mkF m 79 #[oR a1, oR pc, oR att, oR au, oR ao, oR us, .val (.long (((0 : Int64) + ca.toInt64) + cb.toInt64)), .second, oR pc, oi 2, oi 2, oi cb] [])) (st23) ?_
  refine own_go (st' := T23.setTop (mkF m 80 #[oR a1, oR pc, oR att, oR au, oR ao, oR us, .val (.long (((0 : Int64) + ca.toInt64) + cb.toInt64)), .second, oR pc, oi 2, oi 2, oi cb] [(.ref a1)])) (fun _ k => XS.aloadN X23.here hx rfl (hb hby d1_79) rfl rfl k) ?_
  refine own_go (st' := T23.setTop (mkF m 82 #[oR a1, oR pc, oR att, oR au, oR ao, oR us, .val (.long (((0 : Int64) + ca.toInt64) + cb.toInt64)), .second, oR pc, oi 2, oi 2, oi cb] [(.long (((0 : Int64) + ca.toInt64) + cb.toInt64)), (.ref a1)])) (fun _ k => XS.lload X23.here hx rfl (hb hby d1_80) rfl k) ?_
  refine own_go (st' := T23.setTop (mkF m 83 #[oR a1, oR pc, oR att, oR au, oR ao, oR us, .val (.long (((0 : Int64) + ca.toInt64) + cb.toInt64)), .second, oR pc, oi 2, oi 2, oi cb] [(.long (1 : Int64)), (.long (((0 : Int64) + ca.toInt64) + cb.toInt64)), (.ref a1)])) (fun _ k => XS.lconst X23.here hx rfl (hb hby d1_82) k) ?_
  refine own_go (st' := T23.setTop (mkF m 84 #[oR a1, oR pc, oR att, oR au, oR ao, oR us, .val (.long (((0 : Int64) + ca.toInt64) + cb.toInt64)), .second, oR pc, oi 2, oi 2, oi cb] [(.long ((((0 : Int64) + ca.toInt64) + cb.toInt64) + (1 : Int64))), (.ref a1)])) (fun _ k => XS.ladd X23.here hx rfl (hb hby d1_83) rfl k) ?_
  have c24 : Fld Z h23 a1 oS0 oS3 "J" (.long (0 : Int64)) := ((((pr6.other W9 (Or.inr (slot_ne (Or.inr (own_hw hw 20)) (Or.inr (own_hw hw 12)) (by decide) (t := .long) (t' := .int) (by decide) (by decide)))).other W14 (Or.inr (slot_ne (Or.inr (own_hw hw 20)) (Or.inr (own_hw hw 14)) (by decide) (t := .long) (t' := .int) (by decide) (by decide)))).other W20 (Or.inr (slot_ne (Or.inr (own_hw hw 20)) (Or.inr (own_hw hw 16)) (by decide) (t := .long) (t' := .int) (by decide) (by decide)))).other W23 (Or.inr (slot_ne (Or.inr (own_hw hw 20)) (Or.inr (own_hw hw 18)) (by decide) (t := .long) (t' := .int) (by decide) (by decide))))
  have c25 : Exa Z h23 a1 oS0 := (c22.wr W23)
  obtain ⟨T26, h26, X26, e26, W26, st26⟩ := putF X23 hx hZ hown (host := "") (Or.inl (own_hw hw 19)) Via.refl e23 c24 c25 (Or.inr ⟨(own_hw hw 20), rfl, hnm⟩) (own_hw hw 2) (ty := .long) (by decide) rfl rfl (g := (mkF m 84 #[oR a1, oR pc, oR att, oR au, oR ao, oR us, .val (.long (((0 : Int64) + ca.toInt64) + cb.toInt64)), .second, oR pc, oi 2, oi 2, oi cb] [(.long ((((0 : Int64) + ca.toInt64) + cb.toInt64) + (1 : Int64))), (.ref a1)])) rfl rfl (hb hby d1_84)
  have sz26 : h26.size = h23.size := W26.size
  have N26 := Fr.snoc X26 N23 (by omega)
  have f26 : Fld Z h26 a1 oS0 oS3 "J" (.long ((((0 : Int64) + ca.toInt64) + cb.toInt64) + (1 : Int64))) := c24.same W26
  refine own_go (st' := T26.setTop (mkF m 87 #[oR a1, oR pc, oR att, oR au, oR ao, oR us, .val (.long (((0 : Int64) + ca.toInt64) + cb.toInt64)), .second, oR pc, oi 2, oi 2, oi cb] [])) (st26) ?_
  refine own_go (st' := T26.setTop (mkF m 88 #[oR a1, oR pc, oR att, oR au, oR ao, oR us, .val (.long (((0 : Int64) + ca.toInt64) + cb.toInt64)), .second, oR pc, oi 2, oi 2, oi cb] [(.ref a1)])) (fun _ k => XS.aloadN X26.here hx rfl (hb hby d1_87) rfl rfl k) ?_
  refine own_go (st' := T26.setTop (mkF m 89 #[oR a1, oR pc, oR att, oR au, oR ao, oR us, .val (.long (((0 : Int64) + ca.toInt64) + cb.toInt64)), .second, oR pc, oi 2, oi 2, oi cb] [(.ref att), (.ref a1)])) (fun _ k => XS.aloadN X26.here hx rfl (hb hby d1_88) rfl rfl k) ?_
  have c27 : Fld Z h26 a1 oS0 "arcTopic" "[I" .null := (((((pr7.other W9 (Or.inr (slot_ne (Or.inr (own_hw hw 22)) (Or.inr (own_hw hw 12)) (by decide) (t := (.array .int)) (t' := .int) (by decide) (by decide)))).other W14 (Or.inr (slot_ne (Or.inr (own_hw hw 22)) (Or.inr (own_hw hw 14)) (by decide) (t := (.array .int)) (t' := .int) (by decide) (by decide)))).other W20 (Or.inr (slot_ne (Or.inr (own_hw hw 22)) (Or.inr (own_hw hw 16)) (by decide) (t := (.array .int)) (t' := .int) (by decide) (by decide)))).other W23 (Or.inr (slot_ne (Or.inr (own_hw hw 22)) (Or.inr (own_hw hw 18)) (by decide) (t := (.array .int)) (t' := .int) (by decide) (by decide)))).other W26 (Or.inr (slot_ne (Or.inr (own_hw hw 22)) (Or.inr (own_hw hw 20)) (by decide) (t := (.array .int)) (t' := .long) (by decide) (by decide))))
  have c28 : Exa Z h26 a1 oS0 := (c25.wr W26)
  obtain ⟨T29, h29, X29, e29, W29, st29⟩ := putF X26 hx hZ hown (host := "") (Or.inl (own_hw hw 21)) Via.refl e26 c27 c28 (Or.inr ⟨(own_hw hw 22), rfl, hnm⟩) (own_hw hw 2) (ty := (.array .int)) (by decide) rfl rfl (g := (mkF m 89 #[oR a1, oR pc, oR att, oR au, oR ao, oR us, .val (.long (((0 : Int64) + ca.toInt64) + cb.toInt64)), .second, oR pc, oi 2, oi 2, oi cb] [(.ref att), (.ref a1)])) rfl rfl (hb hby d1_89)
  have sz29 : h29.size = h26.size := W29.size
  have N29 := Fr.snoc X29 N26 (by omega)
  have f29 : Fld Z h29 a1 oS0 "arcTopic" "[I" (.ref att) := c27.same W29
  refine own_go (st' := T29.setTop (mkF m 92 #[oR a1, oR pc, oR att, oR au, oR ao, oR us, .val (.long (((0 : Int64) + ca.toInt64) + cb.toInt64)), .second, oR pc, oi 2, oi 2, oi cb] [])) (st29) ?_
  refine own_go (st' := T29.setTop (mkF m 93 #[oR a1, oR pc, oR att, oR au, oR ao, oR us, .val (.long (((0 : Int64) + ca.toInt64) + cb.toInt64)), .second, oR pc, oi 2, oi 2, oi cb] [(.ref a1)])) (fun _ k => XS.aloadN X29.here hx rfl (hb hby d1_92) rfl rfl k) ?_
  refine own_go (st' := T29.setTop (mkF m 94 #[oR a1, oR pc, oR att, oR au, oR ao, oR us, .val (.long (((0 : Int64) + ca.toInt64) + cb.toInt64)), .second, oR pc, oi 2, oi 2, oi cb] [(.ref au), (.ref a1)])) (fun _ k => XS.aloadN X29.here hx rfl (hb hby d1_93) rfl rfl k) ?_
  have c30 : Fld Z h29 a1 oS0 "arcUnit" "[I" .null := ((((((pr8.other W9 (Or.inr (slot_ne (Or.inr (own_hw hw 24)) (Or.inr (own_hw hw 12)) (by decide) (t := (.array .int)) (t' := .int) (by decide) (by decide)))).other W14 (Or.inr (slot_ne (Or.inr (own_hw hw 24)) (Or.inr (own_hw hw 14)) (by decide) (t := (.array .int)) (t' := .int) (by decide) (by decide)))).other W20 (Or.inr (slot_ne (Or.inr (own_hw hw 24)) (Or.inr (own_hw hw 16)) (by decide) (t := (.array .int)) (t' := .int) (by decide) (by decide)))).other W23 (Or.inr (slot_ne (Or.inr (own_hw hw 24)) (Or.inr (own_hw hw 18)) (by decide) (t := (.array .int)) (t' := .int) (by decide) (by decide)))).other W26 (Or.inr (slot_ne (Or.inr (own_hw hw 24)) (Or.inr (own_hw hw 20)) (by decide) (t := (.array .int)) (t' := .long) (by decide) (by decide)))).other W29 (Or.inr (slot_ne (Or.inr (own_hw hw 24)) (Or.inr (own_hw hw 22)) (by decide) (t := (.array .int)) (t' := (.array .int)) (by decide) (by decide))))
  have c31 : Exa Z h29 a1 oS0 := (c28.wr W29)
  obtain ⟨T32, h32, X32, e32, W32, st32⟩ := putF X29 hx hZ hown (host := "") (Or.inl (own_hw hw 23)) Via.refl e29 c30 c31 (Or.inr ⟨(own_hw hw 24), rfl, hnm⟩) (own_hw hw 2) (ty := (.array .int)) (by decide) rfl rfl (g := (mkF m 94 #[oR a1, oR pc, oR att, oR au, oR ao, oR us, .val (.long (((0 : Int64) + ca.toInt64) + cb.toInt64)), .second, oR pc, oi 2, oi 2, oi cb] [(.ref au), (.ref a1)])) rfl rfl (hb hby d1_94)
  have sz32 : h32.size = h29.size := W32.size
  have N32 := Fr.snoc X32 N29 (by omega)
  have f32 : Fld Z h32 a1 oS0 "arcUnit" "[I" (.ref au) := c30.same W32
  refine own_go (st' := T32.setTop (mkF m 97 #[oR a1, oR pc, oR att, oR au, oR ao, oR us, .val (.long (((0 : Int64) + ca.toInt64) + cb.toInt64)), .second, oR pc, oi 2, oi 2, oi cb] [])) (st32) ?_
  refine own_go (st' := T32.setTop (mkF m 98 #[oR a1, oR pc, oR att, oR au, oR ao, oR us, .val (.long (((0 : Int64) + ca.toInt64) + cb.toInt64)), .second, oR pc, oi 2, oi 2, oi cb] [(.ref a1)])) (fun _ k => XS.aloadN X32.here hx rfl (hb hby d1_97) rfl rfl k) ?_
  refine own_go (st' := T32.setTop (mkF m 100 #[oR a1, oR pc, oR att, oR au, oR ao, oR us, .val (.long (((0 : Int64) + ca.toInt64) + cb.toInt64)), .second, oR pc, oi 2, oi 2, oi cb] [(.ref ao), (.ref a1)])) (fun _ k => XS.aload X32.here hx rfl (hb hby d1_98) rfl rfl k) ?_
  have c33 : Fld Z h32 a1 oS0 "arcOwned" "[I" .null := (((((((pr9.other W9 (Or.inr (slot_ne (Or.inr (own_hw hw 26)) (Or.inr (own_hw hw 12)) (by decide) (t := (.array .int)) (t' := .int) (by decide) (by decide)))).other W14 (Or.inr (slot_ne (Or.inr (own_hw hw 26)) (Or.inr (own_hw hw 14)) (by decide) (t := (.array .int)) (t' := .int) (by decide) (by decide)))).other W20 (Or.inr (slot_ne (Or.inr (own_hw hw 26)) (Or.inr (own_hw hw 16)) (by decide) (t := (.array .int)) (t' := .int) (by decide) (by decide)))).other W23 (Or.inr (slot_ne (Or.inr (own_hw hw 26)) (Or.inr (own_hw hw 18)) (by decide) (t := (.array .int)) (t' := .int) (by decide) (by decide)))).other W26 (Or.inr (slot_ne (Or.inr (own_hw hw 26)) (Or.inr (own_hw hw 20)) (by decide) (t := (.array .int)) (t' := .long) (by decide) (by decide)))).other W29 (Or.inr (slot_ne (Or.inr (own_hw hw 26)) (Or.inr (own_hw hw 22)) (by decide) (t := (.array .int)) (t' := (.array .int)) (by decide) (by decide)))).other W32 (Or.inr (slot_ne (Or.inr (own_hw hw 26)) (Or.inr (own_hw hw 24)) (by decide) (t := (.array .int)) (t' := (.array .int)) (by decide) (by decide))))
  have c34 : Exa Z h32 a1 oS0 := (c31.wr W32)
  obtain ⟨T35, h35, X35, e35, W35, st35⟩ := putF X32 hx hZ hown (host := "") (Or.inl (own_hw hw 25)) Via.refl e32 c33 c34 (Or.inr ⟨(own_hw hw 26), rfl, hnm⟩) (own_hw hw 2) (ty := (.array .int)) (by decide) rfl rfl (g := (mkF m 100 #[oR a1, oR pc, oR att, oR au, oR ao, oR us, .val (.long (((0 : Int64) + ca.toInt64) + cb.toInt64)), .second, oR pc, oi 2, oi 2, oi cb] [(.ref ao), (.ref a1)])) rfl rfl (hb hby d1_100)
  have sz35 : h35.size = h32.size := W35.size
  have N35 := Fr.snoc X35 N32 (by omega)
  have f35 : Fld Z h35 a1 oS0 "arcOwned" "[I" (.ref ao) := c33.same W35
  refine own_go (st' := T35.setTop (mkF m 103 #[oR a1, oR pc, oR att, oR au, oR ao, oR us, .val (.long (((0 : Int64) + ca.toInt64) + cb.toInt64)), .second, oR pc, oi 2, oi 2, oi cb] [])) (st35) ?_
  refine own_go (st' := T35.setTop (mkF m 104 #[oR a1, oR pc, oR att, oR au, oR ao, oR us, .val (.long (((0 : Int64) + ca.toInt64) + cb.toInt64)), .second, oR pc, oi 2, oi 2, oi cb] [(.ref a1)])) (fun _ k => XS.aloadN X35.here hx rfl (hb hby d1_103) rfl rfl k) ?_
  refine own_go (st' := T35.setTop (mkF m 106 #[oR a1, oR pc, oR att, oR au, oR ao, oR us, .val (.long (((0 : Int64) + ca.toInt64) + cb.toInt64)), .second, oR pc, oi 2, oi 2, oi cb] [(.ref us), (.ref a1)])) (fun _ k => XS.aload X35.here hx rfl (hb hby d1_104) rfl rfl k) ?_
  have c36 : Fld Z h35 a1 oS0 "unitSize" "[I" .null := ((((((((pr10.other W9 (Or.inr (slot_ne (Or.inr (own_hw hw 28)) (Or.inr (own_hw hw 12)) (by decide) (t := (.array .int)) (t' := .int) (by decide) (by decide)))).other W14 (Or.inr (slot_ne (Or.inr (own_hw hw 28)) (Or.inr (own_hw hw 14)) (by decide) (t := (.array .int)) (t' := .int) (by decide) (by decide)))).other W20 (Or.inr (slot_ne (Or.inr (own_hw hw 28)) (Or.inr (own_hw hw 16)) (by decide) (t := (.array .int)) (t' := .int) (by decide) (by decide)))).other W23 (Or.inr (slot_ne (Or.inr (own_hw hw 28)) (Or.inr (own_hw hw 18)) (by decide) (t := (.array .int)) (t' := .int) (by decide) (by decide)))).other W26 (Or.inr (slot_ne (Or.inr (own_hw hw 28)) (Or.inr (own_hw hw 20)) (by decide) (t := (.array .int)) (t' := .long) (by decide) (by decide)))).other W29 (Or.inr (slot_ne (Or.inr (own_hw hw 28)) (Or.inr (own_hw hw 22)) (by decide) (t := (.array .int)) (t' := (.array .int)) (by decide) (by decide)))).other W32 (Or.inr (slot_ne (Or.inr (own_hw hw 28)) (Or.inr (own_hw hw 24)) (by decide) (t := (.array .int)) (t' := (.array .int)) (by decide) (by decide)))).other W35 (Or.inr (slot_ne (Or.inr (own_hw hw 28)) (Or.inr (own_hw hw 26)) (by decide) (t := (.array .int)) (t' := (.array .int)) (by decide) (by decide))))
  have c37 : Exa Z h35 a1 oS0 := (c34.wr W35)
  obtain ⟨T38, h38, X38, e38, W38, st38⟩ := putF X35 hx hZ hown (host := "") (Or.inl (own_hw hw 27)) Via.refl e35 c36 c37 (Or.inr ⟨(own_hw hw 28), rfl, hnm⟩) (own_hw hw 2) (ty := (.array .int)) (by decide) rfl rfl (g := (mkF m 106 #[oR a1, oR pc, oR att, oR au, oR ao, oR us, .val (.long (((0 : Int64) + ca.toInt64) + cb.toInt64)), .second, oR pc, oi 2, oi 2, oi cb] [(.ref us), (.ref a1)])) rfl rfl (hb hby d1_106)
  have sz38 : h38.size = h35.size := W38.size
  have N38 := Fr.snoc X38 N35 (by omega)
  have f38 : Fld Z h38 a1 oS0 "unitSize" "[I" (.ref us) := c36.same W38
  refine own_go (st' := T38.setTop (mkF m 109 #[oR a1, oR pc, oR att, oR au, oR ao, oR us, .val (.long (((0 : Int64) + ca.toInt64) + cb.toInt64)), .second, oR pc, oi 2, oi 2, oi cb] [])) (st38) ?_
  refine own_go (st' := T38.setTop (mkF m 110 #[oR a1, oR pc, oR att, oR au, oR ao, oR us, .val (.long (((0 : Int64) + ca.toInt64) + cb.toInt64)), .second, oR pc, oi 2, oi 2, oi cb] [(.ref a1)])) (fun _ k => XS.aloadN X38.here hx rfl (hb hby d1_109) rfl rfl k) ?_
  refine own_go (st' := T38.setTop (mkF m 111 #[oR a1, oR pc, oR att, oR au, oR ao, oR us, .val (.long (((0 : Int64) + ca.toInt64) + cb.toInt64)), .second, oR pc, oi 2, oi 2, oi cb] [(.ref a1), (.ref a1)])) (fun _ k => XS.aloadN X38.here hx rfl (hb hby d1_110) rfl rfl k) ?_
  have c39 : Fld Z h38 a1 oS0 "topicCount" "I" (.int (2 : Int32)) := (((((((c15.other W20 (Or.inr (slot_ne (Or.inr (own_hw hw 12)) (Or.inr (own_hw hw 16)) (by decide) (t := .int) (t' := .int) (by decide) (by decide)))).other W23 (Or.inr (slot_ne (Or.inr (own_hw hw 12)) (Or.inr (own_hw hw 18)) (by decide) (t := .int) (t' := .int) (by decide) (by decide)))).other W26 (Or.inr (slot_ne (Or.inr (own_hw hw 12)) (Or.inr (own_hw hw 20)) (by decide) (t := .int) (t' := .long) (by decide) (by decide)))).other W29 (Or.inr (slot_ne (Or.inr (own_hw hw 12)) (Or.inr (own_hw hw 22)) (by decide) (t := .int) (t' := (.array .int)) (by decide) (by decide)))).other W32 (Or.inr (slot_ne (Or.inr (own_hw hw 12)) (Or.inr (own_hw hw 24)) (by decide) (t := .int) (t' := (.array .int)) (by decide) (by decide)))).other W35 (Or.inr (slot_ne (Or.inr (own_hw hw 12)) (Or.inr (own_hw hw 26)) (by decide) (t := .int) (t' := (.array .int)) (by decide) (by decide)))).other W38 (Or.inr (slot_ne (Or.inr (own_hw hw 12)) (Or.inr (own_hw hw 28)) (by decide) (t := .int) (t' := (.array .int)) (by decide) (by decide))))
  obtain ⟨T40, X40, e40, st40⟩ := getF X38 hx hZ hown (host := "") (Or.inl (own_hw hw 11)) Via.refl e38 c39 (g := (mkF m 111 #[oR a1, oR pc, oR att, oR au, oR ao, oR us, .val (.long (((0 : Int64) + ca.toInt64) + cb.toInt64)), .second, oR pc, oi 2, oi 2, oi cb] [(.ref a1), (.ref a1)])) rfl rfl (hb hby d1_111)
  refine own_go (st' := T40.setTop (mkF m 114 #[oR a1, oR pc, oR att, oR au, oR ao, oR us, .val (.long (((0 : Int64) + ca.toInt64) + cb.toInt64)), .second, oR pc, oi 2, oi 2, oi cb] [(.int (2 : Int32)), (.ref a1)])) (st40) ?_
  refine own_go (st' := T40.setTop (mkF m 115 #[oR a1, oR pc, oR att, oR au, oR ao, oR us, .val (.long (((0 : Int64) + ca.toInt64) + cb.toInt64)), .second, oR pc, oi 2, oi 2, oi cb] [(.int (1 : Int32)), (.int (2 : Int32)), (.ref a1)])) (fun _ k => XS.iconst X40.here hx rfl (hb hby d1_114) k) ?_
  refine own_go (st' := T40.setTop (mkF m 116 #[oR a1, oR pc, oR att, oR au, oR ao, oR us, .val (.long (((0 : Int64) + ca.toInt64) + cb.toInt64)), .second, oR pc, oi 2, oi 2, oi cb] [(.int (3 : Int32)), (.ref a1)])) (fun _ k => XS.iadd X40.here hx rfl (hb hby d1_115) rfl (by rw [show ((2 : Int32) + (1 : Int32)) = (3 : Int32) by decide]; exact k)) ?_
  obtain ⟨T41, h41, k41, X41, e41, E41, A41, st41⟩ := newP X40 hx hZ (own_hw hw 4) e40 (g := (mkF m 116 #[oR a1, oR pc, oR att, oR au, oR ao, oR us, .val (.long (((0 : Int64) + ca.toInt64) + cb.toInt64)), .second, oR pc, oi 2, oi 2, oi cb] [(.int (3 : Int32)), (.ref a1)])) rfl (hb hby d1_116) rfl (by decide) (cap := 3) (by decide) (by decide) (by decide) (by decide)
  obtain ⟨b41, g41⟩ : ∃ z, z = h38.size := ⟨_, rfl⟩
  rw [← g41] at A41 st41
  have sz41 : h38.size ≤ h41.size := E41.1
  have lt41 : @LT.lt Nat _ b41 h41.size := A41.lt
  have v41 : Arv Z h41 b41 k41 .int (3 : Int32) [(.int (0 : Int32)), (.int (0 : Int32)), (.int (0 : Int32))] (.int (0 : Int32)) := (Arv.new A41 (by decide)).pad (pad_rep [] (.int (0 : Int32)) 3)
  refine own_go (st' := T41.setTop (mkF m 118 #[oR a1, oR pc, oR att, oR au, oR ao, oR us, .val (.long (((0 : Int64) + ca.toInt64) + cb.toInt64)), .second, oR pc, oi 2, oi 2, oi cb] [(.ref b41), (.ref a1)])) (st41) ?_
  have c42 : Fld Z h41 a1 oS0 oS2 "[I" .null := ((((((((((pr11.other W9 (Or.inr (slot_ne (Or.inr (own_hw hw 30)) (Or.inr (own_hw hw 12)) (by decide) (t := (.array .int)) (t' := .int) (by decide) (by decide)))).other W14 (Or.inr (slot_ne (Or.inr (own_hw hw 30)) (Or.inr (own_hw hw 14)) (by decide) (t := (.array .int)) (t' := .int) (by decide) (by decide)))).other W20 (Or.inr (slot_ne (Or.inr (own_hw hw 30)) (Or.inr (own_hw hw 16)) (by decide) (t := (.array .int)) (t' := .int) (by decide) (by decide)))).other W23 (Or.inr (slot_ne (Or.inr (own_hw hw 30)) (Or.inr (own_hw hw 18)) (by decide) (t := (.array .int)) (t' := .int) (by decide) (by decide)))).other W26 (Or.inr (slot_ne (Or.inr (own_hw hw 30)) (Or.inr (own_hw hw 20)) (by decide) (t := (.array .int)) (t' := .long) (by decide) (by decide)))).other W29 (Or.inr (slot_ne (Or.inr (own_hw hw 30)) (Or.inr (own_hw hw 22)) (by decide) (t := (.array .int)) (t' := (.array .int)) (by decide) (by decide)))).other W32 (Or.inr (slot_ne (Or.inr (own_hw hw 30)) (Or.inr (own_hw hw 24)) (by decide) (t := (.array .int)) (t' := (.array .int)) (by decide) (by decide)))).other W35 (Or.inr (slot_ne (Or.inr (own_hw hw 30)) (Or.inr (own_hw hw 26)) (by decide) (t := (.array .int)) (t' := (.array .int)) (by decide) (by decide)))).other W38 (Or.inr (slot_ne (Or.inr (own_hw hw 30)) (Or.inr (own_hw hw 28)) (by decide) (t := (.array .int)) (t' := (.array .int)) (by decide) (by decide)))).ext E41)
  have c43 : Exa Z h41 a1 oS0 := ((c37.wr W38).ext E41)
  obtain ⟨T44, h44, X44, e44, W44, st44⟩ := putF X41 hx hZ hown (host := "") (Or.inl (own_hw hw 29)) Via.refl e41 c42 c43 (Or.inr ⟨(own_hw hw 30), rfl, hnm⟩) (own_hw hw 2) (ty := (.array .int)) (by decide) rfl rfl (g := (mkF m 118 #[oR a1, oR pc, oR att, oR au, oR ao, oR us, .val (.long (((0 : Int64) + ca.toInt64) + cb.toInt64)), .second, oR pc, oi 2, oi 2, oi cb] [(.ref b41), (.ref a1)])) rfl rfl (hb hby d1_118)
  have sz44 : h44.size = h41.size := W44.size
  have N44 := Fr.snoc X44 N38 (by omega)
  have f44 : Fld Z h44 a1 oS0 oS2 "[I" (.ref b41) := c42.same W44
  refine own_go (st' := T44.setTop (mkF m 121 #[oR a1, oR pc, oR att, oR au, oR ao, oR us, .val (.long (((0 : Int64) + ca.toInt64) + cb.toInt64)), .second, oR pc, oi 2, oi 2, oi cb] [])) (st44) ?_
  refine own_go (st' := T44.setTop (mkF m 122 #[oR a1, oR pc, oR att, oR au, oR ao, oR us, .val (.long (((0 : Int64) + ca.toInt64) + cb.toInt64)), .second, oR pc, oi 2, oi 2, oi cb] [(.ref a1)])) (fun _ k => XS.aloadN X44.here hx rfl (hb hby d1_121) rfl rfl k) ?_
  refine own_go (st' := T44.setTop (mkF m 123 #[oR a1, oR pc, oR att, oR au, oR ao, oR us, .val (.long (((0 : Int64) + ca.toInt64) + cb.toInt64)), .second, oR pc, oi 2, oi 2, oi cb] [(.ref att), (.ref a1)])) (fun _ k => XS.aloadN X44.here hx rfl (hb hby d1_122) rfl rfl k) ?_
  refine own_go (st' := T44.setTop (mkF m 124 #[oR a1, oR pc, oR att, oR au, oR ao, oR us, .val (.long (((0 : Int64) + ca.toInt64) + cb.toInt64)), .second, oR pc, oi 2, oi 2, oi cb] [(.ref a1), (.ref att), (.ref a1)])) (fun _ k => XS.aloadN X44.here hx rfl (hb hby d1_123) rfl rfl k) ?_
  obtain ⟨T45, X45, e45, st45⟩ := getF X44 hx hZ hown (host := "") (Or.inl (own_hw hw 29)) Via.refl e44 f44 (g := (mkF m 124 #[oR a1, oR pc, oR att, oR au, oR ao, oR us, .val (.long (((0 : Int64) + ca.toInt64) + cb.toInt64)), .second, oR pc, oi 2, oi 2, oi cb] [(.ref a1), (.ref att), (.ref a1)])) rfl rfl (hb hby d1_124)
  refine own_go (st' := T45.setTop (mkF m 127 #[oR a1, oR pc, oR att, oR au, oR ao, oR us, .val (.long (((0 : Int64) + ca.toInt64) + cb.toInt64)), .second, oR pc, oi 2, oi 2, oi cb] [(.ref b41), (.ref att), (.ref a1)])) (st45) ?_
  have c47 : Arv Z h44 att katt .int (2 : Int32) [(.int (0 : Int32)), (.int (1 : Int32))] (.int (0 : Int32)) := (((((((((((pr27.other W9 (own_ne (by omega))).other W14 (own_ne (by omega))).other W20 (own_ne (by omega))).other W23 (own_ne (by omega))).other W26 (own_ne (by omega))).other W29 (own_ne (by omega))).other W32 (own_ne (by omega))).other W35 (own_ne (by omega))).other W38 (own_ne (by omega))).ext E41).other W44 (own_ne (by omega)))
  have c48 : Arv Z h44 b41 k41 .int (3 : Int32) [(.int (0 : Int32)), (.int (0 : Int32)), (.int (0 : Int32))] (.int (0 : Int32)) := (v41.other W44 (own_ne (by omega)))
  obtain ⟨_, _, ⟨T46, LC46, kC46, nC46⟩, -, X46, ⟨Lc46, hQ46, lq46, yq46, zq46⟩, st46⟩ := Jvm.LawKit.callS X45 hx (y := oM4) hown (mvT hZ (own_hw hw 31)) (mvT hZ (own_hw hw 32)) (mvT hZ (own_hw hw 3)) (mvT hZ (own_hw hw 33)) (by decide) (backOf (W := 1) (rm3 l Z a0 hw [] att b41 katt k41 h44 n0 (by omega) c47 c48 (by omega) (own_ne (by omega))) hZ (own_hw hw 33) (own_hw hw 3) (by decide) (by decide)) (g := (mkF m 127 #[oR a1, oR pc, oR att, oR au, oR ao, oR us, .val (.long (((0 : Int64) + ca.toInt64) + cb.toInt64)), .second, oR pc, oi 2, oi 2, oi cb] [(.ref b41), (.ref att), (.ref a1)])) rfl (by rw [hml]; rfl) (argsL := [(.ref att), (.ref b41)]) (rest := [(.ref a1)]) (lenOf pd_3 rfl) rfl (by show 2 * 0 + _ ≤ _; exact Nat.le_of_eq rfl) (hb hby d1_127) (fun _ _ => ⟨rfl, e45, (by decide : 1 + 2 ≤ _), (by decide : 3 + 4 ≤ _)⟩)
  dsimp only [Pt.U, Pt.locs, Pt.cells, Pt.slots] at X46 lq46 yq46 zq46 st46 hQ46
  subst lq46 yq46 zq46
  obtain ⟨h46, e46⟩ : ∃ z, T46.heap = z := ⟨_, rfl⟩
  rw [e46] at hQ46
  obtain ⟨r_46, kr_46, rfl, Nq46, K46, g46_0, g46_1, g46_2⟩ := hQ46
  have sz46 : h44.size ≤ h46.size := K46.1
  have N46 := Fr.app N44 Nq46
  have lt46_1 : @LT.lt Nat _ b41 h46.size := g46_0.lt
  have lt46_2 : @LT.lt Nat _ r_46 h46.size := g46_1.lt
  refine own_go (st' := T46.setTop (mkF m 130 #[oR a1, oR pc, oR att, oR au, oR ao, oR us, .val (.long (((0 : Int64) + ca.toInt64) + cb.toInt64)), .second, oR pc, oi 2, oi 2, oi cb] [(.ref r_46), (.ref a1)])) (fun t k => st46 t k) ?_
  have c49 : Fld Z h46 a1 oS0 "topicArcs" "[I" .null := ((((((((((((pr12.other W9 (Or.inr (slot_ne (Or.inr (own_hw hw 47)) (Or.inr (own_hw hw 12)) (by decide) (t := (.array .int)) (t' := .int) (by decide) (by decide)))).other W14 (Or.inr (slot_ne (Or.inr (own_hw hw 47)) (Or.inr (own_hw hw 14)) (by decide) (t := (.array .int)) (t' := .int) (by decide) (by decide)))).other W20 (Or.inr (slot_ne (Or.inr (own_hw hw 47)) (Or.inr (own_hw hw 16)) (by decide) (t := (.array .int)) (t' := .int) (by decide) (by decide)))).other W23 (Or.inr (slot_ne (Or.inr (own_hw hw 47)) (Or.inr (own_hw hw 18)) (by decide) (t := (.array .int)) (t' := .int) (by decide) (by decide)))).other W26 (Or.inr (slot_ne (Or.inr (own_hw hw 47)) (Or.inr (own_hw hw 20)) (by decide) (t := (.array .int)) (t' := .long) (by decide) (by decide)))).other W29 (Or.inr (slot_ne (Or.inr (own_hw hw 47)) (Or.inr (own_hw hw 22)) (by decide) (t := (.array .int)) (t' := (.array .int)) (by decide) (by decide)))).other W32 (Or.inr (slot_ne (Or.inr (own_hw hw 47)) (Or.inr (own_hw hw 24)) (by decide) (t := (.array .int)) (t' := (.array .int)) (by decide) (by decide)))).other W35 (Or.inr (slot_ne (Or.inr (own_hw hw 47)) (Or.inr (own_hw hw 26)) (by decide) (t := (.array .int)) (t' := (.array .int)) (by decide) (by decide)))).other W38 (Or.inr (slot_ne (Or.inr (own_hw hw 47)) (Or.inr (own_hw hw 28)) (by decide) (t := (.array .int)) (t' := (.array .int)) (by decide) (by decide)))).ext E41).other W44 (Or.inr (slot_ne (Or.inr (own_hw hw 47)) (Or.inr (own_hw hw 30)) (by decide) (t := (.array .int)) (t' := (.array .int)) (by decide) (by decide)))).keep K46 (ninS (own_ne (by omega)) nin0))
  have c50 : Exa Z h46 a1 oS0 := ((c43.wr W44).keep K46)
  obtain ⟨T51, h51, X51, e51, W51, st51⟩ := putF X46 hx hZ hown (host := "") (Or.inl (own_hw hw 46)) Via.refl e46 c49 c50 (Or.inr ⟨(own_hw hw 47), rfl, hnm⟩) (own_hw hw 2) (ty := (.array .int)) (by decide) rfl rfl (g := (mkF m 130 #[oR a1, oR pc, oR att, oR au, oR ao, oR us, .val (.long (((0 : Int64) + ca.toInt64) + cb.toInt64)), .second, oR pc, oi 2, oi 2, oi cb] [(.ref r_46), (.ref a1)])) rfl rfl (hb hby d1_130)
  have sz51 : h51.size = h46.size := W51.size
  have N51 := Fr.snoc X51 N46 (by omega)
  have f51 : Fld Z h51 a1 oS0 "topicArcs" "[I" (.ref r_46) := c49.same W51
  refine own_go (st' := T51.setTop (mkF m 133 #[oR a1, oR pc, oR att, oR au, oR ao, oR us, .val (.long (((0 : Int64) + ca.toInt64) + cb.toInt64)), .second, oR pc, oi 2, oi 2, oi cb] [])) (st51) ?_
  refine own_go (st' := T51.setTop (mkF m 134 #[oR a1, oR pc, oR att, oR au, oR ao, oR us, .val (.long (((0 : Int64) + ca.toInt64) + cb.toInt64)), .second, oR pc, oi 2, oi 2, oi cb] [(.ref a1)])) (fun _ k => XS.aloadN X51.here hx rfl (hb hby d1_133) rfl rfl k) ?_
  refine own_go (st' := T51.setTop (mkF m 135 #[oR a1, oR pc, oR att, oR au, oR ao, oR us, .val (.long (((0 : Int64) + ca.toInt64) + cb.toInt64)), .second, oR pc, oi 2, oi 2, oi cb] [(.ref a1), (.ref a1)])) (fun _ k => XS.aloadN X51.here hx rfl (hb hby d1_134) rfl rfl k) ?_
  have c52 : Fld Z h51 a1 oS0 "unitCount" "I" (.int (2 : Int32)) := (((((((((((f14.other W20 (Or.inr (slot_ne (Or.inr (own_hw hw 14)) (Or.inr (own_hw hw 16)) (by decide) (t := .int) (t' := .int) (by decide) (by decide)))).other W23 (Or.inr (slot_ne (Or.inr (own_hw hw 14)) (Or.inr (own_hw hw 18)) (by decide) (t := .int) (t' := .int) (by decide) (by decide)))).other W26 (Or.inr (slot_ne (Or.inr (own_hw hw 14)) (Or.inr (own_hw hw 20)) (by decide) (t := .int) (t' := .long) (by decide) (by decide)))).other W29 (Or.inr (slot_ne (Or.inr (own_hw hw 14)) (Or.inr (own_hw hw 22)) (by decide) (t := .int) (t' := (.array .int)) (by decide) (by decide)))).other W32 (Or.inr (slot_ne (Or.inr (own_hw hw 14)) (Or.inr (own_hw hw 24)) (by decide) (t := .int) (t' := (.array .int)) (by decide) (by decide)))).other W35 (Or.inr (slot_ne (Or.inr (own_hw hw 14)) (Or.inr (own_hw hw 26)) (by decide) (t := .int) (t' := (.array .int)) (by decide) (by decide)))).other W38 (Or.inr (slot_ne (Or.inr (own_hw hw 14)) (Or.inr (own_hw hw 28)) (by decide) (t := .int) (t' := (.array .int)) (by decide) (by decide)))).ext E41).other W44 (Or.inr (slot_ne (Or.inr (own_hw hw 14)) (Or.inr (own_hw hw 30)) (by decide) (t := .int) (t' := (.array .int)) (by decide) (by decide)))).keep K46 (ninS (own_ne (by omega)) nin0)).other W51 (Or.inr (slot_ne (Or.inr (own_hw hw 14)) (Or.inr (own_hw hw 47)) (by decide) (t := .int) (t' := (.array .int)) (by decide) (by decide))))
  obtain ⟨T53, X53, e53, st53⟩ := getF X51 hx hZ hown (host := "") (Or.inl (own_hw hw 13)) Via.refl e51 c52 (g := (mkF m 135 #[oR a1, oR pc, oR att, oR au, oR ao, oR us, .val (.long (((0 : Int64) + ca.toInt64) + cb.toInt64)), .second, oR pc, oi 2, oi 2, oi cb] [(.ref a1), (.ref a1)])) rfl rfl (hb hby d1_135)
  refine own_go (st' := T53.setTop (mkF m 138 #[oR a1, oR pc, oR att, oR au, oR ao, oR us, .val (.long (((0 : Int64) + ca.toInt64) + cb.toInt64)), .second, oR pc, oi 2, oi 2, oi cb] [(.int (2 : Int32)), (.ref a1)])) (st53) ?_
  refine own_go (st' := T53.setTop (mkF m 139 #[oR a1, oR pc, oR att, oR au, oR ao, oR us, .val (.long (((0 : Int64) + ca.toInt64) + cb.toInt64)), .second, oR pc, oi 2, oi 2, oi cb] [(.int (1 : Int32)), (.int (2 : Int32)), (.ref a1)])) (fun _ k => XS.iconst X53.here hx rfl (hb hby d1_138) k) ?_
  refine own_go (st' := T53.setTop (mkF m 140 #[oR a1, oR pc, oR att, oR au, oR ao, oR us, .val (.long (((0 : Int64) + ca.toInt64) + cb.toInt64)), .second, oR pc, oi 2, oi 2, oi cb] [(.int (3 : Int32)), (.ref a1)])) (fun _ k => XS.iadd X53.here hx rfl (hb hby d1_139) rfl (by rw [show ((2 : Int32) + (1 : Int32)) = (3 : Int32) by decide]; exact k)) ?_
  obtain ⟨T54, h54, k54, X54, e54, E54, A54, st54⟩ := newP X53 hx hZ (own_hw hw 4) e53 (g := (mkF m 140 #[oR a1, oR pc, oR att, oR au, oR ao, oR us, .val (.long (((0 : Int64) + ca.toInt64) + cb.toInt64)), .second, oR pc, oi 2, oi 2, oi cb] [(.int (3 : Int32)), (.ref a1)])) rfl (hb hby d1_140) rfl (by decide) (cap := 3) (by decide) (by decide) (by decide) (by decide)
  obtain ⟨b54, g54⟩ : ∃ z, z = h51.size := ⟨_, rfl⟩
  rw [← g54] at A54 st54
  have sz54 : h51.size ≤ h54.size := E54.1
  have lt54 : @LT.lt Nat _ b54 h54.size := A54.lt
  have v54 : Arv Z h54 b54 k54 .int (3 : Int32) [(.int (0 : Int32)), (.int (0 : Int32)), (.int (0 : Int32))] (.int (0 : Int32)) := (Arv.new A54 (by decide)).pad (pad_rep [] (.int (0 : Int32)) 3)
  refine own_go (st' := T54.setTop (mkF m 142 #[oR a1, oR pc, oR att, oR au, oR ao, oR us, .val (.long (((0 : Int64) + ca.toInt64) + cb.toInt64)), .second, oR pc, oi 2, oi 2, oi cb] [(.ref b54), (.ref a1)])) (st54) ?_
  have c55 : Fld Z h54 a1 oS0 "unitArcStart" "[I" .null := ((((((((((((((pr13.other W9 (Or.inr (slot_ne (Or.inr (own_hw hw 49)) (Or.inr (own_hw hw 12)) (by decide) (t := (.array .int)) (t' := .int) (by decide) (by decide)))).other W14 (Or.inr (slot_ne (Or.inr (own_hw hw 49)) (Or.inr (own_hw hw 14)) (by decide) (t := (.array .int)) (t' := .int) (by decide) (by decide)))).other W20 (Or.inr (slot_ne (Or.inr (own_hw hw 49)) (Or.inr (own_hw hw 16)) (by decide) (t := (.array .int)) (t' := .int) (by decide) (by decide)))).other W23 (Or.inr (slot_ne (Or.inr (own_hw hw 49)) (Or.inr (own_hw hw 18)) (by decide) (t := (.array .int)) (t' := .int) (by decide) (by decide)))).other W26 (Or.inr (slot_ne (Or.inr (own_hw hw 49)) (Or.inr (own_hw hw 20)) (by decide) (t := (.array .int)) (t' := .long) (by decide) (by decide)))).other W29 (Or.inr (slot_ne (Or.inr (own_hw hw 49)) (Or.inr (own_hw hw 22)) (by decide) (t := (.array .int)) (t' := (.array .int)) (by decide) (by decide)))).other W32 (Or.inr (slot_ne (Or.inr (own_hw hw 49)) (Or.inr (own_hw hw 24)) (by decide) (t := (.array .int)) (t' := (.array .int)) (by decide) (by decide)))).other W35 (Or.inr (slot_ne (Or.inr (own_hw hw 49)) (Or.inr (own_hw hw 26)) (by decide) (t := (.array .int)) (t' := (.array .int)) (by decide) (by decide)))).other W38 (Or.inr (slot_ne (Or.inr (own_hw hw 49)) (Or.inr (own_hw hw 28)) (by decide) (t := (.array .int)) (t' := (.array .int)) (by decide) (by decide)))).ext E41).other W44 (Or.inr (slot_ne (Or.inr (own_hw hw 49)) (Or.inr (own_hw hw 30)) (by decide) (t := (.array .int)) (t' := (.array .int)) (by decide) (by decide)))).keep K46 (ninS (own_ne (by omega)) nin0)).other W51 (Or.inr (slot_ne (Or.inr (own_hw hw 49)) (Or.inr (own_hw hw 47)) (by decide) (t := (.array .int)) (t' := (.array .int)) (by decide) (by decide)))).ext E54)
  have c56 : Exa Z h54 a1 oS0 := ((c50.wr W51).ext E54)
  obtain ⟨T57, h57, X57, e57, W57, st57⟩ := putF X54 hx hZ hown (host := "") (Or.inl (own_hw hw 48)) Via.refl e54 c55 c56 (Or.inr ⟨(own_hw hw 49), rfl, hnm⟩) (own_hw hw 2) (ty := (.array .int)) (by decide) rfl rfl (g := (mkF m 142 #[oR a1, oR pc, oR att, oR au, oR ao, oR us, .val (.long (((0 : Int64) + ca.toInt64) + cb.toInt64)), .second, oR pc, oi 2, oi 2, oi cb] [(.ref b54), (.ref a1)])) rfl rfl (hb hby d1_142)
  have sz57 : h57.size = h54.size := W57.size
  have N57 := Fr.snoc X57 N51 (by omega)
  have f57 : Fld Z h57 a1 oS0 "unitArcStart" "[I" (.ref b54) := c55.same W57
  refine own_go (st' := T57.setTop (mkF m 145 #[oR a1, oR pc, oR att, oR au, oR ao, oR us, .val (.long (((0 : Int64) + ca.toInt64) + cb.toInt64)), .second, oR pc, oi 2, oi 2, oi cb] [])) (st57) ?_
  refine own_go (st' := T57.setTop (mkF m 146 #[oR a1, oR pc, oR att, oR au, oR ao, oR us, .val (.long (((0 : Int64) + ca.toInt64) + cb.toInt64)), .second, oR pc, oi 2, oi 2, oi cb] [(.ref a1)])) (fun _ k => XS.aloadN X57.here hx rfl (hb hby d1_145) rfl rfl k) ?_
  refine own_go (st' := T57.setTop (mkF m 147 #[oR a1, oR pc, oR att, oR au, oR ao, oR us, .val (.long (((0 : Int64) + ca.toInt64) + cb.toInt64)), .second, oR pc, oi 2, oi 2, oi cb] [(.ref au), (.ref a1)])) (fun _ k => XS.aloadN X57.here hx rfl (hb hby d1_146) rfl rfl k) ?_
  refine own_go (st' := T57.setTop (mkF m 148 #[oR a1, oR pc, oR att, oR au, oR ao, oR us, .val (.long (((0 : Int64) + ca.toInt64) + cb.toInt64)), .second, oR pc, oi 2, oi 2, oi cb] [(.ref a1), (.ref au), (.ref a1)])) (fun _ k => XS.aloadN X57.here hx rfl (hb hby d1_147) rfl rfl k) ?_
  obtain ⟨T58, X58, e58, st58⟩ := getF X57 hx hZ hown (host := "") (Or.inl (own_hw hw 48)) Via.refl e57 f57 (g := (mkF m 148 #[oR a1, oR pc, oR att, oR au, oR ao, oR us, .val (.long (((0 : Int64) + ca.toInt64) + cb.toInt64)), .second, oR pc, oi 2, oi 2, oi cb] [(.ref a1), (.ref au), (.ref a1)])) rfl rfl (hb hby d1_148)
  refine own_go (st' := T58.setTop (mkF m 151 #[oR a1, oR pc, oR att, oR au, oR ao, oR us, .val (.long (((0 : Int64) + ca.toInt64) + cb.toInt64)), .second, oR pc, oi 2, oi 2, oi cb] [(.ref b54), (.ref au), (.ref a1)])) (st58) ?_
  have c60 : Arv Z h57 au kau .int (2 : Int32) [(.int (0 : Int32)), (.int (1 : Int32))] (.int (0 : Int32)) := (((((((((((((((pr28.other W9 (own_ne (by omega))).other W14 (own_ne (by omega))).other W20 (own_ne (by omega))).other W23 (own_ne (by omega))).other W26 (own_ne (by omega))).other W29 (own_ne (by omega))).other W32 (own_ne (by omega))).other W35 (own_ne (by omega))).other W38 (own_ne (by omega))).ext E41).other W44 (own_ne (by omega))).keep K46 (ninS (own_ne (by omega)) nin0)).other W51 (own_ne (by omega))).ext E54).other W57 (own_ne (by omega)))
  have c61 : Arv Z h57 b54 k54 .int (3 : Int32) [(.int (0 : Int32)), (.int (0 : Int32)), (.int (0 : Int32))] (.int (0 : Int32)) := (v54.other W57 (own_ne (by omega)))
  obtain ⟨_, _, ⟨T59, LC59, kC59, nC59⟩, -, X59, ⟨Lc59, hQ59, lq59, yq59, zq59⟩, st59⟩ := Jvm.LawKit.callS X58 hx (y := oM4) hown (mvT hZ (own_hw hw 31)) (mvT hZ (own_hw hw 32)) (mvT hZ (own_hw hw 3)) (mvT hZ (own_hw hw 33)) (by decide) (backOf (W := 1) (rm3 l Z a0 hw [] au b54 kau k54 h57 n0 (by omega) c60 c61 (by omega) (own_ne (by omega))) hZ (own_hw hw 33) (own_hw hw 3) (by decide) (by decide)) (g := (mkF m 151 #[oR a1, oR pc, oR att, oR au, oR ao, oR us, .val (.long (((0 : Int64) + ca.toInt64) + cb.toInt64)), .second, oR pc, oi 2, oi 2, oi cb] [(.ref b54), (.ref au), (.ref a1)])) rfl (by rw [hml]; rfl) (argsL := [(.ref au), (.ref b54)]) (rest := [(.ref a1)]) (lenOf pd_3 rfl) rfl (by show 2 * 0 + _ ≤ _; exact Nat.le_of_eq rfl) (hb hby d1_151) (fun _ _ => ⟨rfl, e58, (by decide : 4 + 2 ≤ _), (by decide : 10 + 4 ≤ _)⟩)
  dsimp only [Pt.U, Pt.locs, Pt.cells, Pt.slots] at X59 lq59 yq59 zq59 st59 hQ59
  subst lq59 yq59 zq59
  obtain ⟨h59, e59⟩ : ∃ z, T59.heap = z := ⟨_, rfl⟩
  rw [e59] at hQ59
  obtain ⟨r_59, kr_59, rfl, Nq59, K59, g59_0, g59_1, g59_2⟩ := hQ59
  have sz59 : h57.size ≤ h59.size := K59.1
  have N59 := Fr.app N57 Nq59
  have lt59_1 : @LT.lt Nat _ b54 h59.size := g59_0.lt
  have lt59_2 : @LT.lt Nat _ r_59 h59.size := g59_1.lt
  refine own_go (st' := T59.setTop (mkF m 154 #[oR a1, oR pc, oR att, oR au, oR ao, oR us, .val (.long (((0 : Int64) + ca.toInt64) + cb.toInt64)), .second, oR pc, oi 2, oi 2, oi cb] [(.ref r_59), (.ref a1)])) (fun t k => st59 t k) ?_
  have c62 : Fld Z h59 a1 oS0 "unitArcs" "[I" .null := ((((((((((((((((pr14.other W9 (Or.inr (slot_ne (Or.inr (own_hw hw 51)) (Or.inr (own_hw hw 12)) (by decide) (t := (.array .int)) (t' := .int) (by decide) (by decide)))).other W14 (Or.inr (slot_ne (Or.inr (own_hw hw 51)) (Or.inr (own_hw hw 14)) (by decide) (t := (.array .int)) (t' := .int) (by decide) (by decide)))).other W20 (Or.inr (slot_ne (Or.inr (own_hw hw 51)) (Or.inr (own_hw hw 16)) (by decide) (t := (.array .int)) (t' := .int) (by decide) (by decide)))).other W23 (Or.inr (slot_ne (Or.inr (own_hw hw 51)) (Or.inr (own_hw hw 18)) (by decide) (t := (.array .int)) (t' := .int) (by decide) (by decide)))).other W26 (Or.inr (slot_ne (Or.inr (own_hw hw 51)) (Or.inr (own_hw hw 20)) (by decide) (t := (.array .int)) (t' := .long) (by decide) (by decide)))).other W29 (Or.inr (slot_ne (Or.inr (own_hw hw 51)) (Or.inr (own_hw hw 22)) (by decide) (t := (.array .int)) (t' := (.array .int)) (by decide) (by decide)))).other W32 (Or.inr (slot_ne (Or.inr (own_hw hw 51)) (Or.inr (own_hw hw 24)) (by decide) (t := (.array .int)) (t' := (.array .int)) (by decide) (by decide)))).other W35 (Or.inr (slot_ne (Or.inr (own_hw hw 51)) (Or.inr (own_hw hw 26)) (by decide) (t := (.array .int)) (t' := (.array .int)) (by decide) (by decide)))).other W38 (Or.inr (slot_ne (Or.inr (own_hw hw 51)) (Or.inr (own_hw hw 28)) (by decide) (t := (.array .int)) (t' := (.array .int)) (by decide) (by decide)))).ext E41).other W44 (Or.inr (slot_ne (Or.inr (own_hw hw 51)) (Or.inr (own_hw hw 30)) (by decide) (t := (.array .int)) (t' := (.array .int)) (by decide) (by decide)))).keep K46 (ninS (own_ne (by omega)) nin0)).other W51 (Or.inr (slot_ne (Or.inr (own_hw hw 51)) (Or.inr (own_hw hw 47)) (by decide) (t := (.array .int)) (t' := (.array .int)) (by decide) (by decide)))).ext E54).other W57 (Or.inr (slot_ne (Or.inr (own_hw hw 51)) (Or.inr (own_hw hw 49)) (by decide) (t := (.array .int)) (t' := (.array .int)) (by decide) (by decide)))).keep K59 (ninS (own_ne (by omega)) nin0))
  have c63 : Exa Z h59 a1 oS0 := ((c56.wr W57).keep K59)
  obtain ⟨T64, h64, X64, e64, W64, st64⟩ := putF X59 hx hZ hown (host := "") (Or.inl (own_hw hw 50)) Via.refl e59 c62 c63 (Or.inr ⟨(own_hw hw 51), rfl, hnm⟩) (own_hw hw 2) (ty := (.array .int)) (by decide) rfl rfl (g := (mkF m 154 #[oR a1, oR pc, oR att, oR au, oR ao, oR us, .val (.long (((0 : Int64) + ca.toInt64) + cb.toInt64)), .second, oR pc, oi 2, oi 2, oi cb] [(.ref r_59), (.ref a1)])) rfl rfl (hb hby d1_154)
  have sz64 : h64.size = h59.size := W64.size
  have N64 := Fr.snoc X64 N59 (by omega)
  have f64 : Fld Z h64 a1 oS0 "unitArcs" "[I" (.ref r_59) := c62.same W64
  refine own_go (st' := T64.setTop (mkF m 157 #[oR a1, oR pc, oR att, oR au, oR ao, oR us, .val (.long (((0 : Int64) + ca.toInt64) + cb.toInt64)), .second, oR pc, oi 2, oi 2, oi cb] [])) (st64) ?_
  refine own_go (st' := T64.setTop (mkF m 158 #[oR a1, oR pc, oR att, oR au, oR ao, oR us, .val (.long (((0 : Int64) + ca.toInt64) + cb.toInt64)), .second, oR pc, oi 2, oi 2, oi cb] [(.int (0 : Int32))])) (fun _ k => XS.iconst X64.here hx rfl (hb hby d1_157) k) ?_
  refine own_go (st' := T64.setTop (mkF m 160 #[oR a1, oR pc, oR att, oR au, oR ao, oR us, .val (.long (((0 : Int64) + ca.toInt64) + cb.toInt64)), .second, oi 0, oi 2, oi 2, oi cb] [])) (fun _ k => XS.istore X64.here hx rfl (hb hby d1_158) rfl (l' := #[oR a1, oR pc, oR att, oR au, oR ao, oR us, .val (.long (((0 : Int64) + ca.toInt64) + cb.toInt64)), .second, oi 0, oi 2, oi 2, oi cb]) rfl k) ?_
  refine own_go (st' := T64.setTop (mkF m 162 #[oR a1, oR pc, oR att, oR au, oR ao, oR us, .val (.long (((0 : Int64) + ca.toInt64) + cb.toInt64)), .second, oi 0, oi 2, oi 2, oi cb] [(.int (0 : Int32))])) (fun _ k => XS.iload X64.here hx rfl (hb hby d1_160) rfl k) ?_
  refine own_go (st' := T64.setTop (mkF m 163 #[oR a1, oR pc, oR att, oR au, oR ao, oR us, .val (.long (((0 : Int64) + ca.toInt64) + cb.toInt64)), .second, oi 0, oi 2, oi 2, oi cb] [(.ref a1), (.int (0 : Int32))])) (fun _ k => XS.aloadN X64.here hx rfl (hb hby d1_162) rfl rfl k) ?_
  have c65 : Fld Z h64 a1 oS0 "topicCount" "I" (.int (2 : Int32)) := ((((((((c39.ext E41).other W44 (Or.inr (slot_ne (Or.inr (own_hw hw 12)) (Or.inr (own_hw hw 30)) (by decide) (t := .int) (t' := (.array .int)) (by decide) (by decide)))).keep K46 (ninS (own_ne (by omega)) nin0)).other W51 (Or.inr (slot_ne (Or.inr (own_hw hw 12)) (Or.inr (own_hw hw 47)) (by decide) (t := .int) (t' := (.array .int)) (by decide) (by decide)))).ext E54).other W57 (Or.inr (slot_ne (Or.inr (own_hw hw 12)) (Or.inr (own_hw hw 49)) (by decide) (t := .int) (t' := (.array .int)) (by decide) (by decide)))).keep K59 (ninS (own_ne (by omega)) nin0)).other W64 (Or.inr (slot_ne (Or.inr (own_hw hw 12)) (Or.inr (own_hw hw 51)) (by decide) (t := .int) (t' := (.array .int)) (by decide) (by decide))))
  obtain ⟨T66, X66, e66, st66⟩ := getF X64 hx hZ hown (host := "") (Or.inl (own_hw hw 11)) Via.refl e64 c65 (g := (mkF m 163 #[oR a1, oR pc, oR att, oR au, oR ao, oR us, .val (.long (((0 : Int64) + ca.toInt64) + cb.toInt64)), .second, oi 0, oi 2, oi 2, oi cb] [(.ref a1), (.int (0 : Int32))])) rfl rfl (hb hby d1_163)
  refine own_go (st' := T66.setTop (mkF m 166 #[oR a1, oR pc, oR att, oR au, oR ao, oR us, .val (.long (((0 : Int64) + ca.toInt64) + cb.toInt64)), .second, oi 0, oi 2, oi 2, oi cb] [(.int (2 : Int32)), (.int (0 : Int32))])) (st66) ?_
  have hc67 : (0 : Int32) < (2 : Int32) := by decide
  refine own_go (st' := T66.setTop (mkF m 169 #[oR a1, oR pc, oR att, oR au, oR ao, oR us, .val (.long (((0 : Int64) + ca.toInt64) + cb.toInt64)), .second, oi 0, oi 2, oi 2, oi cb] [])) (fun _ k => XS.icmpNo X66.here hx rfl (hb hby d1_166) rfl (tlt hc67).2.1 k) ?_
  have J210_68 : ∀ (Tj68 : State) (lj68 : List Loc)  (Xj68 : Stand p l e ({ frames := 3, cells := 19, slots := 72, locals := 96 } : Room) s m #[(.ref a1), (.ref pc), (.ref att), (.ref au), (.ref ao), (.ref us)] below meth c Tj68 lj68 6 14) (ej68 : Tj68.heap = h64) (Nj68 : Fr n0 lj68) , own_Go p.tables e below P (Tj68.setTop (mkF m 210 #[oR a1, oR pc, oR att, oR au, oR ao, oR us, .val (.long (((0 : Int64) + ca.toInt64) + cb.toInt64)), .second, oi 0, oi 2, oi 2, oi cb] [])) := by
    intro Tj68 lj68 Xj68 ej68 Nj68
    refine own_go (st' := Tj68.setTop (mkF m 213 #[oR a1, oR pc, oR att, oR au, oR ao, oR us, .val (.long (((0 : Int64) + ca.toInt64) + cb.toInt64)), .second, oi 1, oi 2, oi 2, oi cb] [])) (fun _ k => XS.iinc Xj68.here hx rfl (hb hby d1_210) rfl (l' := #[oR a1, oR pc, oR att, oR au, oR ao, oR us, .val (.long (((0 : Int64) + ca.toInt64) + cb.toInt64)), .second, oi 1, oi 2, oi 2, oi cb]) (by rw [show ((0 : Int32) + Int32.ofInt 1) = (1 : Int32) by decide]; rfl) k) ?_
    refine own_go (st' := Tj68.setTop (mkF m 160 #[oR a1, oR pc, oR att, oR au, oR ao, oR us, .val (.long (((0 : Int64) + ca.toInt64) + cb.toInt64)), .second, oi 1, oi 2, oi 2, oi cb] [])) (fun _ k => XS.goto Xj68.here hx rfl (pc0 := 213) (pc' := 160) rfl (hb hby d1_213) (by decide) (by decide) k) ?_
    refine own_go (st' := Tj68.setTop (mkF m 162 #[oR a1, oR pc, oR att, oR au, oR ao, oR us, .val (.long (((0 : Int64) + ca.toInt64) + cb.toInt64)), .second, oi 1, oi 2, oi 2, oi cb] [(.int (1 : Int32))])) (fun _ k => XS.iload Xj68.here hx rfl (hb hby d1_160) rfl k) ?_
    refine own_go (st' := Tj68.setTop (mkF m 163 #[oR a1, oR pc, oR att, oR au, oR ao, oR us, .val (.long (((0 : Int64) + ca.toInt64) + cb.toInt64)), .second, oi 1, oi 2, oi 2, oi cb] [(.ref a1), (.int (1 : Int32))])) (fun _ k => XS.aloadN Xj68.here hx rfl (hb hby d1_162) rfl rfl k) ?_
    obtain ⟨T69, X69, e69, st69⟩ := getF Xj68 hx hZ hown (host := "") (Or.inl (own_hw hw 11)) Via.refl ej68 c65 (g := (mkF m 163 #[oR a1, oR pc, oR att, oR au, oR ao, oR us, .val (.long (((0 : Int64) + ca.toInt64) + cb.toInt64)), .second, oi 1, oi 2, oi 2, oi cb] [(.ref a1), (.int (1 : Int32))])) rfl rfl (hb hby d1_163)
    refine own_go (st' := T69.setTop (mkF m 166 #[oR a1, oR pc, oR att, oR au, oR ao, oR us, .val (.long (((0 : Int64) + ca.toInt64) + cb.toInt64)), .second, oi 1, oi 2, oi 2, oi cb] [(.int (2 : Int32)), (.int (1 : Int32))])) (st69) ?_
    have hc70 : (1 : Int32) < (2 : Int32) := by decide
    refine own_go (st' := T69.setTop (mkF m 169 #[oR a1, oR pc, oR att, oR au, oR ao, oR us, .val (.long (((0 : Int64) + ca.toInt64) + cb.toInt64)), .second, oi 1, oi 2, oi 2, oi cb] [])) (fun _ k => XS.icmpNo X69.here hx rfl (hb hby d1_166) rfl (tlt hc70).2.1 k) ?_
    have J210_71 : ∀ (Tj71 : State) (lj71 : List Loc)  (Xj71 : Stand p l e ({ frames := 3, cells := 19, slots := 72, locals := 96 } : Room) s m #[(.ref a1), (.ref pc), (.ref att), (.ref au), (.ref ao), (.ref us)] below meth c Tj71 lj71 6 14) (ej71 : Tj71.heap = h64) (Nj71 : Fr n0 lj71) , own_Go p.tables e below P (Tj71.setTop (mkF m 210 #[oR a1, oR pc, oR att, oR au, oR ao, oR us, .val (.long (((0 : Int64) + ca.toInt64) + cb.toInt64)), .second, oi 1, oi 2, oi 2, oi cb] [])) := by
      intro Tj71 lj71 Xj71 ej71 Nj71
      refine own_go (st' := Tj71.setTop (mkF m 213 #[oR a1, oR pc, oR att, oR au, oR ao, oR us, .val (.long (((0 : Int64) + ca.toInt64) + cb.toInt64)), .second, oi 2, oi 2, oi 2, oi cb] [])) (fun _ k => XS.iinc Xj71.here hx rfl (hb hby d1_210) rfl (l' := #[oR a1, oR pc, oR att, oR au, oR ao, oR us, .val (.long (((0 : Int64) + ca.toInt64) + cb.toInt64)), .second, oi 2, oi 2, oi 2, oi cb]) (by rw [show ((1 : Int32) + Int32.ofInt 1) = (2 : Int32) by decide]; rfl) k) ?_
      refine own_go (st' := Tj71.setTop (mkF m 160 #[oR a1, oR pc, oR att, oR au, oR ao, oR us, .val (.long (((0 : Int64) + ca.toInt64) + cb.toInt64)), .second, oi 2, oi 2, oi 2, oi cb] [])) (fun _ k => XS.goto Xj71.here hx rfl (pc0 := 213) (pc' := 160) rfl (hb hby d1_213) (by decide) (by decide) k) ?_
      refine own_go (st' := Tj71.setTop (mkF m 162 #[oR a1, oR pc, oR att, oR au, oR ao, oR us, .val (.long (((0 : Int64) + ca.toInt64) + cb.toInt64)), .second, oi 2, oi 2, oi 2, oi cb] [(.int (2 : Int32))])) (fun _ k => XS.iload Xj71.here hx rfl (hb hby d1_160) rfl k) ?_
      refine own_go (st' := Tj71.setTop (mkF m 163 #[oR a1, oR pc, oR att, oR au, oR ao, oR us, .val (.long (((0 : Int64) + ca.toInt64) + cb.toInt64)), .second, oi 2, oi 2, oi 2, oi cb] [(.ref a1), (.int (2 : Int32))])) (fun _ k => XS.aloadN Xj71.here hx rfl (hb hby d1_162) rfl rfl k) ?_
      obtain ⟨T72, X72, e72, st72⟩ := getF Xj71 hx hZ hown (host := "") (Or.inl (own_hw hw 11)) Via.refl ej71 c65 (g := (mkF m 163 #[oR a1, oR pc, oR att, oR au, oR ao, oR us, .val (.long (((0 : Int64) + ca.toInt64) + cb.toInt64)), .second, oi 2, oi 2, oi 2, oi cb] [(.ref a1), (.int (2 : Int32))])) rfl rfl (hb hby d1_163)
      refine own_go (st' := T72.setTop (mkF m 166 #[oR a1, oR pc, oR att, oR au, oR ao, oR us, .val (.long (((0 : Int64) + ca.toInt64) + cb.toInt64)), .second, oi 2, oi 2, oi 2, oi cb] [(.int (2 : Int32)), (.int (2 : Int32))])) (st72) ?_
      have hc73 : ¬ ((2 : Int32) < (2 : Int32)) := by decide
      refine own_go (st' := T72.setTop (mkF m 216 #[oR a1, oR pc, oR att, oR au, oR ao, oR us, .val (.long (((0 : Int64) + ca.toInt64) + cb.toInt64)), .second, oi 2, oi 2, oi 2, oi cb] [])) (fun _ k => XS.icmpYes X72.here hx rfl (pc0 := 166) (pc' := 216) rfl (hb hby d1_166) rfl (flt hc73).2.1 (by decide) (by decide) k) ?_
      refine own_go (st' := T72.setTop (mkF m 217 #[oR a1, oR pc, oR att, oR au, oR ao, oR us, .val (.long (((0 : Int64) + ca.toInt64) + cb.toInt64)), .second, oi 2, oi 2, oi 2, oi cb] [(.ref a1)])) (fun _ k => XS.aloadN X72.here hx rfl (hb hby d1_216) rfl rfl k) ?_
      refine own_go (st' := T72.setTop (mkF m 218 #[oR a1, oR pc, oR att, oR au, oR ao, oR us, .val (.long (((0 : Int64) + ca.toInt64) + cb.toInt64)), .second, oi 2, oi 2, oi 2, oi cb] [(.ref att), (.ref a1)])) (fun _ k => XS.aloadN X72.here hx rfl (hb hby d1_217) rfl rfl k) ?_
      have c74 : Arv Z h64 att katt .int (2 : Int32) [(.int (0 : Int32)), (.int (1 : Int32))] (.int (0 : Int32)) := ((((((c47.keep K46 (ninS (own_ne (by omega)) nin0)).other W51 (own_ne (by omega))).ext E54).other W57 (own_ne (by omega))).keep K59 (ninS (own_ne (by omega)) nin0)).other W64 (own_ne (by omega)))
      obtain ⟨cl75, Ar75, -, S75, M75, -, -⟩ := id c74
      refine own_go (st' := T72.setTop (mkF m 219 #[oR a1, oR pc, oR att, oR au, oR ao, oR us, .val (.long (((0 : Int64) + ca.toInt64) + cb.toInt64)), .second, oi 2, oi 2, oi 2, oi cb] [(.int (2 : Int32)), (.ref a1)])) (fun t k => X72.arraylength hx (by rw [e72]; exact Ar75.1) (State.isArrayOf_alike hZ.alike Ar75.2.1) (g := (mkF m 218 #[oR a1, oR pc, oR att, oR au, oR ao, oR us, .val (.long (((0 : Int64) + ca.toInt64) + cb.toInt64)), .second, oi 2, oi 2, oi 2, oi cb] [(.ref att), (.ref a1)])) rfl rfl (hb hby d1_218) t (by rw [len_of S75 M75]; exact k)) ?_
      obtain ⟨T76, h76, k76, X76, e76, E76, A76, st76⟩ := newP X72 hx hZ (own_hw hw 4) e72 (g := (mkF m 219 #[oR a1, oR pc, oR att, oR au, oR ao, oR us, .val (.long (((0 : Int64) + ca.toInt64) + cb.toInt64)), .second, oi 2, oi 2, oi 2, oi cb] [(.int (2 : Int32)), (.ref a1)])) rfl (hb hby d1_219) rfl (by decide) (cap := 2) (by decide) (by decide) (by decide) (by decide)
      obtain ⟨b76, g76⟩ : ∃ z, z = h64.size := ⟨_, rfl⟩
      rw [← g76] at A76 st76
      have sz76 : h64.size ≤ h76.size := E76.1
      have lt76 : @LT.lt Nat _ b76 h76.size := A76.lt
      have v76 : Arv Z h76 b76 k76 .int (2 : Int32) [(.int (0 : Int32)), (.int (0 : Int32))] (.int (0 : Int32)) := (Arv.new A76 (by decide)).pad (pad_rep [] (.int (0 : Int32)) 2)
      refine own_go (st' := T76.setTop (mkF m 221 #[oR a1, oR pc, oR att, oR au, oR ao, oR us, .val (.long (((0 : Int64) + ca.toInt64) + cb.toInt64)), .second, oi 2, oi 2, oi 2, oi cb] [(.ref b76), (.ref a1)])) (st76) ?_
      have c77 : Fld Z h76 a1 oS0 "flow" "[I" .null := ((((((((((((((((((pr15.other W9 (Or.inr (slot_ne (Or.inr (own_hw hw 53)) (Or.inr (own_hw hw 12)) (by decide) (t := (.array .int)) (t' := .int) (by decide) (by decide)))).other W14 (Or.inr (slot_ne (Or.inr (own_hw hw 53)) (Or.inr (own_hw hw 14)) (by decide) (t := (.array .int)) (t' := .int) (by decide) (by decide)))).other W20 (Or.inr (slot_ne (Or.inr (own_hw hw 53)) (Or.inr (own_hw hw 16)) (by decide) (t := (.array .int)) (t' := .int) (by decide) (by decide)))).other W23 (Or.inr (slot_ne (Or.inr (own_hw hw 53)) (Or.inr (own_hw hw 18)) (by decide) (t := (.array .int)) (t' := .int) (by decide) (by decide)))).other W26 (Or.inr (slot_ne (Or.inr (own_hw hw 53)) (Or.inr (own_hw hw 20)) (by decide) (t := (.array .int)) (t' := .long) (by decide) (by decide)))).other W29 (Or.inr (slot_ne (Or.inr (own_hw hw 53)) (Or.inr (own_hw hw 22)) (by decide) (t := (.array .int)) (t' := (.array .int)) (by decide) (by decide)))).other W32 (Or.inr (slot_ne (Or.inr (own_hw hw 53)) (Or.inr (own_hw hw 24)) (by decide) (t := (.array .int)) (t' := (.array .int)) (by decide) (by decide)))).other W35 (Or.inr (slot_ne (Or.inr (own_hw hw 53)) (Or.inr (own_hw hw 26)) (by decide) (t := (.array .int)) (t' := (.array .int)) (by decide) (by decide)))).other W38 (Or.inr (slot_ne (Or.inr (own_hw hw 53)) (Or.inr (own_hw hw 28)) (by decide) (t := (.array .int)) (t' := (.array .int)) (by decide) (by decide)))).ext E41).other W44 (Or.inr (slot_ne (Or.inr (own_hw hw 53)) (Or.inr (own_hw hw 30)) (by decide) (t := (.array .int)) (t' := (.array .int)) (by decide) (by decide)))).keep K46 (ninS (own_ne (by omega)) nin0)).other W51 (Or.inr (slot_ne (Or.inr (own_hw hw 53)) (Or.inr (own_hw hw 47)) (by decide) (t := (.array .int)) (t' := (.array .int)) (by decide) (by decide)))).ext E54).other W57 (Or.inr (slot_ne (Or.inr (own_hw hw 53)) (Or.inr (own_hw hw 49)) (by decide) (t := (.array .int)) (t' := (.array .int)) (by decide) (by decide)))).keep K59 (ninS (own_ne (by omega)) nin0)).other W64 (Or.inr (slot_ne (Or.inr (own_hw hw 53)) (Or.inr (own_hw hw 51)) (by decide) (t := (.array .int)) (t' := (.array .int)) (by decide) (by decide)))).ext E76)
      have c78 : Exa Z h76 a1 oS0 := ((c63.wr W64).ext E76)
      obtain ⟨T79, h79, X79, e79, W79, st79⟩ := putF X76 hx hZ hown (host := "") (Or.inl (own_hw hw 52)) Via.refl e76 c77 c78 (Or.inr ⟨(own_hw hw 53), rfl, hnm⟩) (own_hw hw 2) (ty := (.array .int)) (by decide) rfl rfl (g := (mkF m 221 #[oR a1, oR pc, oR att, oR au, oR ao, oR us, .val (.long (((0 : Int64) + ca.toInt64) + cb.toInt64)), .second, oi 2, oi 2, oi 2, oi cb] [(.ref b76), (.ref a1)])) rfl rfl (hb hby d1_221)
      have sz79 : h79.size = h76.size := W79.size
      have N79 := Fr.snoc X79 Nj71 (by omega)
      have f79 : Fld Z h79 a1 oS0 "flow" "[I" (.ref b76) := c77.same W79
      refine own_go (st' := T79.setTop (mkF m 224 #[oR a1, oR pc, oR att, oR au, oR ao, oR us, .val (.long (((0 : Int64) + ca.toInt64) + cb.toInt64)), .second, oi 2, oi 2, oi 2, oi cb] [])) (st79) ?_
      refine own_go (st' := T79.setTop (mkF m 225 #[oR a1, oR pc, oR att, oR au, oR ao, oR us, .val (.long (((0 : Int64) + ca.toInt64) + cb.toInt64)), .second, oi 2, oi 2, oi 2, oi cb] [(.ref a1)])) (fun _ k => XS.aloadN X79.here hx rfl (hb hby d1_224) rfl rfl k) ?_
      refine own_go (st' := T79.setTop (mkF m 226 #[oR a1, oR pc, oR att, oR au, oR ao, oR us, .val (.long (((0 : Int64) + ca.toInt64) + cb.toInt64)), .second, oi 2, oi 2, oi 2, oi cb] [(.ref a1), (.ref a1)])) (fun _ k => XS.aloadN X79.here hx rfl (hb hby d1_225) rfl rfl k) ?_
      have c80 : Fld Z h79 a1 oS0 "unitCount" "I" (.int (2 : Int32)) := ((((((c52.ext E54).other W57 (Or.inr (slot_ne (Or.inr (own_hw hw 14)) (Or.inr (own_hw hw 49)) (by decide) (t := .int) (t' := (.array .int)) (by decide) (by decide)))).keep K59 (ninS (own_ne (by omega)) nin0)).other W64 (Or.inr (slot_ne (Or.inr (own_hw hw 14)) (Or.inr (own_hw hw 51)) (by decide) (t := .int) (t' := (.array .int)) (by decide) (by decide)))).ext E76).other W79 (Or.inr (slot_ne (Or.inr (own_hw hw 14)) (Or.inr (own_hw hw 53)) (by decide) (t := .int) (t' := (.array .int)) (by decide) (by decide))))
      obtain ⟨T81, X81, e81, st81⟩ := getF X79 hx hZ hown (host := "") (Or.inl (own_hw hw 13)) Via.refl e79 c80 (g := (mkF m 226 #[oR a1, oR pc, oR att, oR au, oR ao, oR us, .val (.long (((0 : Int64) + ca.toInt64) + cb.toInt64)), .second, oi 2, oi 2, oi 2, oi cb] [(.ref a1), (.ref a1)])) rfl rfl (hb hby d1_226)
      refine own_go (st' := T81.setTop (mkF m 229 #[oR a1, oR pc, oR att, oR au, oR ao, oR us, .val (.long (((0 : Int64) + ca.toInt64) + cb.toInt64)), .second, oi 2, oi 2, oi 2, oi cb] [(.int (2 : Int32)), (.ref a1)])) (st81) ?_
      obtain ⟨T82, h82, k82, X82, e82, E82, A82, st82⟩ := newP X81 hx hZ (own_hw hw 4) e81 (g := (mkF m 229 #[oR a1, oR pc, oR att, oR au, oR ao, oR us, .val (.long (((0 : Int64) + ca.toInt64) + cb.toInt64)), .second, oi 2, oi 2, oi 2, oi cb] [(.int (2 : Int32)), (.ref a1)])) rfl (hb hby d1_229) rfl (by decide) (cap := 2) (by decide) (by decide) (by decide) (by decide)
      obtain ⟨b82, g82⟩ : ∃ z, z = h79.size := ⟨_, rfl⟩
      rw [← g82] at A82 st82
      have sz82 : h79.size ≤ h82.size := E82.1
      have lt82 : @LT.lt Nat _ b82 h82.size := A82.lt
      have v82 : Arv Z h82 b82 k82 .int (2 : Int32) [(.int (0 : Int32)), (.int (0 : Int32))] (.int (0 : Int32)) := (Arv.new A82 (by decide)).pad (pad_rep [] (.int (0 : Int32)) 2)
      refine own_go (st' := T82.setTop (mkF m 231 #[oR a1, oR pc, oR att, oR au, oR ao, oR us, .val (.long (((0 : Int64) + ca.toInt64) + cb.toInt64)), .second, oi 2, oi 2, oi 2, oi cb] [(.ref b82), (.ref a1)])) (st82) ?_
      have c83 : Fld Z h82 a1 oS0 "load" "[I" .null := ((((((((((((((((((((pr16.other W9 (Or.inr (slot_ne (Or.inr (own_hw hw 55)) (Or.inr (own_hw hw 12)) (by decide) (t := (.array .int)) (t' := .int) (by decide) (by decide)))).other W14 (Or.inr (slot_ne (Or.inr (own_hw hw 55)) (Or.inr (own_hw hw 14)) (by decide) (t := (.array .int)) (t' := .int) (by decide) (by decide)))).other W20 (Or.inr (slot_ne (Or.inr (own_hw hw 55)) (Or.inr (own_hw hw 16)) (by decide) (t := (.array .int)) (t' := .int) (by decide) (by decide)))).other W23 (Or.inr (slot_ne (Or.inr (own_hw hw 55)) (Or.inr (own_hw hw 18)) (by decide) (t := (.array .int)) (t' := .int) (by decide) (by decide)))).other W26 (Or.inr (slot_ne (Or.inr (own_hw hw 55)) (Or.inr (own_hw hw 20)) (by decide) (t := (.array .int)) (t' := .long) (by decide) (by decide)))).other W29 (Or.inr (slot_ne (Or.inr (own_hw hw 55)) (Or.inr (own_hw hw 22)) (by decide) (t := (.array .int)) (t' := (.array .int)) (by decide) (by decide)))).other W32 (Or.inr (slot_ne (Or.inr (own_hw hw 55)) (Or.inr (own_hw hw 24)) (by decide) (t := (.array .int)) (t' := (.array .int)) (by decide) (by decide)))).other W35 (Or.inr (slot_ne (Or.inr (own_hw hw 55)) (Or.inr (own_hw hw 26)) (by decide) (t := (.array .int)) (t' := (.array .int)) (by decide) (by decide)))).other W38 (Or.inr (slot_ne (Or.inr (own_hw hw 55)) (Or.inr (own_hw hw 28)) (by decide) (t := (.array .int)) (t' := (.array .int)) (by decide) (by decide)))).ext E41).other W44 (Or.inr (slot_ne (Or.inr (own_hw hw 55)) (Or.inr (own_hw hw 30)) (by decide) (t := (.array .int)) (t' := (.array .int)) (by decide) (by decide)))).keep K46 (ninS (own_ne (by omega)) nin0)).other W51 (Or.inr (slot_ne (Or.inr (own_hw hw 55)) (Or.inr (own_hw hw 47)) (by decide) (t := (.array .int)) (t' := (.array .int)) (by decide) (by decide)))).ext E54).other W57 (Or.inr (slot_ne (Or.inr (own_hw hw 55)) (Or.inr (own_hw hw 49)) (by decide) (t := (.array .int)) (t' := (.array .int)) (by decide) (by decide)))).keep K59 (ninS (own_ne (by omega)) nin0)).other W64 (Or.inr (slot_ne (Or.inr (own_hw hw 55)) (Or.inr (own_hw hw 51)) (by decide) (t := (.array .int)) (t' := (.array .int)) (by decide) (by decide)))).ext E76).other W79 (Or.inr (slot_ne (Or.inr (own_hw hw 55)) (Or.inr (own_hw hw 53)) (by decide) (t := (.array .int)) (t' := (.array .int)) (by decide) (by decide)))).ext E82)
      have c84 : Exa Z h82 a1 oS0 := ((c78.wr W79).ext E82)
      obtain ⟨T85, h85, X85, e85, W85, st85⟩ := putF X82 hx hZ hown (host := "") (Or.inl (own_hw hw 54)) Via.refl e82 c83 c84 (Or.inr ⟨(own_hw hw 55), rfl, hnm⟩) (own_hw hw 2) (ty := (.array .int)) (by decide) rfl rfl (g := (mkF m 231 #[oR a1, oR pc, oR att, oR au, oR ao, oR us, .val (.long (((0 : Int64) + ca.toInt64) + cb.toInt64)), .second, oi 2, oi 2, oi 2, oi cb] [(.ref b82), (.ref a1)])) rfl rfl (hb hby d1_231)
      have sz85 : h85.size = h82.size := W85.size
      have N85 := Fr.snoc X85 N79 (by omega)
      have f85 : Fld Z h85 a1 oS0 "load" "[I" (.ref b82) := c83.same W85
      refine own_go (st' := T85.setTop (mkF m 234 #[oR a1, oR pc, oR att, oR au, oR ao, oR us, .val (.long (((0 : Int64) + ca.toInt64) + cb.toInt64)), .second, oi 2, oi 2, oi 2, oi cb] [])) (st85) ?_
      refine own_go (st' := T85.setTop (mkF m 235 #[oR a1, oR pc, oR att, oR au, oR ao, oR us, .val (.long (((0 : Int64) + ca.toInt64) + cb.toInt64)), .second, oi 2, oi 2, oi 2, oi cb] [(.ref a1)])) (fun _ k => XS.aloadN X85.here hx rfl (hb hby d1_234) rfl rfl k) ?_
      have c86 : Fld Z h85 a1 oS0 "sink" "I" (.int (4 : Int32)) := ((((((((((((((((((f20.other W23 (Or.inr (slot_ne (Or.inr (own_hw hw 16)) (Or.inr (own_hw hw 18)) (by decide) (t := .int) (t' := .int) (by decide) (by decide)))).other W26 (Or.inr (slot_ne (Or.inr (own_hw hw 16)) (Or.inr (own_hw hw 20)) (by decide) (t := .int) (t' := .long) (by decide) (by decide)))).other W29 (Or.inr (slot_ne (Or.inr (own_hw hw 16)) (Or.inr (own_hw hw 22)) (by decide) (t := .int) (t' := (.array .int)) (by decide) (by decide)))).other W32 (Or.inr (slot_ne (Or.inr (own_hw hw 16)) (Or.inr (own_hw hw 24)) (by decide) (t := .int) (t' := (.array .int)) (by decide) (by decide)))).other W35 (Or.inr (slot_ne (Or.inr (own_hw hw 16)) (Or.inr (own_hw hw 26)) (by decide) (t := .int) (t' := (.array .int)) (by decide) (by decide)))).other W38 (Or.inr (slot_ne (Or.inr (own_hw hw 16)) (Or.inr (own_hw hw 28)) (by decide) (t := .int) (t' := (.array .int)) (by decide) (by decide)))).ext E41).other W44 (Or.inr (slot_ne (Or.inr (own_hw hw 16)) (Or.inr (own_hw hw 30)) (by decide) (t := .int) (t' := (.array .int)) (by decide) (by decide)))).keep K46 (ninS (own_ne (by omega)) nin0)).other W51 (Or.inr (slot_ne (Or.inr (own_hw hw 16)) (Or.inr (own_hw hw 47)) (by decide) (t := .int) (t' := (.array .int)) (by decide) (by decide)))).ext E54).other W57 (Or.inr (slot_ne (Or.inr (own_hw hw 16)) (Or.inr (own_hw hw 49)) (by decide) (t := .int) (t' := (.array .int)) (by decide) (by decide)))).keep K59 (ninS (own_ne (by omega)) nin0)).other W64 (Or.inr (slot_ne (Or.inr (own_hw hw 16)) (Or.inr (own_hw hw 51)) (by decide) (t := .int) (t' := (.array .int)) (by decide) (by decide)))).ext E76).other W79 (Or.inr (slot_ne (Or.inr (own_hw hw 16)) (Or.inr (own_hw hw 53)) (by decide) (t := .int) (t' := (.array .int)) (by decide) (by decide)))).ext E82).other W85 (Or.inr (slot_ne (Or.inr (own_hw hw 16)) (Or.inr (own_hw hw 55)) (by decide) (t := .int) (t' := (.array .int)) (by decide) (by decide))))
      obtain ⟨T87, X87, e87, st87⟩ := getF X85 hx hZ hown (host := "") (Or.inl (own_hw hw 15)) Via.refl e85 c86 (g := (mkF m 235 #[oR a1, oR pc, oR att, oR au, oR ao, oR us, .val (.long (((0 : Int64) + ca.toInt64) + cb.toInt64)), .second, oi 2, oi 2, oi 2, oi cb] [(.ref a1)])) rfl rfl (hb hby d1_235)
      refine own_go (st' := T87.setTop (mkF m 238 #[oR a1, oR pc, oR att, oR au, oR ao, oR us, .val (.long (((0 : Int64) + ca.toInt64) + cb.toInt64)), .second, oi 2, oi 2, oi 2, oi cb] [(.int (4 : Int32))])) (st87) ?_
      refine own_go (st' := T87.setTop (mkF m 239 #[oR a1, oR pc, oR att, oR au, oR ao, oR us, .val (.long (((0 : Int64) + ca.toInt64) + cb.toInt64)), .second, oi 2, oi 2, oi 2, oi cb] [(.int (1 : Int32)), (.int (4 : Int32))])) (fun _ k => XS.iconst X87.here hx rfl (hb hby d1_238) k) ?_
      refine own_go (st' := T87.setTop (mkF m 240 #[oR a1, oR pc, oR att, oR au, oR ao, oR us, .val (.long (((0 : Int64) + ca.toInt64) + cb.toInt64)), .second, oi 2, oi 2, oi 2, oi cb] [(.int (5 : Int32))])) (fun _ k => XS.iadd X87.here hx rfl (hb hby d1_239) rfl (by rw [show ((4 : Int32) + (1 : Int32)) = (5 : Int32) by decide]; exact k)) ?_
      refine own_go (st' := T87.setTop (mkF m 242 #[oR a1, oR pc, oR att, oR au, oR ao, oR us, .val (.long (((0 : Int64) + ca.toInt64) + cb.toInt64)), .second, oi 5, oi 2, oi 2, oi cb] [])) (fun _ k => XS.istore X87.here hx rfl (hb hby d1_240) rfl (l' := #[oR a1, oR pc, oR att, oR au, oR ao, oR us, .val (.long (((0 : Int64) + ca.toInt64) + cb.toInt64)), .second, oi 5, oi 2, oi 2, oi cb]) rfl k) ?_
      refine own_go (st' := T87.setTop (mkF m 243 #[oR a1, oR pc, oR att, oR au, oR ao, oR us, .val (.long (((0 : Int64) + ca.toInt64) + cb.toInt64)), .second, oi 5, oi 2, oi 2, oi cb] [(.ref a1)])) (fun _ k => XS.aloadN X87.here hx rfl (hb hby d1_242) rfl rfl k) ?_
      refine own_go (st' := T87.setTop (mkF m 245 #[oR a1, oR pc, oR att, oR au, oR ao, oR us, .val (.long (((0 : Int64) + ca.toInt64) + cb.toInt64)), .second, oi 5, oi 2, oi 2, oi cb] [(.int (5 : Int32)), (.ref a1)])) (fun _ k => XS.iload X87.here hx rfl (hb hby d1_243) rfl k) ?_
      obtain ⟨T88, h88, k88, X88, e88, E88, A88, st88⟩ := newP X87 hx hZ (own_hw hw 4) e87 (g := (mkF m 245 #[oR a1, oR pc, oR att, oR au, oR ao, oR us, .val (.long (((0 : Int64) + ca.toInt64) + cb.toInt64)), .second, oi 5, oi 2, oi 2, oi cb] [(.int (5 : Int32)), (.ref a1)])) rfl (hb hby d1_245) rfl (by decide) (cap := 5) (by decide) (by decide) (by decide) (by decide)
      obtain ⟨b88, g88⟩ : ∃ z, z = h85.size := ⟨_, rfl⟩
      rw [← g88] at A88 st88
      have sz88 : h85.size ≤ h88.size := E88.1
      have lt88 : @LT.lt Nat _ b88 h88.size := A88.lt
      have v88 : Arv Z h88 b88 k88 .int (5 : Int32) [(.int (0 : Int32)), (.int (0 : Int32)), (.int (0 : Int32)), (.int (0 : Int32)), (.int (0 : Int32))] (.int (0 : Int32)) := (Arv.new A88 (by decide)).pad (pad_rep [] (.int (0 : Int32)) 5)
      refine own_go (st' := T88.setTop (mkF m 247 #[oR a1, oR pc, oR att, oR au, oR ao, oR us, .val (.long (((0 : Int64) + ca.toInt64) + cb.toInt64)), .second, oi 5, oi 2, oi 2, oi cb] [(.ref b88), (.ref a1)])) (st88) ?_
      have c89 : Fld Z h88 a1 oS0 "excess" "[I" .null := ((((((((((((((((((((((pr17.other W9 (Or.inr (slot_ne (Or.inr (own_hw hw 57)) (Or.inr (own_hw hw 12)) (by decide) (t := (.array .int)) (t' := .int) (by decide) (by decide)))).other W14 (Or.inr (slot_ne (Or.inr (own_hw hw 57)) (Or.inr (own_hw hw 14)) (by decide) (t := (.array .int)) (t' := .int) (by decide) (by decide)))).other W20 (Or.inr (slot_ne (Or.inr (own_hw hw 57)) (Or.inr (own_hw hw 16)) (by decide) (t := (.array .int)) (t' := .int) (by decide) (by decide)))).other W23 (Or.inr (slot_ne (Or.inr (own_hw hw 57)) (Or.inr (own_hw hw 18)) (by decide) (t := (.array .int)) (t' := .int) (by decide) (by decide)))).other W26 (Or.inr (slot_ne (Or.inr (own_hw hw 57)) (Or.inr (own_hw hw 20)) (by decide) (t := (.array .int)) (t' := .long) (by decide) (by decide)))).other W29 (Or.inr (slot_ne (Or.inr (own_hw hw 57)) (Or.inr (own_hw hw 22)) (by decide) (t := (.array .int)) (t' := (.array .int)) (by decide) (by decide)))).other W32 (Or.inr (slot_ne (Or.inr (own_hw hw 57)) (Or.inr (own_hw hw 24)) (by decide) (t := (.array .int)) (t' := (.array .int)) (by decide) (by decide)))).other W35 (Or.inr (slot_ne (Or.inr (own_hw hw 57)) (Or.inr (own_hw hw 26)) (by decide) (t := (.array .int)) (t' := (.array .int)) (by decide) (by decide)))).other W38 (Or.inr (slot_ne (Or.inr (own_hw hw 57)) (Or.inr (own_hw hw 28)) (by decide) (t := (.array .int)) (t' := (.array .int)) (by decide) (by decide)))).ext E41).other W44 (Or.inr (slot_ne (Or.inr (own_hw hw 57)) (Or.inr (own_hw hw 30)) (by decide) (t := (.array .int)) (t' := (.array .int)) (by decide) (by decide)))).keep K46 (ninS (own_ne (by omega)) nin0)).other W51 (Or.inr (slot_ne (Or.inr (own_hw hw 57)) (Or.inr (own_hw hw 47)) (by decide) (t := (.array .int)) (t' := (.array .int)) (by decide) (by decide)))).ext E54).other W57 (Or.inr (slot_ne (Or.inr (own_hw hw 57)) (Or.inr (own_hw hw 49)) (by decide) (t := (.array .int)) (t' := (.array .int)) (by decide) (by decide)))).keep K59 (ninS (own_ne (by omega)) nin0)).other W64 (Or.inr (slot_ne (Or.inr (own_hw hw 57)) (Or.inr (own_hw hw 51)) (by decide) (t := (.array .int)) (t' := (.array .int)) (by decide) (by decide)))).ext E76).other W79 (Or.inr (slot_ne (Or.inr (own_hw hw 57)) (Or.inr (own_hw hw 53)) (by decide) (t := (.array .int)) (t' := (.array .int)) (by decide) (by decide)))).ext E82).other W85 (Or.inr (slot_ne (Or.inr (own_hw hw 57)) (Or.inr (own_hw hw 55)) (by decide) (t := (.array .int)) (t' := (.array .int)) (by decide) (by decide)))).ext E88)
      have c90 : Exa Z h88 a1 oS0 := ((c84.wr W85).ext E88)
      obtain ⟨T91, h91, X91, e91, W91, st91⟩ := putF X88 hx hZ hown (host := "") (Or.inl (own_hw hw 56)) Via.refl e88 c89 c90 (Or.inr ⟨(own_hw hw 57), rfl, hnm⟩) (own_hw hw 2) (ty := (.array .int)) (by decide) rfl rfl (g := (mkF m 247 #[oR a1, oR pc, oR att, oR au, oR ao, oR us, .val (.long (((0 : Int64) + ca.toInt64) + cb.toInt64)), .second, oi 5, oi 2, oi 2, oi cb] [(.ref b88), (.ref a1)])) rfl rfl (hb hby d1_247)
      have sz91 : h91.size = h88.size := W91.size
      have N91 := Fr.snoc X91 N85 (by omega)
      have f91 : Fld Z h91 a1 oS0 "excess" "[I" (.ref b88) := c89.same W91
      refine own_go (st' := T91.setTop (mkF m 250 #[oR a1, oR pc, oR att, oR au, oR ao, oR us, .val (.long (((0 : Int64) + ca.toInt64) + cb.toInt64)), .second, oi 5, oi 2, oi 2, oi cb] [])) (st91) ?_
      refine own_go (st' := T91.setTop (mkF m 251 #[oR a1, oR pc, oR att, oR au, oR ao, oR us, .val (.long (((0 : Int64) + ca.toInt64) + cb.toInt64)), .second, oi 5, oi 2, oi 2, oi cb] [(.ref pc)])) (fun _ k => XS.aloadN X91.here hx rfl (hb hby d1_250) rfl rfl k) ?_
      refine own_go (st' := T91.setTop (mkF m 252 #[oR a1, oR pc, oR att, oR au, oR ao, oR us, .val (.long (((0 : Int64) + ca.toInt64) + cb.toInt64)), .second, oi 5, oi 2, oi 2, oi cb] [(.int (0 : Int32)), (.ref pc)])) (fun _ k => XS.iconst X91.here hx rfl (hb hby d1_251) k) ?_
      refine own_go (st' := T91.setTop (mkF m 253 #[oR a1, oR pc, oR att, oR au, oR ao, oR us, .val (.long (((0 : Int64) + ca.toInt64) + cb.toInt64)), .second, oi 5, oi 2, oi 2, oi cb] [(.ref a1), (.int (0 : Int32)), (.ref pc)])) (fun _ k => XS.aloadN X91.here hx rfl (hb hby d1_252) rfl rfl k) ?_
      obtain ⟨T92, X92, e92, st92⟩ := getF X91 hx hZ hown (host := "") (Or.inl (own_hw hw 56)) Via.refl e91 f91 (g := (mkF m 253 #[oR a1, oR pc, oR att, oR au, oR ao, oR us, .val (.long (((0 : Int64) + ca.toInt64) + cb.toInt64)), .second, oi 5, oi 2, oi 2, oi cb] [(.ref a1), (.int (0 : Int32)), (.ref pc)])) rfl rfl (hb hby d1_253)
      refine own_go (st' := T92.setTop (mkF m 256 #[oR a1, oR pc, oR att, oR au, oR ao, oR us, .val (.long (((0 : Int64) + ca.toInt64) + cb.toInt64)), .second, oi 5, oi 2, oi 2, oi cb] [(.ref b88), (.int (0 : Int32)), (.ref pc)])) (st92) ?_
      refine own_go (st' := T92.setTop (mkF m 257 #[oR a1, oR pc, oR att, oR au, oR ao, oR us, .val (.long (((0 : Int64) + ca.toInt64) + cb.toInt64)), .second, oi 5, oi 2, oi 2, oi cb] [(.int (0 : Int32)), (.ref b88), (.int (0 : Int32)), (.ref pc)])) (fun _ k => XS.iconst X92.here hx rfl (hb hby d1_256) k) ?_
      refine own_go (st' := T92.setTop (mkF m 258 #[oR a1, oR pc, oR att, oR au, oR ao, oR us, .val (.long (((0 : Int64) + ca.toInt64) + cb.toInt64)), .second, oi 5, oi 2, oi 2, oi cb] [(.ref a1), (.int (0 : Int32)), (.ref b88), (.int (0 : Int32)), (.ref pc)])) (fun _ k => XS.aloadN X92.here hx rfl (hb hby d1_257) rfl rfl k) ?_
      have c93 : Fld Z h91 a1 oS0 "topicCount" "I" (.int (2 : Int32)) := ((((((c65.ext E76).other W79 (Or.inr (slot_ne (Or.inr (own_hw hw 12)) (Or.inr (own_hw hw 53)) (by decide) (t := .int) (t' := (.array .int)) (by decide) (by decide)))).ext E82).other W85 (Or.inr (slot_ne (Or.inr (own_hw hw 12)) (Or.inr (own_hw hw 55)) (by decide) (t := .int) (t' := (.array .int)) (by decide) (by decide)))).ext E88).other W91 (Or.inr (slot_ne (Or.inr (own_hw hw 12)) (Or.inr (own_hw hw 57)) (by decide) (t := .int) (t' := (.array .int)) (by decide) (by decide))))
      obtain ⟨T94, X94, e94, st94⟩ := getF X92 hx hZ hown (host := "") (Or.inl (own_hw hw 11)) Via.refl e92 c93 (g := (mkF m 258 #[oR a1, oR pc, oR att, oR au, oR ao, oR us, .val (.long (((0 : Int64) + ca.toInt64) + cb.toInt64)), .second, oi 5, oi 2, oi 2, oi cb] [(.ref a1), (.int (0 : Int32)), (.ref b88), (.int (0 : Int32)), (.ref pc)])) rfl rfl (hb hby d1_258)
      refine own_go (st' := T94.setTop (mkF m 261 #[oR a1, oR pc, oR att, oR au, oR ao, oR us, .val (.long (((0 : Int64) + ca.toInt64) + cb.toInt64)), .second, oi 5, oi 2, oi 2, oi cb] [(.int (2 : Int32)), (.int (0 : Int32)), (.ref b88), (.int (0 : Int32)), (.ref pc)])) (st94) ?_
      have c96 : Arv Z h91 pc kpc .int (2 : Int32) [(.int ca), (.int cb)] (.int (0 : Int32)) := (((((((((((((((((((((((pr26.other W9 (own_ne (by omega))).other W14 (own_ne (by omega))).other W20 (own_ne (by omega))).other W23 (own_ne (by omega))).other W26 (own_ne (by omega))).other W29 (own_ne (by omega))).other W32 (own_ne (by omega))).other W35 (own_ne (by omega))).other W38 (own_ne (by omega))).ext E41).other W44 (own_ne (by omega))).keep K46 (ninS (own_ne (by omega)) nin0)).other W51 (own_ne (by omega))).ext E54).other W57 (own_ne (by omega))).keep K59 (ninS (own_ne (by omega)) nin0)).other W64 (own_ne (by omega))).ext E76).other W79 (own_ne (by omega))).ext E82).other W85 (own_ne (by omega))).ext E88).other W91 (own_ne (by omega)))
      have c97 : Arv Z h91 b88 k88 .int (5 : Int32) [(.int (0 : Int32)), (.int (0 : Int32)), (.int (0 : Int32)), (.int (0 : Int32)), (.int (0 : Int32))] (.int (0 : Int32)) := (v88.other W91 (own_ne (by omega)))
      obtain ⟨T95, h95, LL95, X95, e95, N95, K95, V95, st95⟩ := cpA X94 hx hZ hown (own_hw hw 58) (own_hw hw 45) (own_hw hw 43) (own_hw hw 44) e94 c96 c97 (us := [(.int ca), (.int cb)]) (Or.inl ⟨rfl, rfl⟩) (sp := (0 : Int32)) (dp := (0 : Int32)) (nn := (2 : Int32)) (by decide) (by decide) (by decide) (by decide) (by decide) rfl (by decide) N91 (by omega) (g := (mkF m 261 #[oR a1, oR pc, oR att, oR au, oR ao, oR us, .val (.long (((0 : Int64) + ca.toInt64) + cb.toInt64)), .second, oi 5, oi 2, oi 2, oi cb] [(.int (2 : Int32)), (.int (0 : Int32)), (.ref b88), (.int (0 : Int32)), (.ref pc)])) rfl (by rw [hml]; rfl) rfl (hb hby d1_261) (by decide) (W := 0) (by show 2 * 0 + _ ≤ _; exact Nat.le_of_eq rfl) (by decide)
      have sz95 : h91.size ≤ h95.size := K95.1
      have v95 : Arv Z h95 b88 k88 .int (5 : Int32) [(.int ca), (.int cb), (.int (0 : Int32)), (.int (0 : Int32)), (.int (0 : Int32))] (.int (0 : Int32)) := V95
      refine own_go (st' := T95.setTop (mkF m 264 #[oR a1, oR pc, oR att, oR au, oR ao, oR us, .val (.long (((0 : Int64) + ca.toInt64) + cb.toInt64)), .second, oi 5, oi 2, oi 2, oi cb] [])) (st95) ?_
      refine own_go (st' := T95.setTop (mkF m 265 #[oR a1, oR pc, oR att, oR au, oR ao, oR us, .val (.long (((0 : Int64) + ca.toInt64) + cb.toInt64)), .second, oi 5, oi 2, oi 2, oi cb] [(.ref a1)])) (fun _ k => XS.aloadN X95.here hx rfl (hb hby d1_264) rfl rfl k) ?_
      refine own_go (st' := T95.setTop (mkF m 267 #[oR a1, oR pc, oR att, oR au, oR ao, oR us, .val (.long (((0 : Int64) + ca.toInt64) + cb.toInt64)), .second, oi 5, oi 2, oi 2, oi cb] [(.int (5 : Int32)), (.ref a1)])) (fun _ k => XS.iload X95.here hx rfl (hb hby d1_265) rfl k) ?_
      obtain ⟨T98, h98, k98, X98, e98, E98, A98, st98⟩ := newP X95 hx hZ (own_hw hw 59) e95 (g := (mkF m 267 #[oR a1, oR pc, oR att, oR au, oR ao, oR us, .val (.long (((0 : Int64) + ca.toInt64) + cb.toInt64)), .second, oi 5, oi 2, oi 2, oi cb] [(.int (5 : Int32)), (.ref a1)])) rfl (hb hby d1_267) rfl (by decide) (cap := 5) (by decide) (by decide) (by decide) (by decide)
      obtain ⟨b98, g98⟩ : ∃ z, z = h95.size := ⟨_, rfl⟩
      rw [← g98] at A98 st98
      have sz98 : h95.size ≤ h98.size := E98.1
      have lt98 : @LT.lt Nat _ b98 h98.size := A98.lt
      have v98 : Arv Z h98 b98 k98 .long (5 : Int32) [(.long (0 : Int64)), (.long (0 : Int64)), (.long (0 : Int64)), (.long (0 : Int64)), (.long (0 : Int64))] (.long (0 : Int64)) := (Arv.new A98 (by decide)).pad (pad_rep [] (.long (0 : Int64)) 5)
      refine own_go (st' := T98.setTop (mkF m 269 #[oR a1, oR pc, oR att, oR au, oR ao, oR us, .val (.long (((0 : Int64) + ca.toInt64) + cb.toInt64)), .second, oi 5, oi 2, oi 2, oi cb] [(.ref b98), (.ref a1)])) (st98) ?_
      have c99 : Fld Z h98 a1 oS0 "potential" "[J" .null := (((((((((((((((((((((((((pr23.other W9 (Or.inr (slot_ne (Or.inr (own_hw hw 61)) (Or.inr (own_hw hw 12)) (by decide) (t := (.array .long)) (t' := .int) (by decide) (by decide)))).other W14 (Or.inr (slot_ne (Or.inr (own_hw hw 61)) (Or.inr (own_hw hw 14)) (by decide) (t := (.array .long)) (t' := .int) (by decide) (by decide)))).other W20 (Or.inr (slot_ne (Or.inr (own_hw hw 61)) (Or.inr (own_hw hw 16)) (by decide) (t := (.array .long)) (t' := .int) (by decide) (by decide)))).other W23 (Or.inr (slot_ne (Or.inr (own_hw hw 61)) (Or.inr (own_hw hw 18)) (by decide) (t := (.array .long)) (t' := .int) (by decide) (by decide)))).other W26 (Or.inr (slot_ne (Or.inr (own_hw hw 61)) (Or.inr (own_hw hw 20)) (by decide) (t := (.array .long)) (t' := .long) (by decide) (by decide)))).other W29 (Or.inr (slot_ne (Or.inr (own_hw hw 61)) (Or.inr (own_hw hw 22)) (by decide) (t := (.array .long)) (t' := (.array .int)) (by decide) (by decide)))).other W32 (Or.inr (slot_ne (Or.inr (own_hw hw 61)) (Or.inr (own_hw hw 24)) (by decide) (t := (.array .long)) (t' := (.array .int)) (by decide) (by decide)))).other W35 (Or.inr (slot_ne (Or.inr (own_hw hw 61)) (Or.inr (own_hw hw 26)) (by decide) (t := (.array .long)) (t' := (.array .int)) (by decide) (by decide)))).other W38 (Or.inr (slot_ne (Or.inr (own_hw hw 61)) (Or.inr (own_hw hw 28)) (by decide) (t := (.array .long)) (t' := (.array .int)) (by decide) (by decide)))).ext E41).other W44 (Or.inr (slot_ne (Or.inr (own_hw hw 61)) (Or.inr (own_hw hw 30)) (by decide) (t := (.array .long)) (t' := (.array .int)) (by decide) (by decide)))).keep K46 (ninS (own_ne (by omega)) nin0)).other W51 (Or.inr (slot_ne (Or.inr (own_hw hw 61)) (Or.inr (own_hw hw 47)) (by decide) (t := (.array .long)) (t' := (.array .int)) (by decide) (by decide)))).ext E54).other W57 (Or.inr (slot_ne (Or.inr (own_hw hw 61)) (Or.inr (own_hw hw 49)) (by decide) (t := (.array .long)) (t' := (.array .int)) (by decide) (by decide)))).keep K59 (ninS (own_ne (by omega)) nin0)).other W64 (Or.inr (slot_ne (Or.inr (own_hw hw 61)) (Or.inr (own_hw hw 51)) (by decide) (t := (.array .long)) (t' := (.array .int)) (by decide) (by decide)))).ext E76).other W79 (Or.inr (slot_ne (Or.inr (own_hw hw 61)) (Or.inr (own_hw hw 53)) (by decide) (t := (.array .long)) (t' := (.array .int)) (by decide) (by decide)))).ext E82).other W85 (Or.inr (slot_ne (Or.inr (own_hw hw 61)) (Or.inr (own_hw hw 55)) (by decide) (t := (.array .long)) (t' := (.array .int)) (by decide) (by decide)))).ext E88).other W91 (Or.inr (slot_ne (Or.inr (own_hw hw 61)) (Or.inr (own_hw hw 57)) (by decide) (t := (.array .long)) (t' := (.array .int)) (by decide) (by decide)))).keep K95 (ninS (own_ne (by omega)) nin0)).ext E98)
      have c100 : Exa Z h98 a1 oS0 := (((c90.wr W91).keep K95).ext E98)
      obtain ⟨T101, h101, X101, e101, W101, st101⟩ := putF X98 hx hZ hown (host := "") (Or.inl (own_hw hw 60)) Via.refl e98 c99 c100 (Or.inr ⟨(own_hw hw 61), rfl, hnm⟩) (own_hw hw 2) (ty := (.array .long)) (by decide) rfl rfl (g := (mkF m 269 #[oR a1, oR pc, oR att, oR au, oR ao, oR us, .val (.long (((0 : Int64) + ca.toInt64) + cb.toInt64)), .second, oi 5, oi 2, oi 2, oi cb] [(.ref b98), (.ref a1)])) rfl rfl (hb hby d1_269)
      have sz101 : h101.size = h98.size := W101.size
      have N101 := Fr.snoc X101 N95 (by omega)
      have f101 : Fld Z h101 a1 oS0 "potential" "[J" (.ref b98) := c99.same W101
      refine own_go (st' := T101.setTop (mkF m 272 #[oR a1, oR pc, oR att, oR au, oR ao, oR us, .val (.long (((0 : Int64) + ca.toInt64) + cb.toInt64)), .second, oi 5, oi 2, oi 2, oi cb] [])) (st101) ?_
      refine own_go (st' := T101.setTop (mkF m 273 #[oR a1, oR pc, oR att, oR au, oR ao, oR us, .val (.long (((0 : Int64) + ca.toInt64) + cb.toInt64)), .second, oi 5, oi 2, oi 2, oi cb] [(.ref a1)])) (fun _ k => XS.aloadN X101.here hx rfl (hb hby d1_272) rfl rfl k) ?_
      refine own_go (st' := T101.setTop (mkF m 275 #[oR a1, oR pc, oR att, oR au, oR ao, oR us, .val (.long (((0 : Int64) + ca.toInt64) + cb.toInt64)), .second, oi 5, oi 2, oi 2, oi cb] [(.int (5 : Int32)), (.ref a1)])) (fun _ k => XS.iload X101.here hx rfl (hb hby d1_273) rfl k) ?_
      obtain ⟨T102, h102, k102, X102, e102, E102, A102, st102⟩ := newP X101 hx hZ (own_hw hw 59) e101 (g := (mkF m 275 #[oR a1, oR pc, oR att, oR au, oR ao, oR us, .val (.long (((0 : Int64) + ca.toInt64) + cb.toInt64)), .second, oi 5, oi 2, oi 2, oi cb] [(.int (5 : Int32)), (.ref a1)])) rfl (hb hby d1_275) rfl (by decide) (cap := 5) (by decide) (by decide) (by decide) (by decide)
      obtain ⟨b102, g102⟩ : ∃ z, z = h101.size := ⟨_, rfl⟩
      rw [← g102] at A102 st102
      have sz102 : h101.size ≤ h102.size := E102.1
      have lt102 : @LT.lt Nat _ b102 h102.size := A102.lt
      have v102 : Arv Z h102 b102 k102 .long (5 : Int32) [(.long (0 : Int64)), (.long (0 : Int64)), (.long (0 : Int64)), (.long (0 : Int64)), (.long (0 : Int64))] (.long (0 : Int64)) := (Arv.new A102 (by decide)).pad (pad_rep [] (.long (0 : Int64)) 5)
      refine own_go (st' := T102.setTop (mkF m 277 #[oR a1, oR pc, oR att, oR au, oR ao, oR us, .val (.long (((0 : Int64) + ca.toInt64) + cb.toInt64)), .second, oi 5, oi 2, oi 2, oi cb] [(.ref b102), (.ref a1)])) (st102) ?_
      have c103 : Fld Z h102 a1 oS0 "distance" "[J" .null := (((((((((((((((((((((((((((pr24.other W9 (Or.inr (slot_ne (Or.inr (own_hw hw 63)) (Or.inr (own_hw hw 12)) (by decide) (t := (.array .long)) (t' := .int) (by decide) (by decide)))).other W14 (Or.inr (slot_ne (Or.inr (own_hw hw 63)) (Or.inr (own_hw hw 14)) (by decide) (t := (.array .long)) (t' := .int) (by decide) (by decide)))).other W20 (Or.inr (slot_ne (Or.inr (own_hw hw 63)) (Or.inr (own_hw hw 16)) (by decide) (t := (.array .long)) (t' := .int) (by decide) (by decide)))).other W23 (Or.inr (slot_ne (Or.inr (own_hw hw 63)) (Or.inr (own_hw hw 18)) (by decide) (t := (.array .long)) (t' := .int) (by decide) (by decide)))).other W26 (Or.inr (slot_ne (Or.inr (own_hw hw 63)) (Or.inr (own_hw hw 20)) (by decide) (t := (.array .long)) (t' := .long) (by decide) (by decide)))).other W29 (Or.inr (slot_ne (Or.inr (own_hw hw 63)) (Or.inr (own_hw hw 22)) (by decide) (t := (.array .long)) (t' := (.array .int)) (by decide) (by decide)))).other W32 (Or.inr (slot_ne (Or.inr (own_hw hw 63)) (Or.inr (own_hw hw 24)) (by decide) (t := (.array .long)) (t' := (.array .int)) (by decide) (by decide)))).other W35 (Or.inr (slot_ne (Or.inr (own_hw hw 63)) (Or.inr (own_hw hw 26)) (by decide) (t := (.array .long)) (t' := (.array .int)) (by decide) (by decide)))).other W38 (Or.inr (slot_ne (Or.inr (own_hw hw 63)) (Or.inr (own_hw hw 28)) (by decide) (t := (.array .long)) (t' := (.array .int)) (by decide) (by decide)))).ext E41).other W44 (Or.inr (slot_ne (Or.inr (own_hw hw 63)) (Or.inr (own_hw hw 30)) (by decide) (t := (.array .long)) (t' := (.array .int)) (by decide) (by decide)))).keep K46 (ninS (own_ne (by omega)) nin0)).other W51 (Or.inr (slot_ne (Or.inr (own_hw hw 63)) (Or.inr (own_hw hw 47)) (by decide) (t := (.array .long)) (t' := (.array .int)) (by decide) (by decide)))).ext E54).other W57 (Or.inr (slot_ne (Or.inr (own_hw hw 63)) (Or.inr (own_hw hw 49)) (by decide) (t := (.array .long)) (t' := (.array .int)) (by decide) (by decide)))).keep K59 (ninS (own_ne (by omega)) nin0)).other W64 (Or.inr (slot_ne (Or.inr (own_hw hw 63)) (Or.inr (own_hw hw 51)) (by decide) (t := (.array .long)) (t' := (.array .int)) (by decide) (by decide)))).ext E76).other W79 (Or.inr (slot_ne (Or.inr (own_hw hw 63)) (Or.inr (own_hw hw 53)) (by decide) (t := (.array .long)) (t' := (.array .int)) (by decide) (by decide)))).ext E82).other W85 (Or.inr (slot_ne (Or.inr (own_hw hw 63)) (Or.inr (own_hw hw 55)) (by decide) (t := (.array .long)) (t' := (.array .int)) (by decide) (by decide)))).ext E88).other W91 (Or.inr (slot_ne (Or.inr (own_hw hw 63)) (Or.inr (own_hw hw 57)) (by decide) (t := (.array .long)) (t' := (.array .int)) (by decide) (by decide)))).keep K95 (ninS (own_ne (by omega)) nin0)).ext E98).other W101 (Or.inr (slot_ne (Or.inr (own_hw hw 63)) (Or.inr (own_hw hw 61)) (by decide) (t := (.array .long)) (t' := (.array .long)) (by decide) (by decide)))).ext E102)
      have c104 : Exa Z h102 a1 oS0 := ((c100.wr W101).ext E102)
      obtain ⟨T105, h105, X105, e105, W105, st105⟩ := putF X102 hx hZ hown (host := "") (Or.inl (own_hw hw 62)) Via.refl e102 c103 c104 (Or.inr ⟨(own_hw hw 63), rfl, hnm⟩) (own_hw hw 2) (ty := (.array .long)) (by decide) rfl rfl (g := (mkF m 277 #[oR a1, oR pc, oR att, oR au, oR ao, oR us, .val (.long (((0 : Int64) + ca.toInt64) + cb.toInt64)), .second, oi 5, oi 2, oi 2, oi cb] [(.ref b102), (.ref a1)])) rfl rfl (hb hby d1_277)
      have sz105 : h105.size = h102.size := W105.size
      have N105 := Fr.snoc X105 N101 (by omega)
      have f105 : Fld Z h105 a1 oS0 "distance" "[J" (.ref b102) := c103.same W105
      refine own_go (st' := T105.setTop (mkF m 280 #[oR a1, oR pc, oR att, oR au, oR ao, oR us, .val (.long (((0 : Int64) + ca.toInt64) + cb.toInt64)), .second, oi 5, oi 2, oi 2, oi cb] [])) (st105) ?_
      refine own_go (st' := T105.setTop (mkF m 281 #[oR a1, oR pc, oR att, oR au, oR ao, oR us, .val (.long (((0 : Int64) + ca.toInt64) + cb.toInt64)), .second, oi 5, oi 2, oi 2, oi cb] [(.ref a1)])) (fun _ k => XS.aloadN X105.here hx rfl (hb hby d1_280) rfl rfl k) ?_
      refine own_go (st' := T105.setTop (mkF m 283 #[oR a1, oR pc, oR att, oR au, oR ao, oR us, .val (.long (((0 : Int64) + ca.toInt64) + cb.toInt64)), .second, oi 5, oi 2, oi 2, oi cb] [(.int (5 : Int32)), (.ref a1)])) (fun _ k => XS.iload X105.here hx rfl (hb hby d1_281) rfl k) ?_
      obtain ⟨T106, h106, k106, X106, e106, E106, A106, st106⟩ := newP X105 hx hZ (own_hw hw 4) e105 (g := (mkF m 283 #[oR a1, oR pc, oR att, oR au, oR ao, oR us, .val (.long (((0 : Int64) + ca.toInt64) + cb.toInt64)), .second, oi 5, oi 2, oi 2, oi cb] [(.int (5 : Int32)), (.ref a1)])) rfl (hb hby d1_283) rfl (by decide) (cap := 5) (by decide) (by decide) (by decide) (by decide)
      obtain ⟨b106, g106⟩ : ∃ z, z = h105.size := ⟨_, rfl⟩
      rw [← g106] at A106 st106
      have sz106 : h105.size ≤ h106.size := E106.1
      have lt106 : @LT.lt Nat _ b106 h106.size := A106.lt
      have v106 : Arv Z h106 b106 k106 .int (5 : Int32) [(.int (0 : Int32)), (.int (0 : Int32)), (.int (0 : Int32)), (.int (0 : Int32)), (.int (0 : Int32))] (.int (0 : Int32)) := (Arv.new A106 (by decide)).pad (pad_rep [] (.int (0 : Int32)) 5)
      refine own_go (st' := T106.setTop (mkF m 285 #[oR a1, oR pc, oR att, oR au, oR ao, oR us, .val (.long (((0 : Int64) + ca.toInt64) + cb.toInt64)), .second, oi 5, oi 2, oi 2, oi cb] [(.ref b106), (.ref a1)])) (st106) ?_
      have c107 : Fld Z h106 a1 oS0 "level" "[I" .null := (((((((((((((((((((((((((((((pr18.other W9 (Or.inr (slot_ne (Or.inr (own_hw hw 65)) (Or.inr (own_hw hw 12)) (by decide) (t := (.array .int)) (t' := .int) (by decide) (by decide)))).other W14 (Or.inr (slot_ne (Or.inr (own_hw hw 65)) (Or.inr (own_hw hw 14)) (by decide) (t := (.array .int)) (t' := .int) (by decide) (by decide)))).other W20 (Or.inr (slot_ne (Or.inr (own_hw hw 65)) (Or.inr (own_hw hw 16)) (by decide) (t := (.array .int)) (t' := .int) (by decide) (by decide)))).other W23 (Or.inr (slot_ne (Or.inr (own_hw hw 65)) (Or.inr (own_hw hw 18)) (by decide) (t := (.array .int)) (t' := .int) (by decide) (by decide)))).other W26 (Or.inr (slot_ne (Or.inr (own_hw hw 65)) (Or.inr (own_hw hw 20)) (by decide) (t := (.array .int)) (t' := .long) (by decide) (by decide)))).other W29 (Or.inr (slot_ne (Or.inr (own_hw hw 65)) (Or.inr (own_hw hw 22)) (by decide) (t := (.array .int)) (t' := (.array .int)) (by decide) (by decide)))).other W32 (Or.inr (slot_ne (Or.inr (own_hw hw 65)) (Or.inr (own_hw hw 24)) (by decide) (t := (.array .int)) (t' := (.array .int)) (by decide) (by decide)))).other W35 (Or.inr (slot_ne (Or.inr (own_hw hw 65)) (Or.inr (own_hw hw 26)) (by decide) (t := (.array .int)) (t' := (.array .int)) (by decide) (by decide)))).other W38 (Or.inr (slot_ne (Or.inr (own_hw hw 65)) (Or.inr (own_hw hw 28)) (by decide) (t := (.array .int)) (t' := (.array .int)) (by decide) (by decide)))).ext E41).other W44 (Or.inr (slot_ne (Or.inr (own_hw hw 65)) (Or.inr (own_hw hw 30)) (by decide) (t := (.array .int)) (t' := (.array .int)) (by decide) (by decide)))).keep K46 (ninS (own_ne (by omega)) nin0)).other W51 (Or.inr (slot_ne (Or.inr (own_hw hw 65)) (Or.inr (own_hw hw 47)) (by decide) (t := (.array .int)) (t' := (.array .int)) (by decide) (by decide)))).ext E54).other W57 (Or.inr (slot_ne (Or.inr (own_hw hw 65)) (Or.inr (own_hw hw 49)) (by decide) (t := (.array .int)) (t' := (.array .int)) (by decide) (by decide)))).keep K59 (ninS (own_ne (by omega)) nin0)).other W64 (Or.inr (slot_ne (Or.inr (own_hw hw 65)) (Or.inr (own_hw hw 51)) (by decide) (t := (.array .int)) (t' := (.array .int)) (by decide) (by decide)))).ext E76).other W79 (Or.inr (slot_ne (Or.inr (own_hw hw 65)) (Or.inr (own_hw hw 53)) (by decide) (t := (.array .int)) (t' := (.array .int)) (by decide) (by decide)))).ext E82).other W85 (Or.inr (slot_ne (Or.inr (own_hw hw 65)) (Or.inr (own_hw hw 55)) (by decide) (t := (.array .int)) (t' := (.array .int)) (by decide) (by decide)))).ext E88).other W91 (Or.inr (slot_ne (Or.inr (own_hw hw 65)) (Or.inr (own_hw hw 57)) (by decide) (t := (.array .int)) (t' := (.array .int)) (by decide) (by decide)))).keep K95 (ninS (own_ne (by omega)) nin0)).ext E98).other W101 (Or.inr (slot_ne (Or.inr (own_hw hw 65)) (Or.inr (own_hw hw 61)) (by decide) (t := (.array .int)) (t' := (.array .long)) (by decide) (by decide)))).ext E102).other W105 (Or.inr (slot_ne (Or.inr (own_hw hw 65)) (Or.inr (own_hw hw 63)) (by decide) (t := (.array .int)) (t' := (.array .long)) (by decide) (by decide)))).ext E106)
      have c108 : Exa Z h106 a1 oS0 := ((c104.wr W105).ext E106)
      obtain ⟨T109, h109, X109, e109, W109, st109⟩ := putF X106 hx hZ hown (host := "") (Or.inl (own_hw hw 64)) Via.refl e106 c107 c108 (Or.inr ⟨(own_hw hw 65), rfl, hnm⟩) (own_hw hw 2) (ty := (.array .int)) (by decide) rfl rfl (g := (mkF m 285 #[oR a1, oR pc, oR att, oR au, oR ao, oR us, .val (.long (((0 : Int64) + ca.toInt64) + cb.toInt64)), .second, oi 5, oi 2, oi 2, oi cb] [(.ref b106), (.ref a1)])) rfl rfl (hb hby d1_285)
      have sz109 : h109.size = h106.size := W109.size
      have N109 := Fr.snoc X109 N105 (by omega)
      have f109 : Fld Z h109 a1 oS0 "level" "[I" (.ref b106) := c107.same W109
      refine own_go (st' := T109.setTop (mkF m 288 #[oR a1, oR pc, oR att, oR au, oR ao, oR us, .val (.long (((0 : Int64) + ca.toInt64) + cb.toInt64)), .second, oi 5, oi 2, oi 2, oi cb] [])) (st109) ?_
      refine own_go (st' := T109.setTop (mkF m 289 #[oR a1, oR pc, oR att, oR au, oR ao, oR us, .val (.long (((0 : Int64) + ca.toInt64) + cb.toInt64)), .second, oi 5, oi 2, oi 2, oi cb] [(.ref a1)])) (fun _ k => XS.aloadN X109.here hx rfl (hb hby d1_288) rfl rfl k) ?_
      refine own_go (st' := T109.setTop (mkF m 291 #[oR a1, oR pc, oR att, oR au, oR ao, oR us, .val (.long (((0 : Int64) + ca.toInt64) + cb.toInt64)), .second, oi 5, oi 2, oi 2, oi cb] [(.int (5 : Int32)), (.ref a1)])) (fun _ k => XS.iload X109.here hx rfl (hb hby d1_289) rfl k) ?_
      obtain ⟨T110, h110, k110, X110, e110, E110, A110, st110⟩ := newP X109 hx hZ (own_hw hw 4) e109 (g := (mkF m 291 #[oR a1, oR pc, oR att, oR au, oR ao, oR us, .val (.long (((0 : Int64) + ca.toInt64) + cb.toInt64)), .second, oi 5, oi 2, oi 2, oi cb] [(.int (5 : Int32)), (.ref a1)])) rfl (hb hby d1_291) rfl (by decide) (cap := 5) (by decide) (by decide) (by decide) (by decide)
      obtain ⟨b110, g110⟩ : ∃ z, z = h109.size := ⟨_, rfl⟩
      rw [← g110] at A110 st110
      have sz110 : h109.size ≤ h110.size := E110.1
      have lt110 : @LT.lt Nat _ b110 h110.size := A110.lt
      have v110 : Arv Z h110 b110 k110 .int (5 : Int32) [(.int (0 : Int32)), (.int (0 : Int32)), (.int (0 : Int32)), (.int (0 : Int32)), (.int (0 : Int32))] (.int (0 : Int32)) := (Arv.new A110 (by decide)).pad (pad_rep [] (.int (0 : Int32)) 5)
      refine own_go (st' := T110.setTop (mkF m 293 #[oR a1, oR pc, oR att, oR au, oR ao, oR us, .val (.long (((0 : Int64) + ca.toInt64) + cb.toInt64)), .second, oi 5, oi 2, oi 2, oi cb] [(.ref b110), (.ref a1)])) (st110) ?_
      have c111 : Fld Z h110 a1 oS0 "queue" "[I" .null := (((((((((((((((((((((((((((((((pr19.other W9 (Or.inr (slot_ne (Or.inr (own_hw hw 67)) (Or.inr (own_hw hw 12)) (by decide) (t := (.array .int)) (t' := .int) (by decide) (by decide)))).other W14 (Or.inr (slot_ne (Or.inr (own_hw hw 67)) (Or.inr (own_hw hw 14)) (by decide) (t := (.array .int)) (t' := .int) (by decide) (by decide)))).other W20 (Or.inr (slot_ne (Or.inr (own_hw hw 67)) (Or.inr (own_hw hw 16)) (by decide) (t := (.array .int)) (t' := .int) (by decide) (by decide)))).other W23 (Or.inr (slot_ne (Or.inr (own_hw hw 67)) (Or.inr (own_hw hw 18)) (by decide) (t := (.array .int)) (t' := .int) (by decide) (by decide)))).other W26 (Or.inr (slot_ne (Or.inr (own_hw hw 67)) (Or.inr (own_hw hw 20)) (by decide) (t := (.array .int)) (t' := .long) (by decide) (by decide)))).other W29 (Or.inr (slot_ne (Or.inr (own_hw hw 67)) (Or.inr (own_hw hw 22)) (by decide) (t := (.array .int)) (t' := (.array .int)) (by decide) (by decide)))).other W32 (Or.inr (slot_ne (Or.inr (own_hw hw 67)) (Or.inr (own_hw hw 24)) (by decide) (t := (.array .int)) (t' := (.array .int)) (by decide) (by decide)))).other W35 (Or.inr (slot_ne (Or.inr (own_hw hw 67)) (Or.inr (own_hw hw 26)) (by decide) (t := (.array .int)) (t' := (.array .int)) (by decide) (by decide)))).other W38 (Or.inr (slot_ne (Or.inr (own_hw hw 67)) (Or.inr (own_hw hw 28)) (by decide) (t := (.array .int)) (t' := (.array .int)) (by decide) (by decide)))).ext E41).other W44 (Or.inr (slot_ne (Or.inr (own_hw hw 67)) (Or.inr (own_hw hw 30)) (by decide) (t := (.array .int)) (t' := (.array .int)) (by decide) (by decide)))).keep K46 (ninS (own_ne (by omega)) nin0)).other W51 (Or.inr (slot_ne (Or.inr (own_hw hw 67)) (Or.inr (own_hw hw 47)) (by decide) (t := (.array .int)) (t' := (.array .int)) (by decide) (by decide)))).ext E54).other W57 (Or.inr (slot_ne (Or.inr (own_hw hw 67)) (Or.inr (own_hw hw 49)) (by decide) (t := (.array .int)) (t' := (.array .int)) (by decide) (by decide)))).keep K59 (ninS (own_ne (by omega)) nin0)).other W64 (Or.inr (slot_ne (Or.inr (own_hw hw 67)) (Or.inr (own_hw hw 51)) (by decide) (t := (.array .int)) (t' := (.array .int)) (by decide) (by decide)))).ext E76).other W79 (Or.inr (slot_ne (Or.inr (own_hw hw 67)) (Or.inr (own_hw hw 53)) (by decide) (t := (.array .int)) (t' := (.array .int)) (by decide) (by decide)))).ext E82).other W85 (Or.inr (slot_ne (Or.inr (own_hw hw 67)) (Or.inr (own_hw hw 55)) (by decide) (t := (.array .int)) (t' := (.array .int)) (by decide) (by decide)))).ext E88).other W91 (Or.inr (slot_ne (Or.inr (own_hw hw 67)) (Or.inr (own_hw hw 57)) (by decide) (t := (.array .int)) (t' := (.array .int)) (by decide) (by decide)))).keep K95 (ninS (own_ne (by omega)) nin0)).ext E98).other W101 (Or.inr (slot_ne (Or.inr (own_hw hw 67)) (Or.inr (own_hw hw 61)) (by decide) (t := (.array .int)) (t' := (.array .long)) (by decide) (by decide)))).ext E102).other W105 (Or.inr (slot_ne (Or.inr (own_hw hw 67)) (Or.inr (own_hw hw 63)) (by decide) (t := (.array .int)) (t' := (.array .long)) (by decide) (by decide)))).ext E106).other W109 (Or.inr (slot_ne (Or.inr (own_hw hw 67)) (Or.inr (own_hw hw 65)) (by decide) (t := (.array .int)) (t' := (.array .int)) (by decide) (by decide)))).ext E110)
      have c112 : Exa Z h110 a1 oS0 := ((c108.wr W109).ext E110)
      obtain ⟨T113, h113, X113, e113, W113, st113⟩ := putF X110 hx hZ hown (host := "") (Or.inl (own_hw hw 66)) Via.refl e110 c111 c112 (Or.inr ⟨(own_hw hw 67), rfl, hnm⟩) (own_hw hw 2) (ty := (.array .int)) (by decide) rfl rfl (g := (mkF m 293 #[oR a1, oR pc, oR att, oR au, oR ao, oR us, .val (.long (((0 : Int64) + ca.toInt64) + cb.toInt64)), .second, oi 5, oi 2, oi 2, oi cb] [(.ref b110), (.ref a1)])) rfl rfl (hb hby d1_293)
      have sz113 : h113.size = h110.size := W113.size
      have N113 := Fr.snoc X113 N109 (by omega)
      have f113 : Fld Z h113 a1 oS0 "queue" "[I" (.ref b110) := c111.same W113
      refine own_go (st' := T113.setTop (mkF m 296 #[oR a1, oR pc, oR att, oR au, oR ao, oR us, .val (.long (((0 : Int64) + ca.toInt64) + cb.toInt64)), .second, oi 5, oi 2, oi 2, oi cb] [])) (st113) ?_
      refine own_go (st' := T113.setTop (mkF m 297 #[oR a1, oR pc, oR att, oR au, oR ao, oR us, .val (.long (((0 : Int64) + ca.toInt64) + cb.toInt64)), .second, oi 5, oi 2, oi 2, oi cb] [(.ref a1)])) (fun _ k => XS.aloadN X113.here hx rfl (hb hby d1_296) rfl rfl k) ?_
      refine own_go (st' := T113.setTop (mkF m 299 #[oR a1, oR pc, oR att, oR au, oR ao, oR us, .val (.long (((0 : Int64) + ca.toInt64) + cb.toInt64)), .second, oi 5, oi 2, oi 2, oi cb] [(.int (5 : Int32)), (.ref a1)])) (fun _ k => XS.iload X113.here hx rfl (hb hby d1_297) rfl k) ?_
      obtain ⟨T114, h114, k114, X114, e114, E114, A114, st114⟩ := newP X113 hx hZ (own_hw hw 4) e113 (g := (mkF m 299 #[oR a1, oR pc, oR att, oR au, oR ao, oR us, .val (.long (((0 : Int64) + ca.toInt64) + cb.toInt64)), .second, oi 5, oi 2, oi 2, oi cb] [(.int (5 : Int32)), (.ref a1)])) rfl (hb hby d1_299) rfl (by decide) (cap := 5) (by decide) (by decide) (by decide) (by decide)
      obtain ⟨b114, g114⟩ : ∃ z, z = h113.size := ⟨_, rfl⟩
      rw [← g114] at A114 st114
      have sz114 : h113.size ≤ h114.size := E114.1
      have lt114 : @LT.lt Nat _ b114 h114.size := A114.lt
      have v114 : Arv Z h114 b114 k114 .int (5 : Int32) [(.int (0 : Int32)), (.int (0 : Int32)), (.int (0 : Int32)), (.int (0 : Int32)), (.int (0 : Int32))] (.int (0 : Int32)) := (Arv.new A114 (by decide)).pad (pad_rep [] (.int (0 : Int32)) 5)
      refine own_go (st' := T114.setTop (mkF m 301 #[oR a1, oR pc, oR att, oR au, oR ao, oR us, .val (.long (((0 : Int64) + ca.toInt64) + cb.toInt64)), .second, oi 5, oi 2, oi 2, oi cb] [(.ref b114), (.ref a1)])) (st114) ?_
      have c115 : Fld Z h114 a1 oS0 "nextArc" "[I" .null := (((((((((((((((((((((((((((((((((pr20.other W9 (Or.inr (slot_ne (Or.inr (own_hw hw 69)) (Or.inr (own_hw hw 12)) (by decide) (t := (.array .int)) (t' := .int) (by decide) (by decide)))).other W14 (Or.inr (slot_ne (Or.inr (own_hw hw 69)) (Or.inr (own_hw hw 14)) (by decide) (t := (.array .int)) (t' := .int) (by decide) (by decide)))).other W20 (Or.inr (slot_ne (Or.inr (own_hw hw 69)) (Or.inr (own_hw hw 16)) (by decide) (t := (.array .int)) (t' := .int) (by decide) (by decide)))).other W23 (Or.inr (slot_ne (Or.inr (own_hw hw 69)) (Or.inr (own_hw hw 18)) (by decide) (t := (.array .int)) (t' := .int) (by decide) (by decide)))).other W26 (Or.inr (slot_ne (Or.inr (own_hw hw 69)) (Or.inr (own_hw hw 20)) (by decide) (t := (.array .int)) (t' := .long) (by decide) (by decide)))).other W29 (Or.inr (slot_ne (Or.inr (own_hw hw 69)) (Or.inr (own_hw hw 22)) (by decide) (t := (.array .int)) (t' := (.array .int)) (by decide) (by decide)))).other W32 (Or.inr (slot_ne (Or.inr (own_hw hw 69)) (Or.inr (own_hw hw 24)) (by decide) (t := (.array .int)) (t' := (.array .int)) (by decide) (by decide)))).other W35 (Or.inr (slot_ne (Or.inr (own_hw hw 69)) (Or.inr (own_hw hw 26)) (by decide) (t := (.array .int)) (t' := (.array .int)) (by decide) (by decide)))).other W38 (Or.inr (slot_ne (Or.inr (own_hw hw 69)) (Or.inr (own_hw hw 28)) (by decide) (t := (.array .int)) (t' := (.array .int)) (by decide) (by decide)))).ext E41).other W44 (Or.inr (slot_ne (Or.inr (own_hw hw 69)) (Or.inr (own_hw hw 30)) (by decide) (t := (.array .int)) (t' := (.array .int)) (by decide) (by decide)))).keep K46 (ninS (own_ne (by omega)) nin0)).other W51 (Or.inr (slot_ne (Or.inr (own_hw hw 69)) (Or.inr (own_hw hw 47)) (by decide) (t := (.array .int)) (t' := (.array .int)) (by decide) (by decide)))).ext E54).other W57 (Or.inr (slot_ne (Or.inr (own_hw hw 69)) (Or.inr (own_hw hw 49)) (by decide) (t := (.array .int)) (t' := (.array .int)) (by decide) (by decide)))).keep K59 (ninS (own_ne (by omega)) nin0)).other W64 (Or.inr (slot_ne (Or.inr (own_hw hw 69)) (Or.inr (own_hw hw 51)) (by decide) (t := (.array .int)) (t' := (.array .int)) (by decide) (by decide)))).ext E76).other W79 (Or.inr (slot_ne (Or.inr (own_hw hw 69)) (Or.inr (own_hw hw 53)) (by decide) (t := (.array .int)) (t' := (.array .int)) (by decide) (by decide)))).ext E82).other W85 (Or.inr (slot_ne (Or.inr (own_hw hw 69)) (Or.inr (own_hw hw 55)) (by decide) (t := (.array .int)) (t' := (.array .int)) (by decide) (by decide)))).ext E88).other W91 (Or.inr (slot_ne (Or.inr (own_hw hw 69)) (Or.inr (own_hw hw 57)) (by decide) (t := (.array .int)) (t' := (.array .int)) (by decide) (by decide)))).keep K95 (ninS (own_ne (by omega)) nin0)).ext E98).other W101 (Or.inr (slot_ne (Or.inr (own_hw hw 69)) (Or.inr (own_hw hw 61)) (by decide) (t := (.array .int)) (t' := (.array .long)) (by decide) (by decide)))).ext E102).other W105 (Or.inr (slot_ne (Or.inr (own_hw hw 69)) (Or.inr (own_hw hw 63)) (by decide) (t := (.array .int)) (t' := (.array .long)) (by decide) (by decide)))).ext E106).other W109 (Or.inr (slot_ne (Or.inr (own_hw hw 69)) (Or.inr (own_hw hw 65)) (by decide) (t := (.array .int)) (t' := (.array .int)) (by decide) (by decide)))).ext E110).other W113 (Or.inr (slot_ne (Or.inr (own_hw hw 69)) (Or.inr (own_hw hw 67)) (by decide) (t := (.array .int)) (t' := (.array .int)) (by decide) (by decide)))).ext E114)
      have c116 : Exa Z h114 a1 oS0 := ((c112.wr W113).ext E114)
      obtain ⟨T117, h117, X117, e117, W117, st117⟩ := putF X114 hx hZ hown (host := "") (Or.inl (own_hw hw 68)) Via.refl e114 c115 c116 (Or.inr ⟨(own_hw hw 69), rfl, hnm⟩) (own_hw hw 2) (ty := (.array .int)) (by decide) rfl rfl (g := (mkF m 301 #[oR a1, oR pc, oR att, oR au, oR ao, oR us, .val (.long (((0 : Int64) + ca.toInt64) + cb.toInt64)), .second, oi 5, oi 2, oi 2, oi cb] [(.ref b114), (.ref a1)])) rfl rfl (hb hby d1_301)
      have sz117 : h117.size = h114.size := W117.size
      have N117 := Fr.snoc X117 N113 (by omega)
      have f117 : Fld Z h117 a1 oS0 "nextArc" "[I" (.ref b114) := c115.same W117
      refine own_go (st' := T117.setTop (mkF m 304 #[oR a1, oR pc, oR att, oR au, oR ao, oR us, .val (.long (((0 : Int64) + ca.toInt64) + cb.toInt64)), .second, oi 5, oi 2, oi 2, oi cb] [])) (st117) ?_
      refine own_go (st' := T117.setTop (mkF m 305 #[oR a1, oR pc, oR att, oR au, oR ao, oR us, .val (.long (((0 : Int64) + ca.toInt64) + cb.toInt64)), .second, oi 5, oi 2, oi 2, oi cb] [(.ref a1)])) (fun _ k => XS.aloadN X117.here hx rfl (hb hby d1_304) rfl rfl k) ?_
      refine own_go (st' := T117.setTop (mkF m 307 #[oR a1, oR pc, oR att, oR au, oR ao, oR us, .val (.long (((0 : Int64) + ca.toInt64) + cb.toInt64)), .second, oi 5, oi 2, oi 2, oi cb] [(.int (5 : Int32)), (.ref a1)])) (fun _ k => XS.iload X117.here hx rfl (hb hby d1_305) rfl k) ?_
      obtain ⟨T118, h118, k118, X118, e118, E118, A118, st118⟩ := newP X117 hx hZ (own_hw hw 4) e117 (g := (mkF m 307 #[oR a1, oR pc, oR att, oR au, oR ao, oR us, .val (.long (((0 : Int64) + ca.toInt64) + cb.toInt64)), .second, oi 5, oi 2, oi 2, oi cb] [(.int (5 : Int32)), (.ref a1)])) rfl (hb hby d1_307) rfl (by decide) (cap := 5) (by decide) (by decide) (by decide) (by decide)
      obtain ⟨b118, g118⟩ : ∃ z, z = h117.size := ⟨_, rfl⟩
      rw [← g118] at A118 st118
      have sz118 : h117.size ≤ h118.size := E118.1
      have lt118 : @LT.lt Nat _ b118 h118.size := A118.lt
      have v118 : Arv Z h118 b118 k118 .int (5 : Int32) [(.int (0 : Int32)), (.int (0 : Int32)), (.int (0 : Int32)), (.int (0 : Int32)), (.int (0 : Int32))] (.int (0 : Int32)) := (Arv.new A118 (by decide)).pad (pad_rep [] (.int (0 : Int32)) 5)
      refine own_go (st' := T118.setTop (mkF m 309 #[oR a1, oR pc, oR att, oR au, oR ao, oR us, .val (.long (((0 : Int64) + ca.toInt64) + cb.toInt64)), .second, oi 5, oi 2, oi 2, oi cb] [(.ref b118), (.ref a1)])) (st118) ?_
      have c119 : Fld Z h118 a1 oS0 "pathNode" "[I" .null := (((((((((((((((((((((((((((((((((((pr21.other W9 (Or.inr (slot_ne (Or.inr (own_hw hw 71)) (Or.inr (own_hw hw 12)) (by decide) (t := (.array .int)) (t' := .int) (by decide) (by decide)))).other W14 (Or.inr (slot_ne (Or.inr (own_hw hw 71)) (Or.inr (own_hw hw 14)) (by decide) (t := (.array .int)) (t' := .int) (by decide) (by decide)))).other W20 (Or.inr (slot_ne (Or.inr (own_hw hw 71)) (Or.inr (own_hw hw 16)) (by decide) (t := (.array .int)) (t' := .int) (by decide) (by decide)))).other W23 (Or.inr (slot_ne (Or.inr (own_hw hw 71)) (Or.inr (own_hw hw 18)) (by decide) (t := (.array .int)) (t' := .int) (by decide) (by decide)))).other W26 (Or.inr (slot_ne (Or.inr (own_hw hw 71)) (Or.inr (own_hw hw 20)) (by decide) (t := (.array .int)) (t' := .long) (by decide) (by decide)))).other W29 (Or.inr (slot_ne (Or.inr (own_hw hw 71)) (Or.inr (own_hw hw 22)) (by decide) (t := (.array .int)) (t' := (.array .int)) (by decide) (by decide)))).other W32 (Or.inr (slot_ne (Or.inr (own_hw hw 71)) (Or.inr (own_hw hw 24)) (by decide) (t := (.array .int)) (t' := (.array .int)) (by decide) (by decide)))).other W35 (Or.inr (slot_ne (Or.inr (own_hw hw 71)) (Or.inr (own_hw hw 26)) (by decide) (t := (.array .int)) (t' := (.array .int)) (by decide) (by decide)))).other W38 (Or.inr (slot_ne (Or.inr (own_hw hw 71)) (Or.inr (own_hw hw 28)) (by decide) (t := (.array .int)) (t' := (.array .int)) (by decide) (by decide)))).ext E41).other W44 (Or.inr (slot_ne (Or.inr (own_hw hw 71)) (Or.inr (own_hw hw 30)) (by decide) (t := (.array .int)) (t' := (.array .int)) (by decide) (by decide)))).keep K46 (ninS (own_ne (by omega)) nin0)).other W51 (Or.inr (slot_ne (Or.inr (own_hw hw 71)) (Or.inr (own_hw hw 47)) (by decide) (t := (.array .int)) (t' := (.array .int)) (by decide) (by decide)))).ext E54).other W57 (Or.inr (slot_ne (Or.inr (own_hw hw 71)) (Or.inr (own_hw hw 49)) (by decide) (t := (.array .int)) (t' := (.array .int)) (by decide) (by decide)))).keep K59 (ninS (own_ne (by omega)) nin0)).other W64 (Or.inr (slot_ne (Or.inr (own_hw hw 71)) (Or.inr (own_hw hw 51)) (by decide) (t := (.array .int)) (t' := (.array .int)) (by decide) (by decide)))).ext E76).other W79 (Or.inr (slot_ne (Or.inr (own_hw hw 71)) (Or.inr (own_hw hw 53)) (by decide) (t := (.array .int)) (t' := (.array .int)) (by decide) (by decide)))).ext E82).other W85 (Or.inr (slot_ne (Or.inr (own_hw hw 71)) (Or.inr (own_hw hw 55)) (by decide) (t := (.array .int)) (t' := (.array .int)) (by decide) (by decide)))).ext E88).other W91 (Or.inr (slot_ne (Or.inr (own_hw hw 71)) (Or.inr (own_hw hw 57)) (by decide) (t := (.array .int)) (t' := (.array .int)) (by decide) (by decide)))).keep K95 (ninS (own_ne (by omega)) nin0)).ext E98).other W101 (Or.inr (slot_ne (Or.inr (own_hw hw 71)) (Or.inr (own_hw hw 61)) (by decide) (t := (.array .int)) (t' := (.array .long)) (by decide) (by decide)))).ext E102).other W105 (Or.inr (slot_ne (Or.inr (own_hw hw 71)) (Or.inr (own_hw hw 63)) (by decide) (t := (.array .int)) (t' := (.array .long)) (by decide) (by decide)))).ext E106).other W109 (Or.inr (slot_ne (Or.inr (own_hw hw 71)) (Or.inr (own_hw hw 65)) (by decide) (t := (.array .int)) (t' := (.array .int)) (by decide) (by decide)))).ext E110).other W113 (Or.inr (slot_ne (Or.inr (own_hw hw 71)) (Or.inr (own_hw hw 67)) (by decide) (t := (.array .int)) (t' := (.array .int)) (by decide) (by decide)))).ext E114).other W117 (Or.inr (slot_ne (Or.inr (own_hw hw 71)) (Or.inr (own_hw hw 69)) (by decide) (t := (.array .int)) (t' := (.array .int)) (by decide) (by decide)))).ext E118)
      have c120 : Exa Z h118 a1 oS0 := ((c116.wr W117).ext E118)
      obtain ⟨T121, h121, X121, e121, W121, st121⟩ := putF X118 hx hZ hown (host := "") (Or.inl (own_hw hw 70)) Via.refl e118 c119 c120 (Or.inr ⟨(own_hw hw 71), rfl, hnm⟩) (own_hw hw 2) (ty := (.array .int)) (by decide) rfl rfl (g := (mkF m 309 #[oR a1, oR pc, oR att, oR au, oR ao, oR us, .val (.long (((0 : Int64) + ca.toInt64) + cb.toInt64)), .second, oi 5, oi 2, oi 2, oi cb] [(.ref b118), (.ref a1)])) rfl rfl (hb hby d1_309)
      have sz121 : h121.size = h118.size := W121.size
      have N121 := Fr.snoc X121 N117 (by omega)
      have f121 : Fld Z h121 a1 oS0 "pathNode" "[I" (.ref b118) := c119.same W121
      refine own_go (st' := T121.setTop (mkF m 312 #[oR a1, oR pc, oR att, oR au, oR ao, oR us, .val (.long (((0 : Int64) + ca.toInt64) + cb.toInt64)), .second, oi 5, oi 2, oi 2, oi cb] [])) (st121) ?_
      refine own_go (st' := T121.setTop (mkF m 313 #[oR a1, oR pc, oR att, oR au, oR ao, oR us, .val (.long (((0 : Int64) + ca.toInt64) + cb.toInt64)), .second, oi 5, oi 2, oi 2, oi cb] [(.ref a1)])) (fun _ k => XS.aloadN X121.here hx rfl (hb hby d1_312) rfl rfl k) ?_
      refine own_go (st' := T121.setTop (mkF m 315 #[oR a1, oR pc, oR att, oR au, oR ao, oR us, .val (.long (((0 : Int64) + ca.toInt64) + cb.toInt64)), .second, oi 5, oi 2, oi 2, oi cb] [(.int (5 : Int32)), (.ref a1)])) (fun _ k => XS.iload X121.here hx rfl (hb hby d1_313) rfl k) ?_
      obtain ⟨T122, h122, k122, X122, e122, E122, A122, st122⟩ := newP X121 hx hZ (own_hw hw 4) e121 (g := (mkF m 315 #[oR a1, oR pc, oR att, oR au, oR ao, oR us, .val (.long (((0 : Int64) + ca.toInt64) + cb.toInt64)), .second, oi 5, oi 2, oi 2, oi cb] [(.int (5 : Int32)), (.ref a1)])) rfl (hb hby d1_315) rfl (by decide) (cap := 5) (by decide) (by decide) (by decide) (by decide)
      obtain ⟨b122, g122⟩ : ∃ z, z = h121.size := ⟨_, rfl⟩
      rw [← g122] at A122 st122
      have sz122 : h121.size ≤ h122.size := E122.1
      have lt122 : @LT.lt Nat _ b122 h122.size := A122.lt
      have v122 : Arv Z h122 b122 k122 .int (5 : Int32) [(.int (0 : Int32)), (.int (0 : Int32)), (.int (0 : Int32)), (.int (0 : Int32)), (.int (0 : Int32))] (.int (0 : Int32)) := (Arv.new A122 (by decide)).pad (pad_rep [] (.int (0 : Int32)) 5)
      refine own_go (st' := T122.setTop (mkF m 317 #[oR a1, oR pc, oR att, oR au, oR ao, oR us, .val (.long (((0 : Int64) + ca.toInt64) + cb.toInt64)), .second, oi 5, oi 2, oi 2, oi cb] [(.ref b122), (.ref a1)])) (st122) ?_
      have c123 : Fld Z h122 a1 oS0 "pathArc" "[I" .null := (((((((((((((((((((((((((((((((((((((pr22.other W9 (Or.inr (slot_ne (Or.inr (own_hw hw 73)) (Or.inr (own_hw hw 12)) (by decide) (t := (.array .int)) (t' := .int) (by decide) (by decide)))).other W14 (Or.inr (slot_ne (Or.inr (own_hw hw 73)) (Or.inr (own_hw hw 14)) (by decide) (t := (.array .int)) (t' := .int) (by decide) (by decide)))).other W20 (Or.inr (slot_ne (Or.inr (own_hw hw 73)) (Or.inr (own_hw hw 16)) (by decide) (t := (.array .int)) (t' := .int) (by decide) (by decide)))).other W23 (Or.inr (slot_ne (Or.inr (own_hw hw 73)) (Or.inr (own_hw hw 18)) (by decide) (t := (.array .int)) (t' := .int) (by decide) (by decide)))).other W26 (Or.inr (slot_ne (Or.inr (own_hw hw 73)) (Or.inr (own_hw hw 20)) (by decide) (t := (.array .int)) (t' := .long) (by decide) (by decide)))).other W29 (Or.inr (slot_ne (Or.inr (own_hw hw 73)) (Or.inr (own_hw hw 22)) (by decide) (t := (.array .int)) (t' := (.array .int)) (by decide) (by decide)))).other W32 (Or.inr (slot_ne (Or.inr (own_hw hw 73)) (Or.inr (own_hw hw 24)) (by decide) (t := (.array .int)) (t' := (.array .int)) (by decide) (by decide)))).other W35 (Or.inr (slot_ne (Or.inr (own_hw hw 73)) (Or.inr (own_hw hw 26)) (by decide) (t := (.array .int)) (t' := (.array .int)) (by decide) (by decide)))).other W38 (Or.inr (slot_ne (Or.inr (own_hw hw 73)) (Or.inr (own_hw hw 28)) (by decide) (t := (.array .int)) (t' := (.array .int)) (by decide) (by decide)))).ext E41).other W44 (Or.inr (slot_ne (Or.inr (own_hw hw 73)) (Or.inr (own_hw hw 30)) (by decide) (t := (.array .int)) (t' := (.array .int)) (by decide) (by decide)))).keep K46 (ninS (own_ne (by omega)) nin0)).other W51 (Or.inr (slot_ne (Or.inr (own_hw hw 73)) (Or.inr (own_hw hw 47)) (by decide) (t := (.array .int)) (t' := (.array .int)) (by decide) (by decide)))).ext E54).other W57 (Or.inr (slot_ne (Or.inr (own_hw hw 73)) (Or.inr (own_hw hw 49)) (by decide) (t := (.array .int)) (t' := (.array .int)) (by decide) (by decide)))).keep K59 (ninS (own_ne (by omega)) nin0)).other W64 (Or.inr (slot_ne (Or.inr (own_hw hw 73)) (Or.inr (own_hw hw 51)) (by decide) (t := (.array .int)) (t' := (.array .int)) (by decide) (by decide)))).ext E76).other W79 (Or.inr (slot_ne (Or.inr (own_hw hw 73)) (Or.inr (own_hw hw 53)) (by decide) (t := (.array .int)) (t' := (.array .int)) (by decide) (by decide)))).ext E82).other W85 (Or.inr (slot_ne (Or.inr (own_hw hw 73)) (Or.inr (own_hw hw 55)) (by decide) (t := (.array .int)) (t' := (.array .int)) (by decide) (by decide)))).ext E88).other W91 (Or.inr (slot_ne (Or.inr (own_hw hw 73)) (Or.inr (own_hw hw 57)) (by decide) (t := (.array .int)) (t' := (.array .int)) (by decide) (by decide)))).keep K95 (ninS (own_ne (by omega)) nin0)).ext E98).other W101 (Or.inr (slot_ne (Or.inr (own_hw hw 73)) (Or.inr (own_hw hw 61)) (by decide) (t := (.array .int)) (t' := (.array .long)) (by decide) (by decide)))).ext E102).other W105 (Or.inr (slot_ne (Or.inr (own_hw hw 73)) (Or.inr (own_hw hw 63)) (by decide) (t := (.array .int)) (t' := (.array .long)) (by decide) (by decide)))).ext E106).other W109 (Or.inr (slot_ne (Or.inr (own_hw hw 73)) (Or.inr (own_hw hw 65)) (by decide) (t := (.array .int)) (t' := (.array .int)) (by decide) (by decide)))).ext E110).other W113 (Or.inr (slot_ne (Or.inr (own_hw hw 73)) (Or.inr (own_hw hw 67)) (by decide) (t := (.array .int)) (t' := (.array .int)) (by decide) (by decide)))).ext E114).other W117 (Or.inr (slot_ne (Or.inr (own_hw hw 73)) (Or.inr (own_hw hw 69)) (by decide) (t := (.array .int)) (t' := (.array .int)) (by decide) (by decide)))).ext E118).other W121 (Or.inr (slot_ne (Or.inr (own_hw hw 73)) (Or.inr (own_hw hw 71)) (by decide) (t := (.array .int)) (t' := (.array .int)) (by decide) (by decide)))).ext E122)
      have c124 : Exa Z h122 a1 oS0 := ((c120.wr W121).ext E122)
      obtain ⟨T125, h125, X125, e125, W125, st125⟩ := putF X122 hx hZ hown (host := "") (Or.inl (own_hw hw 72)) Via.refl e122 c123 c124 (Or.inr ⟨(own_hw hw 73), rfl, hnm⟩) (own_hw hw 2) (ty := (.array .int)) (by decide) rfl rfl (g := (mkF m 317 #[oR a1, oR pc, oR att, oR au, oR ao, oR us, .val (.long (((0 : Int64) + ca.toInt64) + cb.toInt64)), .second, oi 5, oi 2, oi 2, oi cb] [(.ref b122), (.ref a1)])) rfl rfl (hb hby d1_317)
      have sz125 : h125.size = h122.size := W125.size
      have N125 := Fr.snoc X125 N121 (by omega)
      have f125 : Fld Z h125 a1 oS0 "pathArc" "[I" (.ref b122) := c123.same W125
      refine own_go (st' := T125.setTop (mkF m 320 #[oR a1, oR pc, oR att, oR au, oR ao, oR us, .val (.long (((0 : Int64) + ca.toInt64) + cb.toInt64)), .second, oi 5, oi 2, oi 2, oi cb] [])) (st125) ?_
      refine own_go (st' := T125.setTop (mkF m 321 #[oR a1, oR pc, oR att, oR au, oR ao, oR us, .val (.long (((0 : Int64) + ca.toInt64) + cb.toInt64)), .second, oi 5, oi 2, oi 2, oi cb] [(.ref a1)])) (fun _ k => XS.aloadN X125.here hx rfl (hb hby d1_320) rfl rfl k) ?_
      obtain ⟨T126, h126, X126, e126, E126, A126, D126, -, st126⟩ := newO X125 hx hZ hown (own_hw hw 74) (own_hw hw 75) (own_hw hw 76) e125 (g := (mkF m 321 #[oR a1, oR pc, oR att, oR au, oR ao, oR us, .val (.long (((0 : Int64) + ca.toInt64) + cb.toInt64)), .second, oi 5, oi 2, oi 2, oi cb] [(.ref a1)])) rfl (hb hby d1_321) (by decide) (by decide)
      obtain ⟨b126, g126⟩ : ∃ z, z = h125.size := ⟨_, rfl⟩
      rw [← g126] at A126 D126 st126
      have sz126 : h125.size ≤ h126.size := E126.1
      have lt126 : @LT.lt Nat _ b126 h126.size := A126.lt
      have f127 : Fld Z h126 b126 oS1 "nodes" "[I" .null := D126 (Or.inr (own_hw hw 82)) (ty := (.array .int)) (by decide)
      have f128 : Fld Z h126 b126 oS1 "position" "[I" .null := D126 (Or.inr (own_hw hw 84)) (ty := (.array .int)) (by decide)
      have f129 : Fld Z h126 b126 oS1 "key" "[J" .null := D126 (Or.inr (own_hw hw 86)) (ty := (.array .long)) (by decide)
      refine own_go (st' := T126.setTop (mkF m 324 #[oR a1, oR pc, oR att, oR au, oR ao, oR us, .val (.long (((0 : Int64) + ca.toInt64) + cb.toInt64)), .second, oi 5, oi 2, oi 2, oi cb] [(.ref b126), (.ref a1)])) (st126) ?_
      refine own_go (st' := T126.setTop (mkF m 325 #[oR a1, oR pc, oR att, oR au, oR ao, oR us, .val (.long (((0 : Int64) + ca.toInt64) + cb.toInt64)), .second, oi 5, oi 2, oi 2, oi cb] [(.ref b126), (.ref b126), (.ref a1)])) (fun _ k => XS.dup X126.here hx rfl (hb hby d1_324) rfl rfl k) ?_
      refine own_go (st' := T126.setTop (mkF m 327 #[oR a1, oR pc, oR att, oR au, oR ao, oR us, .val (.long (((0 : Int64) + ca.toInt64) + cb.toInt64)), .second, oi 5, oi 2, oi 2, oi cb] [(.int (5 : Int32)), (.ref b126), (.ref b126), (.ref a1)])) (fun _ k => XS.iload X126.here hx rfl (hb hby d1_325) rfl k) ?_
      refine own_go (st' := T126.setTop (mkF m 328 #[oR a1, oR pc, oR att, oR au, oR ao, oR us, .val (.long (((0 : Int64) + ca.toInt64) + cb.toInt64)), .second, oi 5, oi 2, oi 2, oi cb] [(.ref a1), (.int (5 : Int32)), (.ref b126), (.ref b126), (.ref a1)])) (fun _ k => XS.aloadN X126.here hx rfl (hb hby d1_327) rfl rfl k) ?_
      have c130 : Fld Z h126 a1 oS0 "distance" "[J" (.ref b102) := (((((((((((f105.ext E106).other W109 (Or.inr (slot_ne (Or.inr (own_hw hw 63)) (Or.inr (own_hw hw 65)) (by decide) (t := (.array .long)) (t' := (.array .int)) (by decide) (by decide)))).ext E110).other W113 (Or.inr (slot_ne (Or.inr (own_hw hw 63)) (Or.inr (own_hw hw 67)) (by decide) (t := (.array .long)) (t' := (.array .int)) (by decide) (by decide)))).ext E114).other W117 (Or.inr (slot_ne (Or.inr (own_hw hw 63)) (Or.inr (own_hw hw 69)) (by decide) (t := (.array .long)) (t' := (.array .int)) (by decide) (by decide)))).ext E118).other W121 (Or.inr (slot_ne (Or.inr (own_hw hw 63)) (Or.inr (own_hw hw 71)) (by decide) (t := (.array .long)) (t' := (.array .int)) (by decide) (by decide)))).ext E122).other W125 (Or.inr (slot_ne (Or.inr (own_hw hw 63)) (Or.inr (own_hw hw 73)) (by decide) (t := (.array .long)) (t' := (.array .int)) (by decide) (by decide)))).ext E126)
      obtain ⟨T131, X131, e131, st131⟩ := getF X126 hx hZ hown (host := "") (Or.inl (own_hw hw 62)) Via.refl e126 c130 (g := (mkF m 328 #[oR a1, oR pc, oR att, oR au, oR ao, oR us, .val (.long (((0 : Int64) + ca.toInt64) + cb.toInt64)), .second, oi 5, oi 2, oi 2, oi cb] [(.ref a1), (.int (5 : Int32)), (.ref b126), (.ref b126), (.ref a1)])) rfl rfl (hb hby d1_328)
      refine own_go (st' := T131.setTop (mkF m 331 #[oR a1, oR pc, oR att, oR au, oR ao, oR us, .val (.long (((0 : Int64) + ca.toInt64) + cb.toInt64)), .second, oi 5, oi 2, oi 2, oi cb] [(.ref b102), (.int (5 : Int32)), (.ref b126), (.ref b126), (.ref a1)])) (st131) ?_
      obtain ⟨_, _, ⟨T132, LC132, kC132, nC132⟩, -, X132, ⟨Lc132, hQ132, lq132, yq132, zq132⟩, st132⟩ := X131.specialBack hx (y := oM11) rfl hown (mvT hZ (own_hw hw 77)) (mvT hZ (own_hw hw 78)) (mvT hZ (own_hw hw 79)) (by decide) (backOf (W := 2) (rm6 l Z a0 hw [] b126 b102 h126 n0 (by omega) A126 f127 f128 f129 (by omega)) hZ (own_hw hw 79) (own_hw hw 76) (by decide) (by decide)) (g := (mkF m 331 #[oR a1, oR pc, oR att, oR au, oR ao, oR us, .val (.long (((0 : Int64) + ca.toInt64) + cb.toInt64)), .second, oi 5, oi 2, oi 2, oi cb] [(.ref b102), (.int (5 : Int32)), (.ref b126), (.ref b126), (.ref a1)])) rfl (by rw [hml]; rfl) (Steps.refl _) (a := b126) (argsL := [(.int (5 : Int32)), (.ref b102)]) (rest := [(.ref b126), (.ref a1)]) (lenOf pd_4 rfl) rfl (by show 2 * 0 + _ ≤ _; exact Nat.le_of_eq rfl) (hb hby d1_331) (fun _ _ => ⟨rfl, e131, (by decide : 17 + 2 ≤ _), (by decide : 62 + 10 ≤ _)⟩)
      dsimp only [Pt.U, Pt.locs, Pt.cells, Pt.slots] at X132 lq132 yq132 zq132 st132 hQ132
      subst lq132 yq132 zq132
      obtain ⟨h132, e132⟩ : ∃ z, T132.heap = z := ⟨_, rfl⟩
      rw [e132] at hQ132
      obtain ⟨rfl, Nq132, K132, g132_0⟩ := hQ132
      have sz132 : h126.size ≤ h132.size := K132.1
      have N132 := Fr.app N125 Nq132
      have lt132_1 : @LT.lt Nat _ b126 h132.size := g132_0.lt
      refine own_go (st' := T132.setTop (mkF m 334 #[oR a1, oR pc, oR att, oR au, oR ao, oR us, .val (.long (((0 : Int64) + ca.toInt64) + cb.toInt64)), .second, oi 5, oi 2, oi 2, oi cb] [(.ref b126), (.ref a1)])) (fun _ k => st132.trans k) ?_
      have c133 : Fld Z h132 a1 oS0 "heap" "Lcom/example/limpet/limpet/StickyShares$NodeHeap;" .null := ((((((((((((((((((((((((((((((((((((((((pr25.other W9 (Or.inr (slot_ne (Or.inr (own_hw hw 91)) (Or.inr (own_hw hw 12)) (by decide) (t := (.object oS1)) (t' := .int) (by decide) (by decide)))).other W14 (Or.inr (slot_ne (Or.inr (own_hw hw 91)) (Or.inr (own_hw hw 14)) (by decide) (t := (.object oS1)) (t' := .int) (by decide) (by decide)))).other W20 (Or.inr (slot_ne (Or.inr (own_hw hw 91)) (Or.inr (own_hw hw 16)) (by decide) (t := (.object oS1)) (t' := .int) (by decide) (by decide)))).other W23 (Or.inr (slot_ne (Or.inr (own_hw hw 91)) (Or.inr (own_hw hw 18)) (by decide) (t := (.object oS1)) (t' := .int) (by decide) (by decide)))).other W26 (Or.inr (slot_ne (Or.inr (own_hw hw 91)) (Or.inr (own_hw hw 20)) (by decide) (t := (.object oS1)) (t' := .long) (by decide) (by decide)))).other W29 (Or.inr (slot_ne (Or.inr (own_hw hw 91)) (Or.inr (own_hw hw 22)) (by decide) (t := (.object oS1)) (t' := (.array .int)) (by decide) (by decide)))).other W32 (Or.inr (slot_ne (Or.inr (own_hw hw 91)) (Or.inr (own_hw hw 24)) (by decide) (t := (.object oS1)) (t' := (.array .int)) (by decide) (by decide)))).other W35 (Or.inr (slot_ne (Or.inr (own_hw hw 91)) (Or.inr (own_hw hw 26)) (by decide) (t := (.object oS1)) (t' := (.array .int)) (by decide) (by decide)))).other W38 (Or.inr (slot_ne (Or.inr (own_hw hw 91)) (Or.inr (own_hw hw 28)) (by decide) (t := (.object oS1)) (t' := (.array .int)) (by decide) (by decide)))).ext E41).other W44 (Or.inr (slot_ne (Or.inr (own_hw hw 91)) (Or.inr (own_hw hw 30)) (by decide) (t := (.object oS1)) (t' := (.array .int)) (by decide) (by decide)))).keep K46 (ninS (own_ne (by omega)) nin0)).other W51 (Or.inr (slot_ne (Or.inr (own_hw hw 91)) (Or.inr (own_hw hw 47)) (by decide) (t := (.object oS1)) (t' := (.array .int)) (by decide) (by decide)))).ext E54).other W57 (Or.inr (slot_ne (Or.inr (own_hw hw 91)) (Or.inr (own_hw hw 49)) (by decide) (t := (.object oS1)) (t' := (.array .int)) (by decide) (by decide)))).keep K59 (ninS (own_ne (by omega)) nin0)).other W64 (Or.inr (slot_ne (Or.inr (own_hw hw 91)) (Or.inr (own_hw hw 51)) (by decide) (t := (.object oS1)) (t' := (.array .int)) (by decide) (by decide)))).ext E76).other W79 (Or.inr (slot_ne (Or.inr (own_hw hw 91)) (Or.inr (own_hw hw 53)) (by decide) (t := (.object oS1)) (t' := (.array .int)) (by decide) (by decide)))).ext E82).other W85 (Or.inr (slot_ne (Or.inr (own_hw hw 91)) (Or.inr (own_hw hw 55)) (by decide) (t := (.object oS1)) (t' := (.array .int)) (by decide) (by decide)))).ext E88).other W91 (Or.inr (slot_ne (Or.inr (own_hw hw 91)) (Or.inr (own_hw hw 57)) (by decide) (t := (.object oS1)) (t' := (.array .int)) (by decide) (by decide)))).keep K95 (ninS (own_ne (by omega)) nin0)).ext E98).other W101 (Or.inr (slot_ne (Or.inr (own_hw hw 91)) (Or.inr (own_hw hw 61)) (by decide) (t := (.object oS1)) (t' := (.array .long)) (by decide) (by decide)))).ext E102).other W105 (Or.inr (slot_ne (Or.inr (own_hw hw 91)) (Or.inr (own_hw hw 63)) (by decide) (t := (.object oS1)) (t' := (.array .long)) (by decide) (by decide)))).ext E106).other W109 (Or.inr (slot_ne (Or.inr (own_hw hw 91)) (Or.inr (own_hw hw 65)) (by decide) (t := (.object oS1)) (t' := (.array .int)) (by decide) (by decide)))).ext E110).other W113 (Or.inr (slot_ne (Or.inr (own_hw hw 91)) (Or.inr (own_hw hw 67)) (by decide) (t := (.object oS1)) (t' := (.array .int)) (by decide) (by decide)))).ext E114).other W117 (Or.inr (slot_ne (Or.inr (own_hw hw 91)) (Or.inr (own_hw hw 69)) (by decide) (t := (.object oS1)) (t' := (.array .int)) (by decide) (by decide)))).ext E118).other W121 (Or.inr (slot_ne (Or.inr (own_hw hw 91)) (Or.inr (own_hw hw 71)) (by decide) (t := (.object oS1)) (t' := (.array .int)) (by decide) (by decide)))).ext E122).other W125 (Or.inr (slot_ne (Or.inr (own_hw hw 91)) (Or.inr (own_hw hw 73)) (by decide) (t := (.object oS1)) (t' := (.array .int)) (by decide) (by decide)))).ext E126).keep K132 (ninS (own_ne (by omega)) nin0))
      have c134 : Exa Z h132 a1 oS0 := (((c124.wr W125).ext E126).keep K132)
      obtain ⟨T135, h135, X135, e135, W135, st135⟩ := putF X132 hx hZ hown (host := "") (Or.inl (own_hw hw 90)) Via.refl e132 c133 c134 (Or.inr ⟨(own_hw hw 91), rfl, hnm⟩) (own_hw hw 2) (ty := (.object oS1)) (by decide) rfl rfl (g := (mkF m 334 #[oR a1, oR pc, oR att, oR au, oR ao, oR us, .val (.long (((0 : Int64) + ca.toInt64) + cb.toInt64)), .second, oi 5, oi 2, oi 2, oi cb] [(.ref b126), (.ref a1)])) rfl rfl (hb hby d1_334)
      have sz135 : h135.size = h132.size := W135.size
      have N135 := Fr.snoc X135 N132 (by omega)
      have f135 : Fld Z h135 a1 oS0 "heap" "Lcom/example/limpet/limpet/StickyShares$NodeHeap;" (.ref b126) := c133.same W135
      refine own_go (st' := T135.setTop (mkF m 337 #[oR a1, oR pc, oR att, oR au, oR ao, oR us, .val (.long (((0 : Int64) + ca.toInt64) + cb.toInt64)), .second, oi 5, oi 2, oi 2, oi cb] [])) (st135) ?_
      obtain ⟨fs, hr, hrun, hended, hW, hsame⟩ := X135.leave (v := none) (fun _ => rfl)
      refine ⟨_, _, ?_, hP _ _ hrun hended ⟨_, _, rfl, ?_, ⟨_, rfl⟩, hW, hsame.mono (by decide) (by decide)⟩⟩
      · exact X135.returnOut hx Bd.returns (hb hby d1_337) hr
      · show Qrm1 Z a1 pc att au ao us kpc katt kau kus ca cb sa sb h0 n0 _ T135.heap _
        have c137 : Exa Z h135 a1 oS0 := (c134.wr W135)
        have c138 : Fld Z h135 a1 oS0 "topicCount" "I" (.int (2 : Int32)) := ((((((((((((((((((c93.keep K95 (ninS (own_ne (by omega)) nin0)).ext E98).other W101 (Or.inr (slot_ne (Or.inr (own_hw hw 12)) (Or.inr (own_hw hw 61)) (by decide) (t := .int) (t' := (.array .long)) (by decide) (by decide)))).ext E102).other W105 (Or.inr (slot_ne (Or.inr (own_hw hw 12)) (Or.inr (own_hw hw 63)) (by decide) (t := .int) (t' := (.array .long)) (by decide) (by decide)))).ext E106).other W109 (Or.inr (slot_ne (Or.inr (own_hw hw 12)) (Or.inr (own_hw hw 65)) (by decide) (t := .int) (t' := (.array .int)) (by decide) (by decide)))).ext E110).other W113 (Or.inr (slot_ne (Or.inr (own_hw hw 12)) (Or.inr (own_hw hw 67)) (by decide) (t := .int) (t' := (.array .int)) (by decide) (by decide)))).ext E114).other W117 (Or.inr (slot_ne (Or.inr (own_hw hw 12)) (Or.inr (own_hw hw 69)) (by decide) (t := .int) (t' := (.array .int)) (by decide) (by decide)))).ext E118).other W121 (Or.inr (slot_ne (Or.inr (own_hw hw 12)) (Or.inr (own_hw hw 71)) (by decide) (t := .int) (t' := (.array .int)) (by decide) (by decide)))).ext E122).other W125 (Or.inr (slot_ne (Or.inr (own_hw hw 12)) (Or.inr (own_hw hw 73)) (by decide) (t := .int) (t' := (.array .int)) (by decide) (by decide)))).ext E126).keep K132 (ninS (own_ne (by omega)) nin0)).other W135 (Or.inr (slot_ne (Or.inr (own_hw hw 12)) (Or.inr (own_hw hw 91)) (by decide) (t := .int) (t' := (.object oS1)) (by decide) (by decide))))
        have c139 : Fld Z h135 a1 oS0 "unitCount" "I" (.int (2 : Int32)) := ((((((((((((((((((((((c80.ext E82).other W85 (Or.inr (slot_ne (Or.inr (own_hw hw 14)) (Or.inr (own_hw hw 55)) (by decide) (t := .int) (t' := (.array .int)) (by decide) (by decide)))).ext E88).other W91 (Or.inr (slot_ne (Or.inr (own_hw hw 14)) (Or.inr (own_hw hw 57)) (by decide) (t := .int) (t' := (.array .int)) (by decide) (by decide)))).keep K95 (ninS (own_ne (by omega)) nin0)).ext E98).other W101 (Or.inr (slot_ne (Or.inr (own_hw hw 14)) (Or.inr (own_hw hw 61)) (by decide) (t := .int) (t' := (.array .long)) (by decide) (by decide)))).ext E102).other W105 (Or.inr (slot_ne (Or.inr (own_hw hw 14)) (Or.inr (own_hw hw 63)) (by decide) (t := .int) (t' := (.array .long)) (by decide) (by decide)))).ext E106).other W109 (Or.inr (slot_ne (Or.inr (own_hw hw 14)) (Or.inr (own_hw hw 65)) (by decide) (t := .int) (t' := (.array .int)) (by decide) (by decide)))).ext E110).other W113 (Or.inr (slot_ne (Or.inr (own_hw hw 14)) (Or.inr (own_hw hw 67)) (by decide) (t := .int) (t' := (.array .int)) (by decide) (by decide)))).ext E114).other W117 (Or.inr (slot_ne (Or.inr (own_hw hw 14)) (Or.inr (own_hw hw 69)) (by decide) (t := .int) (t' := (.array .int)) (by decide) (by decide)))).ext E118).other W121 (Or.inr (slot_ne (Or.inr (own_hw hw 14)) (Or.inr (own_hw hw 71)) (by decide) (t := .int) (t' := (.array .int)) (by decide) (by decide)))).ext E122).other W125 (Or.inr (slot_ne (Or.inr (own_hw hw 14)) (Or.inr (own_hw hw 73)) (by decide) (t := .int) (t' := (.array .int)) (by decide) (by decide)))).ext E126).keep K132 (ninS (own_ne (by omega)) nin0)).other W135 (Or.inr (slot_ne (Or.inr (own_hw hw 14)) (Or.inr (own_hw hw 91)) (by decide) (t := .int) (t' := (.object oS1)) (by decide) (by decide))))
        have c140 : Fld Z h135 a1 oS0 "sink" "I" (.int (4 : Int32)) := ((((((((((((((((((((c86.ext E88).other W91 (Or.inr (slot_ne (Or.inr (own_hw hw 16)) (Or.inr (own_hw hw 57)) (by decide) (t := .int) (t' := (.array .int)) (by decide) (by decide)))).keep K95 (ninS (own_ne (by omega)) nin0)).ext E98).other W101 (Or.inr (slot_ne (Or.inr (own_hw hw 16)) (Or.inr (own_hw hw 61)) (by decide) (t := .int) (t' := (.array .long)) (by decide) (by decide)))).ext E102).other W105 (Or.inr (slot_ne (Or.inr (own_hw hw 16)) (Or.inr (own_hw hw 63)) (by decide) (t := .int) (t' := (.array .long)) (by decide) (by decide)))).ext E106).other W109 (Or.inr (slot_ne (Or.inr (own_hw hw 16)) (Or.inr (own_hw hw 65)) (by decide) (t := .int) (t' := (.array .int)) (by decide) (by decide)))).ext E110).other W113 (Or.inr (slot_ne (Or.inr (own_hw hw 16)) (Or.inr (own_hw hw 67)) (by decide) (t := .int) (t' := (.array .int)) (by decide) (by decide)))).ext E114).other W117 (Or.inr (slot_ne (Or.inr (own_hw hw 16)) (Or.inr (own_hw hw 69)) (by decide) (t := .int) (t' := (.array .int)) (by decide) (by decide)))).ext E118).other W121 (Or.inr (slot_ne (Or.inr (own_hw hw 16)) (Or.inr (own_hw hw 71)) (by decide) (t := .int) (t' := (.array .int)) (by decide) (by decide)))).ext E122).other W125 (Or.inr (slot_ne (Or.inr (own_hw hw 16)) (Or.inr (own_hw hw 73)) (by decide) (t := .int) (t' := (.array .int)) (by decide) (by decide)))).ext E126).keep K132 (ninS (own_ne (by omega)) nin0)).other W135 (Or.inr (slot_ne (Or.inr (own_hw hw 16)) (Or.inr (own_hw hw 91)) (by decide) (t := .int) (t' := (.object oS1)) (by decide) (by decide))))
        have c141 : Fld Z h135 a1 oS0 "total" "I" (.int (((0 : Int64) + ca.toInt64) + cb.toInt64).toInt32) := (((((((((((((((((((((((((((((((((((((f23.other W26 (Or.inr (slot_ne (Or.inr (own_hw hw 18)) (Or.inr (own_hw hw 20)) (by decide) (t := .int) (t' := .long) (by decide) (by decide)))).other W29 (Or.inr (slot_ne (Or.inr (own_hw hw 18)) (Or.inr (own_hw hw 22)) (by decide) (t := .int) (t' := (.array .int)) (by decide) (by decide)))).other W32 (Or.inr (slot_ne (Or.inr (own_hw hw 18)) (Or.inr (own_hw hw 24)) (by decide) (t := .int) (t' := (.array .int)) (by decide) (by decide)))).other W35 (Or.inr (slot_ne (Or.inr (own_hw hw 18)) (Or.inr (own_hw hw 26)) (by decide) (t := .int) (t' := (.array .int)) (by decide) (by decide)))).other W38 (Or.inr (slot_ne (Or.inr (own_hw hw 18)) (Or.inr (own_hw hw 28)) (by decide) (t := .int) (t' := (.array .int)) (by decide) (by decide)))).ext E41).other W44 (Or.inr (slot_ne (Or.inr (own_hw hw 18)) (Or.inr (own_hw hw 30)) (by decide) (t := .int) (t' := (.array .int)) (by decide) (by decide)))).keep K46 (ninS (own_ne (by omega)) nin0)).other W51 (Or.inr (slot_ne (Or.inr (own_hw hw 18)) (Or.inr (own_hw hw 47)) (by decide) (t := .int) (t' := (.array .int)) (by decide) (by decide)))).ext E54).other W57 (Or.inr (slot_ne (Or.inr (own_hw hw 18)) (Or.inr (own_hw hw 49)) (by decide) (t := .int) (t' := (.array .int)) (by decide) (by decide)))).keep K59 (ninS (own_ne (by omega)) nin0)).other W64 (Or.inr (slot_ne (Or.inr (own_hw hw 18)) (Or.inr (own_hw hw 51)) (by decide) (t := .int) (t' := (.array .int)) (by decide) (by decide)))).ext E76).other W79 (Or.inr (slot_ne (Or.inr (own_hw hw 18)) (Or.inr (own_hw hw 53)) (by decide) (t := .int) (t' := (.array .int)) (by decide) (by decide)))).ext E82).other W85 (Or.inr (slot_ne (Or.inr (own_hw hw 18)) (Or.inr (own_hw hw 55)) (by decide) (t := .int) (t' := (.array .int)) (by decide) (by decide)))).ext E88).other W91 (Or.inr (slot_ne (Or.inr (own_hw hw 18)) (Or.inr (own_hw hw 57)) (by decide) (t := .int) (t' := (.array .int)) (by decide) (by decide)))).keep K95 (ninS (own_ne (by omega)) nin0)).ext E98).other W101 (Or.inr (slot_ne (Or.inr (own_hw hw 18)) (Or.inr (own_hw hw 61)) (by decide) (t := .int) (t' := (.array .long)) (by decide) (by decide)))).ext E102).other W105 (Or.inr (slot_ne (Or.inr (own_hw hw 18)) (Or.inr (own_hw hw 63)) (by decide) (t := .int) (t' := (.array .long)) (by decide) (by decide)))).ext E106).other W109 (Or.inr (slot_ne (Or.inr (own_hw hw 18)) (Or.inr (own_hw hw 65)) (by decide) (t := .int) (t' := (.array .int)) (by decide) (by decide)))).ext E110).other W113 (Or.inr (slot_ne (Or.inr (own_hw hw 18)) (Or.inr (own_hw hw 67)) (by decide) (t := .int) (t' := (.array .int)) (by decide) (by decide)))).ext E114).other W117 (Or.inr (slot_ne (Or.inr (own_hw hw 18)) (Or.inr (own_hw hw 69)) (by decide) (t := .int) (t' := (.array .int)) (by decide) (by decide)))).ext E118).other W121 (Or.inr (slot_ne (Or.inr (own_hw hw 18)) (Or.inr (own_hw hw 71)) (by decide) (t := .int) (t' := (.array .int)) (by decide) (by decide)))).ext E122).other W125 (Or.inr (slot_ne (Or.inr (own_hw hw 18)) (Or.inr (own_hw hw 73)) (by decide) (t := .int) (t' := (.array .int)) (by decide) (by decide)))).ext E126).keep K132 (ninS (own_ne (by omega)) nin0)).other W135 (Or.inr (slot_ne (Or.inr (own_hw hw 18)) (Or.inr (own_hw hw 91)) (by decide) (t := .int) (t' := (.object oS1)) (by decide) (by decide))))
        have c142 : Fld Z h135 a1 oS0 oS3 "J" (.long ((((0 : Int64) + ca.toInt64) + cb.toInt64) + (1 : Int64))) := ((((((((((((((((((((((((((((((((((((f26.other W29 (Or.inr (slot_ne (Or.inr (own_hw hw 20)) (Or.inr (own_hw hw 22)) (by decide) (t := .long) (t' := (.array .int)) (by decide) (by decide)))).other W32 (Or.inr (slot_ne (Or.inr (own_hw hw 20)) (Or.inr (own_hw hw 24)) (by decide) (t := .long) (t' := (.array .int)) (by decide) (by decide)))).other W35 (Or.inr (slot_ne (Or.inr (own_hw hw 20)) (Or.inr (own_hw hw 26)) (by decide) (t := .long) (t' := (.array .int)) (by decide) (by decide)))).other W38 (Or.inr (slot_ne (Or.inr (own_hw hw 20)) (Or.inr (own_hw hw 28)) (by decide) (t := .long) (t' := (.array .int)) (by decide) (by decide)))).ext E41).other W44 (Or.inr (slot_ne (Or.inr (own_hw hw 20)) (Or.inr (own_hw hw 30)) (by decide) (t := .long) (t' := (.array .int)) (by decide) (by decide)))).keep K46 (ninS (own_ne (by omega)) nin0)).other W51 (Or.inr (slot_ne (Or.inr (own_hw hw 20)) (Or.inr (own_hw hw 47)) (by decide) (t := .long) (t' := (.array .int)) (by decide) (by decide)))).ext E54).other W57 (Or.inr (slot_ne (Or.inr (own_hw hw 20)) (Or.inr (own_hw hw 49)) (by decide) (t := .long) (t' := (.array .int)) (by decide) (by decide)))).keep K59 (ninS (own_ne (by omega)) nin0)).other W64 (Or.inr (slot_ne (Or.inr (own_hw hw 20)) (Or.inr (own_hw hw 51)) (by decide) (t := .long) (t' := (.array .int)) (by decide) (by decide)))).ext E76).other W79 (Or.inr (slot_ne (Or.inr (own_hw hw 20)) (Or.inr (own_hw hw 53)) (by decide) (t := .long) (t' := (.array .int)) (by decide) (by decide)))).ext E82).other W85 (Or.inr (slot_ne (Or.inr (own_hw hw 20)) (Or.inr (own_hw hw 55)) (by decide) (t := .long) (t' := (.array .int)) (by decide) (by decide)))).ext E88).other W91 (Or.inr (slot_ne (Or.inr (own_hw hw 20)) (Or.inr (own_hw hw 57)) (by decide) (t := .long) (t' := (.array .int)) (by decide) (by decide)))).keep K95 (ninS (own_ne (by omega)) nin0)).ext E98).other W101 (Or.inr (slot_ne (Or.inr (own_hw hw 20)) (Or.inr (own_hw hw 61)) (by decide) (t := .long) (t' := (.array .long)) (by decide) (by decide)))).ext E102).other W105 (Or.inr (slot_ne (Or.inr (own_hw hw 20)) (Or.inr (own_hw hw 63)) (by decide) (t := .long) (t' := (.array .long)) (by decide) (by decide)))).ext E106).other W109 (Or.inr (slot_ne (Or.inr (own_hw hw 20)) (Or.inr (own_hw hw 65)) (by decide) (t := .long) (t' := (.array .int)) (by decide) (by decide)))).ext E110).other W113 (Or.inr (slot_ne (Or.inr (own_hw hw 20)) (Or.inr (own_hw hw 67)) (by decide) (t := .long) (t' := (.array .int)) (by decide) (by decide)))).ext E114).other W117 (Or.inr (slot_ne (Or.inr (own_hw hw 20)) (Or.inr (own_hw hw 69)) (by decide) (t := .long) (t' := (.array .int)) (by decide) (by decide)))).ext E118).other W121 (Or.inr (slot_ne (Or.inr (own_hw hw 20)) (Or.inr (own_hw hw 71)) (by decide) (t := .long) (t' := (.array .int)) (by decide) (by decide)))).ext E122).other W125 (Or.inr (slot_ne (Or.inr (own_hw hw 20)) (Or.inr (own_hw hw 73)) (by decide) (t := .long) (t' := (.array .int)) (by decide) (by decide)))).ext E126).keep K132 (ninS (own_ne (by omega)) nin0)).other W135 (Or.inr (slot_ne (Or.inr (own_hw hw 20)) (Or.inr (own_hw hw 91)) (by decide) (t := .long) (t' := (.object oS1)) (by decide) (by decide))))
        have c143 : Fld Z h135 a1 oS0 "arcUnit" "[I" (.ref au) := ((((((((((((((((((((((((((((((((((f32.other W35 (Or.inr (slot_ne (Or.inr (own_hw hw 24)) (Or.inr (own_hw hw 26)) (by decide) (t := (.array .int)) (t' := (.array .int)) (by decide) (by decide)))).other W38 (Or.inr (slot_ne (Or.inr (own_hw hw 24)) (Or.inr (own_hw hw 28)) (by decide) (t := (.array .int)) (t' := (.array .int)) (by decide) (by decide)))).ext E41).other W44 (Or.inr (slot_ne (Or.inr (own_hw hw 24)) (Or.inr (own_hw hw 30)) (by decide) (t := (.array .int)) (t' := (.array .int)) (by decide) (by decide)))).keep K46 (ninS (own_ne (by omega)) nin0)).other W51 (Or.inr (slot_ne (Or.inr (own_hw hw 24)) (Or.inr (own_hw hw 47)) (by decide) (t := (.array .int)) (t' := (.array .int)) (by decide) (by decide)))).ext E54).other W57 (Or.inr (slot_ne (Or.inr (own_hw hw 24)) (Or.inr (own_hw hw 49)) (by decide) (t := (.array .int)) (t' := (.array .int)) (by decide) (by decide)))).keep K59 (ninS (own_ne (by omega)) nin0)).other W64 (Or.inr (slot_ne (Or.inr (own_hw hw 24)) (Or.inr (own_hw hw 51)) (by decide) (t := (.array .int)) (t' := (.array .int)) (by decide) (by decide)))).ext E76).other W79 (Or.inr (slot_ne (Or.inr (own_hw hw 24)) (Or.inr (own_hw hw 53)) (by decide) (t := (.array .int)) (t' := (.array .int)) (by decide) (by decide)))).ext E82).other W85 (Or.inr (slot_ne (Or.inr (own_hw hw 24)) (Or.inr (own_hw hw 55)) (by decide) (t := (.array .int)) (t' := (.array .int)) (by decide) (by decide)))).ext E88).other W91 (Or.inr (slot_ne (Or.inr (own_hw hw 24)) (Or.inr (own_hw hw 57)) (by decide) (t := (.array .int)) (t' := (.array .int)) (by decide) (by decide)))).keep K95 (ninS (own_ne (by omega)) nin0)).ext E98).other W101 (Or.inr (slot_ne (Or.inr (own_hw hw 24)) (Or.inr (own_hw hw 61)) (by decide) (t := (.array .int)) (t' := (.array .long)) (by decide) (by decide)))).ext E102).other W105 (Or.inr (slot_ne (Or.inr (own_hw hw 24)) (Or.inr (own_hw hw 63)) (by decide) (t := (.array .int)) (t' := (.array .long)) (by decide) (by decide)))).ext E106).other W109 (Or.inr (slot_ne (Or.inr (own_hw hw 24)) (Or.inr (own_hw hw 65)) (by decide) (t := (.array .int)) (t' := (.array .int)) (by decide) (by decide)))).ext E110).other W113 (Or.inr (slot_ne (Or.inr (own_hw hw 24)) (Or.inr (own_hw hw 67)) (by decide) (t := (.array .int)) (t' := (.array .int)) (by decide) (by decide)))).ext E114).other W117 (Or.inr (slot_ne (Or.inr (own_hw hw 24)) (Or.inr (own_hw hw 69)) (by decide) (t := (.array .int)) (t' := (.array .int)) (by decide) (by decide)))).ext E118).other W121 (Or.inr (slot_ne (Or.inr (own_hw hw 24)) (Or.inr (own_hw hw 71)) (by decide) (t := (.array .int)) (t' := (.array .int)) (by decide) (by decide)))).ext E122).other W125 (Or.inr (slot_ne (Or.inr (own_hw hw 24)) (Or.inr (own_hw hw 73)) (by decide) (t := (.array .int)) (t' := (.array .int)) (by decide) (by decide)))).ext E126).keep K132 (ninS (own_ne (by omega)) nin0)).other W135 (Or.inr (slot_ne (Or.inr (own_hw hw 24)) (Or.inr (own_hw hw 91)) (by decide) (t := (.array .int)) (t' := (.object oS1)) (by decide) (by decide))))
        have c144 : Fld Z h135 a1 oS0 "arcOwned" "[I" (.ref ao) := (((((((((((((((((((((((((((((((((f35.other W38 (Or.inr (slot_ne (Or.inr (own_hw hw 26)) (Or.inr (own_hw hw 28)) (by decide) (t := (.array .int)) (t' := (.array .int)) (by decide) (by decide)))).ext E41).other W44 (Or.inr (slot_ne (Or.inr (own_hw hw 26)) (Or.inr (own_hw hw 30)) (by decide) (t := (.array .int)) (t' := (.array .int)) (by decide) (by decide)))).keep K46 (ninS (own_ne (by omega)) nin0)).other W51 (Or.inr (slot_ne (Or.inr (own_hw hw 26)) (Or.inr (own_hw hw 47)) (by decide) (t := (.array .int)) (t' := (.array .int)) (by decide) (by decide)))).ext E54).other W57 (Or.inr (slot_ne (Or.inr (own_hw hw 26)) (Or.inr (own_hw hw 49)) (by decide) (t := (.array .int)) (t' := (.array .int)) (by decide) (by decide)))).keep K59 (ninS (own_ne (by omega)) nin0)).other W64 (Or.inr (slot_ne (Or.inr (own_hw hw 26)) (Or.inr (own_hw hw 51)) (by decide) (t := (.array .int)) (t' := (.array .int)) (by decide) (by decide)))).ext E76).other W79 (Or.inr (slot_ne (Or.inr (own_hw hw 26)) (Or.inr (own_hw hw 53)) (by decide) (t := (.array .int)) (t' := (.array .int)) (by decide) (by decide)))).ext E82).other W85 (Or.inr (slot_ne (Or.inr (own_hw hw 26)) (Or.inr (own_hw hw 55)) (by decide) (t := (.array .int)) (t' := (.array .int)) (by decide) (by decide)))).ext E88).other W91 (Or.inr (slot_ne (Or.inr (own_hw hw 26)) (Or.inr (own_hw hw 57)) (by decide) (t := (.array .int)) (t' := (.array .int)) (by decide) (by decide)))).keep K95 (ninS (own_ne (by omega)) nin0)).ext E98).other W101 (Or.inr (slot_ne (Or.inr (own_hw hw 26)) (Or.inr (own_hw hw 61)) (by decide) (t := (.array .int)) (t' := (.array .long)) (by decide) (by decide)))).ext E102).other W105 (Or.inr (slot_ne (Or.inr (own_hw hw 26)) (Or.inr (own_hw hw 63)) (by decide) (t := (.array .int)) (t' := (.array .long)) (by decide) (by decide)))).ext E106).other W109 (Or.inr (slot_ne (Or.inr (own_hw hw 26)) (Or.inr (own_hw hw 65)) (by decide) (t := (.array .int)) (t' := (.array .int)) (by decide) (by decide)))).ext E110).other W113 (Or.inr (slot_ne (Or.inr (own_hw hw 26)) (Or.inr (own_hw hw 67)) (by decide) (t := (.array .int)) (t' := (.array .int)) (by decide) (by decide)))).ext E114).other W117 (Or.inr (slot_ne (Or.inr (own_hw hw 26)) (Or.inr (own_hw hw 69)) (by decide) (t := (.array .int)) (t' := (.array .int)) (by decide) (by decide)))).ext E118).other W121 (Or.inr (slot_ne (Or.inr (own_hw hw 26)) (Or.inr (own_hw hw 71)) (by decide) (t := (.array .int)) (t' := (.array .int)) (by decide) (by decide)))).ext E122).other W125 (Or.inr (slot_ne (Or.inr (own_hw hw 26)) (Or.inr (own_hw hw 73)) (by decide) (t := (.array .int)) (t' := (.array .int)) (by decide) (by decide)))).ext E126).keep K132 (ninS (own_ne (by omega)) nin0)).other W135 (Or.inr (slot_ne (Or.inr (own_hw hw 26)) (Or.inr (own_hw hw 91)) (by decide) (t := (.array .int)) (t' := (.object oS1)) (by decide) (by decide))))
        have c145 : Fld Z h135 a1 oS0 "unitSize" "[I" (.ref us) := ((((((((((((((((((((((((((((((((f38.ext E41).other W44 (Or.inr (slot_ne (Or.inr (own_hw hw 28)) (Or.inr (own_hw hw 30)) (by decide) (t := (.array .int)) (t' := (.array .int)) (by decide) (by decide)))).keep K46 (ninS (own_ne (by omega)) nin0)).other W51 (Or.inr (slot_ne (Or.inr (own_hw hw 28)) (Or.inr (own_hw hw 47)) (by decide) (t := (.array .int)) (t' := (.array .int)) (by decide) (by decide)))).ext E54).other W57 (Or.inr (slot_ne (Or.inr (own_hw hw 28)) (Or.inr (own_hw hw 49)) (by decide) (t := (.array .int)) (t' := (.array .int)) (by decide) (by decide)))).keep K59 (ninS (own_ne (by omega)) nin0)).other W64 (Or.inr (slot_ne (Or.inr (own_hw hw 28)) (Or.inr (own_hw hw 51)) (by decide) (t := (.array .int)) (t' := (.array .int)) (by decide) (by decide)))).ext E76).other W79 (Or.inr (slot_ne (Or.inr (own_hw hw 28)) (Or.inr (own_hw hw 53)) (by decide) (t := (.array .int)) (t' := (.array .int)) (by decide) (by decide)))).ext E82).other W85 (Or.inr (slot_ne (Or.inr (own_hw hw 28)) (Or.inr (own_hw hw 55)) (by decide) (t := (.array .int)) (t' := (.array .int)) (by decide) (by decide)))).ext E88).other W91 (Or.inr (slot_ne (Or.inr (own_hw hw 28)) (Or.inr (own_hw hw 57)) (by decide) (t := (.array .int)) (t' := (.array .int)) (by decide) (by decide)))).keep K95 (ninS (own_ne (by omega)) nin0)).ext E98).other W101 (Or.inr (slot_ne (Or.inr (own_hw hw 28)) (Or.inr (own_hw hw 61)) (by decide) (t := (.array .int)) (t' := (.array .long)) (by decide) (by decide)))).ext E102).other W105 (Or.inr (slot_ne (Or.inr (own_hw hw 28)) (Or.inr (own_hw hw 63)) (by decide) (t := (.array .int)) (t' := (.array .long)) (by decide) (by decide)))).ext E106).other W109 (Or.inr (slot_ne (Or.inr (own_hw hw 28)) (Or.inr (own_hw hw 65)) (by decide) (t := (.array .int)) (t' := (.array .int)) (by decide) (by decide)))).ext E110).other W113 (Or.inr (slot_ne (Or.inr (own_hw hw 28)) (Or.inr (own_hw hw 67)) (by decide) (t := (.array .int)) (t' := (.array .int)) (by decide) (by decide)))).ext E114).other W117 (Or.inr (slot_ne (Or.inr (own_hw hw 28)) (Or.inr (own_hw hw 69)) (by decide) (t := (.array .int)) (t' := (.array .int)) (by decide) (by decide)))).ext E118).other W121 (Or.inr (slot_ne (Or.inr (own_hw hw 28)) (Or.inr (own_hw hw 71)) (by decide) (t := (.array .int)) (t' := (.array .int)) (by decide) (by decide)))).ext E122).other W125 (Or.inr (slot_ne (Or.inr (own_hw hw 28)) (Or.inr (own_hw hw 73)) (by decide) (t := (.array .int)) (t' := (.array .int)) (by decide) (by decide)))).ext E126).keep K132 (ninS (own_ne (by omega)) nin0)).other W135 (Or.inr (slot_ne (Or.inr (own_hw hw 28)) (Or.inr (own_hw hw 91)) (by decide) (t := (.array .int)) (t' := (.object oS1)) (by decide) (by decide))))
        have c146 : Fld Z h135 a1 oS0 oS2 "[I" (.ref b41) := ((((((((((((((((((((((((((((((f44.keep K46 (ninS (own_ne (by omega)) nin0)).other W51 (Or.inr (slot_ne (Or.inr (own_hw hw 30)) (Or.inr (own_hw hw 47)) (by decide) (t := (.array .int)) (t' := (.array .int)) (by decide) (by decide)))).ext E54).other W57 (Or.inr (slot_ne (Or.inr (own_hw hw 30)) (Or.inr (own_hw hw 49)) (by decide) (t := (.array .int)) (t' := (.array .int)) (by decide) (by decide)))).keep K59 (ninS (own_ne (by omega)) nin0)).other W64 (Or.inr (slot_ne (Or.inr (own_hw hw 30)) (Or.inr (own_hw hw 51)) (by decide) (t := (.array .int)) (t' := (.array .int)) (by decide) (by decide)))).ext E76).other W79 (Or.inr (slot_ne (Or.inr (own_hw hw 30)) (Or.inr (own_hw hw 53)) (by decide) (t := (.array .int)) (t' := (.array .int)) (by decide) (by decide)))).ext E82).other W85 (Or.inr (slot_ne (Or.inr (own_hw hw 30)) (Or.inr (own_hw hw 55)) (by decide) (t := (.array .int)) (t' := (.array .int)) (by decide) (by decide)))).ext E88).other W91 (Or.inr (slot_ne (Or.inr (own_hw hw 30)) (Or.inr (own_hw hw 57)) (by decide) (t := (.array .int)) (t' := (.array .int)) (by decide) (by decide)))).keep K95 (ninS (own_ne (by omega)) nin0)).ext E98).other W101 (Or.inr (slot_ne (Or.inr (own_hw hw 30)) (Or.inr (own_hw hw 61)) (by decide) (t := (.array .int)) (t' := (.array .long)) (by decide) (by decide)))).ext E102).other W105 (Or.inr (slot_ne (Or.inr (own_hw hw 30)) (Or.inr (own_hw hw 63)) (by decide) (t := (.array .int)) (t' := (.array .long)) (by decide) (by decide)))).ext E106).other W109 (Or.inr (slot_ne (Or.inr (own_hw hw 30)) (Or.inr (own_hw hw 65)) (by decide) (t := (.array .int)) (t' := (.array .int)) (by decide) (by decide)))).ext E110).other W113 (Or.inr (slot_ne (Or.inr (own_hw hw 30)) (Or.inr (own_hw hw 67)) (by decide) (t := (.array .int)) (t' := (.array .int)) (by decide) (by decide)))).ext E114).other W117 (Or.inr (slot_ne (Or.inr (own_hw hw 30)) (Or.inr (own_hw hw 69)) (by decide) (t := (.array .int)) (t' := (.array .int)) (by decide) (by decide)))).ext E118).other W121 (Or.inr (slot_ne (Or.inr (own_hw hw 30)) (Or.inr (own_hw hw 71)) (by decide) (t := (.array .int)) (t' := (.array .int)) (by decide) (by decide)))).ext E122).other W125 (Or.inr (slot_ne (Or.inr (own_hw hw 30)) (Or.inr (own_hw hw 73)) (by decide) (t := (.array .int)) (t' := (.array .int)) (by decide) (by decide)))).ext E126).keep K132 (ninS (own_ne (by omega)) nin0)).other W135 (Or.inr (slot_ne (Or.inr (own_hw hw 30)) (Or.inr (own_hw hw 91)) (by decide) (t := (.array .int)) (t' := (.object oS1)) (by decide) (by decide))))
        have c147 : Fld Z h135 a1 oS0 "topicArcs" "[I" (.ref r_46) := ((((((((((((((((((((((((((((f51.ext E54).other W57 (Or.inr (slot_ne (Or.inr (own_hw hw 47)) (Or.inr (own_hw hw 49)) (by decide) (t := (.array .int)) (t' := (.array .int)) (by decide) (by decide)))).keep K59 (ninS (own_ne (by omega)) nin0)).other W64 (Or.inr (slot_ne (Or.inr (own_hw hw 47)) (Or.inr (own_hw hw 51)) (by decide) (t := (.array .int)) (t' := (.array .int)) (by decide) (by decide)))).ext E76).other W79 (Or.inr (slot_ne (Or.inr (own_hw hw 47)) (Or.inr (own_hw hw 53)) (by decide) (t := (.array .int)) (t' := (.array .int)) (by decide) (by decide)))).ext E82).other W85 (Or.inr (slot_ne (Or.inr (own_hw hw 47)) (Or.inr (own_hw hw 55)) (by decide) (t := (.array .int)) (t' := (.array .int)) (by decide) (by decide)))).ext E88).other W91 (Or.inr (slot_ne (Or.inr (own_hw hw 47)) (Or.inr (own_hw hw 57)) (by decide) (t := (.array .int)) (t' := (.array .int)) (by decide) (by decide)))).keep K95 (ninS (own_ne (by omega)) nin0)).ext E98).other W101 (Or.inr (slot_ne (Or.inr (own_hw hw 47)) (Or.inr (own_hw hw 61)) (by decide) (t := (.array .int)) (t' := (.array .long)) (by decide) (by decide)))).ext E102).other W105 (Or.inr (slot_ne (Or.inr (own_hw hw 47)) (Or.inr (own_hw hw 63)) (by decide) (t := (.array .int)) (t' := (.array .long)) (by decide) (by decide)))).ext E106).other W109 (Or.inr (slot_ne (Or.inr (own_hw hw 47)) (Or.inr (own_hw hw 65)) (by decide) (t := (.array .int)) (t' := (.array .int)) (by decide) (by decide)))).ext E110).other W113 (Or.inr (slot_ne (Or.inr (own_hw hw 47)) (Or.inr (own_hw hw 67)) (by decide) (t := (.array .int)) (t' := (.array .int)) (by decide) (by decide)))).ext E114).other W117 (Or.inr (slot_ne (Or.inr (own_hw hw 47)) (Or.inr (own_hw hw 69)) (by decide) (t := (.array .int)) (t' := (.array .int)) (by decide) (by decide)))).ext E118).other W121 (Or.inr (slot_ne (Or.inr (own_hw hw 47)) (Or.inr (own_hw hw 71)) (by decide) (t := (.array .int)) (t' := (.array .int)) (by decide) (by decide)))).ext E122).other W125 (Or.inr (slot_ne (Or.inr (own_hw hw 47)) (Or.inr (own_hw hw 73)) (by decide) (t := (.array .int)) (t' := (.array .int)) (by decide) (by decide)))).ext E126).keep K132 (ninS (own_ne (by omega)) nin0)).other W135 (Or.inr (slot_ne (Or.inr (own_hw hw 47)) (Or.inr (own_hw hw 91)) (by decide) (t := (.array .int)) (t' := (.object oS1)) (by decide) (by decide))))
        have c148 : Fld Z h135 a1 oS0 "flow" "[I" (.ref b76) := ((((((((((((((((((((((f79.ext E82).other W85 (Or.inr (slot_ne (Or.inr (own_hw hw 53)) (Or.inr (own_hw hw 55)) (by decide) (t := (.array .int)) (t' := (.array .int)) (by decide) (by decide)))).ext E88).other W91 (Or.inr (slot_ne (Or.inr (own_hw hw 53)) (Or.inr (own_hw hw 57)) (by decide) (t := (.array .int)) (t' := (.array .int)) (by decide) (by decide)))).keep K95 (ninS (own_ne (by omega)) nin0)).ext E98).other W101 (Or.inr (slot_ne (Or.inr (own_hw hw 53)) (Or.inr (own_hw hw 61)) (by decide) (t := (.array .int)) (t' := (.array .long)) (by decide) (by decide)))).ext E102).other W105 (Or.inr (slot_ne (Or.inr (own_hw hw 53)) (Or.inr (own_hw hw 63)) (by decide) (t := (.array .int)) (t' := (.array .long)) (by decide) (by decide)))).ext E106).other W109 (Or.inr (slot_ne (Or.inr (own_hw hw 53)) (Or.inr (own_hw hw 65)) (by decide) (t := (.array .int)) (t' := (.array .int)) (by decide) (by decide)))).ext E110).other W113 (Or.inr (slot_ne (Or.inr (own_hw hw 53)) (Or.inr (own_hw hw 67)) (by decide) (t := (.array .int)) (t' := (.array .int)) (by decide) (by decide)))).ext E114).other W117 (Or.inr (slot_ne (Or.inr (own_hw hw 53)) (Or.inr (own_hw hw 69)) (by decide) (t := (.array .int)) (t' := (.array .int)) (by decide) (by decide)))).ext E118).other W121 (Or.inr (slot_ne (Or.inr (own_hw hw 53)) (Or.inr (own_hw hw 71)) (by decide) (t := (.array .int)) (t' := (.array .int)) (by decide) (by decide)))).ext E122).other W125 (Or.inr (slot_ne (Or.inr (own_hw hw 53)) (Or.inr (own_hw hw 73)) (by decide) (t := (.array .int)) (t' := (.array .int)) (by decide) (by decide)))).ext E126).keep K132 (ninS (own_ne (by omega)) nin0)).other W135 (Or.inr (slot_ne (Or.inr (own_hw hw 53)) (Or.inr (own_hw hw 91)) (by decide) (t := (.array .int)) (t' := (.object oS1)) (by decide) (by decide))))
        have c149 : Fld Z h135 a1 oS0 "load" "[I" (.ref b82) := ((((((((((((((((((((f85.ext E88).other W91 (Or.inr (slot_ne (Or.inr (own_hw hw 55)) (Or.inr (own_hw hw 57)) (by decide) (t := (.array .int)) (t' := (.array .int)) (by decide) (by decide)))).keep K95 (ninS (own_ne (by omega)) nin0)).ext E98).other W101 (Or.inr (slot_ne (Or.inr (own_hw hw 55)) (Or.inr (own_hw hw 61)) (by decide) (t := (.array .int)) (t' := (.array .long)) (by decide) (by decide)))).ext E102).other W105 (Or.inr (slot_ne (Or.inr (own_hw hw 55)) (Or.inr (own_hw hw 63)) (by decide) (t := (.array .int)) (t' := (.array .long)) (by decide) (by decide)))).ext E106).other W109 (Or.inr (slot_ne (Or.inr (own_hw hw 55)) (Or.inr (own_hw hw 65)) (by decide) (t := (.array .int)) (t' := (.array .int)) (by decide) (by decide)))).ext E110).other W113 (Or.inr (slot_ne (Or.inr (own_hw hw 55)) (Or.inr (own_hw hw 67)) (by decide) (t := (.array .int)) (t' := (.array .int)) (by decide) (by decide)))).ext E114).other W117 (Or.inr (slot_ne (Or.inr (own_hw hw 55)) (Or.inr (own_hw hw 69)) (by decide) (t := (.array .int)) (t' := (.array .int)) (by decide) (by decide)))).ext E118).other W121 (Or.inr (slot_ne (Or.inr (own_hw hw 55)) (Or.inr (own_hw hw 71)) (by decide) (t := (.array .int)) (t' := (.array .int)) (by decide) (by decide)))).ext E122).other W125 (Or.inr (slot_ne (Or.inr (own_hw hw 55)) (Or.inr (own_hw hw 73)) (by decide) (t := (.array .int)) (t' := (.array .int)) (by decide) (by decide)))).ext E126).keep K132 (ninS (own_ne (by omega)) nin0)).other W135 (Or.inr (slot_ne (Or.inr (own_hw hw 55)) (Or.inr (own_hw hw 91)) (by decide) (t := (.array .int)) (t' := (.object oS1)) (by decide) (by decide))))
        have c150 : Fld Z h135 a1 oS0 "excess" "[I" (.ref b88) := ((((((((((((((((((f91.keep K95 (ninS (own_ne (by omega)) nin0)).ext E98).other W101 (Or.inr (slot_ne (Or.inr (own_hw hw 57)) (Or.inr (own_hw hw 61)) (by decide) (t := (.array .int)) (t' := (.array .long)) (by decide) (by decide)))).ext E102).other W105 (Or.inr (slot_ne (Or.inr (own_hw hw 57)) (Or.inr (own_hw hw 63)) (by decide) (t := (.array .int)) (t' := (.array .long)) (by decide) (by decide)))).ext E106).other W109 (Or.inr (slot_ne (Or.inr (own_hw hw 57)) (Or.inr (own_hw hw 65)) (by decide) (t := (.array .int)) (t' := (.array .int)) (by decide) (by decide)))).ext E110).other W113 (Or.inr (slot_ne (Or.inr (own_hw hw 57)) (Or.inr (own_hw hw 67)) (by decide) (t := (.array .int)) (t' := (.array .int)) (by decide) (by decide)))).ext E114).other W117 (Or.inr (slot_ne (Or.inr (own_hw hw 57)) (Or.inr (own_hw hw 69)) (by decide) (t := (.array .int)) (t' := (.array .int)) (by decide) (by decide)))).ext E118).other W121 (Or.inr (slot_ne (Or.inr (own_hw hw 57)) (Or.inr (own_hw hw 71)) (by decide) (t := (.array .int)) (t' := (.array .int)) (by decide) (by decide)))).ext E122).other W125 (Or.inr (slot_ne (Or.inr (own_hw hw 57)) (Or.inr (own_hw hw 73)) (by decide) (t := (.array .int)) (t' := (.array .int)) (by decide) (by decide)))).ext E126).keep K132 (ninS (own_ne (by omega)) nin0)).other W135 (Or.inr (slot_ne (Or.inr (own_hw hw 57)) (Or.inr (own_hw hw 91)) (by decide) (t := (.array .int)) (t' := (.object oS1)) (by decide) (by decide))))
        have c151 : Fld Z h135 a1 oS0 "potential" "[J" (.ref b98) := (((((((((((((((f101.ext E102).other W105 (Or.inr (slot_ne (Or.inr (own_hw hw 61)) (Or.inr (own_hw hw 63)) (by decide) (t := (.array .long)) (t' := (.array .long)) (by decide) (by decide)))).ext E106).other W109 (Or.inr (slot_ne (Or.inr (own_hw hw 61)) (Or.inr (own_hw hw 65)) (by decide) (t := (.array .long)) (t' := (.array .int)) (by decide) (by decide)))).ext E110).other W113 (Or.inr (slot_ne (Or.inr (own_hw hw 61)) (Or.inr (own_hw hw 67)) (by decide) (t := (.array .long)) (t' := (.array .int)) (by decide) (by decide)))).ext E114).other W117 (Or.inr (slot_ne (Or.inr (own_hw hw 61)) (Or.inr (own_hw hw 69)) (by decide) (t := (.array .long)) (t' := (.array .int)) (by decide) (by decide)))).ext E118).other W121 (Or.inr (slot_ne (Or.inr (own_hw hw 61)) (Or.inr (own_hw hw 71)) (by decide) (t := (.array .long)) (t' := (.array .int)) (by decide) (by decide)))).ext E122).other W125 (Or.inr (slot_ne (Or.inr (own_hw hw 61)) (Or.inr (own_hw hw 73)) (by decide) (t := (.array .long)) (t' := (.array .int)) (by decide) (by decide)))).ext E126).keep K132 (ninS (own_ne (by omega)) nin0)).other W135 (Or.inr (slot_ne (Or.inr (own_hw hw 61)) (Or.inr (own_hw hw 91)) (by decide) (t := (.array .long)) (t' := (.object oS1)) (by decide) (by decide))))
        have c152 : Arv Z h135 b41 k41 .int (3 : Int32) [(.int (0 : Int32)), (.int (1 : Int32)), (.int (2 : Int32))] (.int (0 : Int32)) := (((((((((((((((((((((((((((((g46_0.other W51 (own_ne (by omega))).ext E54).other W57 (own_ne (by omega))).keep K59 (ninS (own_ne (by omega)) nin0)).other W64 (own_ne (by omega))).ext E76).other W79 (own_ne (by omega))).ext E82).other W85 (own_ne (by omega))).ext E88).other W91 (own_ne (by omega))).keep K95 (ninS (own_ne (by omega)) nin0)).ext E98).other W101 (own_ne (by omega))).ext E102).other W105 (own_ne (by omega))).ext E106).other W109 (own_ne (by omega))).ext E110).other W113 (own_ne (by omega))).ext E114).other W117 (own_ne (by omega))).ext E118).other W121 (own_ne (by omega))).ext E122).other W125 (own_ne (by omega))).ext E126).keep K132 (ninS (own_ne (by omega)) nin0)).other W135 (own_ne (by omega)))
        have c153 : Arv Z h135 r_46 kr_46 .int (2 : Int32) [(.int (0 : Int32)), (.int (1 : Int32))] (.int (0 : Int32)) := (((((((((((((((((((((((((((((g46_1.other W51 (own_ne (by omega))).ext E54).other W57 (own_ne (by omega))).keep K59 (ninS (own_ne (by omega)) nin0)).other W64 (own_ne (by omega))).ext E76).other W79 (own_ne (by omega))).ext E82).other W85 (own_ne (by omega))).ext E88).other W91 (own_ne (by omega))).keep K95 (ninS (own_ne (by omega)) nin0)).ext E98).other W101 (own_ne (by omega))).ext E102).other W105 (own_ne (by omega))).ext E106).other W109 (own_ne (by omega))).ext E110).other W113 (own_ne (by omega))).ext E114).other W117 (own_ne (by omega))).ext E118).other W121 (own_ne (by omega))).ext E122).other W125 (own_ne (by omega))).ext E126).keep K132 (ninS (own_ne (by omega)) nin0)).other W135 (own_ne (by omega)))
        have c154 : Arv Z h135 b76 k76 .int (2 : Int32) [(.int (0 : Int32)), (.int (0 : Int32))] (.int (0 : Int32)) := (((((((((((((((((((((((v76.other W79 (own_ne (by omega))).ext E82).other W85 (own_ne (by omega))).ext E88).other W91 (own_ne (by omega))).keep K95 (ninS (own_ne (by omega)) nin0)).ext E98).other W101 (own_ne (by omega))).ext E102).other W105 (own_ne (by omega))).ext E106).other W109 (own_ne (by omega))).ext E110).other W113 (own_ne (by omega))).ext E114).other W117 (own_ne (by omega))).ext E118).other W121 (own_ne (by omega))).ext E122).other W125 (own_ne (by omega))).ext E126).keep K132 (ninS (own_ne (by omega)) nin0)).other W135 (own_ne (by omega)))
        have c155 : Arv Z h135 b82 k82 .int (2 : Int32) [(.int (0 : Int32)), (.int (0 : Int32))] (.int (0 : Int32)) := (((((((((((((((((((((v82.other W85 (own_ne (by omega))).ext E88).other W91 (own_ne (by omega))).keep K95 (ninS (own_ne (by omega)) nin0)).ext E98).other W101 (own_ne (by omega))).ext E102).other W105 (own_ne (by omega))).ext E106).other W109 (own_ne (by omega))).ext E110).other W113 (own_ne (by omega))).ext E114).other W117 (own_ne (by omega))).ext E118).other W121 (own_ne (by omega))).ext E122).other W125 (own_ne (by omega))).ext E126).keep K132 (ninS (own_ne (by omega)) nin0)).other W135 (own_ne (by omega)))
        have c156 : Arv Z h135 b88 k88 .int (5 : Int32) [(.int ca), (.int cb), (.int (0 : Int32)), (.int (0 : Int32)), (.int (0 : Int32))] (.int (0 : Int32)) := (((((((((((((((((v95.ext E98).other W101 (own_ne (by omega))).ext E102).other W105 (own_ne (by omega))).ext E106).other W109 (own_ne (by omega))).ext E110).other W113 (own_ne (by omega))).ext E114).other W117 (own_ne (by omega))).ext E118).other W121 (own_ne (by omega))).ext E122).other W125 (own_ne (by omega))).ext E126).keep K132 (ninS (own_ne (by omega)) nin0)).other W135 (own_ne (by omega)))
        have c157 : Arv Z h135 b98 k98 .long (5 : Int32) [(.long (0 : Int64)), (.long (0 : Int64)), (.long (0 : Int64)), (.long (0 : Int64)), (.long (0 : Int64))] (.long (0 : Int64)) := ((((((((((((((((v98.other W101 (own_ne (by omega))).ext E102).other W105 (own_ne (by omega))).ext E106).other W109 (own_ne (by omega))).ext E110).other W113 (own_ne (by omega))).ext E114).other W117 (own_ne (by omega))).ext E118).other W121 (own_ne (by omega))).ext E122).other W125 (own_ne (by omega))).ext E126).keep K132 (ninS (own_ne (by omega)) nin0)).other W135 (own_ne (by omega)))
        rw [e135]
        exact ⟨b41, r_46, b76, b82, b88, b98, k41, kr_46, k76, k82, k88, k98, rfl, N135, ((((((((((((((((((((((((((((((((((((((((((Keep.refl h0 [a1]).wr W9 (Or.inl (List.mem_of_getElem? (i := 0) rfl))).wr W14 (Or.inl (List.mem_of_getElem? (i := 0) rfl))).wr W20 (Or.inl (List.mem_of_getElem? (i := 0) rfl))).wr W23 (Or.inl (List.mem_of_getElem? (i := 0) rfl))).wr W26 (Or.inl (List.mem_of_getElem? (i := 0) rfl))).wr W29 (Or.inl (List.mem_of_getElem? (i := 0) rfl))).wr W32 (Or.inl (List.mem_of_getElem? (i := 0) rfl))).wr W35 (Or.inl (List.mem_of_getElem? (i := 0) rfl))).wr W38 (Or.inl (List.mem_of_getElem? (i := 0) rfl))).ext E41).wr W44 (Or.inl (List.mem_of_getElem? (i := 0) rfl))).trans K46 (allS (P := fun x => x ∈ [a1] ∨ h0.size ≤ x) (Or.inr (by omega)) all0)).wr W51 (Or.inl (List.mem_of_getElem? (i := 0) rfl))).ext E54).wr W57 (Or.inl (List.mem_of_getElem? (i := 0) rfl))).trans K59 (allS (P := fun x => x ∈ [a1] ∨ h0.size ≤ x) (Or.inr (by omega)) all0)).wr W64 (Or.inl (List.mem_of_getElem? (i := 0) rfl))).ext E76).wr W79 (Or.inl (List.mem_of_getElem? (i := 0) rfl))).ext E82).wr W85 (Or.inl (List.mem_of_getElem? (i := 0) rfl))).ext E88).wr W91 (Or.inl (List.mem_of_getElem? (i := 0) rfl))).trans K95 (allS (P := fun x => x ∈ [a1] ∨ h0.size ≤ x) (Or.inr (by omega)) all0)).ext E98).wr W101 (Or.inl (List.mem_of_getElem? (i := 0) rfl))).ext E102).wr W105 (Or.inl (List.mem_of_getElem? (i := 0) rfl))).ext E106).wr W109 (Or.inl (List.mem_of_getElem? (i := 0) rfl))).ext E110).wr W113 (Or.inl (List.mem_of_getElem? (i := 0) rfl))).ext E114).wr W117 (Or.inl (List.mem_of_getElem? (i := 0) rfl))).ext E118).wr W121 (Or.inl (List.mem_of_getElem? (i := 0) rfl))).ext E122).wr W125 (Or.inl (List.mem_of_getElem? (i := 0) rfl))).ext E126).trans K132 (allS (P := fun x => x ∈ [a1] ∨ h0.size ≤ x) (Or.inr (by omega)) all0)).wr W135 (Or.inl (List.mem_of_getElem? (i := 0) rfl))), c137, c138, c139, c140, c141, c142, c143, c144, c145, c146, c147, c148, c149, c150, c151, c152, c153, c154, c155, c156, c157, (by omega), (by omega), (by omega), (by omega), (by omega), (by omega)⟩
    refine own_go (st' := T69.setTop (mkF m 170 #[oR a1, oR pc, oR att, oR au, oR ao, oR us, .val (.long (((0 : Int64) + ca.toInt64) + cb.toInt64)), .second, oi 1, oi 2, oi 2, oi cb] [(.ref pc)])) (fun _ k => XS.aloadN X69.here hx rfl (hb hby d1_169) rfl rfl k) ?_
    refine own_go (st' := T69.setTop (mkF m 172 #[oR a1, oR pc, oR att, oR au, oR ao, oR us, .val (.long (((0 : Int64) + ca.toInt64) + cb.toInt64)), .second, oi 1, oi 2, oi 2, oi cb] [(.int (1 : Int32)), (.ref pc)])) (fun _ k => XS.iload X69.here hx rfl (hb hby d1_170) rfl k) ?_
    have c158 : Arv Z h64 pc kpc .int (2 : Int32) [(.int ca), (.int cb)] (.int (0 : Int32)) := (((((((((((((((((pr26.other W9 (own_ne (by omega))).other W14 (own_ne (by omega))).other W20 (own_ne (by omega))).other W23 (own_ne (by omega))).other W26 (own_ne (by omega))).other W29 (own_ne (by omega))).other W32 (own_ne (by omega))).other W35 (own_ne (by omega))).other W38 (own_ne (by omega))).ext E41).other W44 (own_ne (by omega))).keep K46 (ninS (own_ne (by omega)) nin0)).other W51 (own_ne (by omega))).ext E54).other W57 (own_ne (by omega))).keep K59 (ninS (own_ne (by omega)) nin0)).other W64 (own_ne (by omega)))
    obtain ⟨cl159, Ar159, -, S159, M159, H159, -⟩ := id c158
    have hin159 : ¬ ((1 : Int32) < 0 ∨ cl159.slots.size ≤ ((1 : Int32)).toNatClampNeg) := (inb_of S159 ⟨by decide, by decide⟩)
    have hat159 : cl159.slots[((1 : Int32)).toNatClampNeg]? = some (.int cb) := (H159.at hin159 rfl)
    refine own_go (st' := T69.setTop (mkF m 173 #[oR a1, oR pc, oR att, oR au, oR ao, oR us, .val (.long (((0 : Int64) + ca.toInt64) + cb.toInt64)), .second, oi 1, oi 2, oi 2, oi cb] [(.int cb)])) (X69.iaload hx (j := (1 : Int32)) (v := (.int cb)) (by rw [e69]; exact Ar159.1) (State.isArrayOf_alike hZ.alike Ar159.2.1) Ar159.2.2 hin159 hat159 (g := (mkF m 172 #[oR a1, oR pc, oR att, oR au, oR ao, oR us, .val (.long (((0 : Int64) + ca.toInt64) + cb.toInt64)), .second, oi 1, oi 2, oi 2, oi cb] [(.int (1 : Int32)), (.ref pc)])) rfl rfl (hb hby d1_172)) ?_
    by_cases hc160 : (0 : Int32) < cb
    · --
      refine own_go (st' := T69.setTop (mkF m 176 #[oR a1, oR pc, oR att, oR au, oR ao, oR us, .val (.long (((0 : Int64) + ca.toInt64) + cb.toInt64)), .second, oi 1, oi 2, oi 2, oi cb] [])) (fun _ k => XS.ifNo X69.here hx rfl (hb hby d1_173) rfl ((if0 _ _).trans (tlt hc160).2.2.2) k) ?_
      refine own_go (st' := T69.setTop (mkF m 177 #[oR a1, oR pc, oR att, oR au, oR ao, oR us, .val (.long (((0 : Int64) + ca.toInt64) + cb.toInt64)), .second, oi 1, oi 2, oi 2, oi cb] [(.ref a1)])) (fun _ k => XS.aloadN X69.here hx rfl (hb hby d1_176) rfl rfl k) ?_
      have c161 : Fld Z h64 a1 oS0 oS2 "[I" (.ref b41) := ((((((f44.keep K46 (ninS (own_ne (by omega)) nin0)).other W51 (Or.inr (slot_ne (Or.inr (own_hw hw 30)) (Or.inr (own_hw hw 47)) (by decide) (t := (.array .int)) (t' := (.array .int)) (by decide) (by decide)))).ext E54).other W57 (Or.inr (slot_ne (Or.inr (own_hw hw 30)) (Or.inr (own_hw hw 49)) (by decide) (t := (.array .int)) (t' := (.array .int)) (by decide) (by decide)))).keep K59 (ninS (own_ne (by omega)) nin0)).other W64 (Or.inr (slot_ne (Or.inr (own_hw hw 30)) (Or.inr (own_hw hw 51)) (by decide) (t := (.array .int)) (t' := (.array .int)) (by decide) (by decide))))
      obtain ⟨T162, X162, e162, st162⟩ := getF X69 hx hZ hown (host := "") (Or.inl (own_hw hw 29)) Via.refl e69 c161 (g := (mkF m 177 #[oR a1, oR pc, oR att, oR au, oR ao, oR us, .val (.long (((0 : Int64) + ca.toInt64) + cb.toInt64)), .second, oi 1, oi 2, oi 2, oi cb] [(.ref a1)])) rfl rfl (hb hby d1_177)
      refine own_go (st' := T162.setTop (mkF m 180 #[oR a1, oR pc, oR att, oR au, oR ao, oR us, .val (.long (((0 : Int64) + ca.toInt64) + cb.toInt64)), .second, oi 1, oi 2, oi 2, oi cb] [(.ref b41)])) (st162) ?_
      refine own_go (st' := T162.setTop (mkF m 182 #[oR a1, oR pc, oR att, oR au, oR ao, oR us, .val (.long (((0 : Int64) + ca.toInt64) + cb.toInt64)), .second, oi 1, oi 2, oi 2, oi cb] [(.int (1 : Int32)), (.ref b41)])) (fun _ k => XS.iload X162.here hx rfl (hb hby d1_180) rfl k) ?_
      have c163 : Arv Z h64 b41 k41 .int (3 : Int32) [(.int (0 : Int32)), (.int (1 : Int32)), (.int (2 : Int32))] (.int (0 : Int32)) := (((((g46_0.other W51 (own_ne (by omega))).ext E54).other W57 (own_ne (by omega))).keep K59 (ninS (own_ne (by omega)) nin0)).other W64 (own_ne (by omega)))
      obtain ⟨cl164, Ar164, -, S164, M164, H164, -⟩ := id c163
      have hin164 : ¬ ((1 : Int32) < 0 ∨ cl164.slots.size ≤ ((1 : Int32)).toNatClampNeg) := (inb_of S164 ⟨by decide, by decide⟩)
      have hat164 : cl164.slots[((1 : Int32)).toNatClampNeg]? = some (.int (1 : Int32)) := (H164.at hin164 rfl)
      refine own_go (st' := T162.setTop (mkF m 183 #[oR a1, oR pc, oR att, oR au, oR ao, oR us, .val (.long (((0 : Int64) + ca.toInt64) + cb.toInt64)), .second, oi 1, oi 2, oi 2, oi cb] [(.int (1 : Int32))])) (X162.iaload hx (j := (1 : Int32)) (v := (.int (1 : Int32))) (by rw [e162]; exact Ar164.1) (State.isArrayOf_alike hZ.alike Ar164.2.1) Ar164.2.2 hin164 hat164 (g := (mkF m 182 #[oR a1, oR pc, oR att, oR au, oR ao, oR us, .val (.long (((0 : Int64) + ca.toInt64) + cb.toInt64)), .second, oi 1, oi 2, oi 2, oi cb] [(.int (1 : Int32)), (.ref b41)])) rfl rfl (hb hby d1_182)) ?_
      refine own_go (st' := T162.setTop (mkF m 184 #[oR a1, oR pc, oR att, oR au, oR ao, oR us, .val (.long (((0 : Int64) + ca.toInt64) + cb.toInt64)), .second, oi 1, oi 2, oi 2, oi cb] [(.ref a1), (.int (1 : Int32))])) (fun _ k => XS.aloadN X162.here hx rfl (hb hby d1_183) rfl rfl k) ?_
      obtain ⟨T165, X165, e165, st165⟩ := getF X162 hx hZ hown (host := "") (Or.inl (own_hw hw 29)) Via.refl e162 c161 (g := (mkF m 184 #[oR a1, oR pc, oR att, oR au, oR ao, oR us, .val (.long (((0 : Int64) + ca.toInt64) + cb.toInt64)), .second, oi 1, oi 2, oi 2, oi cb] [(.ref a1), (.int (1 : Int32))])) rfl rfl (hb hby d1_184)
      refine own_go (st' := T165.setTop (mkF m 187 #[oR a1, oR pc, oR att, oR au, oR ao, oR us, .val (.long (((0 : Int64) + ca.toInt64) + cb.toInt64)), .second, oi 1, oi 2, oi 2, oi cb] [(.ref b41), (.int (1 : Int32))])) (st165) ?_
      refine own_go (st' := T165.setTop (mkF m 189 #[oR a1, oR pc, oR att, oR au, oR ao, oR us, .val (.long (((0 : Int64) + ca.toInt64) + cb.toInt64)), .second, oi 1, oi 2, oi 2, oi cb] [(.int (1 : Int32)), (.ref b41), (.int (1 : Int32))])) (fun _ k => XS.iload X165.here hx rfl (hb hby d1_187) rfl k) ?_
      refine own_go (st' := T165.setTop (mkF m 190 #[oR a1, oR pc, oR att, oR au, oR ao, oR us, .val (.long (((0 : Int64) + ca.toInt64) + cb.toInt64)), .second, oi 1, oi 2, oi 2, oi cb] [(.int (1 : Int32)), (.int (1 : Int32)), (.ref b41), (.int (1 : Int32))])) (fun _ k => XS.iconst X165.here hx rfl (hb hby d1_189) k) ?_
      refine own_go (st' := T165.setTop (mkF m 191 #[oR a1, oR pc, oR att, oR au, oR ao, oR us, .val (.long (((0 : Int64) + ca.toInt64) + cb.toInt64)), .second, oi 1, oi 2, oi 2, oi cb] [(.int (2 : Int32)), (.ref b41), (.int (1 : Int32))])) (fun _ k => XS.iadd X165.here hx rfl (hb hby d1_190) rfl (by rw [show ((1 : Int32) + (1 : Int32)) = (2 : Int32) by decide]; exact k)) ?_
      obtain ⟨cl166, Ar166, -, S166, M166, H166, -⟩ := id c163
      have hin166 : ¬ ((2 : Int32) < 0 ∨ cl166.slots.size ≤ ((2 : Int32)).toNatClampNeg) := (inb_of S166 ⟨by decide, by decide⟩)
      have hat166 : cl166.slots[((2 : Int32)).toNatClampNeg]? = some (.int (2 : Int32)) := (H166.at hin166 rfl)
      refine own_go (st' := T165.setTop (mkF m 192 #[oR a1, oR pc, oR att, oR au, oR ao, oR us, .val (.long (((0 : Int64) + ca.toInt64) + cb.toInt64)), .second, oi 1, oi 2, oi 2, oi cb] [(.int (2 : Int32)), (.int (1 : Int32))])) (X165.iaload hx (j := (2 : Int32)) (v := (.int (2 : Int32))) (by rw [e165]; exact Ar166.1) (State.isArrayOf_alike hZ.alike Ar166.2.1) Ar166.2.2 hin166 hat166 (g := (mkF m 191 #[oR a1, oR pc, oR att, oR au, oR ao, oR us, .val (.long (((0 : Int64) + ca.toInt64) + cb.toInt64)), .second, oi 1, oi 2, oi 2, oi cb] [(.int (2 : Int32)), (.ref b41), (.int (1 : Int32))])) rfl rfl (hb hby d1_191)) ?_
      have hc167 : ¬ ((1 : Int32) = (2 : Int32)) := by decide
      refine own_go (st' := T165.setTop (mkF m 210 #[oR a1, oR pc, oR att, oR au, oR ao, oR us, .val (.long (((0 : Int64) + ca.toInt64) + cb.toInt64)), .second, oi 1, oi 2, oi 2, oi cb] [])) (fun _ k => XS.icmpYes X165.here hx rfl (pc0 := 192) (pc' := 210) rfl (hb hby d1_192) rfl (feq hc167).2 (by decide) (by decide) k) ?_
      exact J210_71 _ _ X165 e165 Nj68
    · --
      refine own_go (st' := T69.setTop (mkF m 210 #[oR a1, oR pc, oR att, oR au, oR ao, oR us, .val (.long (((0 : Int64) + ca.toInt64) + cb.toInt64)), .second, oi 1, oi 2, oi 2, oi cb] [])) (fun _ k => XS.ifYes X69.here hx rfl (pc0 := 173) (pc' := 210) rfl (hb hby d1_173) rfl ((if0 _ _).trans (flt hc160).2.2.2) (by decide) (by decide) k) ?_
      exact J210_71 _ _ X69 e69 Nj68
  refine own_go (st' := T66.setTop (mkF m 170 #[oR a1, oR pc, oR att, oR au, oR ao, oR us, .val (.long (((0 : Int64) + ca.toInt64) + cb.toInt64)), .second, oi 0, oi 2, oi 2, oi cb] [(.ref pc)])) (fun _ k => XS.aloadN X66.here hx rfl (hb hby d1_169) rfl rfl k) ?_
  refine own_go (st' := T66.setTop (mkF m 172 #[oR a1, oR pc, oR att, oR au, oR ao, oR us, .val (.long (((0 : Int64) + ca.toInt64) + cb.toInt64)), .second, oi 0, oi 2, oi 2, oi cb] [(.int (0 : Int32)), (.ref pc)])) (fun _ k => XS.iload X66.here hx rfl (hb hby d1_170) rfl k) ?_
  have c168 : Arv Z h64 pc kpc .int (2 : Int32) [(.int ca), (.int cb)] (.int (0 : Int32)) := (((((((((((((((((pr26.other W9 (own_ne (by omega))).other W14 (own_ne (by omega))).other W20 (own_ne (by omega))).other W23 (own_ne (by omega))).other W26 (own_ne (by omega))).other W29 (own_ne (by omega))).other W32 (own_ne (by omega))).other W35 (own_ne (by omega))).other W38 (own_ne (by omega))).ext E41).other W44 (own_ne (by omega))).keep K46 (ninS (own_ne (by omega)) nin0)).other W51 (own_ne (by omega))).ext E54).other W57 (own_ne (by omega))).keep K59 (ninS (own_ne (by omega)) nin0)).other W64 (own_ne (by omega)))
  obtain ⟨cl169, Ar169, -, S169, M169, H169, -⟩ := id c168
  have hin169 : ¬ ((0 : Int32) < 0 ∨ cl169.slots.size ≤ ((0 : Int32)).toNatClampNeg) := (inb_of S169 ⟨by decide, by decide⟩)
  have hat169 : cl169.slots[((0 : Int32)).toNatClampNeg]? = some (.int ca) := (H169.at hin169 rfl)
  refine own_go (st' := T66.setTop (mkF m 173 #[oR a1, oR pc, oR att, oR au, oR ao, oR us, .val (.long (((0 : Int64) + ca.toInt64) + cb.toInt64)), .second, oi 0, oi 2, oi 2, oi cb] [(.int ca)])) (X66.iaload hx (j := (0 : Int32)) (v := (.int ca)) (by rw [e66]; exact Ar169.1) (State.isArrayOf_alike hZ.alike Ar169.2.1) Ar169.2.2 hin169 hat169 (g := (mkF m 172 #[oR a1, oR pc, oR att, oR au, oR ao, oR us, .val (.long (((0 : Int64) + ca.toInt64) + cb.toInt64)), .second, oi 0, oi 2, oi 2, oi cb] [(.int (0 : Int32)), (.ref pc)])) rfl rfl (hb hby d1_172)) ?_
  by_cases hc170 : (0 : Int32) < ca
  · --
    refine own_go (st' := T66.setTop (mkF m 176 #[oR a1, oR pc, oR att, oR au, oR ao, oR us, .val (.long (((0 : Int64) + ca.toInt64) + cb.toInt64)), .second, oi 0, oi 2, oi 2, oi cb] [])) (fun _ k => XS.ifNo X66.here hx rfl (hb hby d1_173) rfl ((if0 _ _).trans (tlt hc170).2.2.2) k) ?_
    refine own_go (st' := T66.setTop (mkF m 177 #[oR a1, oR pc, oR att, oR au, oR ao, oR us, .val (.long (((0 : Int64) + ca.toInt64) + cb.toInt64)), .second, oi 0, oi 2, oi 2, oi cb] [(.ref a1)])) (fun _ k => XS.aloadN X66.here hx rfl (hb hby d1_176) rfl rfl k) ?_
    have c171 : Fld Z h64 a1 oS0 oS2 "[I" (.ref b41) := ((((((f44.keep K46 (ninS (own_ne (by omega)) nin0)).other W51 (Or.inr (slot_ne (Or.inr (own_hw hw 30)) (Or.inr (own_hw hw 47)) (by decide) (t := (.array .int)) (t' := (.array .int)) (by decide) (by decide)))).ext E54).other W57 (Or.inr (slot_ne (Or.inr (own_hw hw 30)) (Or.inr (own_hw hw 49)) (by decide) (t := (.array .int)) (t' := (.array .int)) (by decide) (by decide)))).keep K59 (ninS (own_ne (by omega)) nin0)).other W64 (Or.inr (slot_ne (Or.inr (own_hw hw 30)) (Or.inr (own_hw hw 51)) (by decide) (t := (.array .int)) (t' := (.array .int)) (by decide) (by decide))))
    obtain ⟨T172, X172, e172, st172⟩ := getF X66 hx hZ hown (host := "") (Or.inl (own_hw hw 29)) Via.refl e66 c171 (g := (mkF m 177 #[oR a1, oR pc, oR att, oR au, oR ao, oR us, .val (.long (((0 : Int64) + ca.toInt64) + cb.toInt64)), .second, oi 0, oi 2, oi 2, oi cb] [(.ref a1)])) rfl rfl (hb hby d1_177)
    refine own_go (st' := T172.setTop (mkF m 180 #[oR a1, oR pc, oR att, oR au, oR ao, oR us, .val (.long (((0 : Int64) + ca.toInt64) + cb.toInt64)), .second, oi 0, oi 2, oi 2, oi cb] [(.ref b41)])) (st172) ?_
    refine own_go (st' := T172.setTop (mkF m 182 #[oR a1, oR pc, oR att, oR au, oR ao, oR us, .val (.long (((0 : Int64) + ca.toInt64) + cb.toInt64)), .second, oi 0, oi 2, oi 2, oi cb] [(.int (0 : Int32)), (.ref b41)])) (fun _ k => XS.iload X172.here hx rfl (hb hby d1_180) rfl k) ?_
    have c173 : Arv Z h64 b41 k41 .int (3 : Int32) [(.int (0 : Int32)), (.int (1 : Int32)), (.int (2 : Int32))] (.int (0 : Int32)) := (((((g46_0.other W51 (own_ne (by omega))).ext E54).other W57 (own_ne (by omega))).keep K59 (ninS (own_ne (by omega)) nin0)).other W64 (own_ne (by omega)))
    obtain ⟨cl174, Ar174, -, S174, M174, H174, -⟩ := id c173
    have hin174 : ¬ ((0 : Int32) < 0 ∨ cl174.slots.size ≤ ((0 : Int32)).toNatClampNeg) := (inb_of S174 ⟨by decide, by decide⟩)
    have hat174 : cl174.slots[((0 : Int32)).toNatClampNeg]? = some (.int (0 : Int32)) := (H174.at hin174 rfl)
    refine own_go (st' := T172.setTop (mkF m 183 #[oR a1, oR pc, oR att, oR au, oR ao, oR us, .val (.long (((0 : Int64) + ca.toInt64) + cb.toInt64)), .second, oi 0, oi 2, oi 2, oi cb] [(.int (0 : Int32))])) (X172.iaload hx (j := (0 : Int32)) (v := (.int (0 : Int32))) (by rw [e172]; exact Ar174.1) (State.isArrayOf_alike hZ.alike Ar174.2.1) Ar174.2.2 hin174 hat174 (g := (mkF m 182 #[oR a1, oR pc, oR att, oR au, oR ao, oR us, .val (.long (((0 : Int64) + ca.toInt64) + cb.toInt64)), .second, oi 0, oi 2, oi 2, oi cb] [(.int (0 : Int32)), (.ref b41)])) rfl rfl (hb hby d1_182)) ?_
    refine own_go (st' := T172.setTop (mkF m 184 #[oR a1, oR pc, oR att, oR au, oR ao, oR us, .val (.long (((0 : Int64) + ca.toInt64) + cb.toInt64)), .second, oi 0, oi 2, oi 2, oi cb] [(.ref a1), (.int (0 : Int32))])) (fun _ k => XS.aloadN X172.here hx rfl (hb hby d1_183) rfl rfl k) ?_
    obtain ⟨T175, X175, e175, st175⟩ := getF X172 hx hZ hown (host := "") (Or.inl (own_hw hw 29)) Via.refl e172 c171 (g := (mkF m 184 #[oR a1, oR pc, oR att, oR au, oR ao, oR us, .val (.long (((0 : Int64) + ca.toInt64) + cb.toInt64)), .second, oi 0, oi 2, oi 2, oi cb] [(.ref a1), (.int (0 : Int32))])) rfl rfl (hb hby d1_184)
    refine own_go (st' := T175.setTop (mkF m 187 #[oR a1, oR pc, oR att, oR au, oR ao, oR us, .val (.long (((0 : Int64) + ca.toInt64) + cb.toInt64)), .second, oi 0, oi 2, oi 2, oi cb] [(.ref b41), (.int (0 : Int32))])) (st175) ?_
    refine own_go (st' := T175.setTop (mkF m 189 #[oR a1, oR pc, oR att, oR au, oR ao, oR us, .val (.long (((0 : Int64) + ca.toInt64) + cb.toInt64)), .second, oi 0, oi 2, oi 2, oi cb] [(.int (0 : Int32)), (.ref b41), (.int (0 : Int32))])) (fun _ k => XS.iload X175.here hx rfl (hb hby d1_187) rfl k) ?_
    refine own_go (st' := T175.setTop (mkF m 190 #[oR a1, oR pc, oR att, oR au, oR ao, oR us, .val (.long (((0 : Int64) + ca.toInt64) + cb.toInt64)), .second, oi 0, oi 2, oi 2, oi cb] [(.int (1 : Int32)), (.int (0 : Int32)), (.ref b41), (.int (0 : Int32))])) (fun _ k => XS.iconst X175.here hx rfl (hb hby d1_189) k) ?_
    refine own_go (st' := T175.setTop (mkF m 191 #[oR a1, oR pc, oR att, oR au, oR ao, oR us, .val (.long (((0 : Int64) + ca.toInt64) + cb.toInt64)), .second, oi 0, oi 2, oi 2, oi cb] [(.int (1 : Int32)), (.ref b41), (.int (0 : Int32))])) (fun _ k => XS.iadd X175.here hx rfl (hb hby d1_190) rfl (by rw [show ((0 : Int32) + (1 : Int32)) = (1 : Int32) by decide]; exact k)) ?_
    obtain ⟨cl176, Ar176, -, S176, M176, H176, -⟩ := id c173
    have hin176 : ¬ ((1 : Int32) < 0 ∨ cl176.slots.size ≤ ((1 : Int32)).toNatClampNeg) := (inb_of S176 ⟨by decide, by decide⟩)
    have hat176 : cl176.slots[((1 : Int32)).toNatClampNeg]? = some (.int (1 : Int32)) := (H176.at hin176 rfl)
    refine own_go (st' := T175.setTop (mkF m 192 #[oR a1, oR pc, oR att, oR au, oR ao, oR us, .val (.long (((0 : Int64) + ca.toInt64) + cb.toInt64)), .second, oi 0, oi 2, oi 2, oi cb] [(.int (1 : Int32)), (.int (0 : Int32))])) (X175.iaload hx (j := (1 : Int32)) (v := (.int (1 : Int32))) (by rw [e175]; exact Ar176.1) (State.isArrayOf_alike hZ.alike Ar176.2.1) Ar176.2.2 hin176 hat176 (g := (mkF m 191 #[oR a1, oR pc, oR att, oR au, oR ao, oR us, .val (.long (((0 : Int64) + ca.toInt64) + cb.toInt64)), .second, oi 0, oi 2, oi 2, oi cb] [(.int (1 : Int32)), (.ref b41), (.int (0 : Int32))])) rfl rfl (hb hby d1_191)) ?_
    have hc177 : ¬ ((0 : Int32) = (1 : Int32)) := by decide
    refine own_go (st' := T175.setTop (mkF m 210 #[oR a1, oR pc, oR att, oR au, oR ao, oR us, .val (.long (((0 : Int64) + ca.toInt64) + cb.toInt64)), .second, oi 0, oi 2, oi 2, oi cb] [])) (fun _ k => XS.icmpYes X175.here hx rfl (pc0 := 192) (pc' := 210) rfl (hb hby d1_192) rfl (feq hc177).2 (by decide) (by decide) k) ?_
    exact J210_68 _ _ X175 e175 N64
  · --
    refine own_go (st' := T66.setTop (mkF m 210 #[oR a1, oR pc, oR att, oR au, oR ao, oR us, .val (.long (((0 : Int64) + ca.toInt64) + cb.toInt64)), .second, oi 0, oi 2, oi 2, oi cb] [])) (fun _ k => XS.ifYes X66.here hx rfl (pc0 := 173) (pc' := 210) rfl (hb hby d1_173) rfl ((if0 _ _).trans (flt hc170).2.2.2) (by decide) (by decide) k) ?_
    exact J210_68 _ _ X66 e66 N64
theorem d10_0 : decode jdk_29_method_70_code 0 = .ok (.lload_n 0, 1) := by decide +kernel
theorem d10_1 : decode jdk_29_method_70_code 1 = .ok (.lload_n 2, 1) := by decide +kernel
theorem d10_2 : decode jdk_29_method_70_code 2 = .ok (.lcmp, 1) := by decide +kernel
theorem d10_3 : decode jdk_29_method_70_code 3 = .ok (.ifCond .gt 7, 3) := by decide +kernel
theorem d10_6 : decode jdk_29_method_70_code 6 = .ok (.lload_n 0, 1) := by decide +kernel
theorem d10_7 : decode jdk_29_method_70_code 7 = .ok (.goto 4, 3) := by decide +kernel
theorem d10_10 : decode jdk_29_method_70_code 10 = .ok (.lload_n 2, 1) := by decide +kernel
theorem d10_11 : decode jdk_29_method_70_code 11 = .ok (.lreturn, 1) := by decide +kernel
theorem pn_10 : plainFor (⟨"java/lang/Math", "min", "(JJ)J"⟩ : MethodName) = true := by decide +kernel
theorem ef_rm10 (m : MethodId) (x0 : Int64) (x1 : Int64) : entryFrame m #[(.long x0), (.long x1)] 4 = mkF m 0 #[.val (.long x0), .second, .val (.long x1), .second] [] := by first | (simp [entryFrame, mkF, argsToLocals, Value.category]; done) | rfl
def Qrm10 (Z : State) (q1 : Int64) (q2 : Int64) (h0 : Heap) (n0 : Nat) (v : Option Value) (h : Heap) (L : List Loc) : Prop := (v = some (.long (own_lmin q1 q2))) ∧ (Fr n0 L) ∧ (h = h0)
set_option maxRecDepth 65536 in
set_option maxHeartbeats 40000000 in
theorem rm10 (l : Launch) (Z : State) (a0 : Array Value) (hw : ∀ d ∈ tables_1, d.before a0 Z = true) (ws : List Jvm.Cond) (q1 : Int64) (q2 : Int64) (h0 : Heap) (n0 : Nat) (Z0 : n0 ≤ h0.size)  :
    MetFree l oM3 (head1 (Jvm.Cond.code oM3 jdk_29_method_70_code 4 (some .long) :: ws) ({ frames := 0, cells := 0, slots := 0, locals := 0 } : Room)) (fun a U => a = #[(.long q1), (.long q2)] ∧ Z.Warmed39 U.vm ∧ U.heap = h0) (fun _ _ _ _ _ => True) (fun _ U o U' => ∃ v L, o = .returned v ∧ Qrm10 Z q1 q2 h0 n0 v U'.heap L ∧ FrameEnd U o U' L ({ frames := 0, cells := 0, slots := 0, locals := 0 } : Room).cells ({ frames := 0, cells := 0, slots := 0, locals := 0 } : Room).slots) := by
  refine MetFree.of_bodySF pn_10 hisR ?_
  intro p e s m args below meth c s₁ Bd hml0 hP0 hK
  obtain ⟨rfl, hZ, hh⟩ := hP0
  have hx := Bd.exec
  have hby := Bd.bytes
  have hml : c.maxLocals = 4 := hml0
  have hown : s.vm.findClass "java/lang/Math" = some m.cls := findClass_of_methodNamed Bd.named
  have hnm := (name_of_methodNamed Bd.named Bd.method).1
  have X0 : Stand p l e ({ frames := 0, cells := 0, slots := 0, locals := 0 } : Room) s m #[(.long q1), (.long q2)] below meth c s₁ [] 0 0 := Stand.of_body Bd
  have e0 : s₁.heap = h0 := by rw [← hh, Bd.state]; rfl
  have N0 := Fr.nil n0
  suffices own_H : ∀ (P : State → Outcome → Prop), (∀ U o, U.status = .running → Ended U below o → (∃ v L, o = .returned v ∧ Qrm10 Z q1 q2 h0 n0 v U.heap L ∧ FrameEnd s o U L ({ frames := 0, cells := 0, slots := 0, locals := 0 } : Room).cells ({ frames := 0, cells := 0, slots := 0, locals := 0 } : Room).slots) → P U o) → own_Go p.tables e below P (s₁.setTop (mkF m 0 #[oj q1, .second, oj q2, .second] [])) from own_go (fun _ k => castTop (ef_rm10 m q1 q2) k) (own_H _ (fun U o h1 h2 h3 => ⟨h1, h2, h3⟩))
  intro P hP
  refine own_go (st' := s₁.setTop (mkF m 1 #[oj q1, .second, oj q2, .second] [(.long q1)])) (fun _ k => XS.lloadN X0.here hx rfl (hb hby d10_0) rfl k) ?_
  refine own_go (st' := s₁.setTop (mkF m 2 #[oj q1, .second, oj q2, .second] [(.long q2), (.long q1)])) (fun _ k => XS.lloadN X0.here hx rfl (hb hby d10_1) rfl k) ?_
  refine own_go (st' := s₁.setTop (mkF m 3 #[oj q1, .second, oj q2, .second] [(.int (lcmpW q1 q2))])) (fun _ k => XS.lcmp X0.here hx rfl (hb hby d10_2) rfl k) ?_
  by_cases hc1 : q2 < q1
  · --
    refine own_go (st' := s₁.setTop (mkF m 10 #[oj q1, .second, oj q2, .second] [])) (fun _ k => XS.ifYes X0.here hx rfl (pc0 := 3) (pc' := 10) rfl (hb hby d10_3) rfl ((if0 _ _).trans (tlt ((lw_gt q1 q2).mpr hc1)).2.2.1) (by decide) (by decide) k) ?_
    refine own_go (st' := s₁.setTop (mkF m 11 #[oj q1, .second, oj q2, .second] [(.long q2)])) (fun _ k => XS.lloadN X0.here hx rfl (hb hby d10_10) rfl k) ?_
    obtain ⟨fs, hr, hrun, hended, hW, hsame⟩ := X0.leave (v := some (.long q2)) (fun h => by rw [Bd.returns] at h; cases h)
    refine ⟨_, _, ?_, hP _ _ hrun hended ⟨_, _, rfl, ?_, ⟨_, rfl⟩, hW, hsame.mono (by decide) (by decide)⟩⟩
    · exact retOut X0 hx Bd.returns rfl (Or.inr (Or.inl ⟨rfl, rfl, _, rfl⟩)) (hb hby d10_11) hr
    · show Qrm10 Z q1 q2 h0 n0 _ s₁.heap _
      rw [e0]
      exact ⟨(by unfold own_lmin; rw [if_pos hc1]), N0, rfl⟩
  · --
    refine own_go (st' := s₁.setTop (mkF m 6 #[oj q1, .second, oj q2, .second] [])) (fun _ k => XS.ifNo X0.here hx rfl (hb hby d10_3) rfl ((if0 _ _).trans (flt (fun q_ => hc1 ((lw_gt q1 q2).mp q_))).2.2.1) k) ?_
    refine own_go (st' := s₁.setTop (mkF m 7 #[oj q1, .second, oj q2, .second] [(.long q1)])) (fun _ k => XS.lloadN X0.here hx rfl (hb hby d10_6) rfl k) ?_
    refine own_go (st' := s₁.setTop (mkF m 11 #[oj q1, .second, oj q2, .second] [(.long q1)])) (fun _ k => XS.goto X0.here hx rfl (pc0 := 7) (pc' := 11) rfl (hb hby d10_7) (by decide) (by decide) k) ?_
    obtain ⟨fs, hr, hrun, hended, hW, hsame⟩ := X0.leave (v := some (.long q1)) (fun h => by rw [Bd.returns] at h; cases h)
    refine ⟨_, _, ?_, hP _ _ hrun hended ⟨_, _, rfl, ?_, ⟨_, rfl⟩, hW, hsame.mono (by decide) (by decide)⟩⟩
    · exact retOut X0 hx Bd.returns rfl (Or.inr (Or.inl ⟨rfl, rfl, _, rfl⟩)) (hb hby d10_11) hr
    · show Qrm10 Z q1 q2 h0 n0 _ s₁.heap _
      rw [e0]
      exact ⟨(by unfold own_lmin; rw [if_neg hc1]), N0, rfl⟩
theorem d15_0 : decode jdk_29_method_66_code 0 = .ok (.lload_n 0, 1) := by decide +kernel
theorem d15_1 : decode jdk_29_method_66_code 1 = .ok (.lload_n 2, 1) := by decide +kernel
theorem d15_2 : decode jdk_29_method_66_code 2 = .ok (.lcmp, 1) := by decide +kernel
theorem d15_3 : decode jdk_29_method_66_code 3 = .ok (.ifCond .lt 7, 3) := by decide +kernel
theorem d15_6 : decode jdk_29_method_66_code 6 = .ok (.lload_n 0, 1) := by decide +kernel
theorem d15_7 : decode jdk_29_method_66_code 7 = .ok (.goto 4, 3) := by decide +kernel
theorem d15_10 : decode jdk_29_method_66_code 10 = .ok (.lload_n 2, 1) := by decide +kernel
theorem d15_11 : decode jdk_29_method_66_code 11 = .ok (.lreturn, 1) := by decide +kernel
theorem pn_15 : plainFor (⟨"java/lang/Math", "max", "(JJ)J"⟩ : MethodName) = true := by decide +kernel
theorem ef_rm15 (m : MethodId) (x0 : Int64) (x1 : Int64) : entryFrame m #[(.long x0), (.long x1)] 4 = mkF m 0 #[.val (.long x0), .second, .val (.long x1), .second] [] := by first | (simp [entryFrame, mkF, argsToLocals, Value.category]; done) | rfl
def Qrm15 (Z : State) (q1 : Int64) (q2 : Int64) (h0 : Heap) (n0 : Nat) (v : Option Value) (h : Heap) (L : List Loc) : Prop := (v = some (.long (own_lmax q1 q2))) ∧ (Fr n0 L) ∧ (h = h0)
set_option maxRecDepth 65536 in
set_option maxHeartbeats 40000000 in
theorem rm15 (l : Launch) (Z : State) (a0 : Array Value) (hw : ∀ d ∈ tables_1, d.before a0 Z = true) (ws : List Jvm.Cond) (q1 : Int64) (q2 : Int64) (h0 : Heap) (n0 : Nat) (Z0 : n0 ≤ h0.size)  :
    MetFree l oM5 (head1 (Jvm.Cond.code oM5 jdk_29_method_66_code 4 (some .long) :: ws) ({ frames := 0, cells := 0, slots := 0, locals := 0 } : Room)) (fun a U => a = #[(.long q1), (.long q2)] ∧ Z.Warmed39 U.vm ∧ U.heap = h0) (fun _ _ _ _ _ => True) (fun _ U o U' => ∃ v L, o = .returned v ∧ Qrm15 Z q1 q2 h0 n0 v U'.heap L ∧ FrameEnd U o U' L ({ frames := 0, cells := 0, slots := 0, locals := 0 } : Room).cells ({ frames := 0, cells := 0, slots := 0, locals := 0 } : Room).slots) := by
  refine MetFree.of_bodySF pn_15 hisR ?_
  intro p e s m args below meth c s₁ Bd hml0 hP0 hK
  obtain ⟨rfl, hZ, hh⟩ := hP0
  have hx := Bd.exec
  have hby := Bd.bytes
  have hml : c.maxLocals = 4 := hml0
  have hown : s.vm.findClass "java/lang/Math" = some m.cls := findClass_of_methodNamed Bd.named
  have hnm := (name_of_methodNamed Bd.named Bd.method).1
  have X0 : Stand p l e ({ frames := 0, cells := 0, slots := 0, locals := 0 } : Room) s m #[(.long q1), (.long q2)] below meth c s₁ [] 0 0 := Stand.of_body Bd
  have e0 : s₁.heap = h0 := by rw [← hh, Bd.state]; rfl
  have N0 := Fr.nil n0
  suffices own_H : ∀ (P : State → Outcome → Prop), (∀ U o, U.status = .running → Ended U below o → (∃ v L, o = .returned v ∧ Qrm15 Z q1 q2 h0 n0 v U.heap L ∧ FrameEnd s o U L ({ frames := 0, cells := 0, slots := 0, locals := 0 } : Room).cells ({ frames := 0, cells := 0, slots := 0, locals := 0 } : Room).slots) → P U o) → own_Go p.tables e below P (s₁.setTop (mkF m 0 #[oj q1, .second, oj q2, .second] [])) from own_go (fun _ k => castTop (ef_rm15 m q1 q2) k) (own_H _ (fun U o h1 h2 h3 => ⟨h1, h2, h3⟩))
  intro P hP
  refine own_go (st' := s₁.setTop (mkF m 1 #[oj q1, .second, oj q2, .second] [(.long q1)])) (fun _ k => XS.lloadN X0.here hx rfl (hb hby d15_0) rfl k) ?_
  refine own_go (st' := s₁.setTop (mkF m 2 #[oj q1, .second, oj q2, .second] [(.long q2), (.long q1)])) (fun _ k => XS.lloadN X0.here hx rfl (hb hby d15_1) rfl k) ?_
  refine own_go (st' := s₁.setTop (mkF m 3 #[oj q1, .second, oj q2, .second] [(.int (lcmpW q1 q2))])) (fun _ k => XS.lcmp X0.here hx rfl (hb hby d15_2) rfl k) ?_
  by_cases hc1 : q1 < q2
  · --
    refine own_go (st' := s₁.setTop (mkF m 10 #[oj q1, .second, oj q2, .second] [])) (fun _ k => XS.ifYes X0.here hx rfl (pc0 := 3) (pc' := 10) rfl (hb hby d15_3) rfl ((if0 _ _).trans (tlt ((lw_lt q1 q2).mpr hc1)).1) (by decide) (by decide) k) ?_
    refine own_go (st' := s₁.setTop (mkF m 11 #[oj q1, .second, oj q2, .second] [(.long q2)])) (fun _ k => XS.lloadN X0.here hx rfl (hb hby d15_10) rfl k) ?_
    obtain ⟨fs, hr, hrun, hended, hW, hsame⟩ := X0.leave (v := some (.long q2)) (fun h => by rw [Bd.returns] at h; cases h)
    refine ⟨_, _, ?_, hP _ _ hrun hended ⟨_, _, rfl, ?_, ⟨_, rfl⟩, hW, hsame.mono (by decide) (by decide)⟩⟩
    · exact retOut X0 hx Bd.returns rfl (Or.inr (Or.inl ⟨rfl, rfl, _, rfl⟩)) (hb hby d15_11) hr
    · show Qrm15 Z q1 q2 h0 n0 _ s₁.heap _
      rw [e0]
      exact ⟨(by unfold own_lmax; rw [if_pos hc1]), N0, rfl⟩
  · --
    refine own_go (st' := s₁.setTop (mkF m 6 #[oj q1, .second, oj q2, .second] [])) (fun _ k => XS.ifNo X0.here hx rfl (hb hby d15_3) rfl ((if0 _ _).trans (flt (fun q_ => hc1 ((lw_lt q1 q2).mp q_))).1) k) ?_
    refine own_go (st' := s₁.setTop (mkF m 7 #[oj q1, .second, oj q2, .second] [(.long q1)])) (fun _ k => XS.lloadN X0.here hx rfl (hb hby d15_6) rfl k) ?_
    refine own_go (st' := s₁.setTop (mkF m 11 #[oj q1, .second, oj q2, .second] [(.long q1)])) (fun _ k => XS.goto X0.here hx rfl (pc0 := 7) (pc' := 11) rfl (hb hby d15_7) (by decide) (by decide) k) ?_
    obtain ⟨fs, hr, hrun, hended, hW, hsame⟩ := X0.leave (v := some (.long q1)) (fun h => by rw [Bd.returns] at h; cases h)
    refine ⟨_, _, ?_, hP _ _ hrun hended ⟨_, _, rfl, ?_, ⟨_, rfl⟩, hW, hsame.mono (by decide) (by decide)⟩⟩
    · exact retOut X0 hx Bd.returns rfl (Or.inr (Or.inl ⟨rfl, rfl, _, rfl⟩)) (hb hby d15_11) hr
    · show Qrm15 Z q1 q2 h0 n0 _ s₁.heap _
      rw [e0]
      exact ⟨(by unfold own_lmax; rw [if_neg hc1]), N0, rfl⟩
theorem d9_0 : decode prog_29_method_20_code 0 = .ok (.ldc2_w 214, 3) := by decide +kernel
theorem d9_3 : decode prog_29_method_20_code 3 = .ok (.iload_n 2, 1) := by decide +kernel
theorem d9_4 : decode prog_29_method_20_code 4 = .ok (.aload_n 0, 1) := by decide +kernel
theorem d9_5 : decode prog_29_method_20_code 5 = .ok (.getfield 40, 3) := by decide +kernel
theorem d9_8 : decode prog_29_method_20_code 8 = .ok (.iload_n 1, 1) := by decide +kernel
theorem d9_9 : decode prog_29_method_20_code 9 = .ok (.iaload, 1) := by decide +kernel
theorem d9_10 : decode prog_29_method_20_code 10 = .ok (.idiv, 1) := by decide +kernel
theorem d9_11 : decode prog_29_method_20_code 11 = .ok (.i2l, 1) := by decide +kernel
theorem d9_12 : decode prog_29_method_20_code 12 = .ok (.lmul, 1) := by decide +kernel
theorem d9_13 : decode prog_29_method_20_code 13 = .ok (.lconst 1, 1) := by decide +kernel
theorem d9_14 : decode prog_29_method_20_code 14 = .ok (.ladd, 1) := by decide +kernel
theorem d9_15 : decode prog_29_method_20_code 15 = .ok (.aload_n 0, 1) := by decide +kernel
theorem d9_16 : decode prog_29_method_20_code 16 = .ok (.getfield 26, 3) := by decide +kernel
theorem d9_19 : decode prog_29_method_20_code 19 = .ok (.lmul, 1) := by decide +kernel
theorem d9_20 : decode prog_29_method_20_code 20 = .ok (.lreturn, 1) := by decide +kernel
theorem pn_9 : plainName "com/example/limpet/limpet/StickyShares" = true := by first | (simp [plainName, overriddenIn]; done) | decide +kernel
theorem ef_rm9_0 (m : MethodId) (x0 : Addr) (x1 : Int32) (x2 : Int32) : entryFrame m #[(.ref x0), (.int x1), (.int x2)] 3 = mkF m 0 #[.val (.ref x0), .val (.int x1), .val (.int x2)] [] := by first | (simp [entryFrame, mkF, argsToLocals, Value.category]; done) | rfl
def Qrm9_0 (Z : State) (a1 : Addr) (us : Addr) (kus : ClassId) (ll : Int32) (ww : Int64) (sa : Int32) (sb : Int32) (h0 : Heap) (n0 : Nat) (v : Option Value) (h : Heap) (L : List Loc) : Prop := (v = some (.long (own_mc ww ll sa))) ∧ (Fr n0 L) ∧ (h = h0)
set_option maxRecDepth 65536 in
set_option maxHeartbeats 40000000 in
theorem rm9_0 (l : Launch) (Z : State) (a0 : Array Value) (hw : ∀ d ∈ tables_1, d.before a0 Z = true) (ws : List Jvm.Cond) (a1 : Addr) (us : Addr) (kus : ClassId) (ll : Int32) (ww : Int64) (sa : Int32) (sb : Int32) (h0 : Heap) (n0 : Nat) (Z0 : n0 ≤ h0.size) (pr1 : Exa Z h0 a1 "com/example/limpet/limpet/StickyShares") (pr2 : Fld Z h0 a1 "com/example/limpet/limpet/StickyShares" "unitSize" "[I" (.ref us)) (pr3 : Fld Z h0 a1 "com/example/limpet/limpet/StickyShares" "balanceWeight" "J" (.long ww)) (pr4 : Arv Z h0 us kus .int (2 : Int32) [(.int sa), (.int sb)] (.int (0 : Int32))) (hnz : sa ≠ 0) :
    MetFree l oM0 (head1 (Jvm.Cond.code oM0 prog_29_method_20_code 3 (some .long) :: ws) ({ frames := 0, cells := 0, slots := 0, locals := 0 } : Room)) (fun a U => a = #[(.ref a1), (.int (0 : Int32)), (.int ll)] ∧ Z.Warmed39 U.vm ∧ U.heap = h0) (fun _ _ _ _ _ => True) (fun _ U o U' => ∃ v L, o = .returned v ∧ Qrm9_0 Z a1 us kus ll ww sa sb h0 n0 v U'.heap L ∧ FrameEnd U o U' L ({ frames := 0, cells := 0, slots := 0, locals := 0 } : Room).cells ({ frames := 0, cells := 0, slots := 0, locals := 0 } : Room).slots) := by
  refine MetFree.of_bodySF (plainFor_of_name pn_9) hisR ?_
  intro p e s m args below meth c s₁ Bd hml0 hP0 hK
  obtain ⟨rfl, hZ, hh⟩ := hP0
  have hx := Bd.exec
  have hby := Bd.bytes
  have hml : c.maxLocals = 3 := hml0
  have hown : s.vm.findClass oS0 = some m.cls := findClass_of_methodNamed Bd.named
  have hnm := (name_of_methodNamed Bd.named Bd.method).1
  have X0 : Stand p l e ({ frames := 0, cells := 0, slots := 0, locals := 0 } : Room) s m #[(.ref a1), (.int (0 : Int32)), (.int ll)] below meth c s₁ [] 0 0 := Stand.of_body Bd
  have e0 : s₁.heap = h0 := by rw [← hh, Bd.state]; rfl
  have N0 := Fr.nil n0
  suffices own_H : ∀ (P : State → Outcome → Prop), (∀ U o, U.status = .running → Ended U below o → (∃ v L, o = .returned v ∧ Qrm9_0 Z a1 us kus ll ww sa sb h0 n0 v U.heap L ∧ FrameEnd s o U L ({ frames := 0, cells := 0, slots := 0, locals := 0 } : Room).cells ({ frames := 0, cells := 0, slots := 0, locals := 0 } : Room).slots) → P U o) → own_Go p.tables e below P (s₁.setTop (mkF m 0 #[oR a1, oi 0, oi ll] [])) from own_go (fun _ k => castTop (ef_rm9_0 m a1 (0 : Int32) ll) k) (own_H _ (fun U o h1 h2 h3 => ⟨h1, h2, h3⟩))
  intro P hP
  have lt_a1 : @LT.lt Nat _ a1 h0.size := pr1.lt
  have lt_us : @LT.lt Nat _ us h0.size := pr4.lt
  refine own_go (st' := s₁.setTop (mkF m 3 #[oR a1, oi 0, oi ll] [(.long (2 : Int64))])) (X0.ldc2Long hx hown (mvT hZ (own_hw hw 101)) (g := (mkF m 0 #[oR a1, oi 0, oi ll] [])) rfl (hb hby d9_0)) ?_
  refine own_go (st' := s₁.setTop (mkF m 4 #[oR a1, oi 0, oi ll] [(.int ll), (.long (2 : Int64))])) (fun _ k => XS.iloadN X0.here hx rfl (hb hby d9_3) rfl k) ?_
  refine own_go (st' := s₁.setTop (mkF m 5 #[oR a1, oi 0, oi ll] [(.ref a1), (.int ll), (.long (2 : Int64))])) (fun _ k => XS.aloadN X0.here hx rfl (hb hby d9_4) rfl rfl k) ?_
  obtain ⟨T1, X1, e1, st1⟩ := getF X0 hx hZ hown (host := "") (Or.inl (own_hw hw 27)) Via.refl e0 pr2 (g := (mkF m 5 #[oR a1, oi 0, oi ll] [(.ref a1), (.int ll), (.long (2 : Int64))])) rfl rfl (hb hby d9_5)
  refine own_go (st' := T1.setTop (mkF m 8 #[oR a1, oi 0, oi ll] [(.ref us), (.int ll), (.long (2 : Int64))])) (st1) ?_
  refine own_go (st' := T1.setTop (mkF m 9 #[oR a1, oi 0, oi ll] [(.int (0 : Int32)), (.ref us), (.int ll), (.long (2 : Int64))])) (fun _ k => XS.iloadN X1.here hx rfl (hb hby d9_8) rfl k) ?_
  obtain ⟨cl2, Ar2, -, S2, M2, H2, -⟩ := id pr4
  have hin2 : ¬ ((0 : Int32) < 0 ∨ cl2.slots.size ≤ ((0 : Int32)).toNatClampNeg) := (inb_of S2 ⟨by decide, by decide⟩)
  have hat2 : cl2.slots[((0 : Int32)).toNatClampNeg]? = some (.int sa) := (H2.at hin2 rfl)
  refine own_go (st' := T1.setTop (mkF m 10 #[oR a1, oi 0, oi ll] [(.int sa), (.int ll), (.long (2 : Int64))])) (X1.iaload hx (j := (0 : Int32)) (v := (.int sa)) (by rw [e1]; exact Ar2.1) (State.isArrayOf_alike hZ.alike Ar2.2.1) Ar2.2.2 hin2 hat2 (g := (mkF m 9 #[oR a1, oi 0, oi ll] [(.int (0 : Int32)), (.ref us), (.int ll), (.long (2 : Int64))])) rfl rfl (hb hby d9_9)) ?_
  refine own_go (st' := T1.setTop (mkF m 11 #[oR a1, oi 0, oi ll] [(.int (ll / sa)), (.long (2 : Int64))])) (fun _ k => XS.idiv X1.here hx rfl (hb hby d9_10) rfl hnz k) ?_
  refine own_go (st' := T1.setTop (mkF m 12 #[oR a1, oi 0, oi ll] [(.long (ll / sa).toInt64), (.long (2 : Int64))])) (fun _ k => XS.i2l X1.here hx rfl (hb hby d9_11) rfl k) ?_
  refine own_go (st' := T1.setTop (mkF m 13 #[oR a1, oi 0, oi ll] [(.long ((2 : Int64) * (ll / sa).toInt64))])) (fun _ k => XS.lmul X1.here hx rfl (hb hby d9_12) rfl k) ?_
  refine own_go (st' := T1.setTop (mkF m 14 #[oR a1, oi 0, oi ll] [(.long (1 : Int64)), (.long ((2 : Int64) * (ll / sa).toInt64))])) (fun _ k => XS.lconst X1.here hx rfl (hb hby d9_13) k) ?_
  refine own_go (st' := T1.setTop (mkF m 15 #[oR a1, oi 0, oi ll] [(.long (((2 : Int64) * (ll / sa).toInt64) + (1 : Int64)))])) (fun _ k => XS.ladd X1.here hx rfl (hb hby d9_14) rfl k) ?_
  refine own_go (st' := T1.setTop (mkF m 16 #[oR a1, oi 0, oi ll] [(.ref a1), (.long (((2 : Int64) * (ll / sa).toInt64) + (1 : Int64)))])) (fun _ k => XS.aloadN X1.here hx rfl (hb hby d9_15) rfl rfl k) ?_
  obtain ⟨T3, X3, e3, st3⟩ := getF X1 hx hZ hown (host := "") (Or.inl (own_hw hw 19)) Via.refl e1 pr3 (g := (mkF m 16 #[oR a1, oi 0, oi ll] [(.ref a1), (.long (((2 : Int64) * (ll / sa).toInt64) + (1 : Int64)))])) rfl rfl (hb hby d9_16)
  refine own_go (st' := T3.setTop (mkF m 19 #[oR a1, oi 0, oi ll] [(.long ww), (.long (((2 : Int64) * (ll / sa).toInt64) + (1 : Int64)))])) (st3) ?_
  refine own_go (st' := T3.setTop (mkF m 20 #[oR a1, oi 0, oi ll] [(.long ((((2 : Int64) * (ll / sa).toInt64) + (1 : Int64)) * ww))])) (fun _ k => XS.lmul X3.here hx rfl (hb hby d9_19) rfl k) ?_
  obtain ⟨fs, hr, hrun, hended, hW, hsame⟩ := X3.leave (v := some (.long ((((2 : Int64) * (ll / sa).toInt64) + (1 : Int64)) * ww))) (fun h => by rw [Bd.returns] at h; cases h)
  refine ⟨_, _, ?_, hP _ _ hrun hended ⟨_, _, rfl, ?_, ⟨_, rfl⟩, hW, hsame.mono (by decide) (by decide)⟩⟩
  · exact retOut X3 hx Bd.returns rfl (Or.inr (Or.inl ⟨rfl, rfl, _, rfl⟩)) (hb hby d9_20) hr
  · show Qrm9_0 Z a1 us kus ll ww sa sb h0 n0 _ T3.heap _
    rw [e3]
    exact ⟨rfl, N0, rfl⟩
theorem ef_rm9_1 (m : MethodId) (x0 : Addr) (x1 : Int32) (x2 : Int32) : entryFrame m #[(.ref x0), (.int x1), (.int x2)] 3 = mkF m 0 #[.val (.ref x0), .val (.int x1), .val (.int x2)] [] := by first | (simp [entryFrame, mkF, argsToLocals, Value.category]; done) | rfl
def Qrm9_1 (Z : State) (a1 : Addr) (us : Addr) (kus : ClassId) (ll : Int32) (ww : Int64) (sa : Int32) (sb : Int32) (h0 : Heap) (n0 : Nat) (v : Option Value) (h : Heap) (L : List Loc) : Prop := (v = some (.long (own_mc ww ll sb))) ∧ (Fr n0 L) ∧ (h = h0)
set_option maxRecDepth 65536 in
set_option maxHeartbeats 40000000 in
theorem rm9_1 (l : Launch) (Z : State) (a0 : Array Value) (hw : ∀ d ∈ tables_1, d.before a0 Z = true) (ws : List Jvm.Cond) (a1 : Addr) (us : Addr) (kus : ClassId) (ll : Int32) (ww : Int64) (sa : Int32) (sb : Int32) (h0 : Heap) (n0 : Nat) (Z0 : n0 ≤ h0.size) (pr1 : Exa Z h0 a1 "com/example/limpet/limpet/StickyShares") (pr2 : Fld Z h0 a1 "com/example/limpet/limpet/StickyShares" "unitSize" "[I" (.ref us)) (pr3 : Fld Z h0 a1 "com/example/limpet/limpet/StickyShares" "balanceWeight" "J" (.long ww)) (pr4 : Arv Z h0 us kus .int (2 : Int32) [(.int sa), (.int sb)] (.int (0 : Int32))) (hnz : sb ≠ 0) :
    MetFree l oM0 (head1 (Jvm.Cond.code oM0 prog_29_method_20_code 3 (some .long) :: ws) ({ frames := 0, cells := 0, slots := 0, locals := 0 } : Room)) (fun a U => a = #[(.ref a1), (.int (1 : Int32)), (.int ll)] ∧ Z.Warmed39 U.vm ∧ U.heap = h0) (fun _ _ _ _ _ => True) (fun _ U o U' => ∃ v L, o = .returned v ∧ Qrm9_1 Z a1 us kus ll ww sa sb h0 n0 v U'.heap L ∧ FrameEnd U o U' L ({ frames := 0, cells := 0, slots := 0, locals := 0 } : Room).cells ({ frames := 0, cells := 0, slots := 0, locals := 0 } : Room).slots) := by
  refine MetFree.of_bodySF (plainFor_of_name pn_9) hisR ?_
  intro p e s m args below meth c s₁ Bd hml0 hP0 hK
  obtain ⟨rfl, hZ, hh⟩ := hP0
  have hx := Bd.exec
  have hby := Bd.bytes
  have hml : c.maxLocals = 3 := hml0
  have hown : s.vm.findClass oS0 = some m.cls := findClass_of_methodNamed Bd.named
  have hnm := (name_of_methodNamed Bd.named Bd.method).1
  have X0 : Stand p l e ({ frames := 0, cells := 0, slots := 0, locals := 0 } : Room) s m #[(.ref a1), (.int (1 : Int32)), (.int ll)] below meth c s₁ [] 0 0 := Stand.of_body Bd
  have e0 : s₁.heap = h0 := by rw [← hh, Bd.state]; rfl
  have N0 := Fr.nil n0
  suffices own_H : ∀ (P : State → Outcome → Prop), (∀ U o, U.status = .running → Ended U below o → (∃ v L, o = .returned v ∧ Qrm9_1 Z a1 us kus ll ww sa sb h0 n0 v U.heap L ∧ FrameEnd s o U L ({ frames := 0, cells := 0, slots := 0, locals := 0 } : Room).cells ({ frames := 0, cells := 0, slots := 0, locals := 0 } : Room).slots) → P U o) → own_Go p.tables e below P (s₁.setTop (mkF m 0 #[oR a1, oi 1, oi ll] [])) from own_go (fun _ k => castTop (ef_rm9_1 m a1 (1 : Int32) ll) k) (own_H _ (fun U o h1 h2 h3 => ⟨h1, h2, h3⟩))
  intro P hP
  have lt_a1 : @LT.lt Nat _ a1 h0.size := pr1.lt
  have lt_us : @LT.lt Nat _ us h0.size := pr4.lt
  refine own_go (st' := s₁.setTop (mkF m 3 #[oR a1, oi 1, oi ll] [(.long (2 : Int64))])) (X0.ldc2Long hx hown (mvT hZ (own_hw hw 101)) (g := (mkF m 0 #[oR a1, oi 1, oi ll] [])) rfl (hb hby d9_0)) ?_
  refine own_go (st' := s₁.setTop (mkF m 4 #[oR a1, oi 1, oi ll] [(.int ll), (.long (2 : Int64))])) (fun _ k => XS.iloadN X0.here hx rfl (hb hby d9_3) rfl k) ?_
  refine own_go (st' := s₁.setTop (mkF m 5 #[oR a1, oi 1, oi ll] [(.ref a1), (.int ll), (.long (2 : Int64))])) (fun _ k => XS.aloadN X0.here hx rfl (hb hby d9_4) rfl rfl k) ?_
  obtain ⟨T1, X1, e1, st1⟩ := getF X0 hx hZ hown (host := "") (Or.inl (own_hw hw 27)) Via.refl e0 pr2 (g := (mkF m 5 #[oR a1, oi 1, oi ll] [(.ref a1), (.int ll), (.long (2 : Int64))])) rfl rfl (hb hby d9_5)
  refine own_go (st' := T1.setTop (mkF m 8 #[oR a1, oi 1, oi ll] [(.ref us), (.int ll), (.long (2 : Int64))])) (st1) ?_
  refine own_go (st' := T1.setTop (mkF m 9 #[oR a1, oi 1, oi ll] [(.int (1 : Int32)), (.ref us), (.int ll), (.long (2 : Int64))])) (fun _ k => XS.iloadN X1.here hx rfl (hb hby d9_8) rfl k) ?_
  obtain ⟨cl2, Ar2, -, S2, M2, H2, -⟩ := id pr4
  have hin2 : ¬ ((1 : Int32) < 0 ∨ cl2.slots.size ≤ ((1 : Int32)).toNatClampNeg) := (inb_of S2 ⟨by decide, by decide⟩)
  have hat2 : cl2.slots[((1 : Int32)).toNatClampNeg]? = some (.int sb) := (H2.at hin2 rfl)
  refine own_go (st' := T1.setTop (mkF m 10 #[oR a1, oi 1, oi ll] [(.int sb), (.int ll), (.long (2 : Int64))])) (X1.iaload hx (j := (1 : Int32)) (v := (.int sb)) (by rw [e1]; exact Ar2.1) (State.isArrayOf_alike hZ.alike Ar2.2.1) Ar2.2.2 hin2 hat2 (g := (mkF m 9 #[oR a1, oi 1, oi ll] [(.int (1 : Int32)), (.ref us), (.int ll), (.long (2 : Int64))])) rfl rfl (hb hby d9_9)) ?_
  refine own_go (st' := T1.setTop (mkF m 11 #[oR a1, oi 1, oi ll] [(.int (ll / sb)), (.long (2 : Int64))])) (fun _ k => XS.idiv X1.here hx rfl (hb hby d9_10) rfl hnz k) ?_
  refine own_go (st' := T1.setTop (mkF m 12 #[oR a1, oi 1, oi ll] [(.long (ll / sb).toInt64), (.long (2 : Int64))])) (fun _ k => XS.i2l X1.here hx rfl (hb hby d9_11) rfl k) ?_
  refine own_go (st' := T1.setTop (mkF m 13 #[oR a1, oi 1, oi ll] [(.long ((2 : Int64) * (ll / sb).toInt64))])) (fun _ k => XS.lmul X1.here hx rfl (hb hby d9_12) rfl k) ?_
  refine own_go (st' := T1.setTop (mkF m 14 #[oR a1, oi 1, oi ll] [(.long (1 : Int64)), (.long ((2 : Int64) * (ll / sb).toInt64))])) (fun _ k => XS.lconst X1.here hx rfl (hb hby d9_13) k) ?_
  refine own_go (st' := T1.setTop (mkF m 15 #[oR a1, oi 1, oi ll] [(.long (((2 : Int64) * (ll / sb).toInt64) + (1 : Int64)))])) (fun _ k => XS.ladd X1.here hx rfl (hb hby d9_14) rfl k) ?_
  refine own_go (st' := T1.setTop (mkF m 16 #[oR a1, oi 1, oi ll] [(.ref a1), (.long (((2 : Int64) * (ll / sb).toInt64) + (1 : Int64)))])) (fun _ k => XS.aloadN X1.here hx rfl (hb hby d9_15) rfl rfl k) ?_
  obtain ⟨T3, X3, e3, st3⟩ := getF X1 hx hZ hown (host := "") (Or.inl (own_hw hw 19)) Via.refl e1 pr3 (g := (mkF m 16 #[oR a1, oi 1, oi ll] [(.ref a1), (.long (((2 : Int64) * (ll / sb).toInt64) + (1 : Int64)))])) rfl rfl (hb hby d9_16)
  refine own_go (st' := T3.setTop (mkF m 19 #[oR a1, oi 1, oi ll] [(.long ww), (.long (((2 : Int64) * (ll / sb).toInt64) + (1 : Int64)))])) (st3) ?_
  refine own_go (st' := T3.setTop (mkF m 20 #[oR a1, oi 1, oi ll] [(.long ((((2 : Int64) * (ll / sb).toInt64) + (1 : Int64)) * ww))])) (fun _ k => XS.lmul X3.here hx rfl (hb hby d9_19) rfl k) ?_
  obtain ⟨fs, hr, hrun, hended, hW, hsame⟩ := X3.leave (v := some (.long ((((2 : Int64) * (ll / sb).toInt64) + (1 : Int64)) * ww))) (fun h => by rw [Bd.returns] at h; cases h)
  refine ⟨_, _, ?_, hP _ _ hrun hended ⟨_, _, rfl, ?_, ⟨_, rfl⟩, hW, hsame.mono (by decide) (by decide)⟩⟩
  · exact retOut X3 hx Bd.returns rfl (Or.inr (Or.inl ⟨rfl, rfl, _, rfl⟩)) (hb hby d9_20) hr
  · show Qrm9_1 Z a1 us kus ll ww sa sb h0 n0 _ T3.heap _
    rw [e3]
    exact ⟨rfl, N0, rfl⟩
theorem d11_0 : decode prog_29_method_8_code 0 = .ok (.aload_n 0, 1) := by decide +kernel
theorem d11_1 : decode prog_29_method_8_code 1 = .ok (.getfield 74, 3) := by decide +kernel
theorem d11_4 : decode prog_29_method_8_code 4 = .ok (.astore_n 1, 1) := by decide +kernel
theorem d11_5 : decode prog_29_method_8_code 5 = .ok (.aload_n 1, 1) := by decide +kernel
theorem d11_6 : decode prog_29_method_8_code 6 = .ok (.arraylength, 1) := by decide +kernel
theorem d11_7 : decode prog_29_method_8_code 7 = .ok (.istore_n 2, 1) := by decide +kernel
theorem d11_8 : decode prog_29_method_8_code 8 = .ok (.iconst 0, 1) := by decide +kernel
theorem d11_9 : decode prog_29_method_8_code 9 = .ok (.istore_n 3, 1) := by decide +kernel
theorem d11_10 : decode prog_29_method_8_code 10 = .ok (.iload_n 3, 1) := by decide +kernel
theorem d11_11 : decode prog_29_method_8_code 11 = .ok (.iload_n 2, 1) := by decide +kernel
theorem d11_12 : decode prog_29_method_8_code 12 = .ok (.if_icmp .ge 21, 3) := by decide +kernel
theorem d11_15 : decode prog_29_method_8_code 15 = .ok (.aload_n 1, 1) := by decide +kernel
theorem d11_16 : decode prog_29_method_8_code 16 = .ok (.iload_n 3, 1) := by decide +kernel
theorem d11_17 : decode prog_29_method_8_code 17 = .ok (.iaload, 1) := by decide +kernel
theorem d11_18 : decode prog_29_method_8_code 18 = .ok (.istore 4, 2) := by decide +kernel
theorem d11_20 : decode prog_29_method_8_code 20 = .ok (.iload 4, 2) := by decide +kernel
theorem d11_22 : decode prog_29_method_8_code 22 = .ok (.ifCond .le 5, 3) := by decide +kernel
theorem d11_27 : decode prog_29_method_8_code 27 = .ok (.iinc 3 1, 3) := by decide +kernel
theorem d11_30 : decode prog_29_method_8_code 30 = .ok (.goto (-20), 3) := by decide +kernel
theorem d11_33 : decode prog_29_method_8_code 33 = .ok (.iconst 0, 1) := by decide +kernel
theorem d11_34 : decode prog_29_method_8_code 34 = .ok (.ireturn, 1) := by decide +kernel
theorem pn_11 : plainName "com/example/limpet/limpet/StickyShares" = true := by first | (simp [plainName, overriddenIn]; done) | decide +kernel
theorem ef_rm11 (m : MethodId) (x0 : Addr) : entryFrame m #[(.ref x0)] 5 = mkF m 0 #[.val (.ref x0), .unset, .unset, .unset, .unset] [] := by first | (simp [entryFrame, mkF, argsToLocals, Value.category]; done) | rfl
def Qrm11 (Z : State) (a1 : Addr) (re : Addr) (kre : ClassId) (xa : Int32) (xb : Int32) (xc : Int32) (xd : Int32) (xe : Int32) (h0 : Heap) (n0 : Nat) (v : Option Value) (h : Heap) (L : List Loc) : Prop := (v = some (.int (0 : Int32))) ∧ (Fr n0 L) ∧ (h = h0)
set_option maxRecDepth 65536 in
set_option maxHeartbeats 40000000 in
theorem rm11 (l : Launch) (Z : State) (a0 : Array Value) (hw : ∀ d ∈ tables_1, d.before a0 Z = true) (ws : List Jvm.Cond) (a1 : Addr) (re : Addr) (kre : ClassId) (xa : Int32) (xb : Int32) (xc : Int32) (xd : Int32) (xe : Int32) (h0 : Heap) (n0 : Nat) (Z0 : n0 ≤ h0.size) (pr1 : Fld Z h0 a1 "com/example/limpet/limpet/StickyShares" "excess" "[I" (.ref re)) (pr2 : Arv Z h0 re kre .int (5 : Int32) [(.int xa), (.int xb), (.int xc), (.int xd), (.int xe)] (.int (0 : Int32))) (hxa : ¬ (0 : Int32) < xa) (hxb : ¬ (0 : Int32) < xb) (hxc : ¬ (0 : Int32) < xc) (hxd : ¬ (0 : Int32) < xd) (hxe : ¬ (0 : Int32) < xe) :
    MetFree l oM13 (head1 (Jvm.Cond.code oM13 prog_29_method_8_code 5 (some .boolean) :: ws) ({ frames := 0, cells := 0, slots := 0, locals := 0 } : Room)) (fun a U => a = #[(.ref a1)] ∧ Z.Warmed39 U.vm ∧ U.heap = h0) (fun _ _ _ _ _ => True) (fun _ U o U' => ∃ v L, o = .returned v ∧ Qrm11 Z a1 re kre xa xb xc xd xe h0 n0 v U'.heap L ∧ FrameEnd U o U' L ({ frames := 0, cells := 0, slots := 0, locals := 0 } : Room).cells ({ frames := 0, cells := 0, slots := 0, locals := 0 } : Room).slots) := by
  refine MetFree.of_bodySF (plainFor_of_name pn_11) hisR ?_
  intro p e s m args below meth c s₁ Bd hml0 hP0 hK
  obtain ⟨rfl, hZ, hh⟩ := hP0
  have hx := Bd.exec
  have hby := Bd.bytes
  have hml : c.maxLocals = 5 := hml0
  have hown : s.vm.findClass oS0 = some m.cls := findClass_of_methodNamed Bd.named
  have hnm := (name_of_methodNamed Bd.named Bd.method).1
  have X0 : Stand p l e ({ frames := 0, cells := 0, slots := 0, locals := 0 } : Room) s m #[(.ref a1)] below meth c s₁ [] 0 0 := Stand.of_body Bd
  have e0 : s₁.heap = h0 := by rw [← hh, Bd.state]; rfl
  have N0 := Fr.nil n0
  suffices own_H : ∀ (P : State → Outcome → Prop), (∀ U o, U.status = .running → Ended U below o → (∃ v L, o = .returned v ∧ Qrm11 Z a1 re kre xa xb xc xd xe h0 n0 v U.heap L ∧ FrameEnd s o U L ({ frames := 0, cells := 0, slots := 0, locals := 0 } : Room).cells ({ frames := 0, cells := 0, slots := 0, locals := 0 } : Room).slots) → P U o) → own_Go p.tables e below P (s₁.setTop (mkF m 0 #[oR a1, .unset, .unset, .unset, .unset] [])) from own_go (fun _ k => castTop (ef_rm11 m a1) k) (own_H _ (fun U o h1 h2 h3 => ⟨h1, h2, h3⟩))
  intro P hP
  have lt_a1 : @LT.lt Nat _ a1 h0.size := pr1.lt
  have lt_re : @LT.lt Nat _ re h0.size := pr2.lt
  refine own_go (st' := s₁.setTop (mkF m 1 #[oR a1, .unset, .unset, .unset, .unset] [(.ref a1)])) (fun _ k => XS.aloadN X0.here hx rfl (hb hby d11_0) rfl rfl k) ?_
  obtain ⟨T1, X1, e1, st1⟩ := getF X0 hx hZ hown (host := "") (Or.inl (own_hw hw 56)) Via.refl e0 pr1 (g := (mkF m 1 #[oR a1, .unset, .unset, .unset, .unset] [(.ref a1)])) rfl rfl (hb hby d11_1)
  refine own_go (st' := T1.setTop (mkF m 4 #[oR a1, .unset, .unset, .unset, .unset] [(.ref re)])) (st1) ?_
  refine own_go (st' := T1.setTop (mkF m 5 #[oR a1, oR re, .unset, .unset, .unset] [])) (fun _ k => XS.astoreN X1.here hx rfl (hb hby d11_4) rfl rfl (l' := #[oR a1, oR re, .unset, .unset, .unset]) rfl k) ?_
  refine own_go (st' := T1.setTop (mkF m 6 #[oR a1, oR re, .unset, .unset, .unset] [(.ref re)])) (fun _ k => XS.aloadN X1.here hx rfl (hb hby d11_5) rfl rfl k) ?_
  obtain ⟨cl2, Ar2, -, S2, M2, -, -⟩ := id pr2
  refine own_go (st' := T1.setTop (mkF m 7 #[oR a1, oR re, .unset, .unset, .unset] [(.int (5 : Int32))])) (fun t k => X1.arraylength hx (by rw [e1]; exact Ar2.1) (State.isArrayOf_alike hZ.alike Ar2.2.1) (g := (mkF m 6 #[oR a1, oR re, .unset, .unset, .unset] [(.ref re)])) rfl rfl (hb hby d11_6) t (by rw [len_of S2 M2]; exact k)) ?_
  refine own_go (st' := T1.setTop (mkF m 8 #[oR a1, oR re, oi 5, .unset, .unset] [])) (fun _ k => XS.istoreN X1.here hx rfl (hb hby d11_7) rfl (l' := #[oR a1, oR re, oi 5, .unset, .unset]) rfl k) ?_
  refine own_go (st' := T1.setTop (mkF m 9 #[oR a1, oR re, oi 5, .unset, .unset] [(.int (0 : Int32))])) (fun _ k => XS.iconst X1.here hx rfl (hb hby d11_8) k) ?_
  refine own_go (st' := T1.setTop (mkF m 10 #[oR a1, oR re, oi 5, oi 0, .unset] [])) (fun _ k => XS.istoreN X1.here hx rfl (hb hby d11_9) rfl (l' := #[oR a1, oR re, oi 5, oi 0, .unset]) rfl k) ?_
  refine own_go (st' := T1.setTop (mkF m 11 #[oR a1, oR re, oi 5, oi 0, .unset] [(.int (0 : Int32))])) (fun _ k => XS.iloadN X1.here hx rfl (hb hby d11_10) rfl k) ?_
  refine own_go (st' := T1.setTop (mkF m 12 #[oR a1, oR re, oi 5, oi 0, .unset] [(.int (5 : Int32)), (.int (0 : Int32))])) (fun _ k => XS.iloadN X1.here hx rfl (hb hby d11_11) rfl k) ?_
  have hc3 : (0 : Int32) < (5 : Int32) := by decide
  refine own_go (st' := T1.setTop (mkF m 15 #[oR a1, oR re, oi 5, oi 0, .unset] [])) (fun _ k => XS.icmpNo X1.here hx rfl (hb hby d11_12) rfl (tlt hc3).2.1 k) ?_
  refine own_go (st' := T1.setTop (mkF m 16 #[oR a1, oR re, oi 5, oi 0, .unset] [(.ref re)])) (fun _ k => XS.aloadN X1.here hx rfl (hb hby d11_15) rfl rfl k) ?_
  refine own_go (st' := T1.setTop (mkF m 17 #[oR a1, oR re, oi 5, oi 0, .unset] [(.int (0 : Int32)), (.ref re)])) (fun _ k => XS.iloadN X1.here hx rfl (hb hby d11_16) rfl k) ?_
  obtain ⟨cl4, Ar4, -, S4, M4, H4, -⟩ := id pr2
  have hin4 : ¬ ((0 : Int32) < 0 ∨ cl4.slots.size ≤ ((0 : Int32)).toNatClampNeg) := (inb_of S4 ⟨by decide, by decide⟩)
  have hat4 : cl4.slots[((0 : Int32)).toNatClampNeg]? = some (.int xa) := (H4.at hin4 rfl)
  refine own_go (st' := T1.setTop (mkF m 18 #[oR a1, oR re, oi 5, oi 0, .unset] [(.int xa)])) (X1.iaload hx (j := (0 : Int32)) (v := (.int xa)) (by rw [e1]; exact Ar4.1) (State.isArrayOf_alike hZ.alike Ar4.2.1) Ar4.2.2 hin4 hat4 (g := (mkF m 17 #[oR a1, oR re, oi 5, oi 0, .unset] [(.int (0 : Int32)), (.ref re)])) rfl rfl (hb hby d11_17)) ?_
  refine own_go (st' := T1.setTop (mkF m 20 #[oR a1, oR re, oi 5, oi 0, oi xa] [])) (fun _ k => XS.istore X1.here hx rfl (hb hby d11_18) rfl (l' := #[oR a1, oR re, oi 5, oi 0, oi xa]) rfl k) ?_
  refine own_go (st' := T1.setTop (mkF m 22 #[oR a1, oR re, oi 5, oi 0, oi xa] [(.int xa)])) (fun _ k => XS.iload X1.here hx rfl (hb hby d11_20) rfl k) ?_
  have hc5 : ¬ ((0 : Int32) < xa) := hxa
  refine own_go (st' := T1.setTop (mkF m 27 #[oR a1, oR re, oi 5, oi 0, oi xa] [])) (fun _ k => XS.ifYes X1.here hx rfl (pc0 := 22) (pc' := 27) rfl (hb hby d11_22) rfl ((if0 _ _).trans (flt hc5).2.2.2) (by decide) (by decide) k) ?_
  refine own_go (st' := T1.setTop (mkF m 30 #[oR a1, oR re, oi 5, oi 1, oi xa] [])) (fun _ k => XS.iinc X1.here hx rfl (hb hby d11_27) rfl (l' := #[oR a1, oR re, oi 5, oi 1, oi xa]) (by rw [show ((0 : Int32) + Int32.ofInt 1) = (1 : Int32) by decide]; rfl) k) ?_
  refine own_go (st' := T1.setTop (mkF m 10 #[oR a1, oR re, oi 5, oi 1, oi xa] [])) (fun _ k => XS.goto X1.here hx rfl (pc0 := 30) (pc' := 10) rfl (hb hby d11_30) (by decide) (by decide) k) ?_
  refine own_go (st' := T1.setTop (mkF m 11 #[oR a1, oR re, oi 5, oi 1, oi xa] [(.int (1 : Int32))])) (fun _ k => XS.iloadN X1.here hx rfl (hb hby d11_10) rfl k) ?_
  refine own_go (st' := T1.setTop (mkF m 12 #[oR a1, oR re, oi 5, oi 1, oi xa] [(.int (5 : Int32)), (.int (1 : Int32))])) (fun _ k => XS.iloadN X1.here hx rfl (hb hby d11_11) rfl k) ?_
  have hc6 : (1 : Int32) < (5 : Int32) := by decide
  refine own_go (st' := T1.setTop (mkF m 15 #[oR a1, oR re, oi 5, oi 1, oi xa] [])) (fun _ k => XS.icmpNo X1.here hx rfl (hb hby d11_12) rfl (tlt hc6).2.1 k) ?_
  refine own_go (st' := T1.setTop (mkF m 16 #[oR a1, oR re, oi 5, oi 1, oi xa] [(.ref re)])) (fun _ k => XS.aloadN X1.here hx rfl (hb hby d11_15) rfl rfl k) ?_
  refine own_go (st' := T1.setTop (mkF m 17 #[oR a1, oR re, oi 5, oi 1, oi xa] [(.int (1 : Int32)), (.ref re)])) (fun _ k => XS.iloadN X1.here hx rfl (hb hby d11_16) rfl k) ?_
  obtain ⟨cl7, Ar7, -, S7, M7, H7, -⟩ := id pr2
  have hin7 : ¬ ((1 : Int32) < 0 ∨ cl7.slots.size ≤ ((1 : Int32)).toNatClampNeg) := (inb_of S7 ⟨by decide, by decide⟩)
  have hat7 : cl7.slots[((1 : Int32)).toNatClampNeg]? = some (.int xb) := (H7.at hin7 rfl)
  refine own_go (st' := T1.setTop (mkF m 18 #[oR a1, oR re, oi 5, oi 1, oi xa] [(.int xb)])) (X1.iaload hx (j := (1 : Int32)) (v := (.int xb)) (by rw [e1]; exact Ar7.1) (State.isArrayOf_alike hZ.alike Ar7.2.1) Ar7.2.2 hin7 hat7 (g := (mkF m 17 #[oR a1, oR re, oi 5, oi 1, oi xa] [(.int (1 : Int32)), (.ref re)])) rfl rfl (hb hby d11_17)) ?_
  refine own_go (st' := T1.setTop (mkF m 20 #[oR a1, oR re, oi 5, oi 1, oi xb] [])) (fun _ k => XS.istore X1.here hx rfl (hb hby d11_18) rfl (l' := #[oR a1, oR re, oi 5, oi 1, oi xb]) rfl k) ?_
  refine own_go (st' := T1.setTop (mkF m 22 #[oR a1, oR re, oi 5, oi 1, oi xb] [(.int xb)])) (fun _ k => XS.iload X1.here hx rfl (hb hby d11_20) rfl k) ?_
  have hc8 : ¬ ((0 : Int32) < xb) := hxb
  refine own_go (st' := T1.setTop (mkF m 27 #[oR a1, oR re, oi 5, oi 1, oi xb] [])) (fun _ k => XS.ifYes X1.here hx rfl (pc0 := 22) (pc' := 27) rfl (hb hby d11_22) rfl ((if0 _ _).trans (flt hc8).2.2.2) (by decide) (by decide) k) ?_
  refine own_go (st' := T1.setTop (mkF m 30 #[oR a1, oR re, oi 5, oi 2, oi xb] [])) (fun _ k => XS.iinc X1.here hx rfl (hb hby d11_27) rfl (l' := #[oR a1, oR re, oi 5, oi 2, oi xb]) (by rw [show ((1 : Int32) + Int32.ofInt 1) = (2 : Int32) by decide]; rfl) k) ?_
  refine own_go (st' := T1.setTop (mkF m 10 #[oR a1, oR re, oi 5, oi 2, oi xb] [])) (fun _ k => XS.goto X1.here hx rfl (pc0 := 30) (pc' := 10) rfl (hb hby d11_30) (by decide) (by decide) k) ?_
  refine own_go (st' := T1.setTop (mkF m 11 #[oR a1, oR re, oi 5, oi 2, oi xb] [(.int (2 : Int32))])) (fun _ k => XS.iloadN X1.here hx rfl (hb hby d11_10) rfl k) ?_
  refine own_go (st' := T1.setTop (mkF m 12 #[oR a1, oR re, oi 5, oi 2, oi xb] [(.int (5 : Int32)), (.int (2 : Int32))])) (fun _ k => XS.iloadN X1.here hx rfl (hb hby d11_11) rfl k) ?_
  have hc9 : (2 : Int32) < (5 : Int32) := by decide
  refine own_go (st' := T1.setTop (mkF m 15 #[oR a1, oR re, oi 5, oi 2, oi xb] [])) (fun _ k => XS.icmpNo X1.here hx rfl (hb hby d11_12) rfl (tlt hc9).2.1 k) ?_
  refine own_go (st' := T1.setTop (mkF m 16 #[oR a1, oR re, oi 5, oi 2, oi xb] [(.ref re)])) (fun _ k => XS.aloadN X1.here hx rfl (hb hby d11_15) rfl rfl k) ?_
  refine own_go (st' := T1.setTop (mkF m 17 #[oR a1, oR re, oi 5, oi 2, oi xb] [(.int (2 : Int32)), (.ref re)])) (fun _ k => XS.iloadN X1.here hx rfl (hb hby d11_16) rfl k) ?_
  obtain ⟨cl10, Ar10, -, S10, M10, H10, -⟩ := id pr2
  have hin10 : ¬ ((2 : Int32) < 0 ∨ cl10.slots.size ≤ ((2 : Int32)).toNatClampNeg) := (inb_of S10 ⟨by decide, by decide⟩)
  have hat10 : cl10.slots[((2 : Int32)).toNatClampNeg]? = some (.int xc) := (H10.at hin10 rfl)
  refine own_go (st' := T1.setTop (mkF m 18 #[oR a1, oR re, oi 5, oi 2, oi xb] [(.int xc)])) (X1.iaload hx (j := (2 : Int32)) (v := (.int xc)) (by rw [e1]; exact Ar10.1) (State.isArrayOf_alike hZ.alike Ar10.2.1) Ar10.2.2 hin10 hat10 (g := (mkF m 17 #[oR a1, oR re, oi 5, oi 2, oi xb] [(.int (2 : Int32)), (.ref re)])) rfl rfl (hb hby d11_17)) ?_
  refine own_go (st' := T1.setTop (mkF m 20 #[oR a1, oR re, oi 5, oi 2, oi xc] [])) (fun _ k => XS.istore X1.here hx rfl (hb hby d11_18) rfl (l' := #[oR a1, oR re, oi 5, oi 2, oi xc]) rfl k) ?_
  refine own_go (st' := T1.setTop (mkF m 22 #[oR a1, oR re, oi 5, oi 2, oi xc] [(.int xc)])) (fun _ k => XS.iload X1.here hx rfl (hb hby d11_20) rfl k) ?_
  have hc11 : ¬ ((0 : Int32) < xc) := hxc
  refine own_go (st' := T1.setTop (mkF m 27 #[oR a1, oR re, oi 5, oi 2, oi xc] [])) (fun _ k => XS.ifYes X1.here hx rfl (pc0 := 22) (pc' := 27) rfl (hb hby d11_22) rfl ((if0 _ _).trans (flt hc11).2.2.2) (by decide) (by decide) k) ?_
  refine own_go (st' := T1.setTop (mkF m 30 #[oR a1, oR re, oi 5, oi 3, oi xc] [])) (fun _ k => XS.iinc X1.here hx rfl (hb hby d11_27) rfl (l' := #[oR a1, oR re, oi 5, oi 3, oi xc]) (by rw [show ((2 : Int32) + Int32.ofInt 1) = (3 : Int32) by decide]; rfl) k) ?_
  refine own_go (st' := T1.setTop (mkF m 10 #[oR a1, oR re, oi 5, oi 3, oi xc] [])) (fun _ k => XS.goto X1.here hx rfl (pc0 := 30) (pc' := 10) rfl (hb hby d11_30) (by decide) (by decide) k) ?_
  refine own_go (st' := T1.setTop (mkF m 11 #[oR a1, oR re, oi 5, oi 3, oi xc] [(.int (3 : Int32))])) (fun _ k => XS.iloadN X1.here hx rfl (hb hby d11_10) rfl k) ?_
  refine own_go (st' := T1.setTop (mkF m 12 #[oR a1, oR re, oi 5, oi 3, oi xc] [(.int (5 : Int32)), (.int (3 : Int32))])) (fun _ k => XS.iloadN X1.here hx rfl (hb hby d11_11) rfl k) ?_
  have hc12 : (3 : Int32) < (5 : Int32) := by decide
  refine own_go (st' := T1.setTop (mkF m 15 #[oR a1, oR re, oi 5, oi 3, oi xc] [])) (fun _ k => XS.icmpNo X1.here hx rfl (hb hby d11_12) rfl (tlt hc12).2.1 k) ?_
  refine own_go (st' := T1.setTop (mkF m 16 #[oR a1, oR re, oi 5, oi 3, oi xc] [(.ref re)])) (fun _ k => XS.aloadN X1.here hx rfl (hb hby d11_15) rfl rfl k) ?_
  refine own_go (st' := T1.setTop (mkF m 17 #[oR a1, oR re, oi 5, oi 3, oi xc] [(.int (3 : Int32)), (.ref re)])) (fun _ k => XS.iloadN X1.here hx rfl (hb hby d11_16) rfl k) ?_
  obtain ⟨cl13, Ar13, -, S13, M13, H13, -⟩ := id pr2
  have hin13 : ¬ ((3 : Int32) < 0 ∨ cl13.slots.size ≤ ((3 : Int32)).toNatClampNeg) := (inb_of S13 ⟨by decide, by decide⟩)
  have hat13 : cl13.slots[((3 : Int32)).toNatClampNeg]? = some (.int xd) := (H13.at hin13 rfl)
  refine own_go (st' := T1.setTop (mkF m 18 #[oR a1, oR re, oi 5, oi 3, oi xc] [(.int xd)])) (X1.iaload hx (j := (3 : Int32)) (v := (.int xd)) (by rw [e1]; exact Ar13.1) (State.isArrayOf_alike hZ.alike Ar13.2.1) Ar13.2.2 hin13 hat13 (g := (mkF m 17 #[oR a1, oR re, oi 5, oi 3, oi xc] [(.int (3 : Int32)), (.ref re)])) rfl rfl (hb hby d11_17)) ?_
  refine own_go (st' := T1.setTop (mkF m 20 #[oR a1, oR re, oi 5, oi 3, oi xd] [])) (fun _ k => XS.istore X1.here hx rfl (hb hby d11_18) rfl (l' := #[oR a1, oR re, oi 5, oi 3, oi xd]) rfl k) ?_
  refine own_go (st' := T1.setTop (mkF m 22 #[oR a1, oR re, oi 5, oi 3, oi xd] [(.int xd)])) (fun _ k => XS.iload X1.here hx rfl (hb hby d11_20) rfl k) ?_
  have hc14 : ¬ ((0 : Int32) < xd) := hxd
  refine own_go (st' := T1.setTop (mkF m 27 #[oR a1, oR re, oi 5, oi 3, oi xd] [])) (fun _ k => XS.ifYes X1.here hx rfl (pc0 := 22) (pc' := 27) rfl (hb hby d11_22) rfl ((if0 _ _).trans (flt hc14).2.2.2) (by decide) (by decide) k) ?_
  refine own_go (st' := T1.setTop (mkF m 30 #[oR a1, oR re, oi 5, oi 4, oi xd] [])) (fun _ k => XS.iinc X1.here hx rfl (hb hby d11_27) rfl (l' := #[oR a1, oR re, oi 5, oi 4, oi xd]) (by rw [show ((3 : Int32) + Int32.ofInt 1) = (4 : Int32) by decide]; rfl) k) ?_
  refine own_go (st' := T1.setTop (mkF m 10 #[oR a1, oR re, oi 5, oi 4, oi xd] [])) (fun _ k => XS.goto X1.here hx rfl (pc0 := 30) (pc' := 10) rfl (hb hby d11_30) (by decide) (by decide) k) ?_
  refine own_go (st' := T1.setTop (mkF m 11 #[oR a1, oR re, oi 5, oi 4, oi xd] [(.int (4 : Int32))])) (fun _ k => XS.iloadN X1.here hx rfl (hb hby d11_10) rfl k) ?_
  refine own_go (st' := T1.setTop (mkF m 12 #[oR a1, oR re, oi 5, oi 4, oi xd] [(.int (5 : Int32)), (.int (4 : Int32))])) (fun _ k => XS.iloadN X1.here hx rfl (hb hby d11_11) rfl k) ?_
  have hc15 : (4 : Int32) < (5 : Int32) := by decide
  refine own_go (st' := T1.setTop (mkF m 15 #[oR a1, oR re, oi 5, oi 4, oi xd] [])) (fun _ k => XS.icmpNo X1.here hx rfl (hb hby d11_12) rfl (tlt hc15).2.1 k) ?_
  refine own_go (st' := T1.setTop (mkF m 16 #[oR a1, oR re, oi 5, oi 4, oi xd] [(.ref re)])) (fun _ k => XS.aloadN X1.here hx rfl (hb hby d11_15) rfl rfl k) ?_
  refine own_go (st' := T1.setTop (mkF m 17 #[oR a1, oR re, oi 5, oi 4, oi xd] [(.int (4 : Int32)), (.ref re)])) (fun _ k => XS.iloadN X1.here hx rfl (hb hby d11_16) rfl k) ?_
  obtain ⟨cl16, Ar16, -, S16, M16, H16, -⟩ := id pr2
  have hin16 : ¬ ((4 : Int32) < 0 ∨ cl16.slots.size ≤ ((4 : Int32)).toNatClampNeg) := (inb_of S16 ⟨by decide, by decide⟩)
  have hat16 : cl16.slots[((4 : Int32)).toNatClampNeg]? = some (.int xe) := (H16.at hin16 rfl)
  refine own_go (st' := T1.setTop (mkF m 18 #[oR a1, oR re, oi 5, oi 4, oi xd] [(.int xe)])) (X1.iaload hx (j := (4 : Int32)) (v := (.int xe)) (by rw [e1]; exact Ar16.1) (State.isArrayOf_alike hZ.alike Ar16.2.1) Ar16.2.2 hin16 hat16 (g := (mkF m 17 #[oR a1, oR re, oi 5, oi 4, oi xd] [(.int (4 : Int32)), (.ref re)])) rfl rfl (hb hby d11_17)) ?_
  refine own_go (st' := T1.setTop (mkF m 20 #[oR a1, oR re, oi 5, oi 4, oi xe] [])) (fun _ k => XS.istore X1.here hx rfl (hb hby d11_18) rfl (l' := #[oR a1, oR re, oi 5, oi 4, oi xe]) rfl k) ?_
  refine own_go (st' := T1.setTop (mkF m 22 #[oR a1, oR re, oi 5, oi 4, oi xe] [(.int xe)])) (fun _ k => XS.iload X1.here hx rfl (hb hby d11_20) rfl k) ?_
  have hc17 : ¬ ((0 : Int32) < xe) := hxe
  refine own_go (st' := T1.setTop (mkF m 27 #[oR a1, oR re, oi 5, oi 4, oi xe] [])) (fun _ k => XS.ifYes X1.here hx rfl (pc0 := 22) (pc' := 27) rfl (hb hby d11_22) rfl ((if0 _ _).trans (flt hc17).2.2.2) (by decide) (by decide) k) ?_
  refine own_go (st' := T1.setTop (mkF m 30 #[oR a1, oR re, oi 5, oi 5, oi xe] [])) (fun _ k => XS.iinc X1.here hx rfl (hb hby d11_27) rfl (l' := #[oR a1, oR re, oi 5, oi 5, oi xe]) (by rw [show ((4 : Int32) + Int32.ofInt 1) = (5 : Int32) by decide]; rfl) k) ?_
  refine own_go (st' := T1.setTop (mkF m 10 #[oR a1, oR re, oi 5, oi 5, oi xe] [])) (fun _ k => XS.goto X1.here hx rfl (pc0 := 30) (pc' := 10) rfl (hb hby d11_30) (by decide) (by decide) k) ?_
  refine own_go (st' := T1.setTop (mkF m 11 #[oR a1, oR re, oi 5, oi 5, oi xe] [(.int (5 : Int32))])) (fun _ k => XS.iloadN X1.here hx rfl (hb hby d11_10) rfl k) ?_
  refine own_go (st' := T1.setTop (mkF m 12 #[oR a1, oR re, oi 5, oi 5, oi xe] [(.int (5 : Int32)), (.int (5 : Int32))])) (fun _ k => XS.iloadN X1.here hx rfl (hb hby d11_11) rfl k) ?_
  have hc18 : ¬ ((5 : Int32) < (5 : Int32)) := by decide
  refine own_go (st' := T1.setTop (mkF m 33 #[oR a1, oR re, oi 5, oi 5, oi xe] [])) (fun _ k => XS.icmpYes X1.here hx rfl (pc0 := 12) (pc' := 33) rfl (hb hby d11_12) rfl (flt hc18).2.1 (by decide) (by decide) k) ?_
  refine own_go (st' := T1.setTop (mkF m 34 #[oR a1, oR re, oi 5, oi 5, oi xe] [(.int (0 : Int32))])) (fun _ k => XS.iconst X1.here hx rfl (hb hby d11_33) k) ?_
  obtain ⟨fs, hr, hrun, hended, hW, hsame⟩ := X1.leave (v := some (.int (0 : Int32))) (fun h => by rw [Bd.returns] at h; cases h)
  refine ⟨_, _, ?_, hP _ _ hrun hended ⟨_, _, rfl, ?_, ⟨_, rfl⟩, hW, hsame.mono (by decide) (by decide)⟩⟩
  · exact retN X1 hx (t := .boolean) Bd.returns (by simp) (hb hby d11_34) hr
  · show Qrm11 Z a1 re kre xa xb xc xd xe h0 n0 _ T1.heap _
    rw [e1]
    exact ⟨rfl, N0, rfl⟩
theorem pd_5 : parseMethodDescriptor "(II)J" = some ⟨[.int, .int], some .long⟩ := by decide +kernel
theorem pd_6 : parseMethodDescriptor "(JJ)J" = some ⟨[.long, .long], some .long⟩ := by decide +kernel
theorem pd_7 : parseMethodDescriptor "()Z" = some ⟨[], some .boolean⟩ := by decide +kernel
theorem d8_0 : decode prog_29_method_4_code 0 = .ok (.iconst 0, 1) := by decide +kernel
theorem d8_1 : decode prog_29_method_4_code 1 = .ok (.istore_n 3, 1) := by decide +kernel
theorem d8_2 : decode prog_29_method_4_code 2 = .ok (.iload_n 3, 1) := by decide +kernel
theorem d8_3 : decode prog_29_method_4_code 3 = .ok (.aload_n 0, 1) := by decide +kernel
theorem d8_4 : decode prog_29_method_4_code 4 = .ok (.getfield 17, 3) := by decide +kernel
theorem d8_7 : decode prog_29_method_4_code 7 = .ok (.if_icmp .ge 98, 3) := by decide +kernel
theorem d8_10 : decode prog_29_method_4_code 10 = .ok (.aload_n 0, 1) := by decide +kernel
theorem d8_11 : decode prog_29_method_4_code 11 = .ok (.getfield 71, 3) := by decide +kernel
theorem d8_14 : decode prog_29_method_4_code 14 = .ok (.iload_n 3, 1) := by decide +kernel
theorem d8_15 : decode prog_29_method_4_code 15 = .ok (.aload_n 1, 1) := by decide +kernel
theorem d8_16 : decode prog_29_method_4_code 16 = .ok (.iload_n 3, 1) := by decide +kernel
theorem d8_17 : decode prog_29_method_4_code 17 = .ok (.iaload, 1) := by decide +kernel
theorem d8_18 : decode prog_29_method_4_code 18 = .ok (.iastore, 1) := by decide +kernel
theorem d8_19 : decode prog_29_method_4_code 19 = .ok (.aload_n 2, 1) := by decide +kernel
theorem d8_20 : decode prog_29_method_4_code 20 = .ok (.iload_n 3, 1) := by decide +kernel
theorem d8_21 : decode prog_29_method_4_code 21 = .ok (.laload, 1) := by decide +kernel
theorem d8_22 : decode prog_29_method_4_code 22 = .ok (.aload_n 0, 1) := by decide +kernel
theorem d8_23 : decode prog_29_method_4_code 23 = .ok (.iload_n 3, 1) := by decide +kernel
theorem d8_24 : decode prog_29_method_4_code 24 = .ok (.aload_n 0, 1) := by decide +kernel
theorem d8_25 : decode prog_29_method_4_code 25 = .ok (.getfield 71, 3) := by decide +kernel
theorem d8_28 : decode prog_29_method_4_code 28 = .ok (.iload_n 3, 1) := by decide +kernel
theorem d8_29 : decode prog_29_method_4_code 29 = .ok (.iaload, 1) := by decide +kernel
theorem d8_30 : decode prog_29_method_4_code 30 = .ok (.invokevirtual 120, 3) := by decide +kernel
theorem d8_33 : decode prog_29_method_4_code 33 = .ok (.invokestatic 128, 3) := by decide +kernel
theorem d8_36 : decode prog_29_method_4_code 36 = .ok (.lstore 4, 2) := by decide +kernel
theorem d8_38 : decode prog_29_method_4_code 38 = .ok (.aload_n 0, 1) := by decide +kernel
theorem d8_39 : decode prog_29_method_4_code 39 = .ok (.getfield 71, 3) := by decide +kernel
theorem d8_42 : decode prog_29_method_4_code 42 = .ok (.iload_n 3, 1) := by decide +kernel
theorem d8_43 : decode prog_29_method_4_code 43 = .ok (.iaload, 1) := by decide +kernel
theorem d8_44 : decode prog_29_method_4_code 44 = .ok (.ifCond .le 23, 3) := by decide +kernel
theorem d8_47 : decode prog_29_method_4_code 47 = .ok (.lload 4, 2) := by decide +kernel
theorem d8_49 : decode prog_29_method_4_code 49 = .ok (.aload_n 0, 1) := by decide +kernel
theorem d8_50 : decode prog_29_method_4_code 50 = .ok (.iload_n 3, 1) := by decide +kernel
theorem d8_51 : decode prog_29_method_4_code 51 = .ok (.aload_n 0, 1) := by decide +kernel
theorem d8_52 : decode prog_29_method_4_code 52 = .ok (.getfield 71, 3) := by decide +kernel
theorem d8_55 : decode prog_29_method_4_code 55 = .ok (.iload_n 3, 1) := by decide +kernel
theorem d8_56 : decode prog_29_method_4_code 56 = .ok (.iaload, 1) := by decide +kernel
theorem d8_57 : decode prog_29_method_4_code 57 = .ok (.iconst 1, 1) := by decide +kernel
theorem d8_58 : decode prog_29_method_4_code 58 = .ok (.isub, 1) := by decide +kernel
theorem d8_59 : decode prog_29_method_4_code 59 = .ok (.invokevirtual 120, 3) := by decide +kernel
theorem d8_62 : decode prog_29_method_4_code 62 = .ok (.invokestatic 134, 3) := by decide +kernel
theorem d8_65 : decode prog_29_method_4_code 65 = .ok (.lstore 4, 2) := by decide +kernel
theorem d8_67 : decode prog_29_method_4_code 67 = .ok (.aload_n 0, 1) := by decide +kernel
theorem d8_68 : decode prog_29_method_4_code 68 = .ok (.getfield 83, 3) := by decide +kernel
theorem d8_71 : decode prog_29_method_4_code 71 = .ok (.aload_n 0, 1) := by decide +kernel
theorem d8_72 : decode prog_29_method_4_code 72 = .ok (.getfield 11, 3) := by decide +kernel
theorem d8_75 : decode prog_29_method_4_code 75 = .ok (.iload_n 3, 1) := by decide +kernel
theorem d8_76 : decode prog_29_method_4_code 76 = .ok (.iadd, 1) := by decide +kernel
theorem d8_77 : decode prog_29_method_4_code 77 = .ok (.lload 4, 2) := by decide +kernel
theorem d8_79 : decode prog_29_method_4_code 79 = .ok (.lneg, 1) := by decide +kernel
theorem d8_80 : decode prog_29_method_4_code 80 = .ok (.lastore, 1) := by decide +kernel
theorem d8_81 : decode prog_29_method_4_code 81 = .ok (.aload_n 0, 1) := by decide +kernel
theorem d8_82 : decode prog_29_method_4_code 82 = .ok (.getfield 74, 3) := by decide +kernel
theorem d8_85 : decode prog_29_method_4_code 85 = .ok (.aload_n 0, 1) := by decide +kernel
theorem d8_86 : decode prog_29_method_4_code 86 = .ok (.getfield 11, 3) := by decide +kernel
theorem d8_89 : decode prog_29_method_4_code 89 = .ok (.iload_n 3, 1) := by decide +kernel
theorem d8_90 : decode prog_29_method_4_code 90 = .ok (.iadd, 1) := by decide +kernel
theorem d8_91 : decode prog_29_method_4_code 91 = .ok (.aload_n 0, 1) := by decide +kernel
theorem d8_92 : decode prog_29_method_4_code 92 = .ok (.getfield 71, 3) := by decide +kernel
theorem d8_95 : decode prog_29_method_4_code 95 = .ok (.iload_n 3, 1) := by decide +kernel
theorem d8_96 : decode prog_29_method_4_code 96 = .ok (.iaload, 1) := by decide +kernel
theorem d8_97 : decode prog_29_method_4_code 97 = .ok (.ineg, 1) := by decide +kernel
theorem d8_98 : decode prog_29_method_4_code 98 = .ok (.iastore, 1) := by decide +kernel
theorem d8_99 : decode prog_29_method_4_code 99 = .ok (.iinc 3 1, 3) := by decide +kernel
theorem d8_102 : decode prog_29_method_4_code 102 = .ok (.goto (-100), 3) := by decide +kernel
theorem d8_105 : decode prog_29_method_4_code 105 = .ok (.aload_n 0, 1) := by decide +kernel
theorem d8_106 : decode prog_29_method_4_code 106 = .ok (.getfield 74, 3) := by decide +kernel
theorem d8_109 : decode prog_29_method_4_code 109 = .ok (.aload_n 0, 1) := by decide +kernel
theorem d8_110 : decode prog_29_method_4_code 110 = .ok (.getfield 20, 3) := by decide +kernel
theorem d8_113 : decode prog_29_method_4_code 113 = .ok (.aload_n 0, 1) := by decide +kernel
theorem d8_114 : decode prog_29_method_4_code 114 = .ok (.getfield 23, 3) := by decide +kernel
theorem d8_117 : decode prog_29_method_4_code 117 = .ok (.ineg, 1) := by decide +kernel
theorem d8_118 : decode prog_29_method_4_code 118 = .ok (.iastore, 1) := by decide +kernel
theorem d8_119 : decode prog_29_method_4_code 119 = .ok (.iconst 0, 1) := by decide +kernel
theorem d8_120 : decode prog_29_method_4_code 120 = .ok (.istore_n 3, 1) := by decide +kernel
theorem d8_121 : decode prog_29_method_4_code 121 = .ok (.iload_n 3, 1) := by decide +kernel
theorem d8_122 : decode prog_29_method_4_code 122 = .ok (.aload_n 0, 1) := by decide +kernel
theorem d8_123 : decode prog_29_method_4_code 123 = .ok (.getfield 17, 3) := by decide +kernel
theorem d8_126 : decode prog_29_method_4_code 126 = .ok (.if_icmp .ge 27, 3) := by decide +kernel
theorem d8_129 : decode prog_29_method_4_code 129 = .ok (.aload_n 0, 1) := by decide +kernel
theorem d8_130 : decode prog_29_method_4_code 130 = .ok (.getfield 74, 3) := by decide +kernel
theorem d8_133 : decode prog_29_method_4_code 133 = .ok (.aload_n 0, 1) := by decide +kernel
theorem d8_134 : decode prog_29_method_4_code 134 = .ok (.getfield 20, 3) := by decide +kernel
theorem d8_137 : decode prog_29_method_4_code 137 = .ok (.dup2, 1) := by decide +kernel
theorem d8_138 : decode prog_29_method_4_code 138 = .ok (.iaload, 1) := by decide +kernel
theorem d8_139 : decode prog_29_method_4_code 139 = .ok (.aload_n 0, 1) := by decide +kernel
theorem d8_140 : decode prog_29_method_4_code 140 = .ok (.getfield 71, 3) := by decide +kernel
theorem d8_143 : decode prog_29_method_4_code 143 = .ok (.iload_n 3, 1) := by decide +kernel
theorem d8_144 : decode prog_29_method_4_code 144 = .ok (.iaload, 1) := by decide +kernel
theorem d8_145 : decode prog_29_method_4_code 145 = .ok (.iadd, 1) := by decide +kernel
theorem d8_146 : decode prog_29_method_4_code 146 = .ok (.iastore, 1) := by decide +kernel
theorem d8_147 : decode prog_29_method_4_code 147 = .ok (.iinc 3 1, 3) := by decide +kernel
theorem d8_150 : decode prog_29_method_4_code 150 = .ok (.goto (-29), 3) := by decide +kernel
theorem d8_153 : decode prog_29_method_4_code 153 = .ok (.iconst 0, 1) := by decide +kernel
theorem d8_154 : decode prog_29_method_4_code 154 = .ok (.istore_n 3, 1) := by decide +kernel
theorem d8_155 : decode prog_29_method_4_code 155 = .ok (.iload_n 3, 1) := by decide +kernel
theorem d8_156 : decode prog_29_method_4_code 156 = .ok (.aload_n 0, 1) := by decide +kernel
theorem d8_157 : decode prog_29_method_4_code 157 = .ok (.getfield 11, 3) := by decide +kernel
theorem d8_160 : decode prog_29_method_4_code 160 = .ok (.if_icmp .ge 203, 3) := by decide +kernel
theorem d8_163 : decode prog_29_method_4_code 163 = .ok (.ldc2_w 137, 3) := by decide +kernel
theorem d8_166 : decode prog_29_method_4_code 166 = .ok (.lstore 4, 2) := by decide +kernel
theorem d8_168 : decode prog_29_method_4_code 168 = .ok (.aload_n 0, 1) := by decide +kernel
theorem d8_169 : decode prog_29_method_4_code 169 = .ok (.getfield 43, 3) := by decide +kernel
theorem d8_172 : decode prog_29_method_4_code 172 = .ok (.iload_n 3, 1) := by decide +kernel
theorem d8_173 : decode prog_29_method_4_code 173 = .ok (.iaload, 1) := by decide +kernel
theorem d8_174 : decode prog_29_method_4_code 174 = .ok (.istore 6, 2) := by decide +kernel
theorem d8_176 : decode prog_29_method_4_code 176 = .ok (.iload 6, 2) := by decide +kernel
theorem d8_178 : decode prog_29_method_4_code 178 = .ok (.aload_n 0, 1) := by decide +kernel
theorem d8_179 : decode prog_29_method_4_code 179 = .ok (.getfield 43, 3) := by decide +kernel
theorem d8_182 : decode prog_29_method_4_code 182 = .ok (.iload_n 3, 1) := by decide +kernel
theorem d8_183 : decode prog_29_method_4_code 183 = .ok (.iconst 1, 1) := by decide +kernel
theorem d8_184 : decode prog_29_method_4_code 184 = .ok (.iadd, 1) := by decide +kernel
theorem d8_185 : decode prog_29_method_4_code 185 = .ok (.iaload, 1) := by decide +kernel
theorem d8_186 : decode prog_29_method_4_code 186 = .ok (.if_icmp .ge 39, 3) := by decide +kernel
theorem d8_189 : decode prog_29_method_4_code 189 = .ok (.lload 4, 2) := by decide +kernel
theorem d8_191 : decode prog_29_method_4_code 191 = .ok (.aload_n 0, 1) := by decide +kernel
theorem d8_192 : decode prog_29_method_4_code 192 = .ok (.getfield 83, 3) := by decide +kernel
theorem d8_195 : decode prog_29_method_4_code 195 = .ok (.aload_n 0, 1) := by decide +kernel
theorem d8_196 : decode prog_29_method_4_code 196 = .ok (.getfield 11, 3) := by decide +kernel
theorem d8_199 : decode prog_29_method_4_code 199 = .ok (.aload_n 0, 1) := by decide +kernel
theorem d8_200 : decode prog_29_method_4_code 200 = .ok (.getfield 34, 3) := by decide +kernel
theorem d8_203 : decode prog_29_method_4_code 203 = .ok (.aload_n 0, 1) := by decide +kernel
theorem d8_204 : decode prog_29_method_4_code 204 = .ok (.getfield 50, 3) := by decide +kernel
theorem d8_207 : decode prog_29_method_4_code 207 = .ok (.iload 6, 2) := by decide +kernel
theorem d8_209 : decode prog_29_method_4_code 209 = .ok (.iaload, 1) := by decide +kernel
theorem d8_210 : decode prog_29_method_4_code 210 = .ok (.iaload, 1) := by decide +kernel
theorem d8_211 : decode prog_29_method_4_code 211 = .ok (.iadd, 1) := by decide +kernel
theorem d8_212 : decode prog_29_method_4_code 212 = .ok (.laload, 1) := by decide +kernel
theorem d8_213 : decode prog_29_method_4_code 213 = .ok (.lneg, 1) := by decide +kernel
theorem d8_214 : decode prog_29_method_4_code 214 = .ok (.invokestatic 128, 3) := by decide +kernel
theorem d8_217 : decode prog_29_method_4_code 217 = .ok (.lstore 4, 2) := by decide +kernel
theorem d8_219 : decode prog_29_method_4_code 219 = .ok (.iinc 6 1, 3) := by decide +kernel
theorem d8_222 : decode prog_29_method_4_code 222 = .ok (.goto (-46), 3) := by decide +kernel
theorem d8_225 : decode prog_29_method_4_code 225 = .ok (.lload 4, 2) := by decide +kernel
theorem d8_227 : decode prog_29_method_4_code 227 = .ok (.lconst 1, 1) := by decide +kernel
theorem d8_228 : decode prog_29_method_4_code 228 = .ok (.ladd, 1) := by decide +kernel
theorem d8_229 : decode prog_29_method_4_code 229 = .ok (.lstore 6, 2) := by decide +kernel
theorem d8_231 : decode prog_29_method_4_code 231 = .ok (.aload_n 0, 1) := by decide +kernel
theorem d8_232 : decode prog_29_method_4_code 232 = .ok (.getfield 83, 3) := by decide +kernel
theorem d8_235 : decode prog_29_method_4_code 235 = .ok (.iload_n 3, 1) := by decide +kernel
theorem d8_236 : decode prog_29_method_4_code 236 = .ok (.lload 6, 2) := by decide +kernel
theorem d8_238 : decode prog_29_method_4_code 238 = .ok (.lneg, 1) := by decide +kernel
theorem d8_239 : decode prog_29_method_4_code 239 = .ok (.lastore, 1) := by decide +kernel
theorem d8_240 : decode prog_29_method_4_code 240 = .ok (.aload_n 0, 1) := by decide +kernel
theorem d8_241 : decode prog_29_method_4_code 241 = .ok (.getfield 43, 3) := by decide +kernel
theorem d8_244 : decode prog_29_method_4_code 244 = .ok (.iload_n 3, 1) := by decide +kernel
theorem d8_245 : decode prog_29_method_4_code 245 = .ok (.iaload, 1) := by decide +kernel
theorem d8_246 : decode prog_29_method_4_code 246 = .ok (.istore 8, 2) := by decide +kernel
theorem d8_248 : decode prog_29_method_4_code 248 = .ok (.iload 8, 2) := by decide +kernel
theorem d8_250 : decode prog_29_method_4_code 250 = .ok (.aload_n 0, 1) := by decide +kernel
theorem d8_251 : decode prog_29_method_4_code 251 = .ok (.getfield 43, 3) := by decide +kernel
theorem d8_254 : decode prog_29_method_4_code 254 = .ok (.iload_n 3, 1) := by decide +kernel
theorem d8_255 : decode prog_29_method_4_code 255 = .ok (.iconst 1, 1) := by decide +kernel
theorem d8_256 : decode prog_29_method_4_code 256 = .ok (.iadd, 1) := by decide +kernel
theorem d8_257 : decode prog_29_method_4_code 257 = .ok (.iaload, 1) := by decide +kernel
theorem d8_258 : decode prog_29_method_4_code 258 = .ok (.if_icmp .ge 99, 3) := by decide +kernel
theorem d8_261 : decode prog_29_method_4_code 261 = .ok (.aload_n 0, 1) := by decide +kernel
theorem d8_262 : decode prog_29_method_4_code 262 = .ok (.getfield 50, 3) := by decide +kernel
theorem d8_265 : decode prog_29_method_4_code 265 = .ok (.iload 8, 2) := by decide +kernel
theorem d8_267 : decode prog_29_method_4_code 267 = .ok (.iaload, 1) := by decide +kernel
theorem d8_268 : decode prog_29_method_4_code 268 = .ok (.istore 9, 2) := by decide +kernel
theorem d8_270 : decode prog_29_method_4_code 270 = .ok (.aload_n 0, 1) := by decide +kernel
theorem d8_271 : decode prog_29_method_4_code 271 = .ok (.getfield 83, 3) := by decide +kernel
theorem d8_274 : decode prog_29_method_4_code 274 = .ok (.aload_n 0, 1) := by decide +kernel
theorem d8_275 : decode prog_29_method_4_code 275 = .ok (.getfield 11, 3) := by decide +kernel
theorem d8_278 : decode prog_29_method_4_code 278 = .ok (.aload_n 0, 1) := by decide +kernel
theorem d8_279 : decode prog_29_method_4_code 279 = .ok (.getfield 34, 3) := by decide +kernel
theorem d8_282 : decode prog_29_method_4_code 282 = .ok (.iload 9, 2) := by decide +kernel
theorem d8_284 : decode prog_29_method_4_code 284 = .ok (.iaload, 1) := by decide +kernel
theorem d8_285 : decode prog_29_method_4_code 285 = .ok (.iadd, 1) := by decide +kernel
theorem d8_286 : decode prog_29_method_4_code 286 = .ok (.laload, 1) := by decide +kernel
theorem d8_287 : decode prog_29_method_4_code 287 = .ok (.lneg, 1) := by decide +kernel
theorem d8_288 : decode prog_29_method_4_code 288 = .ok (.lload 6, 2) := by decide +kernel
theorem d8_290 : decode prog_29_method_4_code 290 = .ok (.lcmp, 1) := by decide +kernel
theorem d8_291 : decode prog_29_method_4_code 291 = .ok (.ifCond .gt 60, 3) := by decide +kernel
theorem d8_294 : decode prog_29_method_4_code 294 = .ok (.aload_n 0, 1) := by decide +kernel
theorem d8_295 : decode prog_29_method_4_code 295 = .ok (.getfield 68, 3) := by decide +kernel
theorem d8_298 : decode prog_29_method_4_code 298 = .ok (.iload 9, 2) := by decide +kernel
theorem d8_300 : decode prog_29_method_4_code 300 = .ok (.aload_n 0, 1) := by decide +kernel
theorem d8_301 : decode prog_29_method_4_code 301 = .ok (.getfield 37, 3) := by decide +kernel
theorem d8_304 : decode prog_29_method_4_code 304 = .ok (.iload 9, 2) := by decide +kernel
theorem d8_306 : decode prog_29_method_4_code 306 = .ok (.iaload, 1) := by decide +kernel
theorem d8_307 : decode prog_29_method_4_code 307 = .ok (.iastore, 1) := by decide +kernel
theorem d8_308 : decode prog_29_method_4_code 308 = .ok (.aload_n 0, 1) := by decide +kernel
theorem d8_309 : decode prog_29_method_4_code 309 = .ok (.getfield 74, 3) := by decide +kernel
theorem d8_312 : decode prog_29_method_4_code 312 = .ok (.iload_n 3, 1) := by decide +kernel
theorem d8_313 : decode prog_29_method_4_code 313 = .ok (.dup2, 1) := by decide +kernel
theorem d8_314 : decode prog_29_method_4_code 314 = .ok (.iaload, 1) := by decide +kernel
theorem d8_315 : decode prog_29_method_4_code 315 = .ok (.aload_n 0, 1) := by decide +kernel
theorem d8_316 : decode prog_29_method_4_code 316 = .ok (.getfield 68, 3) := by decide +kernel
theorem d8_319 : decode prog_29_method_4_code 319 = .ok (.iload 9, 2) := by decide +kernel
theorem d8_321 : decode prog_29_method_4_code 321 = .ok (.iaload, 1) := by decide +kernel
theorem d8_322 : decode prog_29_method_4_code 322 = .ok (.isub, 1) := by decide +kernel
theorem d8_323 : decode prog_29_method_4_code 323 = .ok (.iastore, 1) := by decide +kernel
theorem d8_324 : decode prog_29_method_4_code 324 = .ok (.aload_n 0, 1) := by decide +kernel
theorem d8_325 : decode prog_29_method_4_code 325 = .ok (.getfield 74, 3) := by decide +kernel
theorem d8_328 : decode prog_29_method_4_code 328 = .ok (.aload_n 0, 1) := by decide +kernel
theorem d8_329 : decode prog_29_method_4_code 329 = .ok (.getfield 11, 3) := by decide +kernel
theorem d8_332 : decode prog_29_method_4_code 332 = .ok (.aload_n 0, 1) := by decide +kernel
theorem d8_333 : decode prog_29_method_4_code 333 = .ok (.getfield 34, 3) := by decide +kernel
theorem d8_336 : decode prog_29_method_4_code 336 = .ok (.iload 9, 2) := by decide +kernel
theorem d8_338 : decode prog_29_method_4_code 338 = .ok (.iaload, 1) := by decide +kernel
theorem d8_339 : decode prog_29_method_4_code 339 = .ok (.iadd, 1) := by decide +kernel
theorem d8_340 : decode prog_29_method_4_code 340 = .ok (.dup2, 1) := by decide +kernel
theorem d8_341 : decode prog_29_method_4_code 341 = .ok (.iaload, 1) := by decide +kernel
theorem d8_342 : decode prog_29_method_4_code 342 = .ok (.aload_n 0, 1) := by decide +kernel
theorem d8_343 : decode prog_29_method_4_code 343 = .ok (.getfield 68, 3) := by decide +kernel
theorem d8_346 : decode prog_29_method_4_code 346 = .ok (.iload 9, 2) := by decide +kernel
theorem d8_348 : decode prog_29_method_4_code 348 = .ok (.iaload, 1) := by decide +kernel
theorem d8_349 : decode prog_29_method_4_code 349 = .ok (.iadd, 1) := by decide +kernel
theorem d8_350 : decode prog_29_method_4_code 350 = .ok (.iastore, 1) := by decide +kernel
theorem d8_351 : decode prog_29_method_4_code 351 = .ok (.iinc 8 1, 3) := by decide +kernel
theorem d8_354 : decode prog_29_method_4_code 354 = .ok (.goto (-106), 3) := by decide +kernel
theorem d8_357 : decode prog_29_method_4_code 357 = .ok (.iinc 3 1, 3) := by decide +kernel
theorem d8_360 : decode prog_29_method_4_code 360 = .ok (.goto (-205), 3) := by decide +kernel
theorem d8_363 : decode prog_29_method_4_code 363 = .ok (.aload_n 0, 1) := by decide +kernel
theorem d8_364 : decode prog_29_method_4_code 364 = .ok (.invokevirtual 139, 3) := by decide +kernel
theorem d8_367 : decode prog_29_method_4_code 367 = .ok (.ifCond .eq 38, 3) := by decide +kernel
theorem d8_405 : decode prog_29_method_4_code 405 = .ok (.return_, 1) := by decide +kernel
theorem pn_8 : plainName "com/example/limpet/limpet/StickyShares" = true := by first | (simp [plainName, overriddenIn]; done) | decide +kernel
theorem ef_rm8 (m : MethodId) (x0 : Addr) (x1 : Addr) (x2 : Addr) : entryFrame m #[(.ref x0), (.ref x1), (.ref x2)] 10 = mkF m 0 #[.val (.ref x0), .val (.ref x1), .val (.ref x2), .unset, .unset, .unset, .unset, .unset, .unset, .unset] [] := by first | (simp [entryFrame, mkF, argsToLocals, Value.category]; done) | rfl
def Qrm8 (Z : State) (a1 : Addr) (au : Addr) (ao : Addr) (us : Addr) (rts : Addr) (rta : Addr) (rf : Addr) (rl : Addr) (re : Addr) (rp : Addr) (sl : Addr) (sp : Addr) (kau : ClassId) (kao : ClassId) (kus : ClassId) (krts : ClassId) (krta : ClassId) (krf : ClassId) (krl : ClassId) (kre : ClassId) (krp : ClassId) (ksl : ClassId) (ksp : ClassId) (ca : Int32) (cb : Int32) (sa : Int32) (sb : Int32) (qa : Int64) (qb : Int64) (tt : Int32) (ww : Int64) (h0 : Heap) (n0 : Nat) (v : Option Value) (h : Heap) (L : List Loc) : Prop := ∃ (y0 : Int64) (y1 : Int64), (v = none) ∧ (Fr n0 L) ∧ (Keep h0 h [rf, rl, re, rp]) ∧ (Arv Z h rl krl .int (2 : Int32) [(.int ca), (.int cb)] (.int (0 : Int32))) ∧ (Arv Z h rp krp .long (5 : Int32) [(.long y0), (.long y1), (.long (-(own_pr qa ww ca sa))), (.long (-(own_pr qb ww cb sb))), (.long (0 : Int64))] (.long (0 : Int64)))
set_option maxRecDepth 65536 in
set_option maxHeartbeats 40000000 in
theorem rm8 (l : Launch) (Z : State) (a0 : Array Value) (hw : ∀ d ∈ tables_1, d.before a0 Z = true) (ws : List Jvm.Cond) (a1 : Addr) (au : Addr) (ao : Addr) (us : Addr) (rts : Addr) (rta : Addr) (rf : Addr) (rl : Addr) (re : Addr) (rp : Addr) (sl : Addr) (sp : Addr) (kau : ClassId) (kao : ClassId) (kus : ClassId) (krts : ClassId) (krta : ClassId) (krf : ClassId) (krl : ClassId) (kre : ClassId) (krp : ClassId) (ksl : ClassId) (ksp : ClassId) (ca : Int32) (cb : Int32) (sa : Int32) (sb : Int32) (qa : Int64) (qb : Int64) (tt : Int32) (ww : Int64) (h0 : Heap) (n0 : Nat) (Z0 : n0 ≤ h0.size) (pr1 : Exa Z h0 a1 "com/example/limpet/limpet/StickyShares") (pr2 : Fld Z h0 a1 "com/example/limpet/limpet/StickyShares" "topicCount" "I" (.int (2 : Int32))) (pr3 : Fld Z h0 a1 "com/example/limpet/limpet/StickyShares" "unitCount" "I" (.int (2 : Int32))) (pr4 : Fld Z h0 a1 "com/example/limpet/limpet/StickyShares" "sink" "I" (.int (4 : Int32))) (pr5 : Fld Z h0 a1 "com/example/limpet/limpet/StickyShares" "total" "I" (.int tt)) (pr6 : Fld Z h0 a1 "com/example/limpet/limpet/StickyShares" "balanceWeight" "J" (.long ww)) (pr7 : Fld Z h0 a1 "com/example/limpet/limpet/StickyShares" "arcUnit" "[I" (.ref au)) (pr8 : Fld Z h0 a1 "com/example/limpet/limpet/StickyShares" "arcOwned" "[I" (.ref ao)) (pr9 : Fld Z h0 a1 "com/example/limpet/limpet/StickyShares" "unitSize" "[I" (.ref us)) (pr10 : Fld Z h0 a1 "com/example/limpet/limpet/StickyShares" "topicArcStart" "[I" (.ref rts)) (pr11 : Fld Z h0 a1 "com/example/limpet/limpet/StickyShares" "topicArcs" "[I" (.ref rta)) (pr12 : Fld Z h0 a1 "com/example/limpet/limpet/StickyShares" "flow" "[I" (.ref rf)) (pr13 : Fld Z h0 a1 "com/example/limpet/limpet/StickyShares" "load" "[I" (.ref rl)) (pr14 : Fld Z h0 a1 "com/example/limpet/limpet/StickyShares" "excess" "[I" (.ref re)) (pr15 : Fld Z h0 a1 "com/example/limpet/limpet/StickyShares" "potential" "[J" (.ref rp)) (pr16 : Arv Z h0 au kau .int (2 : Int32) [(.int (0 : Int32)), (.int (1 : Int32))] (.int (0 : Int32))) (pr17 : Arv Z h0 ao kao .int (2 : Int32) [(.int ca), (.int cb)] (.int (0 : Int32))) (pr18 : Arv Z h0 us kus .int (2 : Int32) [(.int sa), (.int sb)] (.int (0 : Int32))) (pr19 : Arv Z h0 rts krts .int (3 : Int32) [(.int (0 : Int32)), (.int (1 : Int32)), (.int (2 : Int32))] (.int (0 : Int32))) (pr20 : Arv Z h0 rta krta .int (2 : Int32) [(.int (0 : Int32)), (.int (1 : Int32))] (.int (0 : Int32))) (pr21 : Arv Z h0 rf krf .int (2 : Int32) [(.int (0 : Int32)), (.int (0 : Int32))] (.int (0 : Int32))) (pr22 : Arv Z h0 rl krl .int (2 : Int32) [(.int (0 : Int32)), (.int (0 : Int32))] (.int (0 : Int32))) (pr23 : Arv Z h0 re kre .int (5 : Int32) [(.int ca), (.int cb), (.int (0 : Int32)), (.int (0 : Int32)), (.int (0 : Int32))] (.int (0 : Int32))) (pr24 : Arv Z h0 rp krp .long (5 : Int32) [(.long (0 : Int64)), (.long (0 : Int64)), (.long (0 : Int64)), (.long (0 : Int64)), (.long (0 : Int64))] (.long (0 : Int64))) (pr25 : Arv Z h0 sl ksl .int (2 : Int32) [(.int ca), (.int cb)] (.int (0 : Int32))) (pr26 : Arv Z h0 sp ksp .long (2 : Int32) [(.long qa), (.long qb)] (.long (0 : Int64))) (hch : @LT.lt Nat _ a1 au ∧ @LT.lt Nat _ au ao ∧ @LT.lt Nat _ ao us ∧ @LT.lt Nat _ us rts ∧ @LT.lt Nat _ rts rta ∧ @LT.lt Nat _ rta rf ∧ @LT.lt Nat _ rf rl ∧ @LT.lt Nat _ rl re ∧ @LT.lt Nat _ re rp ∧ @LT.lt Nat _ rp sl ∧ @LT.lt Nat _ sl sp) (hge : n0 ≤ rf) (hsa : sa ≠ 0) (hsb : sb ≠ 0) (htt : tt = ca + cb) (hb0 : (own_pr qa ww ca sa).toInt ≤ 225) (hb1 : (own_pr qb ww cb sb).toInt ≤ 225) :
    MetFree l oM6 (head1 (Jvm.Cond.code oM6 prog_29_method_4_code 10 none :: ws) ({ frames := 1, cells := 0, slots := 0, locals := 16 } : Room)) (fun a U => a = #[(.ref a1), (.ref sl), (.ref sp)] ∧ Z.Warmed39 U.vm ∧ U.heap = h0) (fun _ _ _ _ _ => True) (fun _ U o U' => ∃ v L, o = .returned v ∧ Qrm8 Z a1 au ao us rts rta rf rl re rp sl sp kau kao kus krts krta krf krl kre krp ksl ksp ca cb sa sb qa qb tt ww h0 n0 v U'.heap L ∧ FrameEnd U o U' L ({ frames := 1, cells := 0, slots := 0, locals := 16 } : Room).cells ({ frames := 1, cells := 0, slots := 0, locals := 16 } : Room).slots) := by
  refine MetFree.of_bodySF (plainFor_of_name pn_8) hisR ?_
  intro p e s m args below meth c s₁ Bd hml0 hP0 hK
  obtain ⟨rfl, hZ, hh⟩ := hP0
  have hx := Bd.exec
  have hby := Bd.bytes
  have hml : c.maxLocals = 10 := hml0
  have hown : s.vm.findClass oS0 = some m.cls := findClass_of_methodNamed Bd.named
  have hnm := (name_of_methodNamed Bd.named Bd.method).1
  have X0 : Stand p l e ({ frames := 1, cells := 0, slots := 0, locals := 16 } : Room) s m #[(.ref a1), (.ref sl), (.ref sp)] below meth c s₁ [] 0 0 := Stand.of_body Bd
  have e0 : s₁.heap = h0 := by rw [← hh, Bd.state]; rfl
  have N0 := Fr.nil n0
  suffices own_H : ∀ (P : State → Outcome → Prop), (∀ U o, U.status = .running → Ended U below o → (∃ v L, o = .returned v ∧ Qrm8 Z a1 au ao us rts rta rf rl re rp sl sp kau kao kus krts krta krf krl kre krp ksl ksp ca cb sa sb qa qb tt ww h0 n0 v U.heap L ∧ FrameEnd s o U L ({ frames := 1, cells := 0, slots := 0, locals := 16 } : Room).cells ({ frames := 1, cells := 0, slots := 0, locals := 16 } : Room).slots) → P U o) → own_Go p.tables e below P (s₁.setTop (mkF m 0 #[oR a1, oR sl, oR sp, .unset, .unset, .unset, .unset, .unset, .unset, .unset] [])) from own_go (fun _ k => castTop (ef_rm8 m a1 sl sp) k) (own_H _ (fun U o h1 h2 h3 => ⟨h1, h2, h3⟩))
  intro P hP
  have lt_a1 : @LT.lt Nat _ a1 h0.size := pr1.lt
  have lt_au : @LT.lt Nat _ au h0.size := pr16.lt
  have lt_ao : @LT.lt Nat _ ao h0.size := pr17.lt
  have lt_us : @LT.lt Nat _ us h0.size := pr18.lt
  have lt_rts : @LT.lt Nat _ rts h0.size := pr19.lt
  have lt_rta : @LT.lt Nat _ rta h0.size := pr20.lt
  have lt_rf : @LT.lt Nat _ rf h0.size := pr21.lt
  have lt_rl : @LT.lt Nat _ rl h0.size := pr22.lt
  have lt_re : @LT.lt Nat _ re h0.size := pr23.lt
  have lt_rp : @LT.lt Nat _ rp h0.size := pr24.lt
  have lt_sl : @LT.lt Nat _ sl h0.size := pr25.lt
  have lt_sp : @LT.lt Nat _ sp h0.size := pr26.lt
  refine own_go (st' := s₁.setTop (mkF m 1 #[oR a1, oR sl, oR sp, .unset, .unset, .unset, .unset, .unset, .unset, .unset] [(.int (0 : Int32))])) (fun _ k => XS.iconst X0.here hx rfl (hb hby d8_0) k) ?_
  refine own_go (st' := s₁.setTop (mkF m 2 #[oR a1, oR sl, oR sp, oi 0, .unset, .unset, .unset, .unset, .unset, .unset] [])) (fun _ k => XS.istoreN X0.here hx rfl (hb hby d8_1) rfl (l' := #[oR a1, oR sl, oR sp, oi 0, .unset, .unset, .unset, .unset, .unset, .unset]) rfl k) ?_
  refine own_go (st' := s₁.setTop (mkF m 3 #[oR a1, oR sl, oR sp, oi 0, .unset, .unset, .unset, .unset, .unset, .unset] [(.int (0 : Int32))])) (fun _ k => XS.iloadN X0.here hx rfl (hb hby d8_2) rfl k) ?_
  refine own_go (st' := s₁.setTop (mkF m 4 #[oR a1, oR sl, oR sp, oi 0, .unset, .unset, .unset, .unset, .unset, .unset] [(.ref a1), (.int (0 : Int32))])) (fun _ k => XS.aloadN X0.here hx rfl (hb hby d8_3) rfl rfl k) ?_
  obtain ⟨T1, X1, e1, st1⟩ := getF X0 hx hZ hown (host := "") (Or.inl (own_hw hw 13)) Via.refl e0 pr3 (g := (mkF m 4 #[oR a1, oR sl, oR sp, oi 0, .unset, .unset, .unset, .unset, .unset, .unset] [(.ref a1), (.int (0 : Int32))])) rfl rfl (hb hby d8_4)
  refine own_go (st' := T1.setTop (mkF m 7 #[oR a1, oR sl, oR sp, oi 0, .unset, .unset, .unset, .unset, .unset, .unset] [(.int (2 : Int32)), (.int (0 : Int32))])) (st1) ?_
  have hc2 : (0 : Int32) < (2 : Int32) := by decide
  refine own_go (st' := T1.setTop (mkF m 10 #[oR a1, oR sl, oR sp, oi 0, .unset, .unset, .unset, .unset, .unset, .unset] [])) (fun _ k => XS.icmpNo X1.here hx rfl (hb hby d8_7) rfl (tlt hc2).2.1 k) ?_
  refine own_go (st' := T1.setTop (mkF m 11 #[oR a1, oR sl, oR sp, oi 0, .unset, .unset, .unset, .unset, .unset, .unset] [(.ref a1)])) (fun _ k => XS.aloadN X1.here hx rfl (hb hby d8_10) rfl rfl k) ?_
  obtain ⟨T3, X3, e3, st3⟩ := getF X1 hx hZ hown (host := "") (Or.inl (own_hw hw 54)) Via.refl e1 pr13 (g := (mkF m 11 #[oR a1, oR sl, oR sp, oi 0, .unset, .unset, .unset, .unset, .unset, .unset] [(.ref a1)])) rfl rfl (hb hby d8_11)
  refine own_go (st' := T3.setTop (mkF m 14 #[oR a1, oR sl, oR sp, oi 0, .unset, .unset, .unset, .unset, .unset, .unset] [(.ref rl)])) (st3) ?_
  refine own_go (st' := T3.setTop (mkF m 15 #[oR a1, oR sl, oR sp, oi 0, .unset, .unset, .unset, .unset, .unset, .unset] [(.int (0 : Int32)), (.ref rl)])) (fun _ k => XS.iloadN X3.here hx rfl (hb hby d8_14) rfl k) ?_
  refine own_go (st' := T3.setTop (mkF m 16 #[oR a1, oR sl, oR sp, oi 0, .unset, .unset, .unset, .unset, .unset, .unset] [(.ref sl), (.int (0 : Int32)), (.ref rl)])) (fun _ k => XS.aloadN X3.here hx rfl (hb hby d8_15) rfl rfl k) ?_
  refine own_go (st' := T3.setTop (mkF m 17 #[oR a1, oR sl, oR sp, oi 0, .unset, .unset, .unset, .unset, .unset, .unset] [(.int (0 : Int32)), (.ref sl), (.int (0 : Int32)), (.ref rl)])) (fun _ k => XS.iloadN X3.here hx rfl (hb hby d8_16) rfl k) ?_
  obtain ⟨cl4, Ar4, -, S4, M4, H4, -⟩ := id pr25
  have hin4 : ¬ ((0 : Int32) < 0 ∨ cl4.slots.size ≤ ((0 : Int32)).toNatClampNeg) := (inb_of S4 ⟨by decide, by decide⟩)
  have hat4 : cl4.slots[((0 : Int32)).toNatClampNeg]? = some (.int ca) := (H4.at hin4 rfl)
  refine own_go (st' := T3.setTop (mkF m 18 #[oR a1, oR sl, oR sp, oi 0, .unset, .unset, .unset, .unset, .unset, .unset] [(.int ca), (.int (0 : Int32)), (.ref rl)])) (X3.iaload hx (j := (0 : Int32)) (v := (.int ca)) (by rw [e3]; exact Ar4.1) (State.isArrayOf_alike hZ.alike Ar4.2.1) Ar4.2.2 hin4 hat4 (g := (mkF m 17 #[oR a1, oR sl, oR sp, oi 0, .unset, .unset, .unset, .unset, .unset, .unset] [(.int (0 : Int32)), (.ref sl), (.int (0 : Int32)), (.ref rl)])) rfl rfl (hb hby d8_17)) ?_
  obtain ⟨cl5, Ar5, qc5, S5, M5, H5, G5⟩ := id pr22
  have hin5 : ¬ ((0 : Int32) < 0 ∨ cl5.slots.size ≤ ((0 : Int32)).toNatClampNeg) := (inb_of S5 ⟨by decide, by decide⟩)
  obtain ⟨T5, h5, X5, e5, W5, st5⟩ := stI X3 hx hZ e3 Ar5 (j := (0 : Int32)) hin5 (g := (mkF m 18 #[oR a1, oR sl, oR sp, oi 0, .unset, .unset, .unset, .unset, .unset, .unset] [(.int ca), (.int (0 : Int32)), (.ref rl)])) rfl rfl (hb hby d8_18)
  have sz5 : h5.size = h0.size := W5.size
  have N5 := Fr.snoc X5 N0 (by omega)
  have v5 : Arv Z h5 rl krl .int (2 : Int32) [(.int ca), (.int (0 : Int32))] (.int (0 : Int32)) := Arv.set Ar5 qc5 S5 M5 H5 G5 rfl W5 0 rfl (Nat.le_of_ble_eq_true rfl)
  refine own_go (st' := T5.setTop (mkF m 19 #[oR a1, oR sl, oR sp, oi 0, .unset, .unset, .unset, .unset, .unset, .unset] [])) (st5) ?_
  refine own_go (st' := T5.setTop (mkF m 20 #[oR a1, oR sl, oR sp, oi 0, .unset, .unset, .unset, .unset, .unset, .unset] [(.ref sp)])) (fun _ k => XS.aloadN X5.here hx rfl (hb hby d8_19) rfl rfl k) ?_
  refine own_go (st' := T5.setTop (mkF m 21 #[oR a1, oR sl, oR sp, oi 0, .unset, .unset, .unset, .unset, .unset, .unset] [(.int (0 : Int32)), (.ref sp)])) (fun _ k => XS.iloadN X5.here hx rfl (hb hby d8_20) rfl k) ?_
  have c6 : Arv Z h5 sp ksp .long (2 : Int32) [(.long qa), (.long qb)] (.long (0 : Int64)) := (pr26.other W5 (own_ne (by omega)))
  obtain ⟨cl7, Ar7, -, S7, M7, H7, -⟩ := id c6
  have hin7 : ¬ ((0 : Int32) < 0 ∨ cl7.slots.size ≤ ((0 : Int32)).toNatClampNeg) := (inb_of S7 ⟨by decide, by decide⟩)
  have hat7 : cl7.slots[((0 : Int32)).toNatClampNeg]? = some (.long qa) := (H7.at hin7 rfl)
  refine own_go (st' := T5.setTop (mkF m 22 #[oR a1, oR sl, oR sp, oi 0, .unset, .unset, .unset, .unset, .unset, .unset] [(.long qa)])) (X5.laload hx (j := (0 : Int32)) (v := (.long qa)) (by rw [e5]; exact Ar7.1) (State.isArrayOf_alike hZ.alike Ar7.2.1) Ar7.2.2 hin7 hat7 (g := (mkF m 21 #[oR a1, oR sl, oR sp, oi 0, .unset, .unset, .unset, .unset, .unset, .unset] [(.int (0 : Int32)), (.ref sp)])) rfl rfl (hb hby d8_21)) ?_
  refine own_go (st' := T5.setTop (mkF m 23 #[oR a1, oR sl, oR sp, oi 0, .unset, .unset, .unset, .unset, .unset, .unset] [(.ref a1), (.long qa)])) (fun _ k => XS.aloadN X5.here hx rfl (hb hby d8_22) rfl rfl k) ?_
  refine own_go (st' := T5.setTop (mkF m 24 #[oR a1, oR sl, oR sp, oi 0, .unset, .unset, .unset, .unset, .unset, .unset] [(.int (0 : Int32)), (.ref a1), (.long qa)])) (fun _ k => XS.iloadN X5.here hx rfl (hb hby d8_23) rfl k) ?_
  refine own_go (st' := T5.setTop (mkF m 25 #[oR a1, oR sl, oR sp, oi 0, .unset, .unset, .unset, .unset, .unset, .unset] [(.ref a1), (.int (0 : Int32)), (.ref a1), (.long qa)])) (fun _ k => XS.aloadN X5.here hx rfl (hb hby d8_24) rfl rfl k) ?_
  have c8 : Fld Z h5 a1 oS0 "load" "[I" (.ref rl) := (pr13.other W5 (Or.inl (own_ne (by omega))))
  obtain ⟨T9, X9, e9, st9⟩ := getF X5 hx hZ hown (host := "") (Or.inl (own_hw hw 54)) Via.refl e5 c8 (g := (mkF m 25 #[oR a1, oR sl, oR sp, oi 0, .unset, .unset, .unset, .unset, .unset, .unset] [(.ref a1), (.int (0 : Int32)), (.ref a1), (.long qa)])) rfl rfl (hb hby d8_25)
  refine own_go (st' := T9.setTop (mkF m 28 #[oR a1, oR sl, oR sp, oi 0, .unset, .unset, .unset, .unset, .unset, .unset] [(.ref rl), (.int (0 : Int32)), (.ref a1), (.long qa)])) (st9) ?_
  refine own_go (st' := T9.setTop (mkF m 29 #[oR a1, oR sl, oR sp, oi 0, .unset, .unset, .unset, .unset, .unset, .unset] [(.int (0 : Int32)), (.ref rl), (.int (0 : Int32)), (.ref a1), (.long qa)])) (fun _ k => XS.iloadN X9.here hx rfl (hb hby d8_28) rfl k) ?_
  obtain ⟨cl10, Ar10, -, S10, M10, H10, -⟩ := id v5
  have hin10 : ¬ ((0 : Int32) < 0 ∨ cl10.slots.size ≤ ((0 : Int32)).toNatClampNeg) := (inb_of S10 ⟨by decide, by decide⟩)
  have hat10 : cl10.slots[((0 : Int32)).toNatClampNeg]? = some (.int ca) := (H10.at hin10 rfl)
  refine own_go (st' := T9.setTop (mkF m 30 #[oR a1, oR sl, oR sp, oi 0, .unset, .unset, .unset, .unset, .unset, .unset] [(.int ca), (.int (0 : Int32)), (.ref a1), (.long qa)])) (X9.iaload hx (j := (0 : Int32)) (v := (.int ca)) (by rw [e9]; exact Ar10.1) (State.isArrayOf_alike hZ.alike Ar10.2.1) Ar10.2.2 hin10 hat10 (g := (mkF m 29 #[oR a1, oR sl, oR sp, oi 0, .unset, .unset, .unset, .unset, .unset, .unset] [(.int (0 : Int32)), (.ref rl), (.int (0 : Int32)), (.ref a1), (.long qa)])) rfl rfl (hb hby d8_29)) ?_
  have c12 : Exa Z h5 a1 oS0 := (pr1.wr W5)
  have c13 : Fld Z h5 a1 oS0 "unitSize" "[I" (.ref us) := (pr9.other W5 (Or.inl (own_ne (by omega))))
  have c14 : Fld Z h5 a1 oS0 oS3 "J" (.long ww) := (pr6.other W5 (Or.inl (own_ne (by omega))))
  have c15 : Arv Z h5 us kus .int (2 : Int32) [(.int sa), (.int sb)] (.int (0 : Int32)) := (pr18.other W5 (own_ne (by omega)))
  obtain ⟨cq11, qc11, qc11'⟩ := (c12).cell
  obtain ⟨_, _, ⟨T11, LC11, kC11, nC11⟩, -, X11, ⟨Lc11, hQ11, lq11, yq11, zq11⟩, st11⟩ := X9.privateBack hx (y := oM0) hown (mvT hZ (own_hw hw 97)) (mvT hZ (own_hw hw 98)) (own_sel_priv (mvT hZ (own_hw hw 2)) (Cond.privateMethod_at (mvP hZ (own_hw hw 99) (args := #[]))) (mvT hZ (own_hw hw 98)) (by decide)) (Cond.privateMethod_at (mvP hZ (own_hw hw 99) (args := #[]))) (mvT hZ (own_hw hw 100)) (by decide) (backOf (W := 2) (rm9_0 l Z a0 hw [] a1 us kus ca ww sa sb h5 n0 (by omega) c12 c13 c14 c15 (by assumption)) hZ (own_hw hw 100) (own_hw hw 3) (by decide) (by decide)) (g := (mkF m 30 #[oR a1, oR sl, oR sp, oi 0, .unset, .unset, .unset, .unset, .unset, .unset] [(.int ca), (.int (0 : Int32)), (.ref a1), (.long qa)])) rfl (by rw [hml]; rfl) (Steps.refl _) (a := a1) (by rw [e9]; exact qc11) qc11' (argsL := [(.int (0 : Int32)), (.int ca)]) (rest := [(.long qa)]) (lenOf pd_5 rfl) rfl (by show 2 * 0 + _ ≤ _; exact Nat.le_of_eq rfl) (hb hby d8_30) (fun _ _ => ⟨rfl, e9, (by decide : 0 + 0 ≤ _), (by decide : 0 + 0 ≤ _)⟩)
  dsimp only [Pt.U, Pt.locs, Pt.cells, Pt.slots] at X11 lq11 yq11 zq11 st11 hQ11
  subst lq11 yq11 zq11
  obtain ⟨rfl, Nq11, eq11⟩ := hQ11
  have N11 := Fr.app N5 Nq11
  refine own_go (st' := T11.setTop (mkF m 33 #[oR a1, oR sl, oR sp, oi 0, .unset, .unset, .unset, .unset, .unset, .unset] [(.long (own_mc ww ca sa)), (.long qa)])) (fun _ k => st11.trans k) ?_
  obtain ⟨_, _, ⟨T16, LC16, kC16, nC16⟩, -, X16, ⟨Lc16, hQ16, lq16, yq16, zq16⟩, st16⟩ := Jvm.LawKit.callS X11 hx (y := oM3) hown (mvT hZ (own_hw hw 102)) (mvT hZ (own_hw hw 103)) (mvT hZ (own_hw hw 40)) (mvT hZ (own_hw hw 104)) (by decide) (backOf (W := 0) (rm10 l Z a0 hw [] qa (own_mc ww ca sa) h5 n0 (by omega) ) hZ (own_hw hw 104) (own_hw hw 40) (by decide) (by decide)) (g := (mkF m 33 #[oR a1, oR sl, oR sp, oi 0, .unset, .unset, .unset, .unset, .unset, .unset] [(.long (own_mc ww ca sa)), (.long qa)])) rfl (by rw [hml]; rfl) (argsL := [(.long qa), (.long (own_mc ww ca sa))]) (rest := []) (lenOf pd_6 rfl) rfl (by show 2 * 0 + _ ≤ _; exact Nat.le_of_eq rfl) (hb hby d8_33) (fun _ _ => ⟨rfl, eq11, (by decide : 0 + 0 ≤ _), (by decide : 0 + 0 ≤ _)⟩)
  dsimp only [Pt.U, Pt.locs, Pt.cells, Pt.slots] at X16 lq16 yq16 zq16 st16 hQ16
  subst lq16 yq16 zq16
  obtain ⟨rfl, Nq16, eq16⟩ := hQ16
  have N16 := Fr.app N11 Nq16
  refine own_go (st' := T16.setTop (mkF m 36 #[oR a1, oR sl, oR sp, oi 0, .unset, .unset, .unset, .unset, .unset, .unset] [(.long (own_lmin qa (own_mc ww ca sa)))])) (fun t k => st16 t k) ?_
  refine own_go (st' := T16.setTop (mkF m 38 #[oR a1, oR sl, oR sp, oi 0, .val (.long (own_lmin qa (own_mc ww ca sa))), .second, .unset, .unset, .unset, .unset] [])) (fun _ k => XS.lstore X16.here hx rfl (hb hby d8_36) rfl (l' := #[oR a1, oR sl, oR sp, oi 0, .val (.long (own_lmin qa (own_mc ww ca sa))), .second, .unset, .unset, .unset, .unset]) rfl k) ?_
  have J67_17 : ∀ (Tj17 : State) (lj17 : List Loc) (pu0 : Int64) (Xj17 : Stand p l e ({ frames := 1, cells := 0, slots := 0, locals := 16 } : Room) s m #[(.ref a1), (.ref sl), (.ref sp)] below meth c Tj17 lj17 0 0) (ej17 : Tj17.heap = h5) (Nj17 : Fr n0 lj17) (hpu0 : pu0 = (own_pr qa ww ca sa)), own_Go p.tables e below P (Tj17.setTop (mkF m 67 #[oR a1, oR sl, oR sp, oi 0, oj pu0, .second, .unset, .unset, .unset, .unset] [])) := by
    intro Tj17 lj17 pu0 Xj17 ej17 Nj17 hpu0
    refine own_go (st' := Tj17.setTop (mkF m 68 #[oR a1, oR sl, oR sp, oi 0, oj pu0, .second, .unset, .unset, .unset, .unset] [(.ref a1)])) (fun _ k => XS.aloadN Xj17.here hx rfl (hb hby d8_67) rfl rfl k) ?_
    have c18 : Fld Z h5 a1 oS0 "potential" "[J" (.ref rp) := (pr15.other W5 (Or.inl (own_ne (by omega))))
    obtain ⟨T19, X19, e19, st19⟩ := getF Xj17 hx hZ hown (host := "") (Or.inl (own_hw hw 60)) Via.refl ej17 c18 (g := (mkF m 68 #[oR a1, oR sl, oR sp, oi 0, oj pu0, .second, .unset, .unset, .unset, .unset] [(.ref a1)])) rfl rfl (hb hby d8_68)
    refine own_go (st' := T19.setTop (mkF m 71 #[oR a1, oR sl, oR sp, oi 0, oj pu0, .second, .unset, .unset, .unset, .unset] [(.ref rp)])) (st19) ?_
    refine own_go (st' := T19.setTop (mkF m 72 #[oR a1, oR sl, oR sp, oi 0, oj pu0, .second, .unset, .unset, .unset, .unset] [(.ref a1), (.ref rp)])) (fun _ k => XS.aloadN X19.here hx rfl (hb hby d8_71) rfl rfl k) ?_
    have c20 : Fld Z h5 a1 oS0 "topicCount" "I" (.int (2 : Int32)) := (pr2.other W5 (Or.inl (own_ne (by omega))))
    obtain ⟨T21, X21, e21, st21⟩ := getF X19 hx hZ hown (host := "") (Or.inl (own_hw hw 11)) Via.refl e19 c20 (g := (mkF m 72 #[oR a1, oR sl, oR sp, oi 0, oj pu0, .second, .unset, .unset, .unset, .unset] [(.ref a1), (.ref rp)])) rfl rfl (hb hby d8_72)
    refine own_go (st' := T21.setTop (mkF m 75 #[oR a1, oR sl, oR sp, oi 0, oj pu0, .second, .unset, .unset, .unset, .unset] [(.int (2 : Int32)), (.ref rp)])) (st21) ?_
    refine own_go (st' := T21.setTop (mkF m 76 #[oR a1, oR sl, oR sp, oi 0, oj pu0, .second, .unset, .unset, .unset, .unset] [(.int (0 : Int32)), (.int (2 : Int32)), (.ref rp)])) (fun _ k => XS.iloadN X21.here hx rfl (hb hby d8_75) rfl k) ?_
    refine own_go (st' := T21.setTop (mkF m 77 #[oR a1, oR sl, oR sp, oi 0, oj pu0, .second, .unset, .unset, .unset, .unset] [(.int (2 : Int32)), (.ref rp)])) (fun _ k => XS.iadd X21.here hx rfl (hb hby d8_76) rfl (by rw [show ((2 : Int32) + (0 : Int32)) = (2 : Int32) by decide]; exact k)) ?_
    refine own_go (st' := T21.setTop (mkF m 79 #[oR a1, oR sl, oR sp, oi 0, oj pu0, .second, .unset, .unset, .unset, .unset] [(.long pu0), (.int (2 : Int32)), (.ref rp)])) (fun _ k => XS.lload X21.here hx rfl (hb hby d8_77) rfl k) ?_
    refine own_go (st' := T21.setTop (mkF m 80 #[oR a1, oR sl, oR sp, oi 0, oj pu0, .second, .unset, .unset, .unset, .unset] [(.long (-pu0)), (.int (2 : Int32)), (.ref rp)])) (fun _ k => XS.lneg X21.here hx rfl (hb hby d8_79) rfl k) ?_
    have c22 : Arv Z h5 rp krp .long (5 : Int32) [(.long (0 : Int64)), (.long (0 : Int64)), (.long (0 : Int64)), (.long (0 : Int64)), (.long (0 : Int64))] (.long (0 : Int64)) := (pr24.other W5 (own_ne (by omega)))
    obtain ⟨cl23, Ar23, qc23, S23, M23, H23, G23⟩ := id c22
    have hin23 : ¬ ((2 : Int32) < 0 ∨ cl23.slots.size ≤ ((2 : Int32)).toNatClampNeg) := (inb_of S23 ⟨by decide, by decide⟩)
    obtain ⟨T23, h23, X23, e23, W23, st23⟩ := stJ X21 hx hZ e21 Ar23 (j := (2 : Int32)) hin23 (g := (mkF m 80 #[oR a1, oR sl, oR sp, oi 0, oj pu0, .second, .unset, .unset, .unset, .unset] [(.long (-pu0)), (.int (2 : Int32)), (.ref rp)])) rfl rfl (hb hby d8_80)
    have sz23 : h23.size = h5.size := W23.size
    have N23 := Fr.snoc X23 Nj17 (by omega)
    have v23 : Arv Z h23 rp krp .long (5 : Int32) [(.long (0 : Int64)), (.long (0 : Int64)), (.long (-pu0)), (.long (0 : Int64)), (.long (0 : Int64))] (.long (0 : Int64)) := Arv.set Ar23 qc23 S23 M23 H23 G23 rfl W23 2 rfl (Nat.le_of_ble_eq_true rfl)
    refine own_go (st' := T23.setTop (mkF m 81 #[oR a1, oR sl, oR sp, oi 0, oj pu0, .second, .unset, .unset, .unset, .unset] [])) (st23) ?_
    refine own_go (st' := T23.setTop (mkF m 82 #[oR a1, oR sl, oR sp, oi 0, oj pu0, .second, .unset, .unset, .unset, .unset] [(.ref a1)])) (fun _ k => XS.aloadN X23.here hx rfl (hb hby d8_81) rfl rfl k) ?_
    have c24 : Fld Z h23 a1 oS0 "excess" "[I" (.ref re) := ((pr14.other W5 (Or.inl (own_ne (by omega)))).other W23 (Or.inl (own_ne (by omega))))
    obtain ⟨T25, X25, e25, st25⟩ := getF X23 hx hZ hown (host := "") (Or.inl (own_hw hw 56)) Via.refl e23 c24 (g := (mkF m 82 #[oR a1, oR sl, oR sp, oi 0, oj pu0, .second, .unset, .unset, .unset, .unset] [(.ref a1)])) rfl rfl (hb hby d8_82)
    refine own_go (st' := T25.setTop (mkF m 85 #[oR a1, oR sl, oR sp, oi 0, oj pu0, .second, .unset, .unset, .unset, .unset] [(.ref re)])) (st25) ?_
    refine own_go (st' := T25.setTop (mkF m 86 #[oR a1, oR sl, oR sp, oi 0, oj pu0, .second, .unset, .unset, .unset, .unset] [(.ref a1), (.ref re)])) (fun _ k => XS.aloadN X25.here hx rfl (hb hby d8_85) rfl rfl k) ?_
    have c26 : Fld Z h23 a1 oS0 "topicCount" "I" (.int (2 : Int32)) := (c20.other W23 (Or.inl (own_ne (by omega))))
    obtain ⟨T27, X27, e27, st27⟩ := getF X25 hx hZ hown (host := "") (Or.inl (own_hw hw 11)) Via.refl e25 c26 (g := (mkF m 86 #[oR a1, oR sl, oR sp, oi 0, oj pu0, .second, .unset, .unset, .unset, .unset] [(.ref a1), (.ref re)])) rfl rfl (hb hby d8_86)
    refine own_go (st' := T27.setTop (mkF m 89 #[oR a1, oR sl, oR sp, oi 0, oj pu0, .second, .unset, .unset, .unset, .unset] [(.int (2 : Int32)), (.ref re)])) (st27) ?_
    refine own_go (st' := T27.setTop (mkF m 90 #[oR a1, oR sl, oR sp, oi 0, oj pu0, .second, .unset, .unset, .unset, .unset] [(.int (0 : Int32)), (.int (2 : Int32)), (.ref re)])) (fun _ k => XS.iloadN X27.here hx rfl (hb hby d8_89) rfl k) ?_
    refine own_go (st' := T27.setTop (mkF m 91 #[oR a1, oR sl, oR sp, oi 0, oj pu0, .second, .unset, .unset, .unset, .unset] [(.int (2 : Int32)), (.ref re)])) (fun _ k => XS.iadd X27.here hx rfl (hb hby d8_90) rfl (by rw [show ((2 : Int32) + (0 : Int32)) = (2 : Int32) by decide]; exact k)) ?_
    refine own_go (st' := T27.setTop (mkF m 92 #[oR a1, oR sl, oR sp, oi 0, oj pu0, .second, .unset, .unset, .unset, .unset] [(.ref a1), (.int (2 : Int32)), (.ref re)])) (fun _ k => XS.aloadN X27.here hx rfl (hb hby d8_91) rfl rfl k) ?_
    have c28 : Fld Z h23 a1 oS0 "load" "[I" (.ref rl) := (c8.other W23 (Or.inl (own_ne (by omega))))
    obtain ⟨T29, X29, e29, st29⟩ := getF X27 hx hZ hown (host := "") (Or.inl (own_hw hw 54)) Via.refl e27 c28 (g := (mkF m 92 #[oR a1, oR sl, oR sp, oi 0, oj pu0, .second, .unset, .unset, .unset, .unset] [(.ref a1), (.int (2 : Int32)), (.ref re)])) rfl rfl (hb hby d8_92)
    refine own_go (st' := T29.setTop (mkF m 95 #[oR a1, oR sl, oR sp, oi 0, oj pu0, .second, .unset, .unset, .unset, .unset] [(.ref rl), (.int (2 : Int32)), (.ref re)])) (st29) ?_
    refine own_go (st' := T29.setTop (mkF m 96 #[oR a1, oR sl, oR sp, oi 0, oj pu0, .second, .unset, .unset, .unset, .unset] [(.int (0 : Int32)), (.ref rl), (.int (2 : Int32)), (.ref re)])) (fun _ k => XS.iloadN X29.here hx rfl (hb hby d8_95) rfl k) ?_
    have c30 : Arv Z h23 rl krl .int (2 : Int32) [(.int ca), (.int (0 : Int32))] (.int (0 : Int32)) := (v5.other W23 (own_ne (by omega)))
    obtain ⟨cl31, Ar31, -, S31, M31, H31, -⟩ := id c30
    have hin31 : ¬ ((0 : Int32) < 0 ∨ cl31.slots.size ≤ ((0 : Int32)).toNatClampNeg) := (inb_of S31 ⟨by decide, by decide⟩)
    have hat31 : cl31.slots[((0 : Int32)).toNatClampNeg]? = some (.int ca) := (H31.at hin31 rfl)
    refine own_go (st' := T29.setTop (mkF m 97 #[oR a1, oR sl, oR sp, oi 0, oj pu0, .second, .unset, .unset, .unset, .unset] [(.int ca), (.int (2 : Int32)), (.ref re)])) (X29.iaload hx (j := (0 : Int32)) (v := (.int ca)) (by rw [e29]; exact Ar31.1) (State.isArrayOf_alike hZ.alike Ar31.2.1) Ar31.2.2 hin31 hat31 (g := (mkF m 96 #[oR a1, oR sl, oR sp, oi 0, oj pu0, .second, .unset, .unset, .unset, .unset] [(.int (0 : Int32)), (.ref rl), (.int (2 : Int32)), (.ref re)])) rfl rfl (hb hby d8_96)) ?_
    refine own_go (st' := T29.setTop (mkF m 98 #[oR a1, oR sl, oR sp, oi 0, oj pu0, .second, .unset, .unset, .unset, .unset] [(.int (-ca)), (.int (2 : Int32)), (.ref re)])) (fun _ k => XS.ineg X29.here hx rfl (hb hby d8_97) rfl k) ?_
    have c32 : Arv Z h23 re kre .int (5 : Int32) [(.int ca), (.int cb), (.int (0 : Int32)), (.int (0 : Int32)), (.int (0 : Int32))] (.int (0 : Int32)) := ((pr23.other W5 (own_ne (by omega))).other W23 (own_ne (by omega)))
    obtain ⟨cl33, Ar33, qc33, S33, M33, H33, G33⟩ := id c32
    have hin33 : ¬ ((2 : Int32) < 0 ∨ cl33.slots.size ≤ ((2 : Int32)).toNatClampNeg) := (inb_of S33 ⟨by decide, by decide⟩)
    obtain ⟨T33, h33, X33, e33, W33, st33⟩ := stI X29 hx hZ e29 Ar33 (j := (2 : Int32)) hin33 (g := (mkF m 98 #[oR a1, oR sl, oR sp, oi 0, oj pu0, .second, .unset, .unset, .unset, .unset] [(.int (-ca)), (.int (2 : Int32)), (.ref re)])) rfl rfl (hb hby d8_98)
    have sz33 : h33.size = h23.size := W33.size
    have N33 := Fr.snoc X33 N23 (by omega)
    have v33 : Arv Z h33 re kre .int (5 : Int32) [(.int ca), (.int cb), (.int (-ca)), (.int (0 : Int32)), (.int (0 : Int32))] (.int (0 : Int32)) := Arv.set Ar33 qc33 S33 M33 H33 G33 rfl W33 2 rfl (Nat.le_of_ble_eq_true rfl)
    refine own_go (st' := T33.setTop (mkF m 99 #[oR a1, oR sl, oR sp, oi 0, oj pu0, .second, .unset, .unset, .unset, .unset] [])) (st33) ?_
    refine own_go (st' := T33.setTop (mkF m 102 #[oR a1, oR sl, oR sp, oi 1, oj pu0, .second, .unset, .unset, .unset, .unset] [])) (fun _ k => XS.iinc X33.here hx rfl (hb hby d8_99) rfl (l' := #[oR a1, oR sl, oR sp, oi 1, oj pu0, .second, .unset, .unset, .unset, .unset]) (by rw [show ((0 : Int32) + Int32.ofInt 1) = (1 : Int32) by decide]; rfl) k) ?_
    refine own_go (st' := T33.setTop (mkF m 2 #[oR a1, oR sl, oR sp, oi 1, oj pu0, .second, .unset, .unset, .unset, .unset] [])) (fun _ k => XS.goto X33.here hx rfl (pc0 := 102) (pc' := 2) rfl (hb hby d8_102) (by decide) (by decide) k) ?_
    refine own_go (st' := T33.setTop (mkF m 3 #[oR a1, oR sl, oR sp, oi 1, oj pu0, .second, .unset, .unset, .unset, .unset] [(.int (1 : Int32))])) (fun _ k => XS.iloadN X33.here hx rfl (hb hby d8_2) rfl k) ?_
    refine own_go (st' := T33.setTop (mkF m 4 #[oR a1, oR sl, oR sp, oi 1, oj pu0, .second, .unset, .unset, .unset, .unset] [(.ref a1), (.int (1 : Int32))])) (fun _ k => XS.aloadN X33.here hx rfl (hb hby d8_3) rfl rfl k) ?_
    have c34 : Fld Z h33 a1 oS0 "unitCount" "I" (.int (2 : Int32)) := (((pr3.other W5 (Or.inl (own_ne (by omega)))).other W23 (Or.inl (own_ne (by omega)))).other W33 (Or.inl (own_ne (by omega))))
    obtain ⟨T35, X35, e35, st35⟩ := getF X33 hx hZ hown (host := "") (Or.inl (own_hw hw 13)) Via.refl e33 c34 (g := (mkF m 4 #[oR a1, oR sl, oR sp, oi 1, oj pu0, .second, .unset, .unset, .unset, .unset] [(.ref a1), (.int (1 : Int32))])) rfl rfl (hb hby d8_4)
    refine own_go (st' := T35.setTop (mkF m 7 #[oR a1, oR sl, oR sp, oi 1, oj pu0, .second, .unset, .unset, .unset, .unset] [(.int (2 : Int32)), (.int (1 : Int32))])) (st35) ?_
    have hc36 : (1 : Int32) < (2 : Int32) := by decide
    refine own_go (st' := T35.setTop (mkF m 10 #[oR a1, oR sl, oR sp, oi 1, oj pu0, .second, .unset, .unset, .unset, .unset] [])) (fun _ k => XS.icmpNo X35.here hx rfl (hb hby d8_7) rfl (tlt hc36).2.1 k) ?_
    refine own_go (st' := T35.setTop (mkF m 11 #[oR a1, oR sl, oR sp, oi 1, oj pu0, .second, .unset, .unset, .unset, .unset] [(.ref a1)])) (fun _ k => XS.aloadN X35.here hx rfl (hb hby d8_10) rfl rfl k) ?_
    have c37 : Fld Z h33 a1 oS0 "load" "[I" (.ref rl) := (c28.other W33 (Or.inl (own_ne (by omega))))
    obtain ⟨T38, X38, e38, st38⟩ := getF X35 hx hZ hown (host := "") (Or.inl (own_hw hw 54)) Via.refl e35 c37 (g := (mkF m 11 #[oR a1, oR sl, oR sp, oi 1, oj pu0, .second, .unset, .unset, .unset, .unset] [(.ref a1)])) rfl rfl (hb hby d8_11)
    refine own_go (st' := T38.setTop (mkF m 14 #[oR a1, oR sl, oR sp, oi 1, oj pu0, .second, .unset, .unset, .unset, .unset] [(.ref rl)])) (st38) ?_
    refine own_go (st' := T38.setTop (mkF m 15 #[oR a1, oR sl, oR sp, oi 1, oj pu0, .second, .unset, .unset, .unset, .unset] [(.int (1 : Int32)), (.ref rl)])) (fun _ k => XS.iloadN X38.here hx rfl (hb hby d8_14) rfl k) ?_
    refine own_go (st' := T38.setTop (mkF m 16 #[oR a1, oR sl, oR sp, oi 1, oj pu0, .second, .unset, .unset, .unset, .unset] [(.ref sl), (.int (1 : Int32)), (.ref rl)])) (fun _ k => XS.aloadN X38.here hx rfl (hb hby d8_15) rfl rfl k) ?_
    refine own_go (st' := T38.setTop (mkF m 17 #[oR a1, oR sl, oR sp, oi 1, oj pu0, .second, .unset, .unset, .unset, .unset] [(.int (1 : Int32)), (.ref sl), (.int (1 : Int32)), (.ref rl)])) (fun _ k => XS.iloadN X38.here hx rfl (hb hby d8_16) rfl k) ?_
    have c39 : Arv Z h33 sl ksl .int (2 : Int32) [(.int ca), (.int cb)] (.int (0 : Int32)) := (((pr25.other W5 (own_ne (by omega))).other W23 (own_ne (by omega))).other W33 (own_ne (by omega)))
    obtain ⟨cl40, Ar40, -, S40, M40, H40, -⟩ := id c39
    have hin40 : ¬ ((1 : Int32) < 0 ∨ cl40.slots.size ≤ ((1 : Int32)).toNatClampNeg) := (inb_of S40 ⟨by decide, by decide⟩)
    have hat40 : cl40.slots[((1 : Int32)).toNatClampNeg]? = some (.int cb) := (H40.at hin40 rfl)
    refine own_go (st' := T38.setTop (mkF m 18 #[oR a1, oR sl, oR sp, oi 1, oj pu0, .second, .unset, .unset, .unset, .unset] [(.int cb), (.int (1 : Int32)), (.ref rl)])) (X38.iaload hx (j := (1 : Int32)) (v := (.int cb)) (by rw [e38]; exact Ar40.1) (State.isArrayOf_alike hZ.alike Ar40.2.1) Ar40.2.2 hin40 hat40 (g := (mkF m 17 #[oR a1, oR sl, oR sp, oi 1, oj pu0, .second, .unset, .unset, .unset, .unset] [(.int (1 : Int32)), (.ref sl), (.int (1 : Int32)), (.ref rl)])) rfl rfl (hb hby d8_17)) ?_
    have c41 : Arv Z h33 rl krl .int (2 : Int32) [(.int ca), (.int (0 : Int32))] (.int (0 : Int32)) := (c30.other W33 (own_ne (by omega)))
    obtain ⟨cl42, Ar42, qc42, S42, M42, H42, G42⟩ := id c41
    have hin42 : ¬ ((1 : Int32) < 0 ∨ cl42.slots.size ≤ ((1 : Int32)).toNatClampNeg) := (inb_of S42 ⟨by decide, by decide⟩)
    obtain ⟨T42, h42, X42, e42, W42, st42⟩ := stI X38 hx hZ e38 Ar42 (j := (1 : Int32)) hin42 (g := (mkF m 18 #[oR a1, oR sl, oR sp, oi 1, oj pu0, .second, .unset, .unset, .unset, .unset] [(.int cb), (.int (1 : Int32)), (.ref rl)])) rfl rfl (hb hby d8_18)
    have sz42 : h42.size = h33.size := W42.size
    have N42 := Fr.snoc X42 N33 (by omega)
    have v42 : Arv Z h42 rl krl .int (2 : Int32) [(.int ca), (.int cb)] (.int (0 : Int32)) := Arv.set Ar42 qc42 S42 M42 H42 G42 rfl W42 1 rfl (Nat.le_of_ble_eq_true rfl)
    refine own_go (st' := T42.setTop (mkF m 19 #[oR a1, oR sl, oR sp, oi 1, oj pu0, .second, .unset, .unset, .unset, .unset] [])) (st42) ?_
    refine own_go (st' := T42.setTop (mkF m 20 #[oR a1, oR sl, oR sp, oi 1, oj pu0, .second, .unset, .unset, .unset, .unset] [(.ref sp)])) (fun _ k => XS.aloadN X42.here hx rfl (hb hby d8_19) rfl rfl k) ?_
    refine own_go (st' := T42.setTop (mkF m 21 #[oR a1, oR sl, oR sp, oi 1, oj pu0, .second, .unset, .unset, .unset, .unset] [(.int (1 : Int32)), (.ref sp)])) (fun _ k => XS.iloadN X42.here hx rfl (hb hby d8_20) rfl k) ?_
    have c43 : Arv Z h42 sp ksp .long (2 : Int32) [(.long qa), (.long qb)] (.long (0 : Int64)) := (((c6.other W23 (own_ne (by omega))).other W33 (own_ne (by omega))).other W42 (own_ne (by omega)))
    obtain ⟨cl44, Ar44, -, S44, M44, H44, -⟩ := id c43
    have hin44 : ¬ ((1 : Int32) < 0 ∨ cl44.slots.size ≤ ((1 : Int32)).toNatClampNeg) := (inb_of S44 ⟨by decide, by decide⟩)
    have hat44 : cl44.slots[((1 : Int32)).toNatClampNeg]? = some (.long qb) := (H44.at hin44 rfl)
    refine own_go (st' := T42.setTop (mkF m 22 #[oR a1, oR sl, oR sp, oi 1, oj pu0, .second, .unset, .unset, .unset, .unset] [(.long qb)])) (X42.laload hx (j := (1 : Int32)) (v := (.long qb)) (by rw [e42]; exact Ar44.1) (State.isArrayOf_alike hZ.alike Ar44.2.1) Ar44.2.2 hin44 hat44 (g := (mkF m 21 #[oR a1, oR sl, oR sp, oi 1, oj pu0, .second, .unset, .unset, .unset, .unset] [(.int (1 : Int32)), (.ref sp)])) rfl rfl (hb hby d8_21)) ?_
    refine own_go (st' := T42.setTop (mkF m 23 #[oR a1, oR sl, oR sp, oi 1, oj pu0, .second, .unset, .unset, .unset, .unset] [(.ref a1), (.long qb)])) (fun _ k => XS.aloadN X42.here hx rfl (hb hby d8_22) rfl rfl k) ?_
    refine own_go (st' := T42.setTop (mkF m 24 #[oR a1, oR sl, oR sp, oi 1, oj pu0, .second, .unset, .unset, .unset, .unset] [(.int (1 : Int32)), (.ref a1), (.long qb)])) (fun _ k => XS.iloadN X42.here hx rfl (hb hby d8_23) rfl k) ?_
    refine own_go (st' := T42.setTop (mkF m 25 #[oR a1, oR sl, oR sp, oi 1, oj pu0, .second, .unset, .unset, .unset, .unset] [(.ref a1), (.int (1 : Int32)), (.ref a1), (.long qb)])) (fun _ k => XS.aloadN X42.here hx rfl (hb hby d8_24) rfl rfl k) ?_
    have c45 : Fld Z h42 a1 oS0 "load" "[I" (.ref rl) := (c37.other W42 (Or.inl (own_ne (by omega))))
    obtain ⟨T46, X46, e46, st46⟩ := getF X42 hx hZ hown (host := "") (Or.inl (own_hw hw 54)) Via.refl e42 c45 (g := (mkF m 25 #[oR a1, oR sl, oR sp, oi 1, oj pu0, .second, .unset, .unset, .unset, .unset] [(.ref a1), (.int (1 : Int32)), (.ref a1), (.long qb)])) rfl rfl (hb hby d8_25)
    refine own_go (st' := T46.setTop (mkF m 28 #[oR a1, oR sl, oR sp, oi 1, oj pu0, .second, .unset, .unset, .unset, .unset] [(.ref rl), (.int (1 : Int32)), (.ref a1), (.long qb)])) (st46) ?_
    refine own_go (st' := T46.setTop (mkF m 29 #[oR a1, oR sl, oR sp, oi 1, oj pu0, .second, .unset, .unset, .unset, .unset] [(.int (1 : Int32)), (.ref rl), (.int (1 : Int32)), (.ref a1), (.long qb)])) (fun _ k => XS.iloadN X46.here hx rfl (hb hby d8_28) rfl k) ?_
    obtain ⟨cl47, Ar47, -, S47, M47, H47, -⟩ := id v42
    have hin47 : ¬ ((1 : Int32) < 0 ∨ cl47.slots.size ≤ ((1 : Int32)).toNatClampNeg) := (inb_of S47 ⟨by decide, by decide⟩)
    have hat47 : cl47.slots[((1 : Int32)).toNatClampNeg]? = some (.int cb) := (H47.at hin47 rfl)
    refine own_go (st' := T46.setTop (mkF m 30 #[oR a1, oR sl, oR sp, oi 1, oj pu0, .second, .unset, .unset, .unset, .unset] [(.int cb), (.int (1 : Int32)), (.ref a1), (.long qb)])) (X46.iaload hx (j := (1 : Int32)) (v := (.int cb)) (by rw [e46]; exact Ar47.1) (State.isArrayOf_alike hZ.alike Ar47.2.1) Ar47.2.2 hin47 hat47 (g := (mkF m 29 #[oR a1, oR sl, oR sp, oi 1, oj pu0, .second, .unset, .unset, .unset, .unset] [(.int (1 : Int32)), (.ref rl), (.int (1 : Int32)), (.ref a1), (.long qb)])) rfl rfl (hb hby d8_29)) ?_
    have c49 : Exa Z h42 a1 oS0 := (((c12.wr W23).wr W33).wr W42)
    have c50 : Fld Z h42 a1 oS0 "unitSize" "[I" (.ref us) := (((c13.other W23 (Or.inl (own_ne (by omega)))).other W33 (Or.inl (own_ne (by omega)))).other W42 (Or.inl (own_ne (by omega))))
    have c51 : Fld Z h42 a1 oS0 oS3 "J" (.long ww) := (((c14.other W23 (Or.inl (own_ne (by omega)))).other W33 (Or.inl (own_ne (by omega)))).other W42 (Or.inl (own_ne (by omega))))
    have c52 : Arv Z h42 us kus .int (2 : Int32) [(.int sa), (.int sb)] (.int (0 : Int32)) := (((c15.other W23 (own_ne (by omega))).other W33 (own_ne (by omega))).other W42 (own_ne (by omega)))
    obtain ⟨cq48, qc48, qc48'⟩ := (c49).cell
    obtain ⟨_, _, ⟨T48, LC48, kC48, nC48⟩, -, X48, ⟨Lc48, hQ48, lq48, yq48, zq48⟩, st48⟩ := X46.privateBack hx (y := oM0) hown (mvT hZ (own_hw hw 97)) (mvT hZ (own_hw hw 98)) (own_sel_priv (mvT hZ (own_hw hw 2)) (Cond.privateMethod_at (mvP hZ (own_hw hw 99) (args := #[]))) (mvT hZ (own_hw hw 98)) (by decide)) (Cond.privateMethod_at (mvP hZ (own_hw hw 99) (args := #[]))) (mvT hZ (own_hw hw 100)) (by decide) (backOf (W := 2) (rm9_1 l Z a0 hw [] a1 us kus cb ww sa sb h42 n0 (by omega) c49 c50 c51 c52 (by assumption)) hZ (own_hw hw 100) (own_hw hw 3) (by decide) (by decide)) (g := (mkF m 30 #[oR a1, oR sl, oR sp, oi 1, oj pu0, .second, .unset, .unset, .unset, .unset] [(.int cb), (.int (1 : Int32)), (.ref a1), (.long qb)])) rfl (by rw [hml]; rfl) (Steps.refl _) (a := a1) (by rw [e46]; exact qc48) qc48' (argsL := [(.int (1 : Int32)), (.int cb)]) (rest := [(.long qb)]) (lenOf pd_5 rfl) rfl (by show 2 * 0 + _ ≤ _; exact Nat.le_of_eq rfl) (hb hby d8_30) (fun _ _ => ⟨rfl, e46, (by decide : 0 + 0 ≤ _), (by decide : 0 + 0 ≤ _)⟩)
    dsimp only [Pt.U, Pt.locs, Pt.cells, Pt.slots] at X48 lq48 yq48 zq48 st48 hQ48
    subst lq48 yq48 zq48
    obtain ⟨rfl, Nq48, eq48⟩ := hQ48
    have N48 := Fr.app N42 Nq48
    refine own_go (st' := T48.setTop (mkF m 33 #[oR a1, oR sl, oR sp, oi 1, oj pu0, .second, .unset, .unset, .unset, .unset] [(.long (own_mc ww cb sb)), (.long qb)])) (fun _ k => st48.trans k) ?_
    obtain ⟨_, _, ⟨T53, LC53, kC53, nC53⟩, -, X53, ⟨Lc53, hQ53, lq53, yq53, zq53⟩, st53⟩ := Jvm.LawKit.callS X48 hx (y := oM3) hown (mvT hZ (own_hw hw 102)) (mvT hZ (own_hw hw 103)) (mvT hZ (own_hw hw 40)) (mvT hZ (own_hw hw 104)) (by decide) (backOf (W := 0) (rm10 l Z a0 hw [] qb (own_mc ww cb sb) h42 n0 (by omega) ) hZ (own_hw hw 104) (own_hw hw 40) (by decide) (by decide)) (g := (mkF m 33 #[oR a1, oR sl, oR sp, oi 1, oj pu0, .second, .unset, .unset, .unset, .unset] [(.long (own_mc ww cb sb)), (.long qb)])) rfl (by rw [hml]; rfl) (argsL := [(.long qb), (.long (own_mc ww cb sb))]) (rest := []) (lenOf pd_6 rfl) rfl (by show 2 * 0 + _ ≤ _; exact Nat.le_of_eq rfl) (hb hby d8_33) (fun _ _ => ⟨rfl, eq48, (by decide : 0 + 0 ≤ _), (by decide : 0 + 0 ≤ _)⟩)
    dsimp only [Pt.U, Pt.locs, Pt.cells, Pt.slots] at X53 lq53 yq53 zq53 st53 hQ53
    subst lq53 yq53 zq53
    obtain ⟨rfl, Nq53, eq53⟩ := hQ53
    have N53 := Fr.app N48 Nq53
    refine own_go (st' := T53.setTop (mkF m 36 #[oR a1, oR sl, oR sp, oi 1, oj pu0, .second, .unset, .unset, .unset, .unset] [(.long (own_lmin qb (own_mc ww cb sb)))])) (fun t k => st53 t k) ?_
    refine own_go (st' := T53.setTop (mkF m 38 #[oR a1, oR sl, oR sp, oi 1, .val (.long (own_lmin qb (own_mc ww cb sb))), .second, .unset, .unset, .unset, .unset] [])) (fun _ k => XS.lstore X53.here hx rfl (hb hby d8_36) rfl (l' := #[oR a1, oR sl, oR sp, oi 1, .val (.long (own_lmin qb (own_mc ww cb sb))), .second, .unset, .unset, .unset, .unset]) rfl k) ?_
    have J67_54 : ∀ (Tj54 : State) (lj54 : List Loc) (pu1 : Int64) (Xj54 : Stand p l e ({ frames := 1, cells := 0, slots := 0, locals := 16 } : Room) s m #[(.ref a1), (.ref sl), (.ref sp)] below meth c Tj54 lj54 0 0) (ej54 : Tj54.heap = h42) (Nj54 : Fr n0 lj54) (hpu1 : pu1 = (own_pr qb ww cb sb)), own_Go p.tables e below P (Tj54.setTop (mkF m 67 #[oR a1, oR sl, oR sp, oi 1, oj pu1, .second, .unset, .unset, .unset, .unset] [])) := by
      intro Tj54 lj54 pu1 Xj54 ej54 Nj54 hpu1
      refine own_go (st' := Tj54.setTop (mkF m 68 #[oR a1, oR sl, oR sp, oi 1, oj pu1, .second, .unset, .unset, .unset, .unset] [(.ref a1)])) (fun _ k => XS.aloadN Xj54.here hx rfl (hb hby d8_67) rfl rfl k) ?_
      have c55 : Fld Z h42 a1 oS0 "potential" "[J" (.ref rp) := (((c18.other W23 (Or.inl (own_ne (by omega)))).other W33 (Or.inl (own_ne (by omega)))).other W42 (Or.inl (own_ne (by omega))))
      obtain ⟨T56, X56, e56, st56⟩ := getF Xj54 hx hZ hown (host := "") (Or.inl (own_hw hw 60)) Via.refl ej54 c55 (g := (mkF m 68 #[oR a1, oR sl, oR sp, oi 1, oj pu1, .second, .unset, .unset, .unset, .unset] [(.ref a1)])) rfl rfl (hb hby d8_68)
      refine own_go (st' := T56.setTop (mkF m 71 #[oR a1, oR sl, oR sp, oi 1, oj pu1, .second, .unset, .unset, .unset, .unset] [(.ref rp)])) (st56) ?_
      refine own_go (st' := T56.setTop (mkF m 72 #[oR a1, oR sl, oR sp, oi 1, oj pu1, .second, .unset, .unset, .unset, .unset] [(.ref a1), (.ref rp)])) (fun _ k => XS.aloadN X56.here hx rfl (hb hby d8_71) rfl rfl k) ?_
      have c57 : Fld Z h42 a1 oS0 "topicCount" "I" (.int (2 : Int32)) := ((c26.other W33 (Or.inl (own_ne (by omega)))).other W42 (Or.inl (own_ne (by omega))))
      obtain ⟨T58, X58, e58, st58⟩ := getF X56 hx hZ hown (host := "") (Or.inl (own_hw hw 11)) Via.refl e56 c57 (g := (mkF m 72 #[oR a1, oR sl, oR sp, oi 1, oj pu1, .second, .unset, .unset, .unset, .unset] [(.ref a1), (.ref rp)])) rfl rfl (hb hby d8_72)
      refine own_go (st' := T58.setTop (mkF m 75 #[oR a1, oR sl, oR sp, oi 1, oj pu1, .second, .unset, .unset, .unset, .unset] [(.int (2 : Int32)), (.ref rp)])) (st58) ?_
      refine own_go (st' := T58.setTop (mkF m 76 #[oR a1, oR sl, oR sp, oi 1, oj pu1, .second, .unset, .unset, .unset, .unset] [(.int (1 : Int32)), (.int (2 : Int32)), (.ref rp)])) (fun _ k => XS.iloadN X58.here hx rfl (hb hby d8_75) rfl k) ?_
      refine own_go (st' := T58.setTop (mkF m 77 #[oR a1, oR sl, oR sp, oi 1, oj pu1, .second, .unset, .unset, .unset, .unset] [(.int (3 : Int32)), (.ref rp)])) (fun _ k => XS.iadd X58.here hx rfl (hb hby d8_76) rfl (by rw [show ((2 : Int32) + (1 : Int32)) = (3 : Int32) by decide]; exact k)) ?_
      refine own_go (st' := T58.setTop (mkF m 79 #[oR a1, oR sl, oR sp, oi 1, oj pu1, .second, .unset, .unset, .unset, .unset] [(.long pu1), (.int (3 : Int32)), (.ref rp)])) (fun _ k => XS.lload X58.here hx rfl (hb hby d8_77) rfl k) ?_
      refine own_go (st' := T58.setTop (mkF m 80 #[oR a1, oR sl, oR sp, oi 1, oj pu1, .second, .unset, .unset, .unset, .unset] [(.long (-pu1)), (.int (3 : Int32)), (.ref rp)])) (fun _ k => XS.lneg X58.here hx rfl (hb hby d8_79) rfl k) ?_
      have c59 : Arv Z h42 rp krp .long (5 : Int32) [(.long (0 : Int64)), (.long (0 : Int64)), (.long (-pu0)), (.long (0 : Int64)), (.long (0 : Int64))] (.long (0 : Int64)) := ((v23.other W33 (own_ne (by omega))).other W42 (own_ne (by omega)))
      obtain ⟨cl60, Ar60, qc60, S60, M60, H60, G60⟩ := id c59
      have hin60 : ¬ ((3 : Int32) < 0 ∨ cl60.slots.size ≤ ((3 : Int32)).toNatClampNeg) := (inb_of S60 ⟨by decide, by decide⟩)
      obtain ⟨T60, h60, X60, e60, W60, st60⟩ := stJ X58 hx hZ e58 Ar60 (j := (3 : Int32)) hin60 (g := (mkF m 80 #[oR a1, oR sl, oR sp, oi 1, oj pu1, .second, .unset, .unset, .unset, .unset] [(.long (-pu1)), (.int (3 : Int32)), (.ref rp)])) rfl rfl (hb hby d8_80)
      have sz60 : h60.size = h42.size := W60.size
      have N60 := Fr.snoc X60 Nj54 (by omega)
      have v60 : Arv Z h60 rp krp .long (5 : Int32) [(.long (0 : Int64)), (.long (0 : Int64)), (.long (-pu0)), (.long (-pu1)), (.long (0 : Int64))] (.long (0 : Int64)) := Arv.set Ar60 qc60 S60 M60 H60 G60 rfl W60 3 rfl (Nat.le_of_ble_eq_true rfl)
      refine own_go (st' := T60.setTop (mkF m 81 #[oR a1, oR sl, oR sp, oi 1, oj pu1, .second, .unset, .unset, .unset, .unset] [])) (st60) ?_
      refine own_go (st' := T60.setTop (mkF m 82 #[oR a1, oR sl, oR sp, oi 1, oj pu1, .second, .unset, .unset, .unset, .unset] [(.ref a1)])) (fun _ k => XS.aloadN X60.here hx rfl (hb hby d8_81) rfl rfl k) ?_
      have c61 : Fld Z h60 a1 oS0 "excess" "[I" (.ref re) := (((c24.other W33 (Or.inl (own_ne (by omega)))).other W42 (Or.inl (own_ne (by omega)))).other W60 (Or.inl (own_ne (by omega))))
      obtain ⟨T62, X62, e62, st62⟩ := getF X60 hx hZ hown (host := "") (Or.inl (own_hw hw 56)) Via.refl e60 c61 (g := (mkF m 82 #[oR a1, oR sl, oR sp, oi 1, oj pu1, .second, .unset, .unset, .unset, .unset] [(.ref a1)])) rfl rfl (hb hby d8_82)
      refine own_go (st' := T62.setTop (mkF m 85 #[oR a1, oR sl, oR sp, oi 1, oj pu1, .second, .unset, .unset, .unset, .unset] [(.ref re)])) (st62) ?_
      refine own_go (st' := T62.setTop (mkF m 86 #[oR a1, oR sl, oR sp, oi 1, oj pu1, .second, .unset, .unset, .unset, .unset] [(.ref a1), (.ref re)])) (fun _ k => XS.aloadN X62.here hx rfl (hb hby d8_85) rfl rfl k) ?_
      have c63 : Fld Z h60 a1 oS0 "topicCount" "I" (.int (2 : Int32)) := (c57.other W60 (Or.inl (own_ne (by omega))))
      obtain ⟨T64, X64, e64, st64⟩ := getF X62 hx hZ hown (host := "") (Or.inl (own_hw hw 11)) Via.refl e62 c63 (g := (mkF m 86 #[oR a1, oR sl, oR sp, oi 1, oj pu1, .second, .unset, .unset, .unset, .unset] [(.ref a1), (.ref re)])) rfl rfl (hb hby d8_86)
      refine own_go (st' := T64.setTop (mkF m 89 #[oR a1, oR sl, oR sp, oi 1, oj pu1, .second, .unset, .unset, .unset, .unset] [(.int (2 : Int32)), (.ref re)])) (st64) ?_
      refine own_go (st' := T64.setTop (mkF m 90 #[oR a1, oR sl, oR sp, oi 1, oj pu1, .second, .unset, .unset, .unset, .unset] [(.int (1 : Int32)), (.int (2 : Int32)), (.ref re)])) (fun _ k => XS.iloadN X64.here hx rfl (hb hby d8_89) rfl k) ?_
      refine own_go (st' := T64.setTop (mkF m 91 #[oR a1, oR sl, oR sp, oi 1, oj pu1, .second, .unset, .unset, .unset, .unset] [(.int (3 : Int32)), (.ref re)])) (fun _ k => XS.iadd X64.here hx rfl (hb hby d8_90) rfl (by rw [show ((2 : Int32) + (1 : Int32)) = (3 : Int32) by decide]; exact k)) ?_
      refine own_go (st' := T64.setTop (mkF m 92 #[oR a1, oR sl, oR sp, oi 1, oj pu1, .second, .unset, .unset, .unset, .unset] [(.ref a1), (.int (3 : Int32)), (.ref re)])) (fun _ k => XS.aloadN X64.here hx rfl (hb hby d8_91) rfl rfl k) ?_
      have c65 : Fld Z h60 a1 oS0 "load" "[I" (.ref rl) := (c45.other W60 (Or.inl (own_ne (by omega))))
      obtain ⟨T66, X66, e66, st66⟩ := getF X64 hx hZ hown (host := "") (Or.inl (own_hw hw 54)) Via.refl e64 c65 (g := (mkF m 92 #[oR a1, oR sl, oR sp, oi 1, oj pu1, .second, .unset, .unset, .unset, .unset] [(.ref a1), (.int (3 : Int32)), (.ref re)])) rfl rfl (hb hby d8_92)
      refine own_go (st' := T66.setTop (mkF m 95 #[oR a1, oR sl, oR sp, oi 1, oj pu1, .second, .unset, .unset, .unset, .unset] [(.ref rl), (.int (3 : Int32)), (.ref re)])) (st66) ?_
      refine own_go (st' := T66.setTop (mkF m 96 #[oR a1, oR sl, oR sp, oi 1, oj pu1, .second, .unset, .unset, .unset, .unset] [(.int (1 : Int32)), (.ref rl), (.int (3 : Int32)), (.ref re)])) (fun _ k => XS.iloadN X66.here hx rfl (hb hby d8_95) rfl k) ?_
      have c67 : Arv Z h60 rl krl .int (2 : Int32) [(.int ca), (.int cb)] (.int (0 : Int32)) := (v42.other W60 (own_ne (by omega)))
      obtain ⟨cl68, Ar68, -, S68, M68, H68, -⟩ := id c67
      have hin68 : ¬ ((1 : Int32) < 0 ∨ cl68.slots.size ≤ ((1 : Int32)).toNatClampNeg) := (inb_of S68 ⟨by decide, by decide⟩)
      have hat68 : cl68.slots[((1 : Int32)).toNatClampNeg]? = some (.int cb) := (H68.at hin68 rfl)
      refine own_go (st' := T66.setTop (mkF m 97 #[oR a1, oR sl, oR sp, oi 1, oj pu1, .second, .unset, .unset, .unset, .unset] [(.int cb), (.int (3 : Int32)), (.ref re)])) (X66.iaload hx (j := (1 : Int32)) (v := (.int cb)) (by rw [e66]; exact Ar68.1) (State.isArrayOf_alike hZ.alike Ar68.2.1) Ar68.2.2 hin68 hat68 (g := (mkF m 96 #[oR a1, oR sl, oR sp, oi 1, oj pu1, .second, .unset, .unset, .unset, .unset] [(.int (1 : Int32)), (.ref rl), (.int (3 : Int32)), (.ref re)])) rfl rfl (hb hby d8_96)) ?_
      refine own_go (st' := T66.setTop (mkF m 98 #[oR a1, oR sl, oR sp, oi 1, oj pu1, .second, .unset, .unset, .unset, .unset] [(.int (-cb)), (.int (3 : Int32)), (.ref re)])) (fun _ k => XS.ineg X66.here hx rfl (hb hby d8_97) rfl k) ?_
      have c69 : Arv Z h60 re kre .int (5 : Int32) [(.int ca), (.int cb), (.int (-ca)), (.int (0 : Int32)), (.int (0 : Int32))] (.int (0 : Int32)) := ((v33.other W42 (own_ne (by omega))).other W60 (own_ne (by omega)))
      obtain ⟨cl70, Ar70, qc70, S70, M70, H70, G70⟩ := id c69
      have hin70 : ¬ ((3 : Int32) < 0 ∨ cl70.slots.size ≤ ((3 : Int32)).toNatClampNeg) := (inb_of S70 ⟨by decide, by decide⟩)
      obtain ⟨T70, h70, X70, e70, W70, st70⟩ := stI X66 hx hZ e66 Ar70 (j := (3 : Int32)) hin70 (g := (mkF m 98 #[oR a1, oR sl, oR sp, oi 1, oj pu1, .second, .unset, .unset, .unset, .unset] [(.int (-cb)), (.int (3 : Int32)), (.ref re)])) rfl rfl (hb hby d8_98)
      have sz70 : h70.size = h60.size := W70.size
      have N70 := Fr.snoc X70 N60 (by omega)
      have v70 : Arv Z h70 re kre .int (5 : Int32) [(.int ca), (.int cb), (.int (-ca)), (.int (-cb)), (.int (0 : Int32))] (.int (0 : Int32)) := Arv.set Ar70 qc70 S70 M70 H70 G70 rfl W70 3 rfl (Nat.le_of_ble_eq_true rfl)
      refine own_go (st' := T70.setTop (mkF m 99 #[oR a1, oR sl, oR sp, oi 1, oj pu1, .second, .unset, .unset, .unset, .unset] [])) (st70) ?_
      refine own_go (st' := T70.setTop (mkF m 102 #[oR a1, oR sl, oR sp, oi 2, oj pu1, .second, .unset, .unset, .unset, .unset] [])) (fun _ k => XS.iinc X70.here hx rfl (hb hby d8_99) rfl (l' := #[oR a1, oR sl, oR sp, oi 2, oj pu1, .second, .unset, .unset, .unset, .unset]) (by rw [show ((1 : Int32) + Int32.ofInt 1) = (2 : Int32) by decide]; rfl) k) ?_
      refine own_go (st' := T70.setTop (mkF m 2 #[oR a1, oR sl, oR sp, oi 2, oj pu1, .second, .unset, .unset, .unset, .unset] [])) (fun _ k => XS.goto X70.here hx rfl (pc0 := 102) (pc' := 2) rfl (hb hby d8_102) (by decide) (by decide) k) ?_
      refine own_go (st' := T70.setTop (mkF m 3 #[oR a1, oR sl, oR sp, oi 2, oj pu1, .second, .unset, .unset, .unset, .unset] [(.int (2 : Int32))])) (fun _ k => XS.iloadN X70.here hx rfl (hb hby d8_2) rfl k) ?_
      refine own_go (st' := T70.setTop (mkF m 4 #[oR a1, oR sl, oR sp, oi 2, oj pu1, .second, .unset, .unset, .unset, .unset] [(.ref a1), (.int (2 : Int32))])) (fun _ k => XS.aloadN X70.here hx rfl (hb hby d8_3) rfl rfl k) ?_
      have c71 : Fld Z h70 a1 oS0 "unitCount" "I" (.int (2 : Int32)) := (((c34.other W42 (Or.inl (own_ne (by omega)))).other W60 (Or.inl (own_ne (by omega)))).other W70 (Or.inl (own_ne (by omega))))
      obtain ⟨T72, X72, e72, st72⟩ := getF X70 hx hZ hown (host := "") (Or.inl (own_hw hw 13)) Via.refl e70 c71 (g := (mkF m 4 #[oR a1, oR sl, oR sp, oi 2, oj pu1, .second, .unset, .unset, .unset, .unset] [(.ref a1), (.int (2 : Int32))])) rfl rfl (hb hby d8_4)
      refine own_go (st' := T72.setTop (mkF m 7 #[oR a1, oR sl, oR sp, oi 2, oj pu1, .second, .unset, .unset, .unset, .unset] [(.int (2 : Int32)), (.int (2 : Int32))])) (st72) ?_
      have hc73 : ¬ ((2 : Int32) < (2 : Int32)) := by decide
      refine own_go (st' := T72.setTop (mkF m 105 #[oR a1, oR sl, oR sp, oi 2, oj pu1, .second, .unset, .unset, .unset, .unset] [])) (fun _ k => XS.icmpYes X72.here hx rfl (pc0 := 7) (pc' := 105) rfl (hb hby d8_7) rfl (flt hc73).2.1 (by decide) (by decide) k) ?_
      refine own_go (st' := T72.setTop (mkF m 106 #[oR a1, oR sl, oR sp, oi 2, oj pu1, .second, .unset, .unset, .unset, .unset] [(.ref a1)])) (fun _ k => XS.aloadN X72.here hx rfl (hb hby d8_105) rfl rfl k) ?_
      have c74 : Fld Z h70 a1 oS0 "excess" "[I" (.ref re) := (c61.other W70 (Or.inl (own_ne (by omega))))
      obtain ⟨T75, X75, e75, st75⟩ := getF X72 hx hZ hown (host := "") (Or.inl (own_hw hw 56)) Via.refl e72 c74 (g := (mkF m 106 #[oR a1, oR sl, oR sp, oi 2, oj pu1, .second, .unset, .unset, .unset, .unset] [(.ref a1)])) rfl rfl (hb hby d8_106)
      refine own_go (st' := T75.setTop (mkF m 109 #[oR a1, oR sl, oR sp, oi 2, oj pu1, .second, .unset, .unset, .unset, .unset] [(.ref re)])) (st75) ?_
      refine own_go (st' := T75.setTop (mkF m 110 #[oR a1, oR sl, oR sp, oi 2, oj pu1, .second, .unset, .unset, .unset, .unset] [(.ref a1), (.ref re)])) (fun _ k => XS.aloadN X75.here hx rfl (hb hby d8_109) rfl rfl k) ?_
      have c76 : Fld Z h70 a1 oS0 "sink" "I" (.int (4 : Int32)) := ((((((pr4.other W5 (Or.inl (own_ne (by omega)))).other W23 (Or.inl (own_ne (by omega)))).other W33 (Or.inl (own_ne (by omega)))).other W42 (Or.inl (own_ne (by omega)))).other W60 (Or.inl (own_ne (by omega)))).other W70 (Or.inl (own_ne (by omega))))
      obtain ⟨T77, X77, e77, st77⟩ := getF X75 hx hZ hown (host := "") (Or.inl (own_hw hw 15)) Via.refl e75 c76 (g := (mkF m 110 #[oR a1, oR sl, oR sp, oi 2, oj pu1, .second, .unset, .unset, .unset, .unset] [(.ref a1), (.ref re)])) rfl rfl (hb hby d8_110)
      refine own_go (st' := T77.setTop (mkF m 113 #[oR a1, oR sl, oR sp, oi 2, oj pu1, .second, .unset, .unset, .unset, .unset] [(.int (4 : Int32)), (.ref re)])) (st77) ?_
      refine own_go (st' := T77.setTop (mkF m 114 #[oR a1, oR sl, oR sp, oi 2, oj pu1, .second, .unset, .unset, .unset, .unset] [(.ref a1), (.int (4 : Int32)), (.ref re)])) (fun _ k => XS.aloadN X77.here hx rfl (hb hby d8_113) rfl rfl k) ?_
      have c78 : Fld Z h70 a1 oS0 "total" "I" (.int tt) := ((((((pr5.other W5 (Or.inl (own_ne (by omega)))).other W23 (Or.inl (own_ne (by omega)))).other W33 (Or.inl (own_ne (by omega)))).other W42 (Or.inl (own_ne (by omega)))).other W60 (Or.inl (own_ne (by omega)))).other W70 (Or.inl (own_ne (by omega))))
      obtain ⟨T79, X79, e79, st79⟩ := getF X77 hx hZ hown (host := "") (Or.inl (own_hw hw 17)) Via.refl e77 c78 (g := (mkF m 114 #[oR a1, oR sl, oR sp, oi 2, oj pu1, .second, .unset, .unset, .unset, .unset] [(.ref a1), (.int (4 : Int32)), (.ref re)])) rfl rfl (hb hby d8_114)
      refine own_go (st' := T79.setTop (mkF m 117 #[oR a1, oR sl, oR sp, oi 2, oj pu1, .second, .unset, .unset, .unset, .unset] [(.int tt), (.int (4 : Int32)), (.ref re)])) (st79) ?_
      refine own_go (st' := T79.setTop (mkF m 118 #[oR a1, oR sl, oR sp, oi 2, oj pu1, .second, .unset, .unset, .unset, .unset] [(.int (-tt)), (.int (4 : Int32)), (.ref re)])) (fun _ k => XS.ineg X79.here hx rfl (hb hby d8_117) rfl k) ?_
      obtain ⟨cl80, Ar80, qc80, S80, M80, H80, G80⟩ := id v70
      have hin80 : ¬ ((4 : Int32) < 0 ∨ cl80.slots.size ≤ ((4 : Int32)).toNatClampNeg) := (inb_of S80 ⟨by decide, by decide⟩)
      obtain ⟨T80, h80, X80, e80, W80, st80⟩ := stI X79 hx hZ e79 Ar80 (j := (4 : Int32)) hin80 (g := (mkF m 118 #[oR a1, oR sl, oR sp, oi 2, oj pu1, .second, .unset, .unset, .unset, .unset] [(.int (-tt)), (.int (4 : Int32)), (.ref re)])) rfl rfl (hb hby d8_118)
      have sz80 : h80.size = h70.size := W80.size
      have N80 := Fr.snoc X80 N70 (by omega)
      have v80 : Arv Z h80 re kre .int (5 : Int32) [(.int ca), (.int cb), (.int (-ca)), (.int (-cb)), (.int (-tt))] (.int (0 : Int32)) := Arv.set Ar80 qc80 S80 M80 H80 G80 rfl W80 4 rfl (Nat.le_of_ble_eq_true rfl)
      refine own_go (st' := T80.setTop (mkF m 119 #[oR a1, oR sl, oR sp, oi 2, oj pu1, .second, .unset, .unset, .unset, .unset] [])) (st80) ?_
      refine own_go (st' := T80.setTop (mkF m 120 #[oR a1, oR sl, oR sp, oi 2, oj pu1, .second, .unset, .unset, .unset, .unset] [(.int (0 : Int32))])) (fun _ k => XS.iconst X80.here hx rfl (hb hby d8_119) k) ?_
      refine own_go (st' := T80.setTop (mkF m 121 #[oR a1, oR sl, oR sp, oi 0, oj pu1, .second, .unset, .unset, .unset, .unset] [])) (fun _ k => XS.istoreN X80.here hx rfl (hb hby d8_120) rfl (l' := #[oR a1, oR sl, oR sp, oi 0, oj pu1, .second, .unset, .unset, .unset, .unset]) rfl k) ?_
      refine own_go (st' := T80.setTop (mkF m 122 #[oR a1, oR sl, oR sp, oi 0, oj pu1, .second, .unset, .unset, .unset, .unset] [(.int (0 : Int32))])) (fun _ k => XS.iloadN X80.here hx rfl (hb hby d8_121) rfl k) ?_
      refine own_go (st' := T80.setTop (mkF m 123 #[oR a1, oR sl, oR sp, oi 0, oj pu1, .second, .unset, .unset, .unset, .unset] [(.ref a1), (.int (0 : Int32))])) (fun _ k => XS.aloadN X80.here hx rfl (hb hby d8_122) rfl rfl k) ?_
      have c81 : Fld Z h80 a1 oS0 "unitCount" "I" (.int (2 : Int32)) := (c71.other W80 (Or.inl (own_ne (by omega))))
      obtain ⟨T82, X82, e82, st82⟩ := getF X80 hx hZ hown (host := "") (Or.inl (own_hw hw 13)) Via.refl e80 c81 (g := (mkF m 123 #[oR a1, oR sl, oR sp, oi 0, oj pu1, .second, .unset, .unset, .unset, .unset] [(.ref a1), (.int (0 : Int32))])) rfl rfl (hb hby d8_123)
      refine own_go (st' := T82.setTop (mkF m 126 #[oR a1, oR sl, oR sp, oi 0, oj pu1, .second, .unset, .unset, .unset, .unset] [(.int (2 : Int32)), (.int (0 : Int32))])) (st82) ?_
      have hc83 : (0 : Int32) < (2 : Int32) := by decide
      refine own_go (st' := T82.setTop (mkF m 129 #[oR a1, oR sl, oR sp, oi 0, oj pu1, .second, .unset, .unset, .unset, .unset] [])) (fun _ k => XS.icmpNo X82.here hx rfl (hb hby d8_126) rfl (tlt hc83).2.1 k) ?_
      refine own_go (st' := T82.setTop (mkF m 130 #[oR a1, oR sl, oR sp, oi 0, oj pu1, .second, .unset, .unset, .unset, .unset] [(.ref a1)])) (fun _ k => XS.aloadN X82.here hx rfl (hb hby d8_129) rfl rfl k) ?_
      have c84 : Fld Z h80 a1 oS0 "excess" "[I" (.ref re) := (c74.other W80 (Or.inl (own_ne (by omega))))
      obtain ⟨T85, X85, e85, st85⟩ := getF X82 hx hZ hown (host := "") (Or.inl (own_hw hw 56)) Via.refl e82 c84 (g := (mkF m 130 #[oR a1, oR sl, oR sp, oi 0, oj pu1, .second, .unset, .unset, .unset, .unset] [(.ref a1)])) rfl rfl (hb hby d8_130)
      refine own_go (st' := T85.setTop (mkF m 133 #[oR a1, oR sl, oR sp, oi 0, oj pu1, .second, .unset, .unset, .unset, .unset] [(.ref re)])) (st85) ?_
      refine own_go (st' := T85.setTop (mkF m 134 #[oR a1, oR sl, oR sp, oi 0, oj pu1, .second, .unset, .unset, .unset, .unset] [(.ref a1), (.ref re)])) (fun _ k => XS.aloadN X85.here hx rfl (hb hby d8_133) rfl rfl k) ?_
      have c86 : Fld Z h80 a1 oS0 "sink" "I" (.int (4 : Int32)) := (c76.other W80 (Or.inl (own_ne (by omega))))
      obtain ⟨T87, X87, e87, st87⟩ := getF X85 hx hZ hown (host := "") (Or.inl (own_hw hw 15)) Via.refl e85 c86 (g := (mkF m 134 #[oR a1, oR sl, oR sp, oi 0, oj pu1, .second, .unset, .unset, .unset, .unset] [(.ref a1), (.ref re)])) rfl rfl (hb hby d8_134)
      refine own_go (st' := T87.setTop (mkF m 137 #[oR a1, oR sl, oR sp, oi 0, oj pu1, .second, .unset, .unset, .unset, .unset] [(.int (4 : Int32)), (.ref re)])) (st87) ?_
      refine own_go (st' := T87.setTop (mkF m 138 #[oR a1, oR sl, oR sp, oi 0, oj pu1, .second, .unset, .unset, .unset, .unset] [(.int (4 : Int32)), (.ref re), (.int (4 : Int32)), (.ref re)])) (fun _ k => XT.dup2 X87.here hx rfl (hb hby d8_137) rfl rfl rfl k) ?_
      obtain ⟨cl88, Ar88, -, S88, M88, H88, -⟩ := id v80
      have hin88 : ¬ ((4 : Int32) < 0 ∨ cl88.slots.size ≤ ((4 : Int32)).toNatClampNeg) := (inb_of S88 ⟨by decide, by decide⟩)
      have hat88 : cl88.slots[((4 : Int32)).toNatClampNeg]? = some (.int (-tt)) := (H88.at hin88 rfl)
      refine own_go (st' := T87.setTop (mkF m 139 #[oR a1, oR sl, oR sp, oi 0, oj pu1, .second, .unset, .unset, .unset, .unset] [(.int (-tt)), (.int (4 : Int32)), (.ref re)])) (X87.iaload hx (j := (4 : Int32)) (v := (.int (-tt))) (by rw [e87]; exact Ar88.1) (State.isArrayOf_alike hZ.alike Ar88.2.1) Ar88.2.2 hin88 hat88 (g := (mkF m 138 #[oR a1, oR sl, oR sp, oi 0, oj pu1, .second, .unset, .unset, .unset, .unset] [(.int (4 : Int32)), (.ref re), (.int (4 : Int32)), (.ref re)])) rfl rfl (hb hby d8_138)) ?_
      refine own_go (st' := T87.setTop (mkF m 140 #[oR a1, oR sl, oR sp, oi 0, oj pu1, .second, .unset, .unset, .unset, .unset] [(.ref a1), (.int (-tt)), (.int (4 : Int32)), (.ref re)])) (fun _ k => XS.aloadN X87.here hx rfl (hb hby d8_139) rfl rfl k) ?_
      have c89 : Fld Z h80 a1 oS0 "load" "[I" (.ref rl) := ((c65.other W70 (Or.inl (own_ne (by omega)))).other W80 (Or.inl (own_ne (by omega))))
      obtain ⟨T90, X90, e90, st90⟩ := getF X87 hx hZ hown (host := "") (Or.inl (own_hw hw 54)) Via.refl e87 c89 (g := (mkF m 140 #[oR a1, oR sl, oR sp, oi 0, oj pu1, .second, .unset, .unset, .unset, .unset] [(.ref a1), (.int (-tt)), (.int (4 : Int32)), (.ref re)])) rfl rfl (hb hby d8_140)
      refine own_go (st' := T90.setTop (mkF m 143 #[oR a1, oR sl, oR sp, oi 0, oj pu1, .second, .unset, .unset, .unset, .unset] [(.ref rl), (.int (-tt)), (.int (4 : Int32)), (.ref re)])) (st90) ?_
      refine own_go (st' := T90.setTop (mkF m 144 #[oR a1, oR sl, oR sp, oi 0, oj pu1, .second, .unset, .unset, .unset, .unset] [(.int (0 : Int32)), (.ref rl), (.int (-tt)), (.int (4 : Int32)), (.ref re)])) (fun _ k => XS.iloadN X90.here hx rfl (hb hby d8_143) rfl k) ?_
      have c91 : Arv Z h80 rl krl .int (2 : Int32) [(.int ca), (.int cb)] (.int (0 : Int32)) := ((c67.other W70 (own_ne (by omega))).other W80 (own_ne (by omega)))
      obtain ⟨cl92, Ar92, -, S92, M92, H92, -⟩ := id c91
      have hin92 : ¬ ((0 : Int32) < 0 ∨ cl92.slots.size ≤ ((0 : Int32)).toNatClampNeg) := (inb_of S92 ⟨by decide, by decide⟩)
      have hat92 : cl92.slots[((0 : Int32)).toNatClampNeg]? = some (.int ca) := (H92.at hin92 rfl)
      refine own_go (st' := T90.setTop (mkF m 145 #[oR a1, oR sl, oR sp, oi 0, oj pu1, .second, .unset, .unset, .unset, .unset] [(.int ca), (.int (-tt)), (.int (4 : Int32)), (.ref re)])) (X90.iaload hx (j := (0 : Int32)) (v := (.int ca)) (by rw [e90]; exact Ar92.1) (State.isArrayOf_alike hZ.alike Ar92.2.1) Ar92.2.2 hin92 hat92 (g := (mkF m 144 #[oR a1, oR sl, oR sp, oi 0, oj pu1, .second, .unset, .unset, .unset, .unset] [(.int (0 : Int32)), (.ref rl), (.int (-tt)), (.int (4 : Int32)), (.ref re)])) rfl rfl (hb hby d8_144)) ?_
      refine own_go (st' := T90.setTop (mkF m 146 #[oR a1, oR sl, oR sp, oi 0, oj pu1, .second, .unset, .unset, .unset, .unset] [(.int ((-tt) + ca)), (.int (4 : Int32)), (.ref re)])) (fun _ k => XS.iadd X90.here hx rfl (hb hby d8_145) rfl k) ?_
      obtain ⟨cl93, Ar93, qc93, S93, M93, H93, G93⟩ := id v80
      have hin93 : ¬ ((4 : Int32) < 0 ∨ cl93.slots.size ≤ ((4 : Int32)).toNatClampNeg) := (inb_of S93 ⟨by decide, by decide⟩)
      obtain ⟨T93, h93, X93, e93, W93, st93⟩ := stI X90 hx hZ e90 Ar93 (j := (4 : Int32)) hin93 (g := (mkF m 146 #[oR a1, oR sl, oR sp, oi 0, oj pu1, .second, .unset, .unset, .unset, .unset] [(.int ((-tt) + ca)), (.int (4 : Int32)), (.ref re)])) rfl rfl (hb hby d8_146)
      have sz93 : h93.size = h80.size := W93.size
      have N93 := Fr.snoc X93 N80 (by omega)
      have v93 : Arv Z h93 re kre .int (5 : Int32) [(.int ca), (.int cb), (.int (-ca)), (.int (-cb)), (.int ((-tt) + ca))] (.int (0 : Int32)) := Arv.set Ar93 qc93 S93 M93 H93 G93 rfl W93 4 rfl (Nat.le_of_ble_eq_true rfl)
      refine own_go (st' := T93.setTop (mkF m 147 #[oR a1, oR sl, oR sp, oi 0, oj pu1, .second, .unset, .unset, .unset, .unset] [])) (st93) ?_
      refine own_go (st' := T93.setTop (mkF m 150 #[oR a1, oR sl, oR sp, oi 1, oj pu1, .second, .unset, .unset, .unset, .unset] [])) (fun _ k => XS.iinc X93.here hx rfl (hb hby d8_147) rfl (l' := #[oR a1, oR sl, oR sp, oi 1, oj pu1, .second, .unset, .unset, .unset, .unset]) (by rw [show ((0 : Int32) + Int32.ofInt 1) = (1 : Int32) by decide]; rfl) k) ?_
      refine own_go (st' := T93.setTop (mkF m 121 #[oR a1, oR sl, oR sp, oi 1, oj pu1, .second, .unset, .unset, .unset, .unset] [])) (fun _ k => XS.goto X93.here hx rfl (pc0 := 150) (pc' := 121) rfl (hb hby d8_150) (by decide) (by decide) k) ?_
      refine own_go (st' := T93.setTop (mkF m 122 #[oR a1, oR sl, oR sp, oi 1, oj pu1, .second, .unset, .unset, .unset, .unset] [(.int (1 : Int32))])) (fun _ k => XS.iloadN X93.here hx rfl (hb hby d8_121) rfl k) ?_
      refine own_go (st' := T93.setTop (mkF m 123 #[oR a1, oR sl, oR sp, oi 1, oj pu1, .second, .unset, .unset, .unset, .unset] [(.ref a1), (.int (1 : Int32))])) (fun _ k => XS.aloadN X93.here hx rfl (hb hby d8_122) rfl rfl k) ?_
      have c94 : Fld Z h93 a1 oS0 "unitCount" "I" (.int (2 : Int32)) := (c81.other W93 (Or.inl (own_ne (by omega))))
      obtain ⟨T95, X95, e95, st95⟩ := getF X93 hx hZ hown (host := "") (Or.inl (own_hw hw 13)) Via.refl e93 c94 (g := (mkF m 123 #[oR a1, oR sl, oR sp, oi 1, oj pu1, .second, .unset, .unset, .unset, .unset] [(.ref a1), (.int (1 : Int32))])) rfl rfl (hb hby d8_123)
      refine own_go (st' := T95.setTop (mkF m 126 #[oR a1, oR sl, oR sp, oi 1, oj pu1, .second, .unset, .unset, .unset, .unset] [(.int (2 : Int32)), (.int (1 : Int32))])) (st95) ?_
      have hc96 : (1 : Int32) < (2 : Int32) := by decide
      refine own_go (st' := T95.setTop (mkF m 129 #[oR a1, oR sl, oR sp, oi 1, oj pu1, .second, .unset, .unset, .unset, .unset] [])) (fun _ k => XS.icmpNo X95.here hx rfl (hb hby d8_126) rfl (tlt hc96).2.1 k) ?_
      refine own_go (st' := T95.setTop (mkF m 130 #[oR a1, oR sl, oR sp, oi 1, oj pu1, .second, .unset, .unset, .unset, .unset] [(.ref a1)])) (fun _ k => XS.aloadN X95.here hx rfl (hb hby d8_129) rfl rfl k) ?_
      have c97 : Fld Z h93 a1 oS0 "excess" "[I" (.ref re) := (c84.other W93 (Or.inl (own_ne (by omega))))
      obtain ⟨T98, X98, e98, st98⟩ := getF X95 hx hZ hown (host := "") (Or.inl (own_hw hw 56)) Via.refl e95 c97 (g := (mkF m 130 #[oR a1, oR sl, oR sp, oi 1, oj pu1, .second, .unset, .unset, .unset, .unset] [(.ref a1)])) rfl rfl (hb hby d8_130)
      refine own_go (st' := T98.setTop (mkF m 133 #[oR a1, oR sl, oR sp, oi 1, oj pu1, .second, .unset, .unset, .unset, .unset] [(.ref re)])) (st98) ?_
      refine own_go (st' := T98.setTop (mkF m 134 #[oR a1, oR sl, oR sp, oi 1, oj pu1, .second, .unset, .unset, .unset, .unset] [(.ref a1), (.ref re)])) (fun _ k => XS.aloadN X98.here hx rfl (hb hby d8_133) rfl rfl k) ?_
      have c99 : Fld Z h93 a1 oS0 "sink" "I" (.int (4 : Int32)) := (c86.other W93 (Or.inl (own_ne (by omega))))
      obtain ⟨T100, X100, e100, st100⟩ := getF X98 hx hZ hown (host := "") (Or.inl (own_hw hw 15)) Via.refl e98 c99 (g := (mkF m 134 #[oR a1, oR sl, oR sp, oi 1, oj pu1, .second, .unset, .unset, .unset, .unset] [(.ref a1), (.ref re)])) rfl rfl (hb hby d8_134)
      refine own_go (st' := T100.setTop (mkF m 137 #[oR a1, oR sl, oR sp, oi 1, oj pu1, .second, .unset, .unset, .unset, .unset] [(.int (4 : Int32)), (.ref re)])) (st100) ?_
      refine own_go (st' := T100.setTop (mkF m 138 #[oR a1, oR sl, oR sp, oi 1, oj pu1, .second, .unset, .unset, .unset, .unset] [(.int (4 : Int32)), (.ref re), (.int (4 : Int32)), (.ref re)])) (fun _ k => XT.dup2 X100.here hx rfl (hb hby d8_137) rfl rfl rfl k) ?_
      obtain ⟨cl101, Ar101, -, S101, M101, H101, -⟩ := id v93
      have hin101 : ¬ ((4 : Int32) < 0 ∨ cl101.slots.size ≤ ((4 : Int32)).toNatClampNeg) := (inb_of S101 ⟨by decide, by decide⟩)
      have hat101 : cl101.slots[((4 : Int32)).toNatClampNeg]? = some (.int ((-tt) + ca)) := (H101.at hin101 rfl)
      refine own_go (st' := T100.setTop (mkF m 139 #[oR a1, oR sl, oR sp, oi 1, oj pu1, .second, .unset, .unset, .unset, .unset] [(.int ((-tt) + ca)), (.int (4 : Int32)), (.ref re)])) (X100.iaload hx (j := (4 : Int32)) (v := (.int ((-tt) + ca))) (by rw [e100]; exact Ar101.1) (State.isArrayOf_alike hZ.alike Ar101.2.1) Ar101.2.2 hin101 hat101 (g := (mkF m 138 #[oR a1, oR sl, oR sp, oi 1, oj pu1, .second, .unset, .unset, .unset, .unset] [(.int (4 : Int32)), (.ref re), (.int (4 : Int32)), (.ref re)])) rfl rfl (hb hby d8_138)) ?_
      refine own_go (st' := T100.setTop (mkF m 140 #[oR a1, oR sl, oR sp, oi 1, oj pu1, .second, .unset, .unset, .unset, .unset] [(.ref a1), (.int ((-tt) + ca)), (.int (4 : Int32)), (.ref re)])) (fun _ k => XS.aloadN X100.here hx rfl (hb hby d8_139) rfl rfl k) ?_
      have c102 : Fld Z h93 a1 oS0 "load" "[I" (.ref rl) := (c89.other W93 (Or.inl (own_ne (by omega))))
      obtain ⟨T103, X103, e103, st103⟩ := getF X100 hx hZ hown (host := "") (Or.inl (own_hw hw 54)) Via.refl e100 c102 (g := (mkF m 140 #[oR a1, oR sl, oR sp, oi 1, oj pu1, .second, .unset, .unset, .unset, .unset] [(.ref a1), (.int ((-tt) + ca)), (.int (4 : Int32)), (.ref re)])) rfl rfl (hb hby d8_140)
      refine own_go (st' := T103.setTop (mkF m 143 #[oR a1, oR sl, oR sp, oi 1, oj pu1, .second, .unset, .unset, .unset, .unset] [(.ref rl), (.int ((-tt) + ca)), (.int (4 : Int32)), (.ref re)])) (st103) ?_
      refine own_go (st' := T103.setTop (mkF m 144 #[oR a1, oR sl, oR sp, oi 1, oj pu1, .second, .unset, .unset, .unset, .unset] [(.int (1 : Int32)), (.ref rl), (.int ((-tt) + ca)), (.int (4 : Int32)), (.ref re)])) (fun _ k => XS.iloadN X103.here hx rfl (hb hby d8_143) rfl k) ?_
      have c104 : Arv Z h93 rl krl .int (2 : Int32) [(.int ca), (.int cb)] (.int (0 : Int32)) := (c91.other W93 (own_ne (by omega)))
      obtain ⟨cl105, Ar105, -, S105, M105, H105, -⟩ := id c104
      have hin105 : ¬ ((1 : Int32) < 0 ∨ cl105.slots.size ≤ ((1 : Int32)).toNatClampNeg) := (inb_of S105 ⟨by decide, by decide⟩)
      have hat105 : cl105.slots[((1 : Int32)).toNatClampNeg]? = some (.int cb) := (H105.at hin105 rfl)
      refine own_go (st' := T103.setTop (mkF m 145 #[oR a1, oR sl, oR sp, oi 1, oj pu1, .second, .unset, .unset, .unset, .unset] [(.int cb), (.int ((-tt) + ca)), (.int (4 : Int32)), (.ref re)])) (X103.iaload hx (j := (1 : Int32)) (v := (.int cb)) (by rw [e103]; exact Ar105.1) (State.isArrayOf_alike hZ.alike Ar105.2.1) Ar105.2.2 hin105 hat105 (g := (mkF m 144 #[oR a1, oR sl, oR sp, oi 1, oj pu1, .second, .unset, .unset, .unset, .unset] [(.int (1 : Int32)), (.ref rl), (.int ((-tt) + ca)), (.int (4 : Int32)), (.ref re)])) rfl rfl (hb hby d8_144)) ?_
      refine own_go (st' := T103.setTop (mkF m 146 #[oR a1, oR sl, oR sp, oi 1, oj pu1, .second, .unset, .unset, .unset, .unset] [(.int (((-tt) + ca) + cb)), (.int (4 : Int32)), (.ref re)])) (fun _ k => XS.iadd X103.here hx rfl (hb hby d8_145) rfl k) ?_
      obtain ⟨cl106, Ar106, qc106, S106, M106, H106, G106⟩ := id v93
      have hin106 : ¬ ((4 : Int32) < 0 ∨ cl106.slots.size ≤ ((4 : Int32)).toNatClampNeg) := (inb_of S106 ⟨by decide, by decide⟩)
      obtain ⟨T106, h106, X106, e106, W106, st106⟩ := stI X103 hx hZ e103 Ar106 (j := (4 : Int32)) hin106 (g := (mkF m 146 #[oR a1, oR sl, oR sp, oi 1, oj pu1, .second, .unset, .unset, .unset, .unset] [(.int (((-tt) + ca) + cb)), (.int (4 : Int32)), (.ref re)])) rfl rfl (hb hby d8_146)
      have sz106 : h106.size = h93.size := W106.size
      have N106 := Fr.snoc X106 N93 (by omega)
      have v106 : Arv Z h106 re kre .int (5 : Int32) [(.int ca), (.int cb), (.int (-ca)), (.int (-cb)), (.int (((-tt) + ca) + cb))] (.int (0 : Int32)) := Arv.set Ar106 qc106 S106 M106 H106 G106 rfl W106 4 rfl (Nat.le_of_ble_eq_true rfl)
      refine own_go (st' := T106.setTop (mkF m 147 #[oR a1, oR sl, oR sp, oi 1, oj pu1, .second, .unset, .unset, .unset, .unset] [])) (st106) ?_
      refine own_go (st' := T106.setTop (mkF m 150 #[oR a1, oR sl, oR sp, oi 2, oj pu1, .second, .unset, .unset, .unset, .unset] [])) (fun _ k => XS.iinc X106.here hx rfl (hb hby d8_147) rfl (l' := #[oR a1, oR sl, oR sp, oi 2, oj pu1, .second, .unset, .unset, .unset, .unset]) (by rw [show ((1 : Int32) + Int32.ofInt 1) = (2 : Int32) by decide]; rfl) k) ?_
      refine own_go (st' := T106.setTop (mkF m 121 #[oR a1, oR sl, oR sp, oi 2, oj pu1, .second, .unset, .unset, .unset, .unset] [])) (fun _ k => XS.goto X106.here hx rfl (pc0 := 150) (pc' := 121) rfl (hb hby d8_150) (by decide) (by decide) k) ?_
      refine own_go (st' := T106.setTop (mkF m 122 #[oR a1, oR sl, oR sp, oi 2, oj pu1, .second, .unset, .unset, .unset, .unset] [(.int (2 : Int32))])) (fun _ k => XS.iloadN X106.here hx rfl (hb hby d8_121) rfl k) ?_
      refine own_go (st' := T106.setTop (mkF m 123 #[oR a1, oR sl, oR sp, oi 2, oj pu1, .second, .unset, .unset, .unset, .unset] [(.ref a1), (.int (2 : Int32))])) (fun _ k => XS.aloadN X106.here hx rfl (hb hby d8_122) rfl rfl k) ?_
      have c107 : Fld Z h106 a1 oS0 "unitCount" "I" (.int (2 : Int32)) := (c94.other W106 (Or.inl (own_ne (by omega))))
      obtain ⟨T108, X108, e108, st108⟩ := getF X106 hx hZ hown (host := "") (Or.inl (own_hw hw 13)) Via.refl e106 c107 (g := (mkF m 123 #[oR a1, oR sl, oR sp, oi 2, oj pu1, .second, .unset, .unset, .unset, .unset] [(.ref a1), (.int (2 : Int32))])) rfl rfl (hb hby d8_123)
      refine own_go (st' := T108.setTop (mkF m 126 #[oR a1, oR sl, oR sp, oi 2, oj pu1, .second, .unset, .unset, .unset, .unset] [(.int (2 : Int32)), (.int (2 : Int32))])) (st108) ?_
      have hc109 : ¬ ((2 : Int32) < (2 : Int32)) := by decide
      refine own_go (st' := T108.setTop (mkF m 153 #[oR a1, oR sl, oR sp, oi 2, oj pu1, .second, .unset, .unset, .unset, .unset] [])) (fun _ k => XS.icmpYes X108.here hx rfl (pc0 := 126) (pc' := 153) rfl (hb hby d8_126) rfl (flt hc109).2.1 (by decide) (by decide) k) ?_
      refine own_go (st' := T108.setTop (mkF m 154 #[oR a1, oR sl, oR sp, oi 2, oj pu1, .second, .unset, .unset, .unset, .unset] [(.int (0 : Int32))])) (fun _ k => XS.iconst X108.here hx rfl (hb hby d8_153) k) ?_
      refine own_go (st' := T108.setTop (mkF m 155 #[oR a1, oR sl, oR sp, oi 0, oj pu1, .second, .unset, .unset, .unset, .unset] [])) (fun _ k => XS.istoreN X108.here hx rfl (hb hby d8_154) rfl (l' := #[oR a1, oR sl, oR sp, oi 0, oj pu1, .second, .unset, .unset, .unset, .unset]) rfl k) ?_
      refine own_go (st' := T108.setTop (mkF m 156 #[oR a1, oR sl, oR sp, oi 0, oj pu1, .second, .unset, .unset, .unset, .unset] [(.int (0 : Int32))])) (fun _ k => XS.iloadN X108.here hx rfl (hb hby d8_155) rfl k) ?_
      refine own_go (st' := T108.setTop (mkF m 157 #[oR a1, oR sl, oR sp, oi 0, oj pu1, .second, .unset, .unset, .unset, .unset] [(.ref a1), (.int (0 : Int32))])) (fun _ k => XS.aloadN X108.here hx rfl (hb hby d8_156) rfl rfl k) ?_
      have c110 : Fld Z h106 a1 oS0 "topicCount" "I" (.int (2 : Int32)) := ((((c63.other W70 (Or.inl (own_ne (by omega)))).other W80 (Or.inl (own_ne (by omega)))).other W93 (Or.inl (own_ne (by omega)))).other W106 (Or.inl (own_ne (by omega))))
      obtain ⟨T111, X111, e111, st111⟩ := getF X108 hx hZ hown (host := "") (Or.inl (own_hw hw 11)) Via.refl e108 c110 (g := (mkF m 157 #[oR a1, oR sl, oR sp, oi 0, oj pu1, .second, .unset, .unset, .unset, .unset] [(.ref a1), (.int (0 : Int32))])) rfl rfl (hb hby d8_157)
      refine own_go (st' := T111.setTop (mkF m 160 #[oR a1, oR sl, oR sp, oi 0, oj pu1, .second, .unset, .unset, .unset, .unset] [(.int (2 : Int32)), (.int (0 : Int32))])) (st111) ?_
      have hc112 : (0 : Int32) < (2 : Int32) := by decide
      refine own_go (st' := T111.setTop (mkF m 163 #[oR a1, oR sl, oR sp, oi 0, oj pu1, .second, .unset, .unset, .unset, .unset] [])) (fun _ k => XS.icmpNo X111.here hx rfl (hb hby d8_160) rfl (tlt hc112).2.1 k) ?_
      refine own_go (st' := T111.setTop (mkF m 166 #[oR a1, oR sl, oR sp, oi 0, oj pu1, .second, .unset, .unset, .unset, .unset] [(.long (9223372036854775807 : Int64))])) (X111.ldc2Long hx hown (mvT hZ (own_hw hw 105)) (g := (mkF m 163 #[oR a1, oR sl, oR sp, oi 0, oj pu1, .second, .unset, .unset, .unset, .unset] [])) rfl (hb hby d8_163)) ?_
      refine own_go (st' := T111.setTop (mkF m 168 #[oR a1, oR sl, oR sp, oi 0, .val (.long (9223372036854775807 : Int64)), .second, .unset, .unset, .unset, .unset] [])) (fun _ k => XS.lstore X111.here hx rfl (hb hby d8_166) rfl (l' := #[oR a1, oR sl, oR sp, oi 0, .val (.long (9223372036854775807 : Int64)), .second, .unset, .unset, .unset, .unset]) rfl k) ?_
      refine own_go (st' := T111.setTop (mkF m 169 #[oR a1, oR sl, oR sp, oi 0, .val (.long (9223372036854775807 : Int64)), .second, .unset, .unset, .unset, .unset] [(.ref a1)])) (fun _ k => XS.aloadN X111.here hx rfl (hb hby d8_168) rfl rfl k) ?_
      have c113 : Fld Z h106 a1 oS0 oS2 "[I" (.ref rts) := (((((((((pr10.other W5 (Or.inl (own_ne (by omega)))).other W23 (Or.inl (own_ne (by omega)))).other W33 (Or.inl (own_ne (by omega)))).other W42 (Or.inl (own_ne (by omega)))).other W60 (Or.inl (own_ne (by omega)))).other W70 (Or.inl (own_ne (by omega)))).other W80 (Or.inl (own_ne (by omega)))).other W93 (Or.inl (own_ne (by omega)))).other W106 (Or.inl (own_ne (by omega))))
      obtain ⟨T114, X114, e114, st114⟩ := getF X111 hx hZ hown (host := "") (Or.inl (own_hw hw 29)) Via.refl e111 c113 (g := (mkF m 169 #[oR a1, oR sl, oR sp, oi 0, .val (.long (9223372036854775807 : Int64)), .second, .unset, .unset, .unset, .unset] [(.ref a1)])) rfl rfl (hb hby d8_169)
      refine own_go (st' := T114.setTop (mkF m 172 #[oR a1, oR sl, oR sp, oi 0, .val (.long (9223372036854775807 : Int64)), .second, .unset, .unset, .unset, .unset] [(.ref rts)])) (st114) ?_
      refine own_go (st' := T114.setTop (mkF m 173 #[oR a1, oR sl, oR sp, oi 0, .val (.long (9223372036854775807 : Int64)), .second, .unset, .unset, .unset, .unset] [(.int (0 : Int32)), (.ref rts)])) (fun _ k => XS.iloadN X114.here hx rfl (hb hby d8_172) rfl k) ?_
      have c115 : Arv Z h106 rts krts .int (3 : Int32) [(.int (0 : Int32)), (.int (1 : Int32)), (.int (2 : Int32))] (.int (0 : Int32)) := (((((((((pr19.other W5 (own_ne (by omega))).other W23 (own_ne (by omega))).other W33 (own_ne (by omega))).other W42 (own_ne (by omega))).other W60 (own_ne (by omega))).other W70 (own_ne (by omega))).other W80 (own_ne (by omega))).other W93 (own_ne (by omega))).other W106 (own_ne (by omega)))
      obtain ⟨cl116, Ar116, -, S116, M116, H116, -⟩ := id c115
      have hin116 : ¬ ((0 : Int32) < 0 ∨ cl116.slots.size ≤ ((0 : Int32)).toNatClampNeg) := (inb_of S116 ⟨by decide, by decide⟩)
      have hat116 : cl116.slots[((0 : Int32)).toNatClampNeg]? = some (.int (0 : Int32)) := (H116.at hin116 rfl)
      refine own_go (st' := T114.setTop (mkF m 174 #[oR a1, oR sl, oR sp, oi 0, .val (.long (9223372036854775807 : Int64)), .second, .unset, .unset, .unset, .unset] [(.int (0 : Int32))])) (X114.iaload hx (j := (0 : Int32)) (v := (.int (0 : Int32))) (by rw [e114]; exact Ar116.1) (State.isArrayOf_alike hZ.alike Ar116.2.1) Ar116.2.2 hin116 hat116 (g := (mkF m 173 #[oR a1, oR sl, oR sp, oi 0, .val (.long (9223372036854775807 : Int64)), .second, .unset, .unset, .unset, .unset] [(.int (0 : Int32)), (.ref rts)])) rfl rfl (hb hby d8_173)) ?_
      refine own_go (st' := T114.setTop (mkF m 176 #[oR a1, oR sl, oR sp, oi 0, .val (.long (9223372036854775807 : Int64)), .second, oi 0, .unset, .unset, .unset] [])) (fun _ k => XS.istore X114.here hx rfl (hb hby d8_174) rfl (l' := #[oR a1, oR sl, oR sp, oi 0, .val (.long (9223372036854775807 : Int64)), .second, oi 0, .unset, .unset, .unset]) rfl k) ?_
      refine own_go (st' := T114.setTop (mkF m 178 #[oR a1, oR sl, oR sp, oi 0, .val (.long (9223372036854775807 : Int64)), .second, oi 0, .unset, .unset, .unset] [(.int (0 : Int32))])) (fun _ k => XS.iload X114.here hx rfl (hb hby d8_176) rfl k) ?_
      refine own_go (st' := T114.setTop (mkF m 179 #[oR a1, oR sl, oR sp, oi 0, .val (.long (9223372036854775807 : Int64)), .second, oi 0, .unset, .unset, .unset] [(.ref a1), (.int (0 : Int32))])) (fun _ k => XS.aloadN X114.here hx rfl (hb hby d8_178) rfl rfl k) ?_
      obtain ⟨T117, X117, e117, st117⟩ := getF X114 hx hZ hown (host := "") (Or.inl (own_hw hw 29)) Via.refl e114 c113 (g := (mkF m 179 #[oR a1, oR sl, oR sp, oi 0, .val (.long (9223372036854775807 : Int64)), .second, oi 0, .unset, .unset, .unset] [(.ref a1), (.int (0 : Int32))])) rfl rfl (hb hby d8_179)
      refine own_go (st' := T117.setTop (mkF m 182 #[oR a1, oR sl, oR sp, oi 0, .val (.long (9223372036854775807 : Int64)), .second, oi 0, .unset, .unset, .unset] [(.ref rts), (.int (0 : Int32))])) (st117) ?_
      refine own_go (st' := T117.setTop (mkF m 183 #[oR a1, oR sl, oR sp, oi 0, .val (.long (9223372036854775807 : Int64)), .second, oi 0, .unset, .unset, .unset] [(.int (0 : Int32)), (.ref rts), (.int (0 : Int32))])) (fun _ k => XS.iloadN X117.here hx rfl (hb hby d8_182) rfl k) ?_
      refine own_go (st' := T117.setTop (mkF m 184 #[oR a1, oR sl, oR sp, oi 0, .val (.long (9223372036854775807 : Int64)), .second, oi 0, .unset, .unset, .unset] [(.int (1 : Int32)), (.int (0 : Int32)), (.ref rts), (.int (0 : Int32))])) (fun _ k => XS.iconst X117.here hx rfl (hb hby d8_183) k) ?_
      refine own_go (st' := T117.setTop (mkF m 185 #[oR a1, oR sl, oR sp, oi 0, .val (.long (9223372036854775807 : Int64)), .second, oi 0, .unset, .unset, .unset] [(.int (1 : Int32)), (.ref rts), (.int (0 : Int32))])) (fun _ k => XS.iadd X117.here hx rfl (hb hby d8_184) rfl (by rw [show ((0 : Int32) + (1 : Int32)) = (1 : Int32) by decide]; exact k)) ?_
      obtain ⟨cl118, Ar118, -, S118, M118, H118, -⟩ := id c115
      have hin118 : ¬ ((1 : Int32) < 0 ∨ cl118.slots.size ≤ ((1 : Int32)).toNatClampNeg) := (inb_of S118 ⟨by decide, by decide⟩)
      have hat118 : cl118.slots[((1 : Int32)).toNatClampNeg]? = some (.int (1 : Int32)) := (H118.at hin118 rfl)
      refine own_go (st' := T117.setTop (mkF m 186 #[oR a1, oR sl, oR sp, oi 0, .val (.long (9223372036854775807 : Int64)), .second, oi 0, .unset, .unset, .unset] [(.int (1 : Int32)), (.int (0 : Int32))])) (X117.iaload hx (j := (1 : Int32)) (v := (.int (1 : Int32))) (by rw [e117]; exact Ar118.1) (State.isArrayOf_alike hZ.alike Ar118.2.1) Ar118.2.2 hin118 hat118 (g := (mkF m 185 #[oR a1, oR sl, oR sp, oi 0, .val (.long (9223372036854775807 : Int64)), .second, oi 0, .unset, .unset, .unset] [(.int (1 : Int32)), (.ref rts), (.int (0 : Int32))])) rfl rfl (hb hby d8_185)) ?_
      have hc119 : (0 : Int32) < (1 : Int32) := by decide
      refine own_go (st' := T117.setTop (mkF m 189 #[oR a1, oR sl, oR sp, oi 0, .val (.long (9223372036854775807 : Int64)), .second, oi 0, .unset, .unset, .unset] [])) (fun _ k => XS.icmpNo X117.here hx rfl (hb hby d8_186) rfl (tlt hc119).2.1 k) ?_
      refine own_go (st' := T117.setTop (mkF m 191 #[oR a1, oR sl, oR sp, oi 0, .val (.long (9223372036854775807 : Int64)), .second, oi 0, .unset, .unset, .unset] [(.long (9223372036854775807 : Int64))])) (fun _ k => XS.lload X117.here hx rfl (hb hby d8_189) rfl k) ?_
      refine own_go (st' := T117.setTop (mkF m 192 #[oR a1, oR sl, oR sp, oi 0, .val (.long (9223372036854775807 : Int64)), .second, oi 0, .unset, .unset, .unset] [(.ref a1), (.long (9223372036854775807 : Int64))])) (fun _ k => XS.aloadN X117.here hx rfl (hb hby d8_191) rfl rfl k) ?_
      have c120 : Fld Z h106 a1 oS0 "potential" "[J" (.ref rp) := (((((c55.other W60 (Or.inl (own_ne (by omega)))).other W70 (Or.inl (own_ne (by omega)))).other W80 (Or.inl (own_ne (by omega)))).other W93 (Or.inl (own_ne (by omega)))).other W106 (Or.inl (own_ne (by omega))))
      obtain ⟨T121, X121, e121, st121⟩ := getF X117 hx hZ hown (host := "") (Or.inl (own_hw hw 60)) Via.refl e117 c120 (g := (mkF m 192 #[oR a1, oR sl, oR sp, oi 0, .val (.long (9223372036854775807 : Int64)), .second, oi 0, .unset, .unset, .unset] [(.ref a1), (.long (9223372036854775807 : Int64))])) rfl rfl (hb hby d8_192)
      refine own_go (st' := T121.setTop (mkF m 195 #[oR a1, oR sl, oR sp, oi 0, .val (.long (9223372036854775807 : Int64)), .second, oi 0, .unset, .unset, .unset] [(.ref rp), (.long (9223372036854775807 : Int64))])) (st121) ?_
      refine own_go (st' := T121.setTop (mkF m 196 #[oR a1, oR sl, oR sp, oi 0, .val (.long (9223372036854775807 : Int64)), .second, oi 0, .unset, .unset, .unset] [(.ref a1), (.ref rp), (.long (9223372036854775807 : Int64))])) (fun _ k => XS.aloadN X121.here hx rfl (hb hby d8_195) rfl rfl k) ?_
      obtain ⟨T122, X122, e122, st122⟩ := getF X121 hx hZ hown (host := "") (Or.inl (own_hw hw 11)) Via.refl e121 c110 (g := (mkF m 196 #[oR a1, oR sl, oR sp, oi 0, .val (.long (9223372036854775807 : Int64)), .second, oi 0, .unset, .unset, .unset] [(.ref a1), (.ref rp), (.long (9223372036854775807 : Int64))])) rfl rfl (hb hby d8_196)
      refine own_go (st' := T122.setTop (mkF m 199 #[oR a1, oR sl, oR sp, oi 0, .val (.long (9223372036854775807 : Int64)), .second, oi 0, .unset, .unset, .unset] [(.int (2 : Int32)), (.ref rp), (.long (9223372036854775807 : Int64))])) (st122) ?_
      refine own_go (st' := T122.setTop (mkF m 200 #[oR a1, oR sl, oR sp, oi 0, .val (.long (9223372036854775807 : Int64)), .second, oi 0, .unset, .unset, .unset] [(.ref a1), (.int (2 : Int32)), (.ref rp), (.long (9223372036854775807 : Int64))])) (fun _ k => XS.aloadN X122.here hx rfl (hb hby d8_199) rfl rfl k) ?_
      have c123 : Fld Z h106 a1 oS0 "arcUnit" "[I" (.ref au) := (((((((((pr7.other W5 (Or.inl (own_ne (by omega)))).other W23 (Or.inl (own_ne (by omega)))).other W33 (Or.inl (own_ne (by omega)))).other W42 (Or.inl (own_ne (by omega)))).other W60 (Or.inl (own_ne (by omega)))).other W70 (Or.inl (own_ne (by omega)))).other W80 (Or.inl (own_ne (by omega)))).other W93 (Or.inl (own_ne (by omega)))).other W106 (Or.inl (own_ne (by omega))))
      obtain ⟨T124, X124, e124, st124⟩ := getF X122 hx hZ hown (host := "") (Or.inl (own_hw hw 23)) Via.refl e122 c123 (g := (mkF m 200 #[oR a1, oR sl, oR sp, oi 0, .val (.long (9223372036854775807 : Int64)), .second, oi 0, .unset, .unset, .unset] [(.ref a1), (.int (2 : Int32)), (.ref rp), (.long (9223372036854775807 : Int64))])) rfl rfl (hb hby d8_200)
      refine own_go (st' := T124.setTop (mkF m 203 #[oR a1, oR sl, oR sp, oi 0, .val (.long (9223372036854775807 : Int64)), .second, oi 0, .unset, .unset, .unset] [(.ref au), (.int (2 : Int32)), (.ref rp), (.long (9223372036854775807 : Int64))])) (st124) ?_
      refine own_go (st' := T124.setTop (mkF m 204 #[oR a1, oR sl, oR sp, oi 0, .val (.long (9223372036854775807 : Int64)), .second, oi 0, .unset, .unset, .unset] [(.ref a1), (.ref au), (.int (2 : Int32)), (.ref rp), (.long (9223372036854775807 : Int64))])) (fun _ k => XS.aloadN X124.here hx rfl (hb hby d8_203) rfl rfl k) ?_
      have c125 : Fld Z h106 a1 oS0 "topicArcs" "[I" (.ref rta) := (((((((((pr11.other W5 (Or.inl (own_ne (by omega)))).other W23 (Or.inl (own_ne (by omega)))).other W33 (Or.inl (own_ne (by omega)))).other W42 (Or.inl (own_ne (by omega)))).other W60 (Or.inl (own_ne (by omega)))).other W70 (Or.inl (own_ne (by omega)))).other W80 (Or.inl (own_ne (by omega)))).other W93 (Or.inl (own_ne (by omega)))).other W106 (Or.inl (own_ne (by omega))))
      obtain ⟨T126, X126, e126, st126⟩ := getF X124 hx hZ hown (host := "") (Or.inl (own_hw hw 46)) Via.refl e124 c125 (g := (mkF m 204 #[oR a1, oR sl, oR sp, oi 0, .val (.long (9223372036854775807 : Int64)), .second, oi 0, .unset, .unset, .unset] [(.ref a1), (.ref au), (.int (2 : Int32)), (.ref rp), (.long (9223372036854775807 : Int64))])) rfl rfl (hb hby d8_204)
      refine own_go (st' := T126.setTop (mkF m 207 #[oR a1, oR sl, oR sp, oi 0, .val (.long (9223372036854775807 : Int64)), .second, oi 0, .unset, .unset, .unset] [(.ref rta), (.ref au), (.int (2 : Int32)), (.ref rp), (.long (9223372036854775807 : Int64))])) (st126) ?_
      refine own_go (st' := T126.setTop (mkF m 209 #[oR a1, oR sl, oR sp, oi 0, .val (.long (9223372036854775807 : Int64)), .second, oi 0, .unset, .unset, .unset] [(.int (0 : Int32)), (.ref rta), (.ref au), (.int (2 : Int32)), (.ref rp), (.long (9223372036854775807 : Int64))])) (fun _ k => XS.iload X126.here hx rfl (hb hby d8_207) rfl k) ?_
      have c127 : Arv Z h106 rta krta .int (2 : Int32) [(.int (0 : Int32)), (.int (1 : Int32))] (.int (0 : Int32)) := (((((((((pr20.other W5 (own_ne (by omega))).other W23 (own_ne (by omega))).other W33 (own_ne (by omega))).other W42 (own_ne (by omega))).other W60 (own_ne (by omega))).other W70 (own_ne (by omega))).other W80 (own_ne (by omega))).other W93 (own_ne (by omega))).other W106 (own_ne (by omega)))
      obtain ⟨cl128, Ar128, -, S128, M128, H128, -⟩ := id c127
      have hin128 : ¬ ((0 : Int32) < 0 ∨ cl128.slots.size ≤ ((0 : Int32)).toNatClampNeg) := (inb_of S128 ⟨by decide, by decide⟩)
      have hat128 : cl128.slots[((0 : Int32)).toNatClampNeg]? = some (.int (0 : Int32)) := (H128.at hin128 rfl)
      refine own_go (st' := T126.setTop (mkF m 210 #[oR a1, oR sl, oR sp, oi 0, .val (.long (9223372036854775807 : Int64)), .second, oi 0, .unset, .unset, .unset] [(.int (0 : Int32)), (.ref au), (.int (2 : Int32)), (.ref rp), (.long (9223372036854775807 : Int64))])) (X126.iaload hx (j := (0 : Int32)) (v := (.int (0 : Int32))) (by rw [e126]; exact Ar128.1) (State.isArrayOf_alike hZ.alike Ar128.2.1) Ar128.2.2 hin128 hat128 (g := (mkF m 209 #[oR a1, oR sl, oR sp, oi 0, .val (.long (9223372036854775807 : Int64)), .second, oi 0, .unset, .unset, .unset] [(.int (0 : Int32)), (.ref rta), (.ref au), (.int (2 : Int32)), (.ref rp), (.long (9223372036854775807 : Int64))])) rfl rfl (hb hby d8_209)) ?_
      have c129 : Arv Z h106 au kau .int (2 : Int32) [(.int (0 : Int32)), (.int (1 : Int32))] (.int (0 : Int32)) := (((((((((pr16.other W5 (own_ne (by omega))).other W23 (own_ne (by omega))).other W33 (own_ne (by omega))).other W42 (own_ne (by omega))).other W60 (own_ne (by omega))).other W70 (own_ne (by omega))).other W80 (own_ne (by omega))).other W93 (own_ne (by omega))).other W106 (own_ne (by omega)))
      obtain ⟨cl130, Ar130, -, S130, M130, H130, -⟩ := id c129
      have hin130 : ¬ ((0 : Int32) < 0 ∨ cl130.slots.size ≤ ((0 : Int32)).toNatClampNeg) := (inb_of S130 ⟨by decide, by decide⟩)
      have hat130 : cl130.slots[((0 : Int32)).toNatClampNeg]? = some (.int (0 : Int32)) := (H130.at hin130 rfl)
      refine own_go (st' := T126.setTop (mkF m 211 #[oR a1, oR sl, oR sp, oi 0, .val (.long (9223372036854775807 : Int64)), .second, oi 0, .unset, .unset, .unset] [(.int (0 : Int32)), (.int (2 : Int32)), (.ref rp), (.long (9223372036854775807 : Int64))])) (X126.iaload hx (j := (0 : Int32)) (v := (.int (0 : Int32))) (by rw [e126]; exact Ar130.1) (State.isArrayOf_alike hZ.alike Ar130.2.1) Ar130.2.2 hin130 hat130 (g := (mkF m 210 #[oR a1, oR sl, oR sp, oi 0, .val (.long (9223372036854775807 : Int64)), .second, oi 0, .unset, .unset, .unset] [(.int (0 : Int32)), (.ref au), (.int (2 : Int32)), (.ref rp), (.long (9223372036854775807 : Int64))])) rfl rfl (hb hby d8_210)) ?_
      refine own_go (st' := T126.setTop (mkF m 212 #[oR a1, oR sl, oR sp, oi 0, .val (.long (9223372036854775807 : Int64)), .second, oi 0, .unset, .unset, .unset] [(.int (2 : Int32)), (.ref rp), (.long (9223372036854775807 : Int64))])) (fun _ k => XS.iadd X126.here hx rfl (hb hby d8_211) rfl (by rw [show ((2 : Int32) + (0 : Int32)) = (2 : Int32) by decide]; exact k)) ?_
      have c131 : Arv Z h106 rp krp .long (5 : Int32) [(.long (0 : Int64)), (.long (0 : Int64)), (.long (-pu0)), (.long (-pu1)), (.long (0 : Int64))] (.long (0 : Int64)) := ((((v60.other W70 (own_ne (by omega))).other W80 (own_ne (by omega))).other W93 (own_ne (by omega))).other W106 (own_ne (by omega)))
      obtain ⟨cl132, Ar132, -, S132, M132, H132, -⟩ := id c131
      have hin132 : ¬ ((2 : Int32) < 0 ∨ cl132.slots.size ≤ ((2 : Int32)).toNatClampNeg) := (inb_of S132 ⟨by decide, by decide⟩)
      have hat132 : cl132.slots[((2 : Int32)).toNatClampNeg]? = some (.long (-pu0)) := (H132.at hin132 rfl)
      refine own_go (st' := T126.setTop (mkF m 213 #[oR a1, oR sl, oR sp, oi 0, .val (.long (9223372036854775807 : Int64)), .second, oi 0, .unset, .unset, .unset] [(.long (-pu0)), (.long (9223372036854775807 : Int64))])) (X126.laload hx (j := (2 : Int32)) (v := (.long (-pu0))) (by rw [e126]; exact Ar132.1) (State.isArrayOf_alike hZ.alike Ar132.2.1) Ar132.2.2 hin132 hat132 (g := (mkF m 212 #[oR a1, oR sl, oR sp, oi 0, .val (.long (9223372036854775807 : Int64)), .second, oi 0, .unset, .unset, .unset] [(.int (2 : Int32)), (.ref rp), (.long (9223372036854775807 : Int64))])) rfl rfl (hb hby d8_212)) ?_
      refine own_go (st' := T126.setTop (mkF m 214 #[oR a1, oR sl, oR sp, oi 0, .val (.long (9223372036854775807 : Int64)), .second, oi 0, .unset, .unset, .unset] [(.long (-(-pu0))), (.long (9223372036854775807 : Int64))])) (fun _ k => XS.lneg X126.here hx rfl (hb hby d8_213) rfl k) ?_
      obtain ⟨_, _, ⟨T133, LC133, kC133, nC133⟩, -, X133, ⟨Lc133, hQ133, lq133, yq133, zq133⟩, st133⟩ := Jvm.LawKit.callS X126 hx (y := oM3) hown (mvT hZ (own_hw hw 102)) (mvT hZ (own_hw hw 103)) (mvT hZ (own_hw hw 40)) (mvT hZ (own_hw hw 104)) (by decide) (backOf (W := 0) (rm10 l Z a0 hw [] (9223372036854775807 : Int64) (-(-pu0)) h106 n0 (by omega) ) hZ (own_hw hw 104) (own_hw hw 40) (by decide) (by decide)) (g := (mkF m 214 #[oR a1, oR sl, oR sp, oi 0, .val (.long (9223372036854775807 : Int64)), .second, oi 0, .unset, .unset, .unset] [(.long (-(-pu0))), (.long (9223372036854775807 : Int64))])) rfl (by rw [hml]; rfl) (argsL := [(.long (9223372036854775807 : Int64)), (.long (-(-pu0)))]) (rest := []) (lenOf pd_6 rfl) rfl (by show 2 * 0 + _ ≤ _; exact Nat.le_of_eq rfl) (hb hby d8_214) (fun _ _ => ⟨rfl, e126, (by decide : 0 + 0 ≤ _), (by decide : 0 + 0 ≤ _)⟩)
      dsimp only [Pt.U, Pt.locs, Pt.cells, Pt.slots] at X133 lq133 yq133 zq133 st133 hQ133
      subst lq133 yq133 zq133
      obtain ⟨rfl, Nq133, eq133⟩ := hQ133
      have N133 := Fr.app N106 Nq133
      refine own_go (st' := T133.setTop (mkF m 217 #[oR a1, oR sl, oR sp, oi 0, .val (.long (9223372036854775807 : Int64)), .second, oi 0, .unset, .unset, .unset] [(.long (own_lmin (9223372036854775807 : Int64) (-(-pu0))))])) (fun t k => st133 t k) ?_
      refine own_go (st' := T133.setTop (mkF m 219 #[oR a1, oR sl, oR sp, oi 0, .val (.long (own_lmin (9223372036854775807 : Int64) (-(-pu0)))), .second, oi 0, .unset, .unset, .unset] [])) (fun _ k => XS.lstore X133.here hx rfl (hb hby d8_217) rfl (l' := #[oR a1, oR sl, oR sp, oi 0, .val (.long (own_lmin (9223372036854775807 : Int64) (-(-pu0)))), .second, oi 0, .unset, .unset, .unset]) rfl k) ?_
      refine own_go (st' := T133.setTop (mkF m 222 #[oR a1, oR sl, oR sp, oi 0, .val (.long (own_lmin (9223372036854775807 : Int64) (-(-pu0)))), .second, oi 1, .unset, .unset, .unset] [])) (fun _ k => XS.iinc X133.here hx rfl (hb hby d8_219) rfl (l' := #[oR a1, oR sl, oR sp, oi 0, .val (.long (own_lmin (9223372036854775807 : Int64) (-(-pu0)))), .second, oi 1, .unset, .unset, .unset]) (by rw [show ((0 : Int32) + Int32.ofInt 1) = (1 : Int32) by decide]; rfl) k) ?_
      refine own_go (st' := T133.setTop (mkF m 176 #[oR a1, oR sl, oR sp, oi 0, .val (.long (own_lmin (9223372036854775807 : Int64) (-(-pu0)))), .second, oi 1, .unset, .unset, .unset] [])) (fun _ k => XS.goto X133.here hx rfl (pc0 := 222) (pc' := 176) rfl (hb hby d8_222) (by decide) (by decide) k) ?_
      refine own_go (st' := T133.setTop (mkF m 178 #[oR a1, oR sl, oR sp, oi 0, .val (.long (own_lmin (9223372036854775807 : Int64) (-(-pu0)))), .second, oi 1, .unset, .unset, .unset] [(.int (1 : Int32))])) (fun _ k => XS.iload X133.here hx rfl (hb hby d8_176) rfl k) ?_
      refine own_go (st' := T133.setTop (mkF m 179 #[oR a1, oR sl, oR sp, oi 0, .val (.long (own_lmin (9223372036854775807 : Int64) (-(-pu0)))), .second, oi 1, .unset, .unset, .unset] [(.ref a1), (.int (1 : Int32))])) (fun _ k => XS.aloadN X133.here hx rfl (hb hby d8_178) rfl rfl k) ?_
      obtain ⟨T134, X134, e134, st134⟩ := getF X133 hx hZ hown (host := "") (Or.inl (own_hw hw 29)) Via.refl eq133 c113 (g := (mkF m 179 #[oR a1, oR sl, oR sp, oi 0, .val (.long (own_lmin (9223372036854775807 : Int64) (-(-pu0)))), .second, oi 1, .unset, .unset, .unset] [(.ref a1), (.int (1 : Int32))])) rfl rfl (hb hby d8_179)
      refine own_go (st' := T134.setTop (mkF m 182 #[oR a1, oR sl, oR sp, oi 0, .val (.long (own_lmin (9223372036854775807 : Int64) (-(-pu0)))), .second, oi 1, .unset, .unset, .unset] [(.ref rts), (.int (1 : Int32))])) (st134) ?_
      refine own_go (st' := T134.setTop (mkF m 183 #[oR a1, oR sl, oR sp, oi 0, .val (.long (own_lmin (9223372036854775807 : Int64) (-(-pu0)))), .second, oi 1, .unset, .unset, .unset] [(.int (0 : Int32)), (.ref rts), (.int (1 : Int32))])) (fun _ k => XS.iloadN X134.here hx rfl (hb hby d8_182) rfl k) ?_
      refine own_go (st' := T134.setTop (mkF m 184 #[oR a1, oR sl, oR sp, oi 0, .val (.long (own_lmin (9223372036854775807 : Int64) (-(-pu0)))), .second, oi 1, .unset, .unset, .unset] [(.int (1 : Int32)), (.int (0 : Int32)), (.ref rts), (.int (1 : Int32))])) (fun _ k => XS.iconst X134.here hx rfl (hb hby d8_183) k) ?_
      refine own_go (st' := T134.setTop (mkF m 185 #[oR a1, oR sl, oR sp, oi 0, .val (.long (own_lmin (9223372036854775807 : Int64) (-(-pu0)))), .second, oi 1, .unset, .unset, .unset] [(.int (1 : Int32)), (.ref rts), (.int (1 : Int32))])) (fun _ k => XS.iadd X134.here hx rfl (hb hby d8_184) rfl (by rw [show ((0 : Int32) + (1 : Int32)) = (1 : Int32) by decide]; exact k)) ?_
      obtain ⟨cl135, Ar135, -, S135, M135, H135, -⟩ := id c115
      have hin135 : ¬ ((1 : Int32) < 0 ∨ cl135.slots.size ≤ ((1 : Int32)).toNatClampNeg) := (inb_of S135 ⟨by decide, by decide⟩)
      have hat135 : cl135.slots[((1 : Int32)).toNatClampNeg]? = some (.int (1 : Int32)) := (H135.at hin135 rfl)
      refine own_go (st' := T134.setTop (mkF m 186 #[oR a1, oR sl, oR sp, oi 0, .val (.long (own_lmin (9223372036854775807 : Int64) (-(-pu0)))), .second, oi 1, .unset, .unset, .unset] [(.int (1 : Int32)), (.int (1 : Int32))])) (X134.iaload hx (j := (1 : Int32)) (v := (.int (1 : Int32))) (by rw [e134]; exact Ar135.1) (State.isArrayOf_alike hZ.alike Ar135.2.1) Ar135.2.2 hin135 hat135 (g := (mkF m 185 #[oR a1, oR sl, oR sp, oi 0, .val (.long (own_lmin (9223372036854775807 : Int64) (-(-pu0)))), .second, oi 1, .unset, .unset, .unset] [(.int (1 : Int32)), (.ref rts), (.int (1 : Int32))])) rfl rfl (hb hby d8_185)) ?_
      have hc136 : ¬ ((1 : Int32) < (1 : Int32)) := by decide
      refine own_go (st' := T134.setTop (mkF m 225 #[oR a1, oR sl, oR sp, oi 0, .val (.long (own_lmin (9223372036854775807 : Int64) (-(-pu0)))), .second, oi 1, .unset, .unset, .unset] [])) (fun _ k => XS.icmpYes X134.here hx rfl (pc0 := 186) (pc' := 225) rfl (hb hby d8_186) rfl (flt hc136).2.1 (by decide) (by decide) k) ?_
      refine own_go (st' := T134.setTop (mkF m 227 #[oR a1, oR sl, oR sp, oi 0, .val (.long (own_lmin (9223372036854775807 : Int64) (-(-pu0)))), .second, oi 1, .unset, .unset, .unset] [(.long (own_lmin (9223372036854775807 : Int64) (-(-pu0))))])) (fun _ k => XS.lload X134.here hx rfl (hb hby d8_225) rfl k) ?_
      refine own_go (st' := T134.setTop (mkF m 228 #[oR a1, oR sl, oR sp, oi 0, .val (.long (own_lmin (9223372036854775807 : Int64) (-(-pu0)))), .second, oi 1, .unset, .unset, .unset] [(.long (1 : Int64)), (.long (own_lmin (9223372036854775807 : Int64) (-(-pu0))))])) (fun _ k => XS.lconst X134.here hx rfl (hb hby d8_227) k) ?_
      refine own_go (st' := T134.setTop (mkF m 229 #[oR a1, oR sl, oR sp, oi 0, .val (.long (own_lmin (9223372036854775807 : Int64) (-(-pu0)))), .second, oi 1, .unset, .unset, .unset] [(.long ((own_lmin (9223372036854775807 : Int64) (-(-pu0))) + (1 : Int64)))])) (fun _ k => XS.ladd X134.here hx rfl (hb hby d8_228) rfl k) ?_
      refine own_go (st' := T134.setTop (mkF m 231 #[oR a1, oR sl, oR sp, oi 0, .val (.long (own_lmin (9223372036854775807 : Int64) (-(-pu0)))), .second, .val (.long ((own_lmin (9223372036854775807 : Int64) (-(-pu0))) + (1 : Int64))), .second, .unset, .unset] [])) (fun _ k => XS.lstore X134.here hx rfl (hb hby d8_229) rfl (l' := #[oR a1, oR sl, oR sp, oi 0, .val (.long (own_lmin (9223372036854775807 : Int64) (-(-pu0)))), .second, .val (.long ((own_lmin (9223372036854775807 : Int64) (-(-pu0))) + (1 : Int64))), .second, .unset, .unset]) rfl k) ?_
      refine own_go (st' := T134.setTop (mkF m 232 #[oR a1, oR sl, oR sp, oi 0, .val (.long (own_lmin (9223372036854775807 : Int64) (-(-pu0)))), .second, .val (.long ((own_lmin (9223372036854775807 : Int64) (-(-pu0))) + (1 : Int64))), .second, .unset, .unset] [(.ref a1)])) (fun _ k => XS.aloadN X134.here hx rfl (hb hby d8_231) rfl rfl k) ?_
      obtain ⟨T137, X137, e137, st137⟩ := getF X134 hx hZ hown (host := "") (Or.inl (own_hw hw 60)) Via.refl e134 c120 (g := (mkF m 232 #[oR a1, oR sl, oR sp, oi 0, .val (.long (own_lmin (9223372036854775807 : Int64) (-(-pu0)))), .second, .val (.long ((own_lmin (9223372036854775807 : Int64) (-(-pu0))) + (1 : Int64))), .second, .unset, .unset] [(.ref a1)])) rfl rfl (hb hby d8_232)
      refine own_go (st' := T137.setTop (mkF m 235 #[oR a1, oR sl, oR sp, oi 0, .val (.long (own_lmin (9223372036854775807 : Int64) (-(-pu0)))), .second, .val (.long ((own_lmin (9223372036854775807 : Int64) (-(-pu0))) + (1 : Int64))), .second, .unset, .unset] [(.ref rp)])) (st137) ?_
      refine own_go (st' := T137.setTop (mkF m 236 #[oR a1, oR sl, oR sp, oi 0, .val (.long (own_lmin (9223372036854775807 : Int64) (-(-pu0)))), .second, .val (.long ((own_lmin (9223372036854775807 : Int64) (-(-pu0))) + (1 : Int64))), .second, .unset, .unset] [(.int (0 : Int32)), (.ref rp)])) (fun _ k => XS.iloadN X137.here hx rfl (hb hby d8_235) rfl k) ?_
      refine own_go (st' := T137.setTop (mkF m 238 #[oR a1, oR sl, oR sp, oi 0, .val (.long (own_lmin (9223372036854775807 : Int64) (-(-pu0)))), .second, .val (.long ((own_lmin (9223372036854775807 : Int64) (-(-pu0))) + (1 : Int64))), .second, .unset, .unset] [(.long ((own_lmin (9223372036854775807 : Int64) (-(-pu0))) + (1 : Int64))), (.int (0 : Int32)), (.ref rp)])) (fun _ k => XS.lload X137.here hx rfl (hb hby d8_236) rfl k) ?_
      refine own_go (st' := T137.setTop (mkF m 239 #[oR a1, oR sl, oR sp, oi 0, .val (.long (own_lmin (9223372036854775807 : Int64) (-(-pu0)))), .second, .val (.long ((own_lmin (9223372036854775807 : Int64) (-(-pu0))) + (1 : Int64))), .second, .unset, .unset] [(.long (-((own_lmin (9223372036854775807 : Int64) (-(-pu0))) + (1 : Int64)))), (.int (0 : Int32)), (.ref rp)])) (fun _ k => XS.lneg X137.here hx rfl (hb hby d8_238) rfl k) ?_
      obtain ⟨cl138, Ar138, qc138, S138, M138, H138, G138⟩ := id c131
      have hin138 : ¬ ((0 : Int32) < 0 ∨ cl138.slots.size ≤ ((0 : Int32)).toNatClampNeg) := (inb_of S138 ⟨by decide, by decide⟩)
      obtain ⟨T138, h138, X138, e138, W138, st138⟩ := stJ X137 hx hZ e137 Ar138 (j := (0 : Int32)) hin138 (g := (mkF m 239 #[oR a1, oR sl, oR sp, oi 0, .val (.long (own_lmin (9223372036854775807 : Int64) (-(-pu0)))), .second, .val (.long ((own_lmin (9223372036854775807 : Int64) (-(-pu0))) + (1 : Int64))), .second, .unset, .unset] [(.long (-((own_lmin (9223372036854775807 : Int64) (-(-pu0))) + (1 : Int64)))), (.int (0 : Int32)), (.ref rp)])) rfl rfl (hb hby d8_239)
      have sz138 : h138.size = h106.size := W138.size
      have N138 := Fr.snoc X138 N133 (by omega)
      have v138 : Arv Z h138 rp krp .long (5 : Int32) [(.long (-((own_lmin (9223372036854775807 : Int64) (-(-pu0))) + (1 : Int64)))), (.long (0 : Int64)), (.long (-pu0)), (.long (-pu1)), (.long (0 : Int64))] (.long (0 : Int64)) := Arv.set Ar138 qc138 S138 M138 H138 G138 rfl W138 0 rfl (Nat.le_of_ble_eq_true rfl)
      refine own_go (st' := T138.setTop (mkF m 240 #[oR a1, oR sl, oR sp, oi 0, .val (.long (own_lmin (9223372036854775807 : Int64) (-(-pu0)))), .second, .val (.long ((own_lmin (9223372036854775807 : Int64) (-(-pu0))) + (1 : Int64))), .second, .unset, .unset] [])) (st138) ?_
      refine own_go (st' := T138.setTop (mkF m 241 #[oR a1, oR sl, oR sp, oi 0, .val (.long (own_lmin (9223372036854775807 : Int64) (-(-pu0)))), .second, .val (.long ((own_lmin (9223372036854775807 : Int64) (-(-pu0))) + (1 : Int64))), .second, .unset, .unset] [(.ref a1)])) (fun _ k => XS.aloadN X138.here hx rfl (hb hby d8_240) rfl rfl k) ?_
      have c139 : Fld Z h138 a1 oS0 oS2 "[I" (.ref rts) := (c113.other W138 (Or.inl (own_ne (by omega))))
      obtain ⟨T140, X140, e140, st140⟩ := getF X138 hx hZ hown (host := "") (Or.inl (own_hw hw 29)) Via.refl e138 c139 (g := (mkF m 241 #[oR a1, oR sl, oR sp, oi 0, .val (.long (own_lmin (9223372036854775807 : Int64) (-(-pu0)))), .second, .val (.long ((own_lmin (9223372036854775807 : Int64) (-(-pu0))) + (1 : Int64))), .second, .unset, .unset] [(.ref a1)])) rfl rfl (hb hby d8_241)
      refine own_go (st' := T140.setTop (mkF m 244 #[oR a1, oR sl, oR sp, oi 0, .val (.long (own_lmin (9223372036854775807 : Int64) (-(-pu0)))), .second, .val (.long ((own_lmin (9223372036854775807 : Int64) (-(-pu0))) + (1 : Int64))), .second, .unset, .unset] [(.ref rts)])) (st140) ?_
      refine own_go (st' := T140.setTop (mkF m 245 #[oR a1, oR sl, oR sp, oi 0, .val (.long (own_lmin (9223372036854775807 : Int64) (-(-pu0)))), .second, .val (.long ((own_lmin (9223372036854775807 : Int64) (-(-pu0))) + (1 : Int64))), .second, .unset, .unset] [(.int (0 : Int32)), (.ref rts)])) (fun _ k => XS.iloadN X140.here hx rfl (hb hby d8_244) rfl k) ?_
      have c141 : Arv Z h138 rts krts .int (3 : Int32) [(.int (0 : Int32)), (.int (1 : Int32)), (.int (2 : Int32))] (.int (0 : Int32)) := (c115.other W138 (own_ne (by omega)))
      obtain ⟨cl142, Ar142, -, S142, M142, H142, -⟩ := id c141
      have hin142 : ¬ ((0 : Int32) < 0 ∨ cl142.slots.size ≤ ((0 : Int32)).toNatClampNeg) := (inb_of S142 ⟨by decide, by decide⟩)
      have hat142 : cl142.slots[((0 : Int32)).toNatClampNeg]? = some (.int (0 : Int32)) := (H142.at hin142 rfl)
      refine own_go (st' := T140.setTop (mkF m 246 #[oR a1, oR sl, oR sp, oi 0, .val (.long (own_lmin (9223372036854775807 : Int64) (-(-pu0)))), .second, .val (.long ((own_lmin (9223372036854775807 : Int64) (-(-pu0))) + (1 : Int64))), .second, .unset, .unset] [(.int (0 : Int32))])) (X140.iaload hx (j := (0 : Int32)) (v := (.int (0 : Int32))) (by rw [e140]; exact Ar142.1) (State.isArrayOf_alike hZ.alike Ar142.2.1) Ar142.2.2 hin142 hat142 (g := (mkF m 245 #[oR a1, oR sl, oR sp, oi 0, .val (.long (own_lmin (9223372036854775807 : Int64) (-(-pu0)))), .second, .val (.long ((own_lmin (9223372036854775807 : Int64) (-(-pu0))) + (1 : Int64))), .second, .unset, .unset] [(.int (0 : Int32)), (.ref rts)])) rfl rfl (hb hby d8_245)) ?_
      refine own_go (st' := T140.setTop (mkF m 248 #[oR a1, oR sl, oR sp, oi 0, .val (.long (own_lmin (9223372036854775807 : Int64) (-(-pu0)))), .second, .val (.long ((own_lmin (9223372036854775807 : Int64) (-(-pu0))) + (1 : Int64))), .second, oi 0, .unset] [])) (fun _ k => XS.istore X140.here hx rfl (hb hby d8_246) rfl (l' := #[oR a1, oR sl, oR sp, oi 0, .val (.long (own_lmin (9223372036854775807 : Int64) (-(-pu0)))), .second, .val (.long ((own_lmin (9223372036854775807 : Int64) (-(-pu0))) + (1 : Int64))), .second, oi 0, .unset]) rfl k) ?_
      refine own_go (st' := T140.setTop (mkF m 250 #[oR a1, oR sl, oR sp, oi 0, .val (.long (own_lmin (9223372036854775807 : Int64) (-(-pu0)))), .second, .val (.long ((own_lmin (9223372036854775807 : Int64) (-(-pu0))) + (1 : Int64))), .second, oi 0, .unset] [(.int (0 : Int32))])) (fun _ k => XS.iload X140.here hx rfl (hb hby d8_248) rfl k) ?_
      refine own_go (st' := T140.setTop (mkF m 251 #[oR a1, oR sl, oR sp, oi 0, .val (.long (own_lmin (9223372036854775807 : Int64) (-(-pu0)))), .second, .val (.long ((own_lmin (9223372036854775807 : Int64) (-(-pu0))) + (1 : Int64))), .second, oi 0, .unset] [(.ref a1), (.int (0 : Int32))])) (fun _ k => XS.aloadN X140.here hx rfl (hb hby d8_250) rfl rfl k) ?_
      obtain ⟨T143, X143, e143, st143⟩ := getF X140 hx hZ hown (host := "") (Or.inl (own_hw hw 29)) Via.refl e140 c139 (g := (mkF m 251 #[oR a1, oR sl, oR sp, oi 0, .val (.long (own_lmin (9223372036854775807 : Int64) (-(-pu0)))), .second, .val (.long ((own_lmin (9223372036854775807 : Int64) (-(-pu0))) + (1 : Int64))), .second, oi 0, .unset] [(.ref a1), (.int (0 : Int32))])) rfl rfl (hb hby d8_251)
      refine own_go (st' := T143.setTop (mkF m 254 #[oR a1, oR sl, oR sp, oi 0, .val (.long (own_lmin (9223372036854775807 : Int64) (-(-pu0)))), .second, .val (.long ((own_lmin (9223372036854775807 : Int64) (-(-pu0))) + (1 : Int64))), .second, oi 0, .unset] [(.ref rts), (.int (0 : Int32))])) (st143) ?_
      refine own_go (st' := T143.setTop (mkF m 255 #[oR a1, oR sl, oR sp, oi 0, .val (.long (own_lmin (9223372036854775807 : Int64) (-(-pu0)))), .second, .val (.long ((own_lmin (9223372036854775807 : Int64) (-(-pu0))) + (1 : Int64))), .second, oi 0, .unset] [(.int (0 : Int32)), (.ref rts), (.int (0 : Int32))])) (fun _ k => XS.iloadN X143.here hx rfl (hb hby d8_254) rfl k) ?_
      refine own_go (st' := T143.setTop (mkF m 256 #[oR a1, oR sl, oR sp, oi 0, .val (.long (own_lmin (9223372036854775807 : Int64) (-(-pu0)))), .second, .val (.long ((own_lmin (9223372036854775807 : Int64) (-(-pu0))) + (1 : Int64))), .second, oi 0, .unset] [(.int (1 : Int32)), (.int (0 : Int32)), (.ref rts), (.int (0 : Int32))])) (fun _ k => XS.iconst X143.here hx rfl (hb hby d8_255) k) ?_
      refine own_go (st' := T143.setTop (mkF m 257 #[oR a1, oR sl, oR sp, oi 0, .val (.long (own_lmin (9223372036854775807 : Int64) (-(-pu0)))), .second, .val (.long ((own_lmin (9223372036854775807 : Int64) (-(-pu0))) + (1 : Int64))), .second, oi 0, .unset] [(.int (1 : Int32)), (.ref rts), (.int (0 : Int32))])) (fun _ k => XS.iadd X143.here hx rfl (hb hby d8_256) rfl (by rw [show ((0 : Int32) + (1 : Int32)) = (1 : Int32) by decide]; exact k)) ?_
      obtain ⟨cl144, Ar144, -, S144, M144, H144, -⟩ := id c141
      have hin144 : ¬ ((1 : Int32) < 0 ∨ cl144.slots.size ≤ ((1 : Int32)).toNatClampNeg) := (inb_of S144 ⟨by decide, by decide⟩)
      have hat144 : cl144.slots[((1 : Int32)).toNatClampNeg]? = some (.int (1 : Int32)) := (H144.at hin144 rfl)
      refine own_go (st' := T143.setTop (mkF m 258 #[oR a1, oR sl, oR sp, oi 0, .val (.long (own_lmin (9223372036854775807 : Int64) (-(-pu0)))), .second, .val (.long ((own_lmin (9223372036854775807 : Int64) (-(-pu0))) + (1 : Int64))), .second, oi 0, .unset] [(.int (1 : Int32)), (.int (0 : Int32))])) (X143.iaload hx (j := (1 : Int32)) (v := (.int (1 : Int32))) (by rw [e143]; exact Ar144.1) (State.isArrayOf_alike hZ.alike Ar144.2.1) Ar144.2.2 hin144 hat144 (g := (mkF m 257 #[oR a1, oR sl, oR sp, oi 0, .val (.long (own_lmin (9223372036854775807 : Int64) (-(-pu0)))), .second, .val (.long ((own_lmin (9223372036854775807 : Int64) (-(-pu0))) + (1 : Int64))), .second, oi 0, .unset] [(.int (1 : Int32)), (.ref rts), (.int (0 : Int32))])) rfl rfl (hb hby d8_257)) ?_
      have hc145 : (0 : Int32) < (1 : Int32) := by decide
      refine own_go (st' := T143.setTop (mkF m 261 #[oR a1, oR sl, oR sp, oi 0, .val (.long (own_lmin (9223372036854775807 : Int64) (-(-pu0)))), .second, .val (.long ((own_lmin (9223372036854775807 : Int64) (-(-pu0))) + (1 : Int64))), .second, oi 0, .unset] [])) (fun _ k => XS.icmpNo X143.here hx rfl (hb hby d8_258) rfl (tlt hc145).2.1 k) ?_
      refine own_go (st' := T143.setTop (mkF m 262 #[oR a1, oR sl, oR sp, oi 0, .val (.long (own_lmin (9223372036854775807 : Int64) (-(-pu0)))), .second, .val (.long ((own_lmin (9223372036854775807 : Int64) (-(-pu0))) + (1 : Int64))), .second, oi 0, .unset] [(.ref a1)])) (fun _ k => XS.aloadN X143.here hx rfl (hb hby d8_261) rfl rfl k) ?_
      have c146 : Fld Z h138 a1 oS0 "topicArcs" "[I" (.ref rta) := (c125.other W138 (Or.inl (own_ne (by omega))))
      obtain ⟨T147, X147, e147, st147⟩ := getF X143 hx hZ hown (host := "") (Or.inl (own_hw hw 46)) Via.refl e143 c146 (g := (mkF m 262 #[oR a1, oR sl, oR sp, oi 0, .val (.long (own_lmin (9223372036854775807 : Int64) (-(-pu0)))), .second, .val (.long ((own_lmin (9223372036854775807 : Int64) (-(-pu0))) + (1 : Int64))), .second, oi 0, .unset] [(.ref a1)])) rfl rfl (hb hby d8_262)
      refine own_go (st' := T147.setTop (mkF m 265 #[oR a1, oR sl, oR sp, oi 0, .val (.long (own_lmin (9223372036854775807 : Int64) (-(-pu0)))), .second, .val (.long ((own_lmin (9223372036854775807 : Int64) (-(-pu0))) + (1 : Int64))), .second, oi 0, .unset] [(.ref rta)])) (st147) ?_
      refine own_go (st' := T147.setTop (mkF m 267 #[oR a1, oR sl, oR sp, oi 0, .val (.long (own_lmin (9223372036854775807 : Int64) (-(-pu0)))), .second, .val (.long ((own_lmin (9223372036854775807 : Int64) (-(-pu0))) + (1 : Int64))), .second, oi 0, .unset] [(.int (0 : Int32)), (.ref rta)])) (fun _ k => XS.iload X147.here hx rfl (hb hby d8_265) rfl k) ?_
      have c148 : Arv Z h138 rta krta .int (2 : Int32) [(.int (0 : Int32)), (.int (1 : Int32))] (.int (0 : Int32)) := (c127.other W138 (own_ne (by omega)))
      obtain ⟨cl149, Ar149, -, S149, M149, H149, -⟩ := id c148
      have hin149 : ¬ ((0 : Int32) < 0 ∨ cl149.slots.size ≤ ((0 : Int32)).toNatClampNeg) := (inb_of S149 ⟨by decide, by decide⟩)
      have hat149 : cl149.slots[((0 : Int32)).toNatClampNeg]? = some (.int (0 : Int32)) := (H149.at hin149 rfl)
      refine own_go (st' := T147.setTop (mkF m 268 #[oR a1, oR sl, oR sp, oi 0, .val (.long (own_lmin (9223372036854775807 : Int64) (-(-pu0)))), .second, .val (.long ((own_lmin (9223372036854775807 : Int64) (-(-pu0))) + (1 : Int64))), .second, oi 0, .unset] [(.int (0 : Int32))])) (X147.iaload hx (j := (0 : Int32)) (v := (.int (0 : Int32))) (by rw [e147]; exact Ar149.1) (State.isArrayOf_alike hZ.alike Ar149.2.1) Ar149.2.2 hin149 hat149 (g := (mkF m 267 #[oR a1, oR sl, oR sp, oi 0, .val (.long (own_lmin (9223372036854775807 : Int64) (-(-pu0)))), .second, .val (.long ((own_lmin (9223372036854775807 : Int64) (-(-pu0))) + (1 : Int64))), .second, oi 0, .unset] [(.int (0 : Int32)), (.ref rta)])) rfl rfl (hb hby d8_267)) ?_
      refine own_go (st' := T147.setTop (mkF m 270 #[oR a1, oR sl, oR sp, oi 0, .val (.long (own_lmin (9223372036854775807 : Int64) (-(-pu0)))), .second, .val (.long ((own_lmin (9223372036854775807 : Int64) (-(-pu0))) + (1 : Int64))), .second, oi 0, oi 0] [])) (fun _ k => XS.istore X147.here hx rfl (hb hby d8_268) rfl (l' := #[oR a1, oR sl, oR sp, oi 0, .val (.long (own_lmin (9223372036854775807 : Int64) (-(-pu0)))), .second, .val (.long ((own_lmin (9223372036854775807 : Int64) (-(-pu0))) + (1 : Int64))), .second, oi 0, oi 0]) rfl k) ?_
      refine own_go (st' := T147.setTop (mkF m 271 #[oR a1, oR sl, oR sp, oi 0, .val (.long (own_lmin (9223372036854775807 : Int64) (-(-pu0)))), .second, .val (.long ((own_lmin (9223372036854775807 : Int64) (-(-pu0))) + (1 : Int64))), .second, oi 0, oi 0] [(.ref a1)])) (fun _ k => XS.aloadN X147.here hx rfl (hb hby d8_270) rfl rfl k) ?_
      have c150 : Fld Z h138 a1 oS0 "potential" "[J" (.ref rp) := (c120.other W138 (Or.inl (own_ne (by omega))))
      obtain ⟨T151, X151, e151, st151⟩ := getF X147 hx hZ hown (host := "") (Or.inl (own_hw hw 60)) Via.refl e147 c150 (g := (mkF m 271 #[oR a1, oR sl, oR sp, oi 0, .val (.long (own_lmin (9223372036854775807 : Int64) (-(-pu0)))), .second, .val (.long ((own_lmin (9223372036854775807 : Int64) (-(-pu0))) + (1 : Int64))), .second, oi 0, oi 0] [(.ref a1)])) rfl rfl (hb hby d8_271)
      refine own_go (st' := T151.setTop (mkF m 274 #[oR a1, oR sl, oR sp, oi 0, .val (.long (own_lmin (9223372036854775807 : Int64) (-(-pu0)))), .second, .val (.long ((own_lmin (9223372036854775807 : Int64) (-(-pu0))) + (1 : Int64))), .second, oi 0, oi 0] [(.ref rp)])) (st151) ?_
      refine own_go (st' := T151.setTop (mkF m 275 #[oR a1, oR sl, oR sp, oi 0, .val (.long (own_lmin (9223372036854775807 : Int64) (-(-pu0)))), .second, .val (.long ((own_lmin (9223372036854775807 : Int64) (-(-pu0))) + (1 : Int64))), .second, oi 0, oi 0] [(.ref a1), (.ref rp)])) (fun _ k => XS.aloadN X151.here hx rfl (hb hby d8_274) rfl rfl k) ?_
      have c152 : Fld Z h138 a1 oS0 "topicCount" "I" (.int (2 : Int32)) := (c110.other W138 (Or.inl (own_ne (by omega))))
      obtain ⟨T153, X153, e153, st153⟩ := getF X151 hx hZ hown (host := "") (Or.inl (own_hw hw 11)) Via.refl e151 c152 (g := (mkF m 275 #[oR a1, oR sl, oR sp, oi 0, .val (.long (own_lmin (9223372036854775807 : Int64) (-(-pu0)))), .second, .val (.long ((own_lmin (9223372036854775807 : Int64) (-(-pu0))) + (1 : Int64))), .second, oi 0, oi 0] [(.ref a1), (.ref rp)])) rfl rfl (hb hby d8_275)
      refine own_go (st' := T153.setTop (mkF m 278 #[oR a1, oR sl, oR sp, oi 0, .val (.long (own_lmin (9223372036854775807 : Int64) (-(-pu0)))), .second, .val (.long ((own_lmin (9223372036854775807 : Int64) (-(-pu0))) + (1 : Int64))), .second, oi 0, oi 0] [(.int (2 : Int32)), (.ref rp)])) (st153) ?_
      refine own_go (st' := T153.setTop (mkF m 279 #[oR a1, oR sl, oR sp, oi 0, .val (.long (own_lmin (9223372036854775807 : Int64) (-(-pu0)))), .second, .val (.long ((own_lmin (9223372036854775807 : Int64) (-(-pu0))) + (1 : Int64))), .second, oi 0, oi 0] [(.ref a1), (.int (2 : Int32)), (.ref rp)])) (fun _ k => XS.aloadN X153.here hx rfl (hb hby d8_278) rfl rfl k) ?_
      have c154 : Fld Z h138 a1 oS0 "arcUnit" "[I" (.ref au) := (c123.other W138 (Or.inl (own_ne (by omega))))
      obtain ⟨T155, X155, e155, st155⟩ := getF X153 hx hZ hown (host := "") (Or.inl (own_hw hw 23)) Via.refl e153 c154 (g := (mkF m 279 #[oR a1, oR sl, oR sp, oi 0, .val (.long (own_lmin (9223372036854775807 : Int64) (-(-pu0)))), .second, .val (.long ((own_lmin (9223372036854775807 : Int64) (-(-pu0))) + (1 : Int64))), .second, oi 0, oi 0] [(.ref a1), (.int (2 : Int32)), (.ref rp)])) rfl rfl (hb hby d8_279)
      refine own_go (st' := T155.setTop (mkF m 282 #[oR a1, oR sl, oR sp, oi 0, .val (.long (own_lmin (9223372036854775807 : Int64) (-(-pu0)))), .second, .val (.long ((own_lmin (9223372036854775807 : Int64) (-(-pu0))) + (1 : Int64))), .second, oi 0, oi 0] [(.ref au), (.int (2 : Int32)), (.ref rp)])) (st155) ?_
      refine own_go (st' := T155.setTop (mkF m 284 #[oR a1, oR sl, oR sp, oi 0, .val (.long (own_lmin (9223372036854775807 : Int64) (-(-pu0)))), .second, .val (.long ((own_lmin (9223372036854775807 : Int64) (-(-pu0))) + (1 : Int64))), .second, oi 0, oi 0] [(.int (0 : Int32)), (.ref au), (.int (2 : Int32)), (.ref rp)])) (fun _ k => XS.iload X155.here hx rfl (hb hby d8_282) rfl k) ?_
      have c156 : Arv Z h138 au kau .int (2 : Int32) [(.int (0 : Int32)), (.int (1 : Int32))] (.int (0 : Int32)) := (c129.other W138 (own_ne (by omega)))
      obtain ⟨cl157, Ar157, -, S157, M157, H157, -⟩ := id c156
      have hin157 : ¬ ((0 : Int32) < 0 ∨ cl157.slots.size ≤ ((0 : Int32)).toNatClampNeg) := (inb_of S157 ⟨by decide, by decide⟩)
      have hat157 : cl157.slots[((0 : Int32)).toNatClampNeg]? = some (.int (0 : Int32)) := (H157.at hin157 rfl)
      refine own_go (st' := T155.setTop (mkF m 285 #[oR a1, oR sl, oR sp, oi 0, .val (.long (own_lmin (9223372036854775807 : Int64) (-(-pu0)))), .second, .val (.long ((own_lmin (9223372036854775807 : Int64) (-(-pu0))) + (1 : Int64))), .second, oi 0, oi 0] [(.int (0 : Int32)), (.int (2 : Int32)), (.ref rp)])) (X155.iaload hx (j := (0 : Int32)) (v := (.int (0 : Int32))) (by rw [e155]; exact Ar157.1) (State.isArrayOf_alike hZ.alike Ar157.2.1) Ar157.2.2 hin157 hat157 (g := (mkF m 284 #[oR a1, oR sl, oR sp, oi 0, .val (.long (own_lmin (9223372036854775807 : Int64) (-(-pu0)))), .second, .val (.long ((own_lmin (9223372036854775807 : Int64) (-(-pu0))) + (1 : Int64))), .second, oi 0, oi 0] [(.int (0 : Int32)), (.ref au), (.int (2 : Int32)), (.ref rp)])) rfl rfl (hb hby d8_284)) ?_
      refine own_go (st' := T155.setTop (mkF m 286 #[oR a1, oR sl, oR sp, oi 0, .val (.long (own_lmin (9223372036854775807 : Int64) (-(-pu0)))), .second, .val (.long ((own_lmin (9223372036854775807 : Int64) (-(-pu0))) + (1 : Int64))), .second, oi 0, oi 0] [(.int (2 : Int32)), (.ref rp)])) (fun _ k => XS.iadd X155.here hx rfl (hb hby d8_285) rfl (by rw [show ((2 : Int32) + (0 : Int32)) = (2 : Int32) by decide]; exact k)) ?_
      obtain ⟨cl158, Ar158, -, S158, M158, H158, -⟩ := id v138
      have hin158 : ¬ ((2 : Int32) < 0 ∨ cl158.slots.size ≤ ((2 : Int32)).toNatClampNeg) := (inb_of S158 ⟨by decide, by decide⟩)
      have hat158 : cl158.slots[((2 : Int32)).toNatClampNeg]? = some (.long (-pu0)) := (H158.at hin158 rfl)
      refine own_go (st' := T155.setTop (mkF m 287 #[oR a1, oR sl, oR sp, oi 0, .val (.long (own_lmin (9223372036854775807 : Int64) (-(-pu0)))), .second, .val (.long ((own_lmin (9223372036854775807 : Int64) (-(-pu0))) + (1 : Int64))), .second, oi 0, oi 0] [(.long (-pu0))])) (X155.laload hx (j := (2 : Int32)) (v := (.long (-pu0))) (by rw [e155]; exact Ar158.1) (State.isArrayOf_alike hZ.alike Ar158.2.1) Ar158.2.2 hin158 hat158 (g := (mkF m 286 #[oR a1, oR sl, oR sp, oi 0, .val (.long (own_lmin (9223372036854775807 : Int64) (-(-pu0)))), .second, .val (.long ((own_lmin (9223372036854775807 : Int64) (-(-pu0))) + (1 : Int64))), .second, oi 0, oi 0] [(.int (2 : Int32)), (.ref rp)])) rfl rfl (hb hby d8_286)) ?_
      refine own_go (st' := T155.setTop (mkF m 288 #[oR a1, oR sl, oR sp, oi 0, .val (.long (own_lmin (9223372036854775807 : Int64) (-(-pu0)))), .second, .val (.long ((own_lmin (9223372036854775807 : Int64) (-(-pu0))) + (1 : Int64))), .second, oi 0, oi 0] [(.long (-(-pu0)))])) (fun _ k => XS.lneg X155.here hx rfl (hb hby d8_287) rfl k) ?_
      refine own_go (st' := T155.setTop (mkF m 290 #[oR a1, oR sl, oR sp, oi 0, .val (.long (own_lmin (9223372036854775807 : Int64) (-(-pu0)))), .second, .val (.long ((own_lmin (9223372036854775807 : Int64) (-(-pu0))) + (1 : Int64))), .second, oi 0, oi 0] [(.long ((own_lmin (9223372036854775807 : Int64) (-(-pu0))) + (1 : Int64))), (.long (-(-pu0)))])) (fun _ k => XS.lload X155.here hx rfl (hb hby d8_288) rfl k) ?_
      refine own_go (st' := T155.setTop (mkF m 291 #[oR a1, oR sl, oR sp, oi 0, .val (.long (own_lmin (9223372036854775807 : Int64) (-(-pu0)))), .second, .val (.long ((own_lmin (9223372036854775807 : Int64) (-(-pu0))) + (1 : Int64))), .second, oi 0, oi 0] [(.int (lcmpW (-(-pu0)) ((own_lmin (9223372036854775807 : Int64) (-(-pu0))) + (1 : Int64))))])) (fun _ k => XS.lcmp X155.here hx rfl (hb hby d8_290) rfl k) ?_
      have hc159 : ¬ (((own_lmin (9223372036854775807 : Int64) (-(-pu0))) + (1 : Int64)) < (-(-pu0))) := own_tp pu0 (by rw [hpu0]; exact hb0)
      refine own_go (st' := T155.setTop (mkF m 294 #[oR a1, oR sl, oR sp, oi 0, .val (.long (own_lmin (9223372036854775807 : Int64) (-(-pu0)))), .second, .val (.long ((own_lmin (9223372036854775807 : Int64) (-(-pu0))) + (1 : Int64))), .second, oi 0, oi 0] [])) (fun _ k => XS.ifNo X155.here hx rfl (hb hby d8_291) rfl ((if0 _ _).trans (flt (fun q_ => hc159 ((lw_gt (-(-pu0)) ((own_lmin (9223372036854775807 : Int64) (-(-pu0))) + (1 : Int64))).mp q_))).2.2.1) k) ?_
      refine own_go (st' := T155.setTop (mkF m 295 #[oR a1, oR sl, oR sp, oi 0, .val (.long (own_lmin (9223372036854775807 : Int64) (-(-pu0)))), .second, .val (.long ((own_lmin (9223372036854775807 : Int64) (-(-pu0))) + (1 : Int64))), .second, oi 0, oi 0] [(.ref a1)])) (fun _ k => XS.aloadN X155.here hx rfl (hb hby d8_294) rfl rfl k) ?_
      have c160 : Fld Z h138 a1 oS0 "flow" "[I" (.ref rf) := ((((((((((pr12.other W5 (Or.inl (own_ne (by omega)))).other W23 (Or.inl (own_ne (by omega)))).other W33 (Or.inl (own_ne (by omega)))).other W42 (Or.inl (own_ne (by omega)))).other W60 (Or.inl (own_ne (by omega)))).other W70 (Or.inl (own_ne (by omega)))).other W80 (Or.inl (own_ne (by omega)))).other W93 (Or.inl (own_ne (by omega)))).other W106 (Or.inl (own_ne (by omega)))).other W138 (Or.inl (own_ne (by omega))))
      obtain ⟨T161, X161, e161, st161⟩ := getF X155 hx hZ hown (host := "") (Or.inl (own_hw hw 52)) Via.refl e155 c160 (g := (mkF m 295 #[oR a1, oR sl, oR sp, oi 0, .val (.long (own_lmin (9223372036854775807 : Int64) (-(-pu0)))), .second, .val (.long ((own_lmin (9223372036854775807 : Int64) (-(-pu0))) + (1 : Int64))), .second, oi 0, oi 0] [(.ref a1)])) rfl rfl (hb hby d8_295)
      refine own_go (st' := T161.setTop (mkF m 298 #[oR a1, oR sl, oR sp, oi 0, .val (.long (own_lmin (9223372036854775807 : Int64) (-(-pu0)))), .second, .val (.long ((own_lmin (9223372036854775807 : Int64) (-(-pu0))) + (1 : Int64))), .second, oi 0, oi 0] [(.ref rf)])) (st161) ?_
      refine own_go (st' := T161.setTop (mkF m 300 #[oR a1, oR sl, oR sp, oi 0, .val (.long (own_lmin (9223372036854775807 : Int64) (-(-pu0)))), .second, .val (.long ((own_lmin (9223372036854775807 : Int64) (-(-pu0))) + (1 : Int64))), .second, oi 0, oi 0] [(.int (0 : Int32)), (.ref rf)])) (fun _ k => XS.iload X161.here hx rfl (hb hby d8_298) rfl k) ?_
      refine own_go (st' := T161.setTop (mkF m 301 #[oR a1, oR sl, oR sp, oi 0, .val (.long (own_lmin (9223372036854775807 : Int64) (-(-pu0)))), .second, .val (.long ((own_lmin (9223372036854775807 : Int64) (-(-pu0))) + (1 : Int64))), .second, oi 0, oi 0] [(.ref a1), (.int (0 : Int32)), (.ref rf)])) (fun _ k => XS.aloadN X161.here hx rfl (hb hby d8_300) rfl rfl k) ?_
      have c162 : Fld Z h138 a1 oS0 "arcOwned" "[I" (.ref ao) := ((((((((((pr8.other W5 (Or.inl (own_ne (by omega)))).other W23 (Or.inl (own_ne (by omega)))).other W33 (Or.inl (own_ne (by omega)))).other W42 (Or.inl (own_ne (by omega)))).other W60 (Or.inl (own_ne (by omega)))).other W70 (Or.inl (own_ne (by omega)))).other W80 (Or.inl (own_ne (by omega)))).other W93 (Or.inl (own_ne (by omega)))).other W106 (Or.inl (own_ne (by omega)))).other W138 (Or.inl (own_ne (by omega))))
      obtain ⟨T163, X163, e163, st163⟩ := getF X161 hx hZ hown (host := "") (Or.inl (own_hw hw 25)) Via.refl e161 c162 (g := (mkF m 301 #[oR a1, oR sl, oR sp, oi 0, .val (.long (own_lmin (9223372036854775807 : Int64) (-(-pu0)))), .second, .val (.long ((own_lmin (9223372036854775807 : Int64) (-(-pu0))) + (1 : Int64))), .second, oi 0, oi 0] [(.ref a1), (.int (0 : Int32)), (.ref rf)])) rfl rfl (hb hby d8_301)
      refine own_go (st' := T163.setTop (mkF m 304 #[oR a1, oR sl, oR sp, oi 0, .val (.long (own_lmin (9223372036854775807 : Int64) (-(-pu0)))), .second, .val (.long ((own_lmin (9223372036854775807 : Int64) (-(-pu0))) + (1 : Int64))), .second, oi 0, oi 0] [(.ref ao), (.int (0 : Int32)), (.ref rf)])) (st163) ?_
      refine own_go (st' := T163.setTop (mkF m 306 #[oR a1, oR sl, oR sp, oi 0, .val (.long (own_lmin (9223372036854775807 : Int64) (-(-pu0)))), .second, .val (.long ((own_lmin (9223372036854775807 : Int64) (-(-pu0))) + (1 : Int64))), .second, oi 0, oi 0] [(.int (0 : Int32)), (.ref ao), (.int (0 : Int32)), (.ref rf)])) (fun _ k => XS.iload X163.here hx rfl (hb hby d8_304) rfl k) ?_
      have c164 : Arv Z h138 ao kao .int (2 : Int32) [(.int ca), (.int cb)] (.int (0 : Int32)) := ((((((((((pr17.other W5 (own_ne (by omega))).other W23 (own_ne (by omega))).other W33 (own_ne (by omega))).other W42 (own_ne (by omega))).other W60 (own_ne (by omega))).other W70 (own_ne (by omega))).other W80 (own_ne (by omega))).other W93 (own_ne (by omega))).other W106 (own_ne (by omega))).other W138 (own_ne (by omega)))
      obtain ⟨cl165, Ar165, -, S165, M165, H165, -⟩ := id c164
      have hin165 : ¬ ((0 : Int32) < 0 ∨ cl165.slots.size ≤ ((0 : Int32)).toNatClampNeg) := (inb_of S165 ⟨by decide, by decide⟩)
      have hat165 : cl165.slots[((0 : Int32)).toNatClampNeg]? = some (.int ca) := (H165.at hin165 rfl)
      refine own_go (st' := T163.setTop (mkF m 307 #[oR a1, oR sl, oR sp, oi 0, .val (.long (own_lmin (9223372036854775807 : Int64) (-(-pu0)))), .second, .val (.long ((own_lmin (9223372036854775807 : Int64) (-(-pu0))) + (1 : Int64))), .second, oi 0, oi 0] [(.int ca), (.int (0 : Int32)), (.ref rf)])) (X163.iaload hx (j := (0 : Int32)) (v := (.int ca)) (by rw [e163]; exact Ar165.1) (State.isArrayOf_alike hZ.alike Ar165.2.1) Ar165.2.2 hin165 hat165 (g := (mkF m 306 #[oR a1, oR sl, oR sp, oi 0, .val (.long (own_lmin (9223372036854775807 : Int64) (-(-pu0)))), .second, .val (.long ((own_lmin (9223372036854775807 : Int64) (-(-pu0))) + (1 : Int64))), .second, oi 0, oi 0] [(.int (0 : Int32)), (.ref ao), (.int (0 : Int32)), (.ref rf)])) rfl rfl (hb hby d8_306)) ?_
      have c166 : Arv Z h138 rf krf .int (2 : Int32) [(.int (0 : Int32)), (.int (0 : Int32))] (.int (0 : Int32)) := ((((((((((pr21.other W5 (own_ne (by omega))).other W23 (own_ne (by omega))).other W33 (own_ne (by omega))).other W42 (own_ne (by omega))).other W60 (own_ne (by omega))).other W70 (own_ne (by omega))).other W80 (own_ne (by omega))).other W93 (own_ne (by omega))).other W106 (own_ne (by omega))).other W138 (own_ne (by omega)))
      obtain ⟨cl167, Ar167, qc167, S167, M167, H167, G167⟩ := id c166
      have hin167 : ¬ ((0 : Int32) < 0 ∨ cl167.slots.size ≤ ((0 : Int32)).toNatClampNeg) := (inb_of S167 ⟨by decide, by decide⟩)
      obtain ⟨T167, h167, X167, e167, W167, st167⟩ := stI X163 hx hZ e163 Ar167 (j := (0 : Int32)) hin167 (g := (mkF m 307 #[oR a1, oR sl, oR sp, oi 0, .val (.long (own_lmin (9223372036854775807 : Int64) (-(-pu0)))), .second, .val (.long ((own_lmin (9223372036854775807 : Int64) (-(-pu0))) + (1 : Int64))), .second, oi 0, oi 0] [(.int ca), (.int (0 : Int32)), (.ref rf)])) rfl rfl (hb hby d8_307)
      have sz167 : h167.size = h138.size := W167.size
      have N167 := Fr.snoc X167 N138 (by omega)
      have v167 : Arv Z h167 rf krf .int (2 : Int32) [(.int ca), (.int (0 : Int32))] (.int (0 : Int32)) := Arv.set Ar167 qc167 S167 M167 H167 G167 rfl W167 0 rfl (Nat.le_of_ble_eq_true rfl)
      refine own_go (st' := T167.setTop (mkF m 308 #[oR a1, oR sl, oR sp, oi 0, .val (.long (own_lmin (9223372036854775807 : Int64) (-(-pu0)))), .second, .val (.long ((own_lmin (9223372036854775807 : Int64) (-(-pu0))) + (1 : Int64))), .second, oi 0, oi 0] [])) (st167) ?_
      refine own_go (st' := T167.setTop (mkF m 309 #[oR a1, oR sl, oR sp, oi 0, .val (.long (own_lmin (9223372036854775807 : Int64) (-(-pu0)))), .second, .val (.long ((own_lmin (9223372036854775807 : Int64) (-(-pu0))) + (1 : Int64))), .second, oi 0, oi 0] [(.ref a1)])) (fun _ k => XS.aloadN X167.here hx rfl (hb hby d8_308) rfl rfl k) ?_
      have c168 : Fld Z h167 a1 oS0 "excess" "[I" (.ref re) := (((c97.other W106 (Or.inl (own_ne (by omega)))).other W138 (Or.inl (own_ne (by omega)))).other W167 (Or.inl (own_ne (by omega))))
      obtain ⟨T169, X169, e169, st169⟩ := getF X167 hx hZ hown (host := "") (Or.inl (own_hw hw 56)) Via.refl e167 c168 (g := (mkF m 309 #[oR a1, oR sl, oR sp, oi 0, .val (.long (own_lmin (9223372036854775807 : Int64) (-(-pu0)))), .second, .val (.long ((own_lmin (9223372036854775807 : Int64) (-(-pu0))) + (1 : Int64))), .second, oi 0, oi 0] [(.ref a1)])) rfl rfl (hb hby d8_309)
      refine own_go (st' := T169.setTop (mkF m 312 #[oR a1, oR sl, oR sp, oi 0, .val (.long (own_lmin (9223372036854775807 : Int64) (-(-pu0)))), .second, .val (.long ((own_lmin (9223372036854775807 : Int64) (-(-pu0))) + (1 : Int64))), .second, oi 0, oi 0] [(.ref re)])) (st169) ?_
      refine own_go (st' := T169.setTop (mkF m 313 #[oR a1, oR sl, oR sp, oi 0, .val (.long (own_lmin (9223372036854775807 : Int64) (-(-pu0)))), .second, .val (.long ((own_lmin (9223372036854775807 : Int64) (-(-pu0))) + (1 : Int64))), .second, oi 0, oi 0] [(.int (0 : Int32)), (.ref re)])) (fun _ k => XS.iloadN X169.here hx rfl (hb hby d8_312) rfl k) ?_
      refine own_go (st' := T169.setTop (mkF m 314 #[oR a1, oR sl, oR sp, oi 0, .val (.long (own_lmin (9223372036854775807 : Int64) (-(-pu0)))), .second, .val (.long ((own_lmin (9223372036854775807 : Int64) (-(-pu0))) + (1 : Int64))), .second, oi 0, oi 0] [(.int (0 : Int32)), (.ref re), (.int (0 : Int32)), (.ref re)])) (fun _ k => XT.dup2 X169.here hx rfl (hb hby d8_313) rfl rfl rfl k) ?_
      have c170 : Arv Z h167 re kre .int (5 : Int32) [(.int ca), (.int cb), (.int (-ca)), (.int (-cb)), (.int (((-tt) + ca) + cb))] (.int (0 : Int32)) := ((v106.other W138 (own_ne (by omega))).other W167 (own_ne (by omega)))
      obtain ⟨cl171, Ar171, -, S171, M171, H171, -⟩ := id c170
      have hin171 : ¬ ((0 : Int32) < 0 ∨ cl171.slots.size ≤ ((0 : Int32)).toNatClampNeg) := (inb_of S171 ⟨by decide, by decide⟩)
      have hat171 : cl171.slots[((0 : Int32)).toNatClampNeg]? = some (.int ca) := (H171.at hin171 rfl)
      refine own_go (st' := T169.setTop (mkF m 315 #[oR a1, oR sl, oR sp, oi 0, .val (.long (own_lmin (9223372036854775807 : Int64) (-(-pu0)))), .second, .val (.long ((own_lmin (9223372036854775807 : Int64) (-(-pu0))) + (1 : Int64))), .second, oi 0, oi 0] [(.int ca), (.int (0 : Int32)), (.ref re)])) (X169.iaload hx (j := (0 : Int32)) (v := (.int ca)) (by rw [e169]; exact Ar171.1) (State.isArrayOf_alike hZ.alike Ar171.2.1) Ar171.2.2 hin171 hat171 (g := (mkF m 314 #[oR a1, oR sl, oR sp, oi 0, .val (.long (own_lmin (9223372036854775807 : Int64) (-(-pu0)))), .second, .val (.long ((own_lmin (9223372036854775807 : Int64) (-(-pu0))) + (1 : Int64))), .second, oi 0, oi 0] [(.int (0 : Int32)), (.ref re), (.int (0 : Int32)), (.ref re)])) rfl rfl (hb hby d8_314)) ?_
      refine own_go (st' := T169.setTop (mkF m 316 #[oR a1, oR sl, oR sp, oi 0, .val (.long (own_lmin (9223372036854775807 : Int64) (-(-pu0)))), .second, .val (.long ((own_lmin (9223372036854775807 : Int64) (-(-pu0))) + (1 : Int64))), .second, oi 0, oi 0] [(.ref a1), (.int ca), (.int (0 : Int32)), (.ref re)])) (fun _ k => XS.aloadN X169.here hx rfl (hb hby d8_315) rfl rfl k) ?_
      have c172 : Fld Z h167 a1 oS0 "flow" "[I" (.ref rf) := (c160.other W167 (Or.inl (own_ne (by omega))))
      obtain ⟨T173, X173, e173, st173⟩ := getF X169 hx hZ hown (host := "") (Or.inl (own_hw hw 52)) Via.refl e169 c172 (g := (mkF m 316 #[oR a1, oR sl, oR sp, oi 0, .val (.long (own_lmin (9223372036854775807 : Int64) (-(-pu0)))), .second, .val (.long ((own_lmin (9223372036854775807 : Int64) (-(-pu0))) + (1 : Int64))), .second, oi 0, oi 0] [(.ref a1), (.int ca), (.int (0 : Int32)), (.ref re)])) rfl rfl (hb hby d8_316)
      refine own_go (st' := T173.setTop (mkF m 319 #[oR a1, oR sl, oR sp, oi 0, .val (.long (own_lmin (9223372036854775807 : Int64) (-(-pu0)))), .second, .val (.long ((own_lmin (9223372036854775807 : Int64) (-(-pu0))) + (1 : Int64))), .second, oi 0, oi 0] [(.ref rf), (.int ca), (.int (0 : Int32)), (.ref re)])) (st173) ?_
      refine own_go (st' := T173.setTop (mkF m 321 #[oR a1, oR sl, oR sp, oi 0, .val (.long (own_lmin (9223372036854775807 : Int64) (-(-pu0)))), .second, .val (.long ((own_lmin (9223372036854775807 : Int64) (-(-pu0))) + (1 : Int64))), .second, oi 0, oi 0] [(.int (0 : Int32)), (.ref rf), (.int ca), (.int (0 : Int32)), (.ref re)])) (fun _ k => XS.iload X173.here hx rfl (hb hby d8_319) rfl k) ?_
      obtain ⟨cl174, Ar174, -, S174, M174, H174, -⟩ := id v167
      have hin174 : ¬ ((0 : Int32) < 0 ∨ cl174.slots.size ≤ ((0 : Int32)).toNatClampNeg) := (inb_of S174 ⟨by decide, by decide⟩)
      have hat174 : cl174.slots[((0 : Int32)).toNatClampNeg]? = some (.int ca) := (H174.at hin174 rfl)
      refine own_go (st' := T173.setTop (mkF m 322 #[oR a1, oR sl, oR sp, oi 0, .val (.long (own_lmin (9223372036854775807 : Int64) (-(-pu0)))), .second, .val (.long ((own_lmin (9223372036854775807 : Int64) (-(-pu0))) + (1 : Int64))), .second, oi 0, oi 0] [(.int ca), (.int ca), (.int (0 : Int32)), (.ref re)])) (X173.iaload hx (j := (0 : Int32)) (v := (.int ca)) (by rw [e173]; exact Ar174.1) (State.isArrayOf_alike hZ.alike Ar174.2.1) Ar174.2.2 hin174 hat174 (g := (mkF m 321 #[oR a1, oR sl, oR sp, oi 0, .val (.long (own_lmin (9223372036854775807 : Int64) (-(-pu0)))), .second, .val (.long ((own_lmin (9223372036854775807 : Int64) (-(-pu0))) + (1 : Int64))), .second, oi 0, oi 0] [(.int (0 : Int32)), (.ref rf), (.int ca), (.int (0 : Int32)), (.ref re)])) rfl rfl (hb hby d8_321)) ?_
      refine own_go (st' := T173.setTop (mkF m 323 #[oR a1, oR sl, oR sp, oi 0, .val (.long (own_lmin (9223372036854775807 : Int64) (-(-pu0)))), .second, .val (.long ((own_lmin (9223372036854775807 : Int64) (-(-pu0))) + (1 : Int64))), .second, oi 0, oi 0] [(.int (ca - ca)), (.int (0 : Int32)), (.ref re)])) (fun _ k => XS.isub X173.here hx rfl (hb hby d8_322) rfl k) ?_
      obtain ⟨cl175, Ar175, qc175, S175, M175, H175, G175⟩ := id c170
      have hin175 : ¬ ((0 : Int32) < 0 ∨ cl175.slots.size ≤ ((0 : Int32)).toNatClampNeg) := (inb_of S175 ⟨by decide, by decide⟩)
      obtain ⟨T175, h175, X175, e175, W175, st175⟩ := stI X173 hx hZ e173 Ar175 (j := (0 : Int32)) hin175 (g := (mkF m 323 #[oR a1, oR sl, oR sp, oi 0, .val (.long (own_lmin (9223372036854775807 : Int64) (-(-pu0)))), .second, .val (.long ((own_lmin (9223372036854775807 : Int64) (-(-pu0))) + (1 : Int64))), .second, oi 0, oi 0] [(.int (ca - ca)), (.int (0 : Int32)), (.ref re)])) rfl rfl (hb hby d8_323)
      have sz175 : h175.size = h167.size := W175.size
      have N175 := Fr.snoc X175 N167 (by omega)
      have v175 : Arv Z h175 re kre .int (5 : Int32) [(.int (ca - ca)), (.int cb), (.int (-ca)), (.int (-cb)), (.int (((-tt) + ca) + cb))] (.int (0 : Int32)) := Arv.set Ar175 qc175 S175 M175 H175 G175 rfl W175 0 rfl (Nat.le_of_ble_eq_true rfl)
      refine own_go (st' := T175.setTop (mkF m 324 #[oR a1, oR sl, oR sp, oi 0, .val (.long (own_lmin (9223372036854775807 : Int64) (-(-pu0)))), .second, .val (.long ((own_lmin (9223372036854775807 : Int64) (-(-pu0))) + (1 : Int64))), .second, oi 0, oi 0] [])) (st175) ?_
      refine own_go (st' := T175.setTop (mkF m 325 #[oR a1, oR sl, oR sp, oi 0, .val (.long (own_lmin (9223372036854775807 : Int64) (-(-pu0)))), .second, .val (.long ((own_lmin (9223372036854775807 : Int64) (-(-pu0))) + (1 : Int64))), .second, oi 0, oi 0] [(.ref a1)])) (fun _ k => XS.aloadN X175.here hx rfl (hb hby d8_324) rfl rfl k) ?_
      have c176 : Fld Z h175 a1 oS0 "excess" "[I" (.ref re) := (c168.other W175 (Or.inl (own_ne (by omega))))
      obtain ⟨T177, X177, e177, st177⟩ := getF X175 hx hZ hown (host := "") (Or.inl (own_hw hw 56)) Via.refl e175 c176 (g := (mkF m 325 #[oR a1, oR sl, oR sp, oi 0, .val (.long (own_lmin (9223372036854775807 : Int64) (-(-pu0)))), .second, .val (.long ((own_lmin (9223372036854775807 : Int64) (-(-pu0))) + (1 : Int64))), .second, oi 0, oi 0] [(.ref a1)])) rfl rfl (hb hby d8_325)
      refine own_go (st' := T177.setTop (mkF m 328 #[oR a1, oR sl, oR sp, oi 0, .val (.long (own_lmin (9223372036854775807 : Int64) (-(-pu0)))), .second, .val (.long ((own_lmin (9223372036854775807 : Int64) (-(-pu0))) + (1 : Int64))), .second, oi 0, oi 0] [(.ref re)])) (st177) ?_
      refine own_go (st' := T177.setTop (mkF m 329 #[oR a1, oR sl, oR sp, oi 0, .val (.long (own_lmin (9223372036854775807 : Int64) (-(-pu0)))), .second, .val (.long ((own_lmin (9223372036854775807 : Int64) (-(-pu0))) + (1 : Int64))), .second, oi 0, oi 0] [(.ref a1), (.ref re)])) (fun _ k => XS.aloadN X177.here hx rfl (hb hby d8_328) rfl rfl k) ?_
      have c178 : Fld Z h175 a1 oS0 "topicCount" "I" (.int (2 : Int32)) := ((c152.other W167 (Or.inl (own_ne (by omega)))).other W175 (Or.inl (own_ne (by omega))))
      obtain ⟨T179, X179, e179, st179⟩ := getF X177 hx hZ hown (host := "") (Or.inl (own_hw hw 11)) Via.refl e177 c178 (g := (mkF m 329 #[oR a1, oR sl, oR sp, oi 0, .val (.long (own_lmin (9223372036854775807 : Int64) (-(-pu0)))), .second, .val (.long ((own_lmin (9223372036854775807 : Int64) (-(-pu0))) + (1 : Int64))), .second, oi 0, oi 0] [(.ref a1), (.ref re)])) rfl rfl (hb hby d8_329)
      refine own_go (st' := T179.setTop (mkF m 332 #[oR a1, oR sl, oR sp, oi 0, .val (.long (own_lmin (9223372036854775807 : Int64) (-(-pu0)))), .second, .val (.long ((own_lmin (9223372036854775807 : Int64) (-(-pu0))) + (1 : Int64))), .second, oi 0, oi 0] [(.int (2 : Int32)), (.ref re)])) (st179) ?_
      refine own_go (st' := T179.setTop (mkF m 333 #[oR a1, oR sl, oR sp, oi 0, .val (.long (own_lmin (9223372036854775807 : Int64) (-(-pu0)))), .second, .val (.long ((own_lmin (9223372036854775807 : Int64) (-(-pu0))) + (1 : Int64))), .second, oi 0, oi 0] [(.ref a1), (.int (2 : Int32)), (.ref re)])) (fun _ k => XS.aloadN X179.here hx rfl (hb hby d8_332) rfl rfl k) ?_
      have c180 : Fld Z h175 a1 oS0 "arcUnit" "[I" (.ref au) := ((c154.other W167 (Or.inl (own_ne (by omega)))).other W175 (Or.inl (own_ne (by omega))))
      obtain ⟨T181, X181, e181, st181⟩ := getF X179 hx hZ hown (host := "") (Or.inl (own_hw hw 23)) Via.refl e179 c180 (g := (mkF m 333 #[oR a1, oR sl, oR sp, oi 0, .val (.long (own_lmin (9223372036854775807 : Int64) (-(-pu0)))), .second, .val (.long ((own_lmin (9223372036854775807 : Int64) (-(-pu0))) + (1 : Int64))), .second, oi 0, oi 0] [(.ref a1), (.int (2 : Int32)), (.ref re)])) rfl rfl (hb hby d8_333)
      refine own_go (st' := T181.setTop (mkF m 336 #[oR a1, oR sl, oR sp, oi 0, .val (.long (own_lmin (9223372036854775807 : Int64) (-(-pu0)))), .second, .val (.long ((own_lmin (9223372036854775807 : Int64) (-(-pu0))) + (1 : Int64))), .second, oi 0, oi 0] [(.ref au), (.int (2 : Int32)), (.ref re)])) (st181) ?_
      refine own_go (st' := T181.setTop (mkF m 338 #[oR a1, oR sl, oR sp, oi 0, .val (.long (own_lmin (9223372036854775807 : Int64) (-(-pu0)))), .second, .val (.long ((own_lmin (9223372036854775807 : Int64) (-(-pu0))) + (1 : Int64))), .second, oi 0, oi 0] [(.int (0 : Int32)), (.ref au), (.int (2 : Int32)), (.ref re)])) (fun _ k => XS.iload X181.here hx rfl (hb hby d8_336) rfl k) ?_
      have c182 : Arv Z h175 au kau .int (2 : Int32) [(.int (0 : Int32)), (.int (1 : Int32))] (.int (0 : Int32)) := ((c156.other W167 (own_ne (by omega))).other W175 (own_ne (by omega)))
      obtain ⟨cl183, Ar183, -, S183, M183, H183, -⟩ := id c182
      have hin183 : ¬ ((0 : Int32) < 0 ∨ cl183.slots.size ≤ ((0 : Int32)).toNatClampNeg) := (inb_of S183 ⟨by decide, by decide⟩)
      have hat183 : cl183.slots[((0 : Int32)).toNatClampNeg]? = some (.int (0 : Int32)) := (H183.at hin183 rfl)
      refine own_go (st' := T181.setTop (mkF m 339 #[oR a1, oR sl, oR sp, oi 0, .val (.long (own_lmin (9223372036854775807 : Int64) (-(-pu0)))), .second, .val (.long ((own_lmin (9223372036854775807 : Int64) (-(-pu0))) + (1 : Int64))), .second, oi 0, oi 0] [(.int (0 : Int32)), (.int (2 : Int32)), (.ref re)])) (X181.iaload hx (j := (0 : Int32)) (v := (.int (0 : Int32))) (by rw [e181]; exact Ar183.1) (State.isArrayOf_alike hZ.alike Ar183.2.1) Ar183.2.2 hin183 hat183 (g := (mkF m 338 #[oR a1, oR sl, oR sp, oi 0, .val (.long (own_lmin (9223372036854775807 : Int64) (-(-pu0)))), .second, .val (.long ((own_lmin (9223372036854775807 : Int64) (-(-pu0))) + (1 : Int64))), .second, oi 0, oi 0] [(.int (0 : Int32)), (.ref au), (.int (2 : Int32)), (.ref re)])) rfl rfl (hb hby d8_338)) ?_
      refine own_go (st' := T181.setTop (mkF m 340 #[oR a1, oR sl, oR sp, oi 0, .val (.long (own_lmin (9223372036854775807 : Int64) (-(-pu0)))), .second, .val (.long ((own_lmin (9223372036854775807 : Int64) (-(-pu0))) + (1 : Int64))), .second, oi 0, oi 0] [(.int (2 : Int32)), (.ref re)])) (fun _ k => XS.iadd X181.here hx rfl (hb hby d8_339) rfl (by rw [show ((2 : Int32) + (0 : Int32)) = (2 : Int32) by decide]; exact k)) ?_
      refine own_go (st' := T181.setTop (mkF m 341 #[oR a1, oR sl, oR sp, oi 0, .val (.long (own_lmin (9223372036854775807 : Int64) (-(-pu0)))), .second, .val (.long ((own_lmin (9223372036854775807 : Int64) (-(-pu0))) + (1 : Int64))), .second, oi 0, oi 0] [(.int (2 : Int32)), (.ref re), (.int (2 : Int32)), (.ref re)])) (fun _ k => XT.dup2 X181.here hx rfl (hb hby d8_340) rfl rfl rfl k) ?_
      obtain ⟨cl184, Ar184, -, S184, M184, H184, -⟩ := id v175
      have hin184 : ¬ ((2 : Int32) < 0 ∨ cl184.slots.size ≤ ((2 : Int32)).toNatClampNeg) := (inb_of S184 ⟨by decide, by decide⟩)
      have hat184 : cl184.slots[((2 : Int32)).toNatClampNeg]? = some (.int (-ca)) := (H184.at hin184 rfl)
      refine own_go (st' := T181.setTop (mkF m 342 #[oR a1, oR sl, oR sp, oi 0, .val (.long (own_lmin (9223372036854775807 : Int64) (-(-pu0)))), .second, .val (.long ((own_lmin (9223372036854775807 : Int64) (-(-pu0))) + (1 : Int64))), .second, oi 0, oi 0] [(.int (-ca)), (.int (2 : Int32)), (.ref re)])) (X181.iaload hx (j := (2 : Int32)) (v := (.int (-ca))) (by rw [e181]; exact Ar184.1) (State.isArrayOf_alike hZ.alike Ar184.2.1) Ar184.2.2 hin184 hat184 (g := (mkF m 341 #[oR a1, oR sl, oR sp, oi 0, .val (.long (own_lmin (9223372036854775807 : Int64) (-(-pu0)))), .second, .val (.long ((own_lmin (9223372036854775807 : Int64) (-(-pu0))) + (1 : Int64))), .second, oi 0, oi 0] [(.int (2 : Int32)), (.ref re), (.int (2 : Int32)), (.ref re)])) rfl rfl (hb hby d8_341)) ?_
      refine own_go (st' := T181.setTop (mkF m 343 #[oR a1, oR sl, oR sp, oi 0, .val (.long (own_lmin (9223372036854775807 : Int64) (-(-pu0)))), .second, .val (.long ((own_lmin (9223372036854775807 : Int64) (-(-pu0))) + (1 : Int64))), .second, oi 0, oi 0] [(.ref a1), (.int (-ca)), (.int (2 : Int32)), (.ref re)])) (fun _ k => XS.aloadN X181.here hx rfl (hb hby d8_342) rfl rfl k) ?_
      have c185 : Fld Z h175 a1 oS0 "flow" "[I" (.ref rf) := (c172.other W175 (Or.inl (own_ne (by omega))))
      obtain ⟨T186, X186, e186, st186⟩ := getF X181 hx hZ hown (host := "") (Or.inl (own_hw hw 52)) Via.refl e181 c185 (g := (mkF m 343 #[oR a1, oR sl, oR sp, oi 0, .val (.long (own_lmin (9223372036854775807 : Int64) (-(-pu0)))), .second, .val (.long ((own_lmin (9223372036854775807 : Int64) (-(-pu0))) + (1 : Int64))), .second, oi 0, oi 0] [(.ref a1), (.int (-ca)), (.int (2 : Int32)), (.ref re)])) rfl rfl (hb hby d8_343)
      refine own_go (st' := T186.setTop (mkF m 346 #[oR a1, oR sl, oR sp, oi 0, .val (.long (own_lmin (9223372036854775807 : Int64) (-(-pu0)))), .second, .val (.long ((own_lmin (9223372036854775807 : Int64) (-(-pu0))) + (1 : Int64))), .second, oi 0, oi 0] [(.ref rf), (.int (-ca)), (.int (2 : Int32)), (.ref re)])) (st186) ?_
      refine own_go (st' := T186.setTop (mkF m 348 #[oR a1, oR sl, oR sp, oi 0, .val (.long (own_lmin (9223372036854775807 : Int64) (-(-pu0)))), .second, .val (.long ((own_lmin (9223372036854775807 : Int64) (-(-pu0))) + (1 : Int64))), .second, oi 0, oi 0] [(.int (0 : Int32)), (.ref rf), (.int (-ca)), (.int (2 : Int32)), (.ref re)])) (fun _ k => XS.iload X186.here hx rfl (hb hby d8_346) rfl k) ?_
      have c187 : Arv Z h175 rf krf .int (2 : Int32) [(.int ca), (.int (0 : Int32))] (.int (0 : Int32)) := (v167.other W175 (own_ne (by omega)))
      obtain ⟨cl188, Ar188, -, S188, M188, H188, -⟩ := id c187
      have hin188 : ¬ ((0 : Int32) < 0 ∨ cl188.slots.size ≤ ((0 : Int32)).toNatClampNeg) := (inb_of S188 ⟨by decide, by decide⟩)
      have hat188 : cl188.slots[((0 : Int32)).toNatClampNeg]? = some (.int ca) := (H188.at hin188 rfl)
      refine own_go (st' := T186.setTop (mkF m 349 #[oR a1, oR sl, oR sp, oi 0, .val (.long (own_lmin (9223372036854775807 : Int64) (-(-pu0)))), .second, .val (.long ((own_lmin (9223372036854775807 : Int64) (-(-pu0))) + (1 : Int64))), .second, oi 0, oi 0] [(.int ca), (.int (-ca)), (.int (2 : Int32)), (.ref re)])) (X186.iaload hx (j := (0 : Int32)) (v := (.int ca)) (by rw [e186]; exact Ar188.1) (State.isArrayOf_alike hZ.alike Ar188.2.1) Ar188.2.2 hin188 hat188 (g := (mkF m 348 #[oR a1, oR sl, oR sp, oi 0, .val (.long (own_lmin (9223372036854775807 : Int64) (-(-pu0)))), .second, .val (.long ((own_lmin (9223372036854775807 : Int64) (-(-pu0))) + (1 : Int64))), .second, oi 0, oi 0] [(.int (0 : Int32)), (.ref rf), (.int (-ca)), (.int (2 : Int32)), (.ref re)])) rfl rfl (hb hby d8_348)) ?_
      refine own_go (st' := T186.setTop (mkF m 350 #[oR a1, oR sl, oR sp, oi 0, .val (.long (own_lmin (9223372036854775807 : Int64) (-(-pu0)))), .second, .val (.long ((own_lmin (9223372036854775807 : Int64) (-(-pu0))) + (1 : Int64))), .second, oi 0, oi 0] [(.int ((-ca) + ca)), (.int (2 : Int32)), (.ref re)])) (fun _ k => XS.iadd X186.here hx rfl (hb hby d8_349) rfl k) ?_
      obtain ⟨cl189, Ar189, qc189, S189, M189, H189, G189⟩ := id v175
      have hin189 : ¬ ((2 : Int32) < 0 ∨ cl189.slots.size ≤ ((2 : Int32)).toNatClampNeg) := (inb_of S189 ⟨by decide, by decide⟩)
      obtain ⟨T189, h189, X189, e189, W189, st189⟩ := stI X186 hx hZ e186 Ar189 (j := (2 : Int32)) hin189 (g := (mkF m 350 #[oR a1, oR sl, oR sp, oi 0, .val (.long (own_lmin (9223372036854775807 : Int64) (-(-pu0)))), .second, .val (.long ((own_lmin (9223372036854775807 : Int64) (-(-pu0))) + (1 : Int64))), .second, oi 0, oi 0] [(.int ((-ca) + ca)), (.int (2 : Int32)), (.ref re)])) rfl rfl (hb hby d8_350)
      have sz189 : h189.size = h175.size := W189.size
      have N189 := Fr.snoc X189 N175 (by omega)
      have v189 : Arv Z h189 re kre .int (5 : Int32) [(.int (ca - ca)), (.int cb), (.int ((-ca) + ca)), (.int (-cb)), (.int (((-tt) + ca) + cb))] (.int (0 : Int32)) := Arv.set Ar189 qc189 S189 M189 H189 G189 rfl W189 2 rfl (Nat.le_of_ble_eq_true rfl)
      refine own_go (st' := T189.setTop (mkF m 351 #[oR a1, oR sl, oR sp, oi 0, .val (.long (own_lmin (9223372036854775807 : Int64) (-(-pu0)))), .second, .val (.long ((own_lmin (9223372036854775807 : Int64) (-(-pu0))) + (1 : Int64))), .second, oi 0, oi 0] [])) (st189) ?_
      refine own_go (st' := T189.setTop (mkF m 354 #[oR a1, oR sl, oR sp, oi 0, .val (.long (own_lmin (9223372036854775807 : Int64) (-(-pu0)))), .second, .val (.long ((own_lmin (9223372036854775807 : Int64) (-(-pu0))) + (1 : Int64))), .second, oi 1, oi 0] [])) (fun _ k => XS.iinc X189.here hx rfl (hb hby d8_351) rfl (l' := #[oR a1, oR sl, oR sp, oi 0, .val (.long (own_lmin (9223372036854775807 : Int64) (-(-pu0)))), .second, .val (.long ((own_lmin (9223372036854775807 : Int64) (-(-pu0))) + (1 : Int64))), .second, oi 1, oi 0]) (by rw [show ((0 : Int32) + Int32.ofInt 1) = (1 : Int32) by decide]; rfl) k) ?_
      refine own_go (st' := T189.setTop (mkF m 248 #[oR a1, oR sl, oR sp, oi 0, .val (.long (own_lmin (9223372036854775807 : Int64) (-(-pu0)))), .second, .val (.long ((own_lmin (9223372036854775807 : Int64) (-(-pu0))) + (1 : Int64))), .second, oi 1, oi 0] [])) (fun _ k => XS.goto X189.here hx rfl (pc0 := 354) (pc' := 248) rfl (hb hby d8_354) (by decide) (by decide) k) ?_
      refine own_go (st' := T189.setTop (mkF m 250 #[oR a1, oR sl, oR sp, oi 0, .val (.long (own_lmin (9223372036854775807 : Int64) (-(-pu0)))), .second, .val (.long ((own_lmin (9223372036854775807 : Int64) (-(-pu0))) + (1 : Int64))), .second, oi 1, oi 0] [(.int (1 : Int32))])) (fun _ k => XS.iload X189.here hx rfl (hb hby d8_248) rfl k) ?_
      refine own_go (st' := T189.setTop (mkF m 251 #[oR a1, oR sl, oR sp, oi 0, .val (.long (own_lmin (9223372036854775807 : Int64) (-(-pu0)))), .second, .val (.long ((own_lmin (9223372036854775807 : Int64) (-(-pu0))) + (1 : Int64))), .second, oi 1, oi 0] [(.ref a1), (.int (1 : Int32))])) (fun _ k => XS.aloadN X189.here hx rfl (hb hby d8_250) rfl rfl k) ?_
      have c190 : Fld Z h189 a1 oS0 oS2 "[I" (.ref rts) := (((c139.other W167 (Or.inl (own_ne (by omega)))).other W175 (Or.inl (own_ne (by omega)))).other W189 (Or.inl (own_ne (by omega))))
      obtain ⟨T191, X191, e191, st191⟩ := getF X189 hx hZ hown (host := "") (Or.inl (own_hw hw 29)) Via.refl e189 c190 (g := (mkF m 251 #[oR a1, oR sl, oR sp, oi 0, .val (.long (own_lmin (9223372036854775807 : Int64) (-(-pu0)))), .second, .val (.long ((own_lmin (9223372036854775807 : Int64) (-(-pu0))) + (1 : Int64))), .second, oi 1, oi 0] [(.ref a1), (.int (1 : Int32))])) rfl rfl (hb hby d8_251)
      refine own_go (st' := T191.setTop (mkF m 254 #[oR a1, oR sl, oR sp, oi 0, .val (.long (own_lmin (9223372036854775807 : Int64) (-(-pu0)))), .second, .val (.long ((own_lmin (9223372036854775807 : Int64) (-(-pu0))) + (1 : Int64))), .second, oi 1, oi 0] [(.ref rts), (.int (1 : Int32))])) (st191) ?_
      refine own_go (st' := T191.setTop (mkF m 255 #[oR a1, oR sl, oR sp, oi 0, .val (.long (own_lmin (9223372036854775807 : Int64) (-(-pu0)))), .second, .val (.long ((own_lmin (9223372036854775807 : Int64) (-(-pu0))) + (1 : Int64))), .second, oi 1, oi 0] [(.int (0 : Int32)), (.ref rts), (.int (1 : Int32))])) (fun _ k => XS.iloadN X191.here hx rfl (hb hby d8_254) rfl k) ?_
      refine own_go (st' := T191.setTop (mkF m 256 #[oR a1, oR sl, oR sp, oi 0, .val (.long (own_lmin (9223372036854775807 : Int64) (-(-pu0)))), .second, .val (.long ((own_lmin (9223372036854775807 : Int64) (-(-pu0))) + (1 : Int64))), .second, oi 1, oi 0] [(.int (1 : Int32)), (.int (0 : Int32)), (.ref rts), (.int (1 : Int32))])) (fun _ k => XS.iconst X191.here hx rfl (hb hby d8_255) k) ?_
      refine own_go (st' := T191.setTop (mkF m 257 #[oR a1, oR sl, oR sp, oi 0, .val (.long (own_lmin (9223372036854775807 : Int64) (-(-pu0)))), .second, .val (.long ((own_lmin (9223372036854775807 : Int64) (-(-pu0))) + (1 : Int64))), .second, oi 1, oi 0] [(.int (1 : Int32)), (.ref rts), (.int (1 : Int32))])) (fun _ k => XS.iadd X191.here hx rfl (hb hby d8_256) rfl (by rw [show ((0 : Int32) + (1 : Int32)) = (1 : Int32) by decide]; exact k)) ?_
      have c192 : Arv Z h189 rts krts .int (3 : Int32) [(.int (0 : Int32)), (.int (1 : Int32)), (.int (2 : Int32))] (.int (0 : Int32)) := (((c141.other W167 (own_ne (by omega))).other W175 (own_ne (by omega))).other W189 (own_ne (by omega)))
      obtain ⟨cl193, Ar193, -, S193, M193, H193, -⟩ := id c192
      have hin193 : ¬ ((1 : Int32) < 0 ∨ cl193.slots.size ≤ ((1 : Int32)).toNatClampNeg) := (inb_of S193 ⟨by decide, by decide⟩)
      have hat193 : cl193.slots[((1 : Int32)).toNatClampNeg]? = some (.int (1 : Int32)) := (H193.at hin193 rfl)
      refine own_go (st' := T191.setTop (mkF m 258 #[oR a1, oR sl, oR sp, oi 0, .val (.long (own_lmin (9223372036854775807 : Int64) (-(-pu0)))), .second, .val (.long ((own_lmin (9223372036854775807 : Int64) (-(-pu0))) + (1 : Int64))), .second, oi 1, oi 0] [(.int (1 : Int32)), (.int (1 : Int32))])) (X191.iaload hx (j := (1 : Int32)) (v := (.int (1 : Int32))) (by rw [e191]; exact Ar193.1) (State.isArrayOf_alike hZ.alike Ar193.2.1) Ar193.2.2 hin193 hat193 (g := (mkF m 257 #[oR a1, oR sl, oR sp, oi 0, .val (.long (own_lmin (9223372036854775807 : Int64) (-(-pu0)))), .second, .val (.long ((own_lmin (9223372036854775807 : Int64) (-(-pu0))) + (1 : Int64))), .second, oi 1, oi 0] [(.int (1 : Int32)), (.ref rts), (.int (1 : Int32))])) rfl rfl (hb hby d8_257)) ?_
      have hc194 : ¬ ((1 : Int32) < (1 : Int32)) := by decide
      refine own_go (st' := T191.setTop (mkF m 357 #[oR a1, oR sl, oR sp, oi 0, .val (.long (own_lmin (9223372036854775807 : Int64) (-(-pu0)))), .second, .val (.long ((own_lmin (9223372036854775807 : Int64) (-(-pu0))) + (1 : Int64))), .second, oi 1, oi 0] [])) (fun _ k => XS.icmpYes X191.here hx rfl (pc0 := 258) (pc' := 357) rfl (hb hby d8_258) rfl (flt hc194).2.1 (by decide) (by decide) k) ?_
      refine own_go (st' := T191.setTop (mkF m 360 #[oR a1, oR sl, oR sp, oi 1, .val (.long (own_lmin (9223372036854775807 : Int64) (-(-pu0)))), .second, .val (.long ((own_lmin (9223372036854775807 : Int64) (-(-pu0))) + (1 : Int64))), .second, oi 1, oi 0] [])) (fun _ k => XS.iinc X191.here hx rfl (hb hby d8_357) rfl (l' := #[oR a1, oR sl, oR sp, oi 1, .val (.long (own_lmin (9223372036854775807 : Int64) (-(-pu0)))), .second, .val (.long ((own_lmin (9223372036854775807 : Int64) (-(-pu0))) + (1 : Int64))), .second, oi 1, oi 0]) (by rw [show ((0 : Int32) + Int32.ofInt 1) = (1 : Int32) by decide]; rfl) k) ?_
      refine own_go (st' := T191.setTop (mkF m 155 #[oR a1, oR sl, oR sp, oi 1, .val (.long (own_lmin (9223372036854775807 : Int64) (-(-pu0)))), .second, .val (.long ((own_lmin (9223372036854775807 : Int64) (-(-pu0))) + (1 : Int64))), .second, oi 1, oi 0] [])) (fun _ k => XS.goto X191.here hx rfl (pc0 := 360) (pc' := 155) rfl (hb hby d8_360) (by decide) (by decide) k) ?_
      refine own_go (st' := T191.setTop (mkF m 156 #[oR a1, oR sl, oR sp, oi 1, .val (.long (own_lmin (9223372036854775807 : Int64) (-(-pu0)))), .second, .val (.long ((own_lmin (9223372036854775807 : Int64) (-(-pu0))) + (1 : Int64))), .second, oi 1, oi 0] [(.int (1 : Int32))])) (fun _ k => XS.iloadN X191.here hx rfl (hb hby d8_155) rfl k) ?_
      refine own_go (st' := T191.setTop (mkF m 157 #[oR a1, oR sl, oR sp, oi 1, .val (.long (own_lmin (9223372036854775807 : Int64) (-(-pu0)))), .second, .val (.long ((own_lmin (9223372036854775807 : Int64) (-(-pu0))) + (1 : Int64))), .second, oi 1, oi 0] [(.ref a1), (.int (1 : Int32))])) (fun _ k => XS.aloadN X191.here hx rfl (hb hby d8_156) rfl rfl k) ?_
      have c195 : Fld Z h189 a1 oS0 "topicCount" "I" (.int (2 : Int32)) := (c178.other W189 (Or.inl (own_ne (by omega))))
      obtain ⟨T196, X196, e196, st196⟩ := getF X191 hx hZ hown (host := "") (Or.inl (own_hw hw 11)) Via.refl e191 c195 (g := (mkF m 157 #[oR a1, oR sl, oR sp, oi 1, .val (.long (own_lmin (9223372036854775807 : Int64) (-(-pu0)))), .second, .val (.long ((own_lmin (9223372036854775807 : Int64) (-(-pu0))) + (1 : Int64))), .second, oi 1, oi 0] [(.ref a1), (.int (1 : Int32))])) rfl rfl (hb hby d8_157)
      refine own_go (st' := T196.setTop (mkF m 160 #[oR a1, oR sl, oR sp, oi 1, .val (.long (own_lmin (9223372036854775807 : Int64) (-(-pu0)))), .second, .val (.long ((own_lmin (9223372036854775807 : Int64) (-(-pu0))) + (1 : Int64))), .second, oi 1, oi 0] [(.int (2 : Int32)), (.int (1 : Int32))])) (st196) ?_
      have hc197 : (1 : Int32) < (2 : Int32) := by decide
      refine own_go (st' := T196.setTop (mkF m 163 #[oR a1, oR sl, oR sp, oi 1, .val (.long (own_lmin (9223372036854775807 : Int64) (-(-pu0)))), .second, .val (.long ((own_lmin (9223372036854775807 : Int64) (-(-pu0))) + (1 : Int64))), .second, oi 1, oi 0] [])) (fun _ k => XS.icmpNo X196.here hx rfl (hb hby d8_160) rfl (tlt hc197).2.1 k) ?_
      refine own_go (st' := T196.setTop (mkF m 166 #[oR a1, oR sl, oR sp, oi 1, .val (.long (own_lmin (9223372036854775807 : Int64) (-(-pu0)))), .second, .val (.long ((own_lmin (9223372036854775807 : Int64) (-(-pu0))) + (1 : Int64))), .second, oi 1, oi 0] [(.long (9223372036854775807 : Int64))])) (X196.ldc2Long hx hown (mvT hZ (own_hw hw 105)) (g := (mkF m 163 #[oR a1, oR sl, oR sp, oi 1, .val (.long (own_lmin (9223372036854775807 : Int64) (-(-pu0)))), .second, .val (.long ((own_lmin (9223372036854775807 : Int64) (-(-pu0))) + (1 : Int64))), .second, oi 1, oi 0] [])) rfl (hb hby d8_163)) ?_
      refine own_go (st' := T196.setTop (mkF m 168 #[oR a1, oR sl, oR sp, oi 1, .val (.long (9223372036854775807 : Int64)), .second, .val (.long ((own_lmin (9223372036854775807 : Int64) (-(-pu0))) + (1 : Int64))), .second, oi 1, oi 0] [])) (fun _ k => XS.lstore X196.here hx rfl (hb hby d8_166) rfl (l' := #[oR a1, oR sl, oR sp, oi 1, .val (.long (9223372036854775807 : Int64)), .second, .val (.long ((own_lmin (9223372036854775807 : Int64) (-(-pu0))) + (1 : Int64))), .second, oi 1, oi 0]) rfl k) ?_
      refine own_go (st' := T196.setTop (mkF m 169 #[oR a1, oR sl, oR sp, oi 1, .val (.long (9223372036854775807 : Int64)), .second, .val (.long ((own_lmin (9223372036854775807 : Int64) (-(-pu0))) + (1 : Int64))), .second, oi 1, oi 0] [(.ref a1)])) (fun _ k => XS.aloadN X196.here hx rfl (hb hby d8_168) rfl rfl k) ?_
      obtain ⟨T198, X198, e198, st198⟩ := getF X196 hx hZ hown (host := "") (Or.inl (own_hw hw 29)) Via.refl e196 c190 (g := (mkF m 169 #[oR a1, oR sl, oR sp, oi 1, .val (.long (9223372036854775807 : Int64)), .second, .val (.long ((own_lmin (9223372036854775807 : Int64) (-(-pu0))) + (1 : Int64))), .second, oi 1, oi 0] [(.ref a1)])) rfl rfl (hb hby d8_169)
      refine own_go (st' := T198.setTop (mkF m 172 #[oR a1, oR sl, oR sp, oi 1, .val (.long (9223372036854775807 : Int64)), .second, .val (.long ((own_lmin (9223372036854775807 : Int64) (-(-pu0))) + (1 : Int64))), .second, oi 1, oi 0] [(.ref rts)])) (st198) ?_
      refine own_go (st' := T198.setTop (mkF m 173 #[oR a1, oR sl, oR sp, oi 1, .val (.long (9223372036854775807 : Int64)), .second, .val (.long ((own_lmin (9223372036854775807 : Int64) (-(-pu0))) + (1 : Int64))), .second, oi 1, oi 0] [(.int (1 : Int32)), (.ref rts)])) (fun _ k => XS.iloadN X198.here hx rfl (hb hby d8_172) rfl k) ?_
      obtain ⟨cl199, Ar199, -, S199, M199, H199, -⟩ := id c192
      have hin199 : ¬ ((1 : Int32) < 0 ∨ cl199.slots.size ≤ ((1 : Int32)).toNatClampNeg) := (inb_of S199 ⟨by decide, by decide⟩)
      have hat199 : cl199.slots[((1 : Int32)).toNatClampNeg]? = some (.int (1 : Int32)) := (H199.at hin199 rfl)
      refine own_go (st' := T198.setTop (mkF m 174 #[oR a1, oR sl, oR sp, oi 1, .val (.long (9223372036854775807 : Int64)), .second, .val (.long ((own_lmin (9223372036854775807 : Int64) (-(-pu0))) + (1 : Int64))), .second, oi 1, oi 0] [(.int (1 : Int32))])) (X198.iaload hx (j := (1 : Int32)) (v := (.int (1 : Int32))) (by rw [e198]; exact Ar199.1) (State.isArrayOf_alike hZ.alike Ar199.2.1) Ar199.2.2 hin199 hat199 (g := (mkF m 173 #[oR a1, oR sl, oR sp, oi 1, .val (.long (9223372036854775807 : Int64)), .second, .val (.long ((own_lmin (9223372036854775807 : Int64) (-(-pu0))) + (1 : Int64))), .second, oi 1, oi 0] [(.int (1 : Int32)), (.ref rts)])) rfl rfl (hb hby d8_173)) ?_
      refine own_go (st' := T198.setTop (mkF m 176 #[oR a1, oR sl, oR sp, oi 1, .val (.long (9223372036854775807 : Int64)), .second, oi 1, .unset, oi 1, oi 0] [])) (fun _ k => XS.istore X198.here hx rfl (hb hby d8_174) rfl (l' := #[oR a1, oR sl, oR sp, oi 1, .val (.long (9223372036854775807 : Int64)), .second, oi 1, .unset, oi 1, oi 0]) rfl k) ?_
      refine own_go (st' := T198.setTop (mkF m 178 #[oR a1, oR sl, oR sp, oi 1, .val (.long (9223372036854775807 : Int64)), .second, oi 1, .unset, oi 1, oi 0] [(.int (1 : Int32))])) (fun _ k => XS.iload X198.here hx rfl (hb hby d8_176) rfl k) ?_
      refine own_go (st' := T198.setTop (mkF m 179 #[oR a1, oR sl, oR sp, oi 1, .val (.long (9223372036854775807 : Int64)), .second, oi 1, .unset, oi 1, oi 0] [(.ref a1), (.int (1 : Int32))])) (fun _ k => XS.aloadN X198.here hx rfl (hb hby d8_178) rfl rfl k) ?_
      obtain ⟨T200, X200, e200, st200⟩ := getF X198 hx hZ hown (host := "") (Or.inl (own_hw hw 29)) Via.refl e198 c190 (g := (mkF m 179 #[oR a1, oR sl, oR sp, oi 1, .val (.long (9223372036854775807 : Int64)), .second, oi 1, .unset, oi 1, oi 0] [(.ref a1), (.int (1 : Int32))])) rfl rfl (hb hby d8_179)
      refine own_go (st' := T200.setTop (mkF m 182 #[oR a1, oR sl, oR sp, oi 1, .val (.long (9223372036854775807 : Int64)), .second, oi 1, .unset, oi 1, oi 0] [(.ref rts), (.int (1 : Int32))])) (st200) ?_
      refine own_go (st' := T200.setTop (mkF m 183 #[oR a1, oR sl, oR sp, oi 1, .val (.long (9223372036854775807 : Int64)), .second, oi 1, .unset, oi 1, oi 0] [(.int (1 : Int32)), (.ref rts), (.int (1 : Int32))])) (fun _ k => XS.iloadN X200.here hx rfl (hb hby d8_182) rfl k) ?_
      refine own_go (st' := T200.setTop (mkF m 184 #[oR a1, oR sl, oR sp, oi 1, .val (.long (9223372036854775807 : Int64)), .second, oi 1, .unset, oi 1, oi 0] [(.int (1 : Int32)), (.int (1 : Int32)), (.ref rts), (.int (1 : Int32))])) (fun _ k => XS.iconst X200.here hx rfl (hb hby d8_183) k) ?_
      refine own_go (st' := T200.setTop (mkF m 185 #[oR a1, oR sl, oR sp, oi 1, .val (.long (9223372036854775807 : Int64)), .second, oi 1, .unset, oi 1, oi 0] [(.int (2 : Int32)), (.ref rts), (.int (1 : Int32))])) (fun _ k => XS.iadd X200.here hx rfl (hb hby d8_184) rfl (by rw [show ((1 : Int32) + (1 : Int32)) = (2 : Int32) by decide]; exact k)) ?_
      obtain ⟨cl201, Ar201, -, S201, M201, H201, -⟩ := id c192
      have hin201 : ¬ ((2 : Int32) < 0 ∨ cl201.slots.size ≤ ((2 : Int32)).toNatClampNeg) := (inb_of S201 ⟨by decide, by decide⟩)
      have hat201 : cl201.slots[((2 : Int32)).toNatClampNeg]? = some (.int (2 : Int32)) := (H201.at hin201 rfl)
      refine own_go (st' := T200.setTop (mkF m 186 #[oR a1, oR sl, oR sp, oi 1, .val (.long (9223372036854775807 : Int64)), .second, oi 1, .unset, oi 1, oi 0] [(.int (2 : Int32)), (.int (1 : Int32))])) (X200.iaload hx (j := (2 : Int32)) (v := (.int (2 : Int32))) (by rw [e200]; exact Ar201.1) (State.isArrayOf_alike hZ.alike Ar201.2.1) Ar201.2.2 hin201 hat201 (g := (mkF m 185 #[oR a1, oR sl, oR sp, oi 1, .val (.long (9223372036854775807 : Int64)), .second, oi 1, .unset, oi 1, oi 0] [(.int (2 : Int32)), (.ref rts), (.int (1 : Int32))])) rfl rfl (hb hby d8_185)) ?_
      have hc202 : (1 : Int32) < (2 : Int32) := by decide
      refine own_go (st' := T200.setTop (mkF m 189 #[oR a1, oR sl, oR sp, oi 1, .val (.long (9223372036854775807 : Int64)), .second, oi 1, .unset, oi 1, oi 0] [])) (fun _ k => XS.icmpNo X200.here hx rfl (hb hby d8_186) rfl (tlt hc202).2.1 k) ?_
      refine own_go (st' := T200.setTop (mkF m 191 #[oR a1, oR sl, oR sp, oi 1, .val (.long (9223372036854775807 : Int64)), .second, oi 1, .unset, oi 1, oi 0] [(.long (9223372036854775807 : Int64))])) (fun _ k => XS.lload X200.here hx rfl (hb hby d8_189) rfl k) ?_
      refine own_go (st' := T200.setTop (mkF m 192 #[oR a1, oR sl, oR sp, oi 1, .val (.long (9223372036854775807 : Int64)), .second, oi 1, .unset, oi 1, oi 0] [(.ref a1), (.long (9223372036854775807 : Int64))])) (fun _ k => XS.aloadN X200.here hx rfl (hb hby d8_191) rfl rfl k) ?_
      have c203 : Fld Z h189 a1 oS0 "potential" "[J" (.ref rp) := (((c150.other W167 (Or.inl (own_ne (by omega)))).other W175 (Or.inl (own_ne (by omega)))).other W189 (Or.inl (own_ne (by omega))))
      obtain ⟨T204, X204, e204, st204⟩ := getF X200 hx hZ hown (host := "") (Or.inl (own_hw hw 60)) Via.refl e200 c203 (g := (mkF m 192 #[oR a1, oR sl, oR sp, oi 1, .val (.long (9223372036854775807 : Int64)), .second, oi 1, .unset, oi 1, oi 0] [(.ref a1), (.long (9223372036854775807 : Int64))])) rfl rfl (hb hby d8_192)
      refine own_go (st' := T204.setTop (mkF m 195 #[oR a1, oR sl, oR sp, oi 1, .val (.long (9223372036854775807 : Int64)), .second, oi 1, .unset, oi 1, oi 0] [(.ref rp), (.long (9223372036854775807 : Int64))])) (st204) ?_
      refine own_go (st' := T204.setTop (mkF m 196 #[oR a1, oR sl, oR sp, oi 1, .val (.long (9223372036854775807 : Int64)), .second, oi 1, .unset, oi 1, oi 0] [(.ref a1), (.ref rp), (.long (9223372036854775807 : Int64))])) (fun _ k => XS.aloadN X204.here hx rfl (hb hby d8_195) rfl rfl k) ?_
      obtain ⟨T205, X205, e205, st205⟩ := getF X204 hx hZ hown (host := "") (Or.inl (own_hw hw 11)) Via.refl e204 c195 (g := (mkF m 196 #[oR a1, oR sl, oR sp, oi 1, .val (.long (9223372036854775807 : Int64)), .second, oi 1, .unset, oi 1, oi 0] [(.ref a1), (.ref rp), (.long (9223372036854775807 : Int64))])) rfl rfl (hb hby d8_196)
      refine own_go (st' := T205.setTop (mkF m 199 #[oR a1, oR sl, oR sp, oi 1, .val (.long (9223372036854775807 : Int64)), .second, oi 1, .unset, oi 1, oi 0] [(.int (2 : Int32)), (.ref rp), (.long (9223372036854775807 : Int64))])) (st205) ?_
      refine own_go (st' := T205.setTop (mkF m 200 #[oR a1, oR sl, oR sp, oi 1, .val (.long (9223372036854775807 : Int64)), .second, oi 1, .unset, oi 1, oi 0] [(.ref a1), (.int (2 : Int32)), (.ref rp), (.long (9223372036854775807 : Int64))])) (fun _ k => XS.aloadN X205.here hx rfl (hb hby d8_199) rfl rfl k) ?_
      have c206 : Fld Z h189 a1 oS0 "arcUnit" "[I" (.ref au) := (c180.other W189 (Or.inl (own_ne (by omega))))
      obtain ⟨T207, X207, e207, st207⟩ := getF X205 hx hZ hown (host := "") (Or.inl (own_hw hw 23)) Via.refl e205 c206 (g := (mkF m 200 #[oR a1, oR sl, oR sp, oi 1, .val (.long (9223372036854775807 : Int64)), .second, oi 1, .unset, oi 1, oi 0] [(.ref a1), (.int (2 : Int32)), (.ref rp), (.long (9223372036854775807 : Int64))])) rfl rfl (hb hby d8_200)
      refine own_go (st' := T207.setTop (mkF m 203 #[oR a1, oR sl, oR sp, oi 1, .val (.long (9223372036854775807 : Int64)), .second, oi 1, .unset, oi 1, oi 0] [(.ref au), (.int (2 : Int32)), (.ref rp), (.long (9223372036854775807 : Int64))])) (st207) ?_
      refine own_go (st' := T207.setTop (mkF m 204 #[oR a1, oR sl, oR sp, oi 1, .val (.long (9223372036854775807 : Int64)), .second, oi 1, .unset, oi 1, oi 0] [(.ref a1), (.ref au), (.int (2 : Int32)), (.ref rp), (.long (9223372036854775807 : Int64))])) (fun _ k => XS.aloadN X207.here hx rfl (hb hby d8_203) rfl rfl k) ?_
      have c208 : Fld Z h189 a1 oS0 "topicArcs" "[I" (.ref rta) := (((c146.other W167 (Or.inl (own_ne (by omega)))).other W175 (Or.inl (own_ne (by omega)))).other W189 (Or.inl (own_ne (by omega))))
      obtain ⟨T209, X209, e209, st209⟩ := getF X207 hx hZ hown (host := "") (Or.inl (own_hw hw 46)) Via.refl e207 c208 (g := (mkF m 204 #[oR a1, oR sl, oR sp, oi 1, .val (.long (9223372036854775807 : Int64)), .second, oi 1, .unset, oi 1, oi 0] [(.ref a1), (.ref au), (.int (2 : Int32)), (.ref rp), (.long (9223372036854775807 : Int64))])) rfl rfl (hb hby d8_204)
      refine own_go (st' := T209.setTop (mkF m 207 #[oR a1, oR sl, oR sp, oi 1, .val (.long (9223372036854775807 : Int64)), .second, oi 1, .unset, oi 1, oi 0] [(.ref rta), (.ref au), (.int (2 : Int32)), (.ref rp), (.long (9223372036854775807 : Int64))])) (st209) ?_
      refine own_go (st' := T209.setTop (mkF m 209 #[oR a1, oR sl, oR sp, oi 1, .val (.long (9223372036854775807 : Int64)), .second, oi 1, .unset, oi 1, oi 0] [(.int (1 : Int32)), (.ref rta), (.ref au), (.int (2 : Int32)), (.ref rp), (.long (9223372036854775807 : Int64))])) (fun _ k => XS.iload X209.here hx rfl (hb hby d8_207) rfl k) ?_
      have c210 : Arv Z h189 rta krta .int (2 : Int32) [(.int (0 : Int32)), (.int (1 : Int32))] (.int (0 : Int32)) := (((c148.other W167 (own_ne (by omega))).other W175 (own_ne (by omega))).other W189 (own_ne (by omega)))
      obtain ⟨cl211, Ar211, -, S211, M211, H211, -⟩ := id c210
      have hin211 : ¬ ((1 : Int32) < 0 ∨ cl211.slots.size ≤ ((1 : Int32)).toNatClampNeg) := (inb_of S211 ⟨by decide, by decide⟩)
      have hat211 : cl211.slots[((1 : Int32)).toNatClampNeg]? = some (.int (1 : Int32)) := (H211.at hin211 rfl)
      refine own_go (st' := T209.setTop (mkF m 210 #[oR a1, oR sl, oR sp, oi 1, .val (.long (9223372036854775807 : Int64)), .second, oi 1, .unset, oi 1, oi 0] [(.int (1 : Int32)), (.ref au), (.int (2 : Int32)), (.ref rp), (.long (9223372036854775807 : Int64))])) (X209.iaload hx (j := (1 : Int32)) (v := (.int (1 : Int32))) (by rw [e209]; exact Ar211.1) (State.isArrayOf_alike hZ.alike Ar211.2.1) Ar211.2.2 hin211 hat211 (g := (mkF m 209 #[oR a1, oR sl, oR sp, oi 1, .val (.long (9223372036854775807 : Int64)), .second, oi 1, .unset, oi 1, oi 0] [(.int (1 : Int32)), (.ref rta), (.ref au), (.int (2 : Int32)), (.ref rp), (.long (9223372036854775807 : Int64))])) rfl rfl (hb hby d8_209)) ?_
      have c212 : Arv Z h189 au kau .int (2 : Int32) [(.int (0 : Int32)), (.int (1 : Int32))] (.int (0 : Int32)) := (c182.other W189 (own_ne (by omega)))
      obtain ⟨cl213, Ar213, -, S213, M213, H213, -⟩ := id c212
      have hin213 : ¬ ((1 : Int32) < 0 ∨ cl213.slots.size ≤ ((1 : Int32)).toNatClampNeg) := (inb_of S213 ⟨by decide, by decide⟩)
      have hat213 : cl213.slots[((1 : Int32)).toNatClampNeg]? = some (.int (1 : Int32)) := (H213.at hin213 rfl)
      refine own_go (st' := T209.setTop (mkF m 211 #[oR a1, oR sl, oR sp, oi 1, .val (.long (9223372036854775807 : Int64)), .second, oi 1, .unset, oi 1, oi 0] [(.int (1 : Int32)), (.int (2 : Int32)), (.ref rp), (.long (9223372036854775807 : Int64))])) (X209.iaload hx (j := (1 : Int32)) (v := (.int (1 : Int32))) (by rw [e209]; exact Ar213.1) (State.isArrayOf_alike hZ.alike Ar213.2.1) Ar213.2.2 hin213 hat213 (g := (mkF m 210 #[oR a1, oR sl, oR sp, oi 1, .val (.long (9223372036854775807 : Int64)), .second, oi 1, .unset, oi 1, oi 0] [(.int (1 : Int32)), (.ref au), (.int (2 : Int32)), (.ref rp), (.long (9223372036854775807 : Int64))])) rfl rfl (hb hby d8_210)) ?_
      refine own_go (st' := T209.setTop (mkF m 212 #[oR a1, oR sl, oR sp, oi 1, .val (.long (9223372036854775807 : Int64)), .second, oi 1, .unset, oi 1, oi 0] [(.int (3 : Int32)), (.ref rp), (.long (9223372036854775807 : Int64))])) (fun _ k => XS.iadd X209.here hx rfl (hb hby d8_211) rfl (by rw [show ((2 : Int32) + (1 : Int32)) = (3 : Int32) by decide]; exact k)) ?_
      have c214 : Arv Z h189 rp krp .long (5 : Int32) [(.long (-((own_lmin (9223372036854775807 : Int64) (-(-pu0))) + (1 : Int64)))), (.long (0 : Int64)), (.long (-pu0)), (.long (-pu1)), (.long (0 : Int64))] (.long (0 : Int64)) := (((v138.other W167 (own_ne (by omega))).other W175 (own_ne (by omega))).other W189 (own_ne (by omega)))
      obtain ⟨cl215, Ar215, -, S215, M215, H215, -⟩ := id c214
      have hin215 : ¬ ((3 : Int32) < 0 ∨ cl215.slots.size ≤ ((3 : Int32)).toNatClampNeg) := (inb_of S215 ⟨by decide, by decide⟩)
      have hat215 : cl215.slots[((3 : Int32)).toNatClampNeg]? = some (.long (-pu1)) := (H215.at hin215 rfl)
      refine own_go (st' := T209.setTop (mkF m 213 #[oR a1, oR sl, oR sp, oi 1, .val (.long (9223372036854775807 : Int64)), .second, oi 1, .unset, oi 1, oi 0] [(.long (-pu1)), (.long (9223372036854775807 : Int64))])) (X209.laload hx (j := (3 : Int32)) (v := (.long (-pu1))) (by rw [e209]; exact Ar215.1) (State.isArrayOf_alike hZ.alike Ar215.2.1) Ar215.2.2 hin215 hat215 (g := (mkF m 212 #[oR a1, oR sl, oR sp, oi 1, .val (.long (9223372036854775807 : Int64)), .second, oi 1, .unset, oi 1, oi 0] [(.int (3 : Int32)), (.ref rp), (.long (9223372036854775807 : Int64))])) rfl rfl (hb hby d8_212)) ?_
      refine own_go (st' := T209.setTop (mkF m 214 #[oR a1, oR sl, oR sp, oi 1, .val (.long (9223372036854775807 : Int64)), .second, oi 1, .unset, oi 1, oi 0] [(.long (-(-pu1))), (.long (9223372036854775807 : Int64))])) (fun _ k => XS.lneg X209.here hx rfl (hb hby d8_213) rfl k) ?_
      obtain ⟨_, _, ⟨T216, LC216, kC216, nC216⟩, -, X216, ⟨Lc216, hQ216, lq216, yq216, zq216⟩, st216⟩ := Jvm.LawKit.callS X209 hx (y := oM3) hown (mvT hZ (own_hw hw 102)) (mvT hZ (own_hw hw 103)) (mvT hZ (own_hw hw 40)) (mvT hZ (own_hw hw 104)) (by decide) (backOf (W := 0) (rm10 l Z a0 hw [] (9223372036854775807 : Int64) (-(-pu1)) h189 n0 (by omega) ) hZ (own_hw hw 104) (own_hw hw 40) (by decide) (by decide)) (g := (mkF m 214 #[oR a1, oR sl, oR sp, oi 1, .val (.long (9223372036854775807 : Int64)), .second, oi 1, .unset, oi 1, oi 0] [(.long (-(-pu1))), (.long (9223372036854775807 : Int64))])) rfl (by rw [hml]; rfl) (argsL := [(.long (9223372036854775807 : Int64)), (.long (-(-pu1)))]) (rest := []) (lenOf pd_6 rfl) rfl (by show 2 * 0 + _ ≤ _; exact Nat.le_of_eq rfl) (hb hby d8_214) (fun _ _ => ⟨rfl, e209, (by decide : 0 + 0 ≤ _), (by decide : 0 + 0 ≤ _)⟩)
      dsimp only [Pt.U, Pt.locs, Pt.cells, Pt.slots] at X216 lq216 yq216 zq216 st216 hQ216
      subst lq216 yq216 zq216
      obtain ⟨rfl, Nq216, eq216⟩ := hQ216
      have N216 := Fr.app N189 Nq216
      refine own_go (st' := T216.setTop (mkF m 217 #[oR a1, oR sl, oR sp, oi 1, .val (.long (9223372036854775807 : Int64)), .second, oi 1, .unset, oi 1, oi 0] [(.long (own_lmin (9223372036854775807 : Int64) (-(-pu1))))])) (fun t k => st216 t k) ?_
      refine own_go (st' := T216.setTop (mkF m 219 #[oR a1, oR sl, oR sp, oi 1, .val (.long (own_lmin (9223372036854775807 : Int64) (-(-pu1)))), .second, oi 1, .unset, oi 1, oi 0] [])) (fun _ k => XS.lstore X216.here hx rfl (hb hby d8_217) rfl (l' := #[oR a1, oR sl, oR sp, oi 1, .val (.long (own_lmin (9223372036854775807 : Int64) (-(-pu1)))), .second, oi 1, .unset, oi 1, oi 0]) rfl k) ?_
      refine own_go (st' := T216.setTop (mkF m 222 #[oR a1, oR sl, oR sp, oi 1, .val (.long (own_lmin (9223372036854775807 : Int64) (-(-pu1)))), .second, oi 2, .unset, oi 1, oi 0] [])) (fun _ k => XS.iinc X216.here hx rfl (hb hby d8_219) rfl (l' := #[oR a1, oR sl, oR sp, oi 1, .val (.long (own_lmin (9223372036854775807 : Int64) (-(-pu1)))), .second, oi 2, .unset, oi 1, oi 0]) (by rw [show ((1 : Int32) + Int32.ofInt 1) = (2 : Int32) by decide]; rfl) k) ?_
      refine own_go (st' := T216.setTop (mkF m 176 #[oR a1, oR sl, oR sp, oi 1, .val (.long (own_lmin (9223372036854775807 : Int64) (-(-pu1)))), .second, oi 2, .unset, oi 1, oi 0] [])) (fun _ k => XS.goto X216.here hx rfl (pc0 := 222) (pc' := 176) rfl (hb hby d8_222) (by decide) (by decide) k) ?_
      refine own_go (st' := T216.setTop (mkF m 178 #[oR a1, oR sl, oR sp, oi 1, .val (.long (own_lmin (9223372036854775807 : Int64) (-(-pu1)))), .second, oi 2, .unset, oi 1, oi 0] [(.int (2 : Int32))])) (fun _ k => XS.iload X216.here hx rfl (hb hby d8_176) rfl k) ?_
      refine own_go (st' := T216.setTop (mkF m 179 #[oR a1, oR sl, oR sp, oi 1, .val (.long (own_lmin (9223372036854775807 : Int64) (-(-pu1)))), .second, oi 2, .unset, oi 1, oi 0] [(.ref a1), (.int (2 : Int32))])) (fun _ k => XS.aloadN X216.here hx rfl (hb hby d8_178) rfl rfl k) ?_
      obtain ⟨T217, X217, e217, st217⟩ := getF X216 hx hZ hown (host := "") (Or.inl (own_hw hw 29)) Via.refl eq216 c190 (g := (mkF m 179 #[oR a1, oR sl, oR sp, oi 1, .val (.long (own_lmin (9223372036854775807 : Int64) (-(-pu1)))), .second, oi 2, .unset, oi 1, oi 0] [(.ref a1), (.int (2 : Int32))])) rfl rfl (hb hby d8_179)
      refine own_go (st' := T217.setTop (mkF m 182 #[oR a1, oR sl, oR sp, oi 1, .val (.long (own_lmin (9223372036854775807 : Int64) (-(-pu1)))), .second, oi 2, .unset, oi 1, oi 0] [(.ref rts), (.int (2 : Int32))])) (st217) ?_
      refine own_go (st' := T217.setTop (mkF m 183 #[oR a1, oR sl, oR sp, oi 1, .val (.long (own_lmin (9223372036854775807 : Int64) (-(-pu1)))), .second, oi 2, .unset, oi 1, oi 0] [(.int (1 : Int32)), (.ref rts), (.int (2 : Int32))])) (fun _ k => XS.iloadN X217.here hx rfl (hb hby d8_182) rfl k) ?_
      refine own_go (st' := T217.setTop (mkF m 184 #[oR a1, oR sl, oR sp, oi 1, .val (.long (own_lmin (9223372036854775807 : Int64) (-(-pu1)))), .second, oi 2, .unset, oi 1, oi 0] [(.int (1 : Int32)), (.int (1 : Int32)), (.ref rts), (.int (2 : Int32))])) (fun _ k => XS.iconst X217.here hx rfl (hb hby d8_183) k) ?_
      refine own_go (st' := T217.setTop (mkF m 185 #[oR a1, oR sl, oR sp, oi 1, .val (.long (own_lmin (9223372036854775807 : Int64) (-(-pu1)))), .second, oi 2, .unset, oi 1, oi 0] [(.int (2 : Int32)), (.ref rts), (.int (2 : Int32))])) (fun _ k => XS.iadd X217.here hx rfl (hb hby d8_184) rfl (by rw [show ((1 : Int32) + (1 : Int32)) = (2 : Int32) by decide]; exact k)) ?_
      obtain ⟨cl218, Ar218, -, S218, M218, H218, -⟩ := id c192
      have hin218 : ¬ ((2 : Int32) < 0 ∨ cl218.slots.size ≤ ((2 : Int32)).toNatClampNeg) := (inb_of S218 ⟨by decide, by decide⟩)
      have hat218 : cl218.slots[((2 : Int32)).toNatClampNeg]? = some (.int (2 : Int32)) := (H218.at hin218 rfl)
      refine own_go (st' := T217.setTop (mkF m 186 #[oR a1, oR sl, oR sp, oi 1, .val (.long (own_lmin (9223372036854775807 : Int64) (-(-pu1)))), .second, oi 2, .unset, oi 1, oi 0] [(.int (2 : Int32)), (.int (2 : Int32))])) (X217.iaload hx (j := (2 : Int32)) (v := (.int (2 : Int32))) (by rw [e217]; exact Ar218.1) (State.isArrayOf_alike hZ.alike Ar218.2.1) Ar218.2.2 hin218 hat218 (g := (mkF m 185 #[oR a1, oR sl, oR sp, oi 1, .val (.long (own_lmin (9223372036854775807 : Int64) (-(-pu1)))), .second, oi 2, .unset, oi 1, oi 0] [(.int (2 : Int32)), (.ref rts), (.int (2 : Int32))])) rfl rfl (hb hby d8_185)) ?_
      have hc219 : ¬ ((2 : Int32) < (2 : Int32)) := by decide
      refine own_go (st' := T217.setTop (mkF m 225 #[oR a1, oR sl, oR sp, oi 1, .val (.long (own_lmin (9223372036854775807 : Int64) (-(-pu1)))), .second, oi 2, .unset, oi 1, oi 0] [])) (fun _ k => XS.icmpYes X217.here hx rfl (pc0 := 186) (pc' := 225) rfl (hb hby d8_186) rfl (flt hc219).2.1 (by decide) (by decide) k) ?_
      refine own_go (st' := T217.setTop (mkF m 227 #[oR a1, oR sl, oR sp, oi 1, .val (.long (own_lmin (9223372036854775807 : Int64) (-(-pu1)))), .second, oi 2, .unset, oi 1, oi 0] [(.long (own_lmin (9223372036854775807 : Int64) (-(-pu1))))])) (fun _ k => XS.lload X217.here hx rfl (hb hby d8_225) rfl k) ?_
      refine own_go (st' := T217.setTop (mkF m 228 #[oR a1, oR sl, oR sp, oi 1, .val (.long (own_lmin (9223372036854775807 : Int64) (-(-pu1)))), .second, oi 2, .unset, oi 1, oi 0] [(.long (1 : Int64)), (.long (own_lmin (9223372036854775807 : Int64) (-(-pu1))))])) (fun _ k => XS.lconst X217.here hx rfl (hb hby d8_227) k) ?_
      refine own_go (st' := T217.setTop (mkF m 229 #[oR a1, oR sl, oR sp, oi 1, .val (.long (own_lmin (9223372036854775807 : Int64) (-(-pu1)))), .second, oi 2, .unset, oi 1, oi 0] [(.long ((own_lmin (9223372036854775807 : Int64) (-(-pu1))) + (1 : Int64)))])) (fun _ k => XS.ladd X217.here hx rfl (hb hby d8_228) rfl k) ?_
      refine own_go (st' := T217.setTop (mkF m 231 #[oR a1, oR sl, oR sp, oi 1, .val (.long (own_lmin (9223372036854775807 : Int64) (-(-pu1)))), .second, .val (.long ((own_lmin (9223372036854775807 : Int64) (-(-pu1))) + (1 : Int64))), .second, oi 1, oi 0] [])) (fun _ k => XS.lstore X217.here hx rfl (hb hby d8_229) rfl (l' := #[oR a1, oR sl, oR sp, oi 1, .val (.long (own_lmin (9223372036854775807 : Int64) (-(-pu1)))), .second, .val (.long ((own_lmin (9223372036854775807 : Int64) (-(-pu1))) + (1 : Int64))), .second, oi 1, oi 0]) rfl k) ?_
      refine own_go (st' := T217.setTop (mkF m 232 #[oR a1, oR sl, oR sp, oi 1, .val (.long (own_lmin (9223372036854775807 : Int64) (-(-pu1)))), .second, .val (.long ((own_lmin (9223372036854775807 : Int64) (-(-pu1))) + (1 : Int64))), .second, oi 1, oi 0] [(.ref a1)])) (fun _ k => XS.aloadN X217.here hx rfl (hb hby d8_231) rfl rfl k) ?_
      obtain ⟨T220, X220, e220, st220⟩ := getF X217 hx hZ hown (host := "") (Or.inl (own_hw hw 60)) Via.refl e217 c203 (g := (mkF m 232 #[oR a1, oR sl, oR sp, oi 1, .val (.long (own_lmin (9223372036854775807 : Int64) (-(-pu1)))), .second, .val (.long ((own_lmin (9223372036854775807 : Int64) (-(-pu1))) + (1 : Int64))), .second, oi 1, oi 0] [(.ref a1)])) rfl rfl (hb hby d8_232)
      refine own_go (st' := T220.setTop (mkF m 235 #[oR a1, oR sl, oR sp, oi 1, .val (.long (own_lmin (9223372036854775807 : Int64) (-(-pu1)))), .second, .val (.long ((own_lmin (9223372036854775807 : Int64) (-(-pu1))) + (1 : Int64))), .second, oi 1, oi 0] [(.ref rp)])) (st220) ?_
      refine own_go (st' := T220.setTop (mkF m 236 #[oR a1, oR sl, oR sp, oi 1, .val (.long (own_lmin (9223372036854775807 : Int64) (-(-pu1)))), .second, .val (.long ((own_lmin (9223372036854775807 : Int64) (-(-pu1))) + (1 : Int64))), .second, oi 1, oi 0] [(.int (1 : Int32)), (.ref rp)])) (fun _ k => XS.iloadN X220.here hx rfl (hb hby d8_235) rfl k) ?_
      refine own_go (st' := T220.setTop (mkF m 238 #[oR a1, oR sl, oR sp, oi 1, .val (.long (own_lmin (9223372036854775807 : Int64) (-(-pu1)))), .second, .val (.long ((own_lmin (9223372036854775807 : Int64) (-(-pu1))) + (1 : Int64))), .second, oi 1, oi 0] [(.long ((own_lmin (9223372036854775807 : Int64) (-(-pu1))) + (1 : Int64))), (.int (1 : Int32)), (.ref rp)])) (fun _ k => XS.lload X220.here hx rfl (hb hby d8_236) rfl k) ?_
      refine own_go (st' := T220.setTop (mkF m 239 #[oR a1, oR sl, oR sp, oi 1, .val (.long (own_lmin (9223372036854775807 : Int64) (-(-pu1)))), .second, .val (.long ((own_lmin (9223372036854775807 : Int64) (-(-pu1))) + (1 : Int64))), .second, oi 1, oi 0] [(.long (-((own_lmin (9223372036854775807 : Int64) (-(-pu1))) + (1 : Int64)))), (.int (1 : Int32)), (.ref rp)])) (fun _ k => XS.lneg X220.here hx rfl (hb hby d8_238) rfl k) ?_
      obtain ⟨cl221, Ar221, qc221, S221, M221, H221, G221⟩ := id c214
      have hin221 : ¬ ((1 : Int32) < 0 ∨ cl221.slots.size ≤ ((1 : Int32)).toNatClampNeg) := (inb_of S221 ⟨by decide, by decide⟩)
      obtain ⟨T221, h221, X221, e221, W221, st221⟩ := stJ X220 hx hZ e220 Ar221 (j := (1 : Int32)) hin221 (g := (mkF m 239 #[oR a1, oR sl, oR sp, oi 1, .val (.long (own_lmin (9223372036854775807 : Int64) (-(-pu1)))), .second, .val (.long ((own_lmin (9223372036854775807 : Int64) (-(-pu1))) + (1 : Int64))), .second, oi 1, oi 0] [(.long (-((own_lmin (9223372036854775807 : Int64) (-(-pu1))) + (1 : Int64)))), (.int (1 : Int32)), (.ref rp)])) rfl rfl (hb hby d8_239)
      have sz221 : h221.size = h189.size := W221.size
      have N221 := Fr.snoc X221 N216 (by omega)
      have v221 : Arv Z h221 rp krp .long (5 : Int32) [(.long (-((own_lmin (9223372036854775807 : Int64) (-(-pu0))) + (1 : Int64)))), (.long (-((own_lmin (9223372036854775807 : Int64) (-(-pu1))) + (1 : Int64)))), (.long (-pu0)), (.long (-pu1)), (.long (0 : Int64))] (.long (0 : Int64)) := Arv.set Ar221 qc221 S221 M221 H221 G221 rfl W221 1 rfl (Nat.le_of_ble_eq_true rfl)
      refine own_go (st' := T221.setTop (mkF m 240 #[oR a1, oR sl, oR sp, oi 1, .val (.long (own_lmin (9223372036854775807 : Int64) (-(-pu1)))), .second, .val (.long ((own_lmin (9223372036854775807 : Int64) (-(-pu1))) + (1 : Int64))), .second, oi 1, oi 0] [])) (st221) ?_
      refine own_go (st' := T221.setTop (mkF m 241 #[oR a1, oR sl, oR sp, oi 1, .val (.long (own_lmin (9223372036854775807 : Int64) (-(-pu1)))), .second, .val (.long ((own_lmin (9223372036854775807 : Int64) (-(-pu1))) + (1 : Int64))), .second, oi 1, oi 0] [(.ref a1)])) (fun _ k => XS.aloadN X221.here hx rfl (hb hby d8_240) rfl rfl k) ?_
      have c222 : Fld Z h221 a1 oS0 oS2 "[I" (.ref rts) := (c190.other W221 (Or.inl (own_ne (by omega))))
      obtain ⟨T223, X223, e223, st223⟩ := getF X221 hx hZ hown (host := "") (Or.inl (own_hw hw 29)) Via.refl e221 c222 (g := (mkF m 241 #[oR a1, oR sl, oR sp, oi 1, .val (.long (own_lmin (9223372036854775807 : Int64) (-(-pu1)))), .second, .val (.long ((own_lmin (9223372036854775807 : Int64) (-(-pu1))) + (1 : Int64))), .second, oi 1, oi 0] [(.ref a1)])) rfl rfl (hb hby d8_241)
      refine own_go (st' := T223.setTop (mkF m 244 #[oR a1, oR sl, oR sp, oi 1, .val (.long (own_lmin (9223372036854775807 : Int64) (-(-pu1)))), .second, .val (.long ((own_lmin (9223372036854775807 : Int64) (-(-pu1))) + (1 : Int64))), .second, oi 1, oi 0] [(.ref rts)])) (st223) ?_
      refine own_go (st' := T223.setTop (mkF m 245 #[oR a1, oR sl, oR sp, oi 1, .val (.long (own_lmin (9223372036854775807 : Int64) (-(-pu1)))), .second, .val (.long ((own_lmin (9223372036854775807 : Int64) (-(-pu1))) + (1 : Int64))), .second, oi 1, oi 0] [(.int (1 : Int32)), (.ref rts)])) (fun _ k => XS.iloadN X223.here hx rfl (hb hby d8_244) rfl k) ?_
      have c224 : Arv Z h221 rts krts .int (3 : Int32) [(.int (0 : Int32)), (.int (1 : Int32)), (.int (2 : Int32))] (.int (0 : Int32)) := (c192.other W221 (own_ne (by omega)))
      obtain ⟨cl225, Ar225, -, S225, M225, H225, -⟩ := id c224
      have hin225 : ¬ ((1 : Int32) < 0 ∨ cl225.slots.size ≤ ((1 : Int32)).toNatClampNeg) := (inb_of S225 ⟨by decide, by decide⟩)
      have hat225 : cl225.slots[((1 : Int32)).toNatClampNeg]? = some (.int (1 : Int32)) := (H225.at hin225 rfl)
      refine own_go (st' := T223.setTop (mkF m 246 #[oR a1, oR sl, oR sp, oi 1, .val (.long (own_lmin (9223372036854775807 : Int64) (-(-pu1)))), .second, .val (.long ((own_lmin (9223372036854775807 : Int64) (-(-pu1))) + (1 : Int64))), .second, oi 1, oi 0] [(.int (1 : Int32))])) (X223.iaload hx (j := (1 : Int32)) (v := (.int (1 : Int32))) (by rw [e223]; exact Ar225.1) (State.isArrayOf_alike hZ.alike Ar225.2.1) Ar225.2.2 hin225 hat225 (g := (mkF m 245 #[oR a1, oR sl, oR sp, oi 1, .val (.long (own_lmin (9223372036854775807 : Int64) (-(-pu1)))), .second, .val (.long ((own_lmin (9223372036854775807 : Int64) (-(-pu1))) + (1 : Int64))), .second, oi 1, oi 0] [(.int (1 : Int32)), (.ref rts)])) rfl rfl (hb hby d8_245)) ?_
      refine own_go (st' := T223.setTop (mkF m 248 #[oR a1, oR sl, oR sp, oi 1, .val (.long (own_lmin (9223372036854775807 : Int64) (-(-pu1)))), .second, .val (.long ((own_lmin (9223372036854775807 : Int64) (-(-pu1))) + (1 : Int64))), .second, oi 1, oi 0] [])) (fun _ k => XS.istore X223.here hx rfl (hb hby d8_246) rfl (l' := #[oR a1, oR sl, oR sp, oi 1, .val (.long (own_lmin (9223372036854775807 : Int64) (-(-pu1)))), .second, .val (.long ((own_lmin (9223372036854775807 : Int64) (-(-pu1))) + (1 : Int64))), .second, oi 1, oi 0]) rfl k) ?_
      refine own_go (st' := T223.setTop (mkF m 250 #[oR a1, oR sl, oR sp, oi 1, .val (.long (own_lmin (9223372036854775807 : Int64) (-(-pu1)))), .second, .val (.long ((own_lmin (9223372036854775807 : Int64) (-(-pu1))) + (1 : Int64))), .second, oi 1, oi 0] [(.int (1 : Int32))])) (fun _ k => XS.iload X223.here hx rfl (hb hby d8_248) rfl k) ?_
      refine own_go (st' := T223.setTop (mkF m 251 #[oR a1, oR sl, oR sp, oi 1, .val (.long (own_lmin (9223372036854775807 : Int64) (-(-pu1)))), .second, .val (.long ((own_lmin (9223372036854775807 : Int64) (-(-pu1))) + (1 : Int64))), .second, oi 1, oi 0] [(.ref a1), (.int (1 : Int32))])) (fun _ k => XS.aloadN X223.here hx rfl (hb hby d8_250) rfl rfl k) ?_
      obtain ⟨T226, X226, e226, st226⟩ := getF X223 hx hZ hown (host := "") (Or.inl (own_hw hw 29)) Via.refl e223 c222 (g := (mkF m 251 #[oR a1, oR sl, oR sp, oi 1, .val (.long (own_lmin (9223372036854775807 : Int64) (-(-pu1)))), .second, .val (.long ((own_lmin (9223372036854775807 : Int64) (-(-pu1))) + (1 : Int64))), .second, oi 1, oi 0] [(.ref a1), (.int (1 : Int32))])) rfl rfl (hb hby d8_251)
      refine own_go (st' := T226.setTop (mkF m 254 #[oR a1, oR sl, oR sp, oi 1, .val (.long (own_lmin (9223372036854775807 : Int64) (-(-pu1)))), .second, .val (.long ((own_lmin (9223372036854775807 : Int64) (-(-pu1))) + (1 : Int64))), .second, oi 1, oi 0] [(.ref rts), (.int (1 : Int32))])) (st226) ?_
      refine own_go (st' := T226.setTop (mkF m 255 #[oR a1, oR sl, oR sp, oi 1, .val (.long (own_lmin (9223372036854775807 : Int64) (-(-pu1)))), .second, .val (.long ((own_lmin (9223372036854775807 : Int64) (-(-pu1))) + (1 : Int64))), .second, oi 1, oi 0] [(.int (1 : Int32)), (.ref rts), (.int (1 : Int32))])) (fun _ k => XS.iloadN X226.here hx rfl (hb hby d8_254) rfl k) ?_
      refine own_go (st' := T226.setTop (mkF m 256 #[oR a1, oR sl, oR sp, oi 1, .val (.long (own_lmin (9223372036854775807 : Int64) (-(-pu1)))), .second, .val (.long ((own_lmin (9223372036854775807 : Int64) (-(-pu1))) + (1 : Int64))), .second, oi 1, oi 0] [(.int (1 : Int32)), (.int (1 : Int32)), (.ref rts), (.int (1 : Int32))])) (fun _ k => XS.iconst X226.here hx rfl (hb hby d8_255) k) ?_
      refine own_go (st' := T226.setTop (mkF m 257 #[oR a1, oR sl, oR sp, oi 1, .val (.long (own_lmin (9223372036854775807 : Int64) (-(-pu1)))), .second, .val (.long ((own_lmin (9223372036854775807 : Int64) (-(-pu1))) + (1 : Int64))), .second, oi 1, oi 0] [(.int (2 : Int32)), (.ref rts), (.int (1 : Int32))])) (fun _ k => XS.iadd X226.here hx rfl (hb hby d8_256) rfl (by rw [show ((1 : Int32) + (1 : Int32)) = (2 : Int32) by decide]; exact k)) ?_
      obtain ⟨cl227, Ar227, -, S227, M227, H227, -⟩ := id c224
      have hin227 : ¬ ((2 : Int32) < 0 ∨ cl227.slots.size ≤ ((2 : Int32)).toNatClampNeg) := (inb_of S227 ⟨by decide, by decide⟩)
      have hat227 : cl227.slots[((2 : Int32)).toNatClampNeg]? = some (.int (2 : Int32)) := (H227.at hin227 rfl)
      refine own_go (st' := T226.setTop (mkF m 258 #[oR a1, oR sl, oR sp, oi 1, .val (.long (own_lmin (9223372036854775807 : Int64) (-(-pu1)))), .second, .val (.long ((own_lmin (9223372036854775807 : Int64) (-(-pu1))) + (1 : Int64))), .second, oi 1, oi 0] [(.int (2 : Int32)), (.int (1 : Int32))])) (X226.iaload hx (j := (2 : Int32)) (v := (.int (2 : Int32))) (by rw [e226]; exact Ar227.1) (State.isArrayOf_alike hZ.alike Ar227.2.1) Ar227.2.2 hin227 hat227 (g := (mkF m 257 #[oR a1, oR sl, oR sp, oi 1, .val (.long (own_lmin (9223372036854775807 : Int64) (-(-pu1)))), .second, .val (.long ((own_lmin (9223372036854775807 : Int64) (-(-pu1))) + (1 : Int64))), .second, oi 1, oi 0] [(.int (2 : Int32)), (.ref rts), (.int (1 : Int32))])) rfl rfl (hb hby d8_257)) ?_
      have hc228 : (1 : Int32) < (2 : Int32) := by decide
      refine own_go (st' := T226.setTop (mkF m 261 #[oR a1, oR sl, oR sp, oi 1, .val (.long (own_lmin (9223372036854775807 : Int64) (-(-pu1)))), .second, .val (.long ((own_lmin (9223372036854775807 : Int64) (-(-pu1))) + (1 : Int64))), .second, oi 1, oi 0] [])) (fun _ k => XS.icmpNo X226.here hx rfl (hb hby d8_258) rfl (tlt hc228).2.1 k) ?_
      refine own_go (st' := T226.setTop (mkF m 262 #[oR a1, oR sl, oR sp, oi 1, .val (.long (own_lmin (9223372036854775807 : Int64) (-(-pu1)))), .second, .val (.long ((own_lmin (9223372036854775807 : Int64) (-(-pu1))) + (1 : Int64))), .second, oi 1, oi 0] [(.ref a1)])) (fun _ k => XS.aloadN X226.here hx rfl (hb hby d8_261) rfl rfl k) ?_
      have c229 : Fld Z h221 a1 oS0 "topicArcs" "[I" (.ref rta) := (c208.other W221 (Or.inl (own_ne (by omega))))
      obtain ⟨T230, X230, e230, st230⟩ := getF X226 hx hZ hown (host := "") (Or.inl (own_hw hw 46)) Via.refl e226 c229 (g := (mkF m 262 #[oR a1, oR sl, oR sp, oi 1, .val (.long (own_lmin (9223372036854775807 : Int64) (-(-pu1)))), .second, .val (.long ((own_lmin (9223372036854775807 : Int64) (-(-pu1))) + (1 : Int64))), .second, oi 1, oi 0] [(.ref a1)])) rfl rfl (hb hby d8_262)
      refine own_go (st' := T230.setTop (mkF m 265 #[oR a1, oR sl, oR sp, oi 1, .val (.long (own_lmin (9223372036854775807 : Int64) (-(-pu1)))), .second, .val (.long ((own_lmin (9223372036854775807 : Int64) (-(-pu1))) + (1 : Int64))), .second, oi 1, oi 0] [(.ref rta)])) (st230) ?_
      refine own_go (st' := T230.setTop (mkF m 267 #[oR a1, oR sl, oR sp, oi 1, .val (.long (own_lmin (9223372036854775807 : Int64) (-(-pu1)))), .second, .val (.long ((own_lmin (9223372036854775807 : Int64) (-(-pu1))) + (1 : Int64))), .second, oi 1, oi 0] [(.int (1 : Int32)), (.ref rta)])) (fun _ k => XS.iload X230.here hx rfl (hb hby d8_265) rfl k) ?_
      have c231 : Arv Z h221 rta krta .int (2 : Int32) [(.int (0 : Int32)), (.int (1 : Int32))] (.int (0 : Int32)) := (c210.other W221 (own_ne (by omega)))
      obtain ⟨cl232, Ar232, -, S232, M232, H232, -⟩ := id c231
      have hin232 : ¬ ((1 : Int32) < 0 ∨ cl232.slots.size ≤ ((1 : Int32)).toNatClampNeg) := (inb_of S232 ⟨by decide, by decide⟩)
      have hat232 : cl232.slots[((1 : Int32)).toNatClampNeg]? = some (.int (1 : Int32)) := (H232.at hin232 rfl)
      refine own_go (st' := T230.setTop (mkF m 268 #[oR a1, oR sl, oR sp, oi 1, .val (.long (own_lmin (9223372036854775807 : Int64) (-(-pu1)))), .second, .val (.long ((own_lmin (9223372036854775807 : Int64) (-(-pu1))) + (1 : Int64))), .second, oi 1, oi 0] [(.int (1 : Int32))])) (X230.iaload hx (j := (1 : Int32)) (v := (.int (1 : Int32))) (by rw [e230]; exact Ar232.1) (State.isArrayOf_alike hZ.alike Ar232.2.1) Ar232.2.2 hin232 hat232 (g := (mkF m 267 #[oR a1, oR sl, oR sp, oi 1, .val (.long (own_lmin (9223372036854775807 : Int64) (-(-pu1)))), .second, .val (.long ((own_lmin (9223372036854775807 : Int64) (-(-pu1))) + (1 : Int64))), .second, oi 1, oi 0] [(.int (1 : Int32)), (.ref rta)])) rfl rfl (hb hby d8_267)) ?_
      refine own_go (st' := T230.setTop (mkF m 270 #[oR a1, oR sl, oR sp, oi 1, .val (.long (own_lmin (9223372036854775807 : Int64) (-(-pu1)))), .second, .val (.long ((own_lmin (9223372036854775807 : Int64) (-(-pu1))) + (1 : Int64))), .second, oi 1, oi 1] [])) (fun _ k => XS.istore X230.here hx rfl (hb hby d8_268) rfl (l' := #[oR a1, oR sl, oR sp, oi 1, .val (.long (own_lmin (9223372036854775807 : Int64) (-(-pu1)))), .second, .val (.long ((own_lmin (9223372036854775807 : Int64) (-(-pu1))) + (1 : Int64))), .second, oi 1, oi 1]) rfl k) ?_
      refine own_go (st' := T230.setTop (mkF m 271 #[oR a1, oR sl, oR sp, oi 1, .val (.long (own_lmin (9223372036854775807 : Int64) (-(-pu1)))), .second, .val (.long ((own_lmin (9223372036854775807 : Int64) (-(-pu1))) + (1 : Int64))), .second, oi 1, oi 1] [(.ref a1)])) (fun _ k => XS.aloadN X230.here hx rfl (hb hby d8_270) rfl rfl k) ?_
      have c233 : Fld Z h221 a1 oS0 "potential" "[J" (.ref rp) := (c203.other W221 (Or.inl (own_ne (by omega))))
      obtain ⟨T234, X234, e234, st234⟩ := getF X230 hx hZ hown (host := "") (Or.inl (own_hw hw 60)) Via.refl e230 c233 (g := (mkF m 271 #[oR a1, oR sl, oR sp, oi 1, .val (.long (own_lmin (9223372036854775807 : Int64) (-(-pu1)))), .second, .val (.long ((own_lmin (9223372036854775807 : Int64) (-(-pu1))) + (1 : Int64))), .second, oi 1, oi 1] [(.ref a1)])) rfl rfl (hb hby d8_271)
      refine own_go (st' := T234.setTop (mkF m 274 #[oR a1, oR sl, oR sp, oi 1, .val (.long (own_lmin (9223372036854775807 : Int64) (-(-pu1)))), .second, .val (.long ((own_lmin (9223372036854775807 : Int64) (-(-pu1))) + (1 : Int64))), .second, oi 1, oi 1] [(.ref rp)])) (st234) ?_
      refine own_go (st' := T234.setTop (mkF m 275 #[oR a1, oR sl, oR sp, oi 1, .val (.long (own_lmin (9223372036854775807 : Int64) (-(-pu1)))), .second, .val (.long ((own_lmin (9223372036854775807 : Int64) (-(-pu1))) + (1 : Int64))), .second, oi 1, oi 1] [(.ref a1), (.ref rp)])) (fun _ k => XS.aloadN X234.here hx rfl (hb hby d8_274) rfl rfl k) ?_
      have c235 : Fld Z h221 a1 oS0 "topicCount" "I" (.int (2 : Int32)) := (c195.other W221 (Or.inl (own_ne (by omega))))
      obtain ⟨T236, X236, e236, st236⟩ := getF X234 hx hZ hown (host := "") (Or.inl (own_hw hw 11)) Via.refl e234 c235 (g := (mkF m 275 #[oR a1, oR sl, oR sp, oi 1, .val (.long (own_lmin (9223372036854775807 : Int64) (-(-pu1)))), .second, .val (.long ((own_lmin (9223372036854775807 : Int64) (-(-pu1))) + (1 : Int64))), .second, oi 1, oi 1] [(.ref a1), (.ref rp)])) rfl rfl (hb hby d8_275)
      refine own_go (st' := T236.setTop (mkF m 278 #[oR a1, oR sl, oR sp, oi 1, .val (.long (own_lmin (9223372036854775807 : Int64) (-(-pu1)))), .second, .val (.long ((own_lmin (9223372036854775807 : Int64) (-(-pu1))) + (1 : Int64))), .second, oi 1, oi 1] [(.int (2 : Int32)), (.ref rp)])) (st236) ?_
      refine own_go (st' := T236.setTop (mkF m 279 #[oR a1, oR sl, oR sp, oi 1, .val (.long (own_lmin (9223372036854775807 : Int64) (-(-pu1)))), .second, .val (.long ((own_lmin (9223372036854775807 : Int64) (-(-pu1))) + (1 : Int64))), .second, oi 1, oi 1] [(.ref a1), (.int (2 : Int32)), (.ref rp)])) (fun _ k => XS.aloadN X236.here hx rfl (hb hby d8_278) rfl rfl k) ?_
      have c237 : Fld Z h221 a1 oS0 "arcUnit" "[I" (.ref au) := (c206.other W221 (Or.inl (own_ne (by omega))))
      obtain ⟨T238, X238, e238, st238⟩ := getF X236 hx hZ hown (host := "") (Or.inl (own_hw hw 23)) Via.refl e236 c237 (g := (mkF m 279 #[oR a1, oR sl, oR sp, oi 1, .val (.long (own_lmin (9223372036854775807 : Int64) (-(-pu1)))), .second, .val (.long ((own_lmin (9223372036854775807 : Int64) (-(-pu1))) + (1 : Int64))), .second, oi 1, oi 1] [(.ref a1), (.int (2 : Int32)), (.ref rp)])) rfl rfl (hb hby d8_279)
      refine own_go (st' := T238.setTop (mkF m 282 #[oR a1, oR sl, oR sp, oi 1, .val (.long (own_lmin (9223372036854775807 : Int64) (-(-pu1)))), .second, .val (.long ((own_lmin (9223372036854775807 : Int64) (-(-pu1))) + (1 : Int64))), .second, oi 1, oi 1] [(.ref au), (.int (2 : Int32)), (.ref rp)])) (st238) ?_
      refine own_go (st' := T238.setTop (mkF m 284 #[oR a1, oR sl, oR sp, oi 1, .val (.long (own_lmin (9223372036854775807 : Int64) (-(-pu1)))), .second, .val (.long ((own_lmin (9223372036854775807 : Int64) (-(-pu1))) + (1 : Int64))), .second, oi 1, oi 1] [(.int (1 : Int32)), (.ref au), (.int (2 : Int32)), (.ref rp)])) (fun _ k => XS.iload X238.here hx rfl (hb hby d8_282) rfl k) ?_
      have c239 : Arv Z h221 au kau .int (2 : Int32) [(.int (0 : Int32)), (.int (1 : Int32))] (.int (0 : Int32)) := (c212.other W221 (own_ne (by omega)))
      obtain ⟨cl240, Ar240, -, S240, M240, H240, -⟩ := id c239
      have hin240 : ¬ ((1 : Int32) < 0 ∨ cl240.slots.size ≤ ((1 : Int32)).toNatClampNeg) := (inb_of S240 ⟨by decide, by decide⟩)
      have hat240 : cl240.slots[((1 : Int32)).toNatClampNeg]? = some (.int (1 : Int32)) := (H240.at hin240 rfl)
      refine own_go (st' := T238.setTop (mkF m 285 #[oR a1, oR sl, oR sp, oi 1, .val (.long (own_lmin (9223372036854775807 : Int64) (-(-pu1)))), .second, .val (.long ((own_lmin (9223372036854775807 : Int64) (-(-pu1))) + (1 : Int64))), .second, oi 1, oi 1] [(.int (1 : Int32)), (.int (2 : Int32)), (.ref rp)])) (X238.iaload hx (j := (1 : Int32)) (v := (.int (1 : Int32))) (by rw [e238]; exact Ar240.1) (State.isArrayOf_alike hZ.alike Ar240.2.1) Ar240.2.2 hin240 hat240 (g := (mkF m 284 #[oR a1, oR sl, oR sp, oi 1, .val (.long (own_lmin (9223372036854775807 : Int64) (-(-pu1)))), .second, .val (.long ((own_lmin (9223372036854775807 : Int64) (-(-pu1))) + (1 : Int64))), .second, oi 1, oi 1] [(.int (1 : Int32)), (.ref au), (.int (2 : Int32)), (.ref rp)])) rfl rfl (hb hby d8_284)) ?_
      refine own_go (st' := T238.setTop (mkF m 286 #[oR a1, oR sl, oR sp, oi 1, .val (.long (own_lmin (9223372036854775807 : Int64) (-(-pu1)))), .second, .val (.long ((own_lmin (9223372036854775807 : Int64) (-(-pu1))) + (1 : Int64))), .second, oi 1, oi 1] [(.int (3 : Int32)), (.ref rp)])) (fun _ k => XS.iadd X238.here hx rfl (hb hby d8_285) rfl (by rw [show ((2 : Int32) + (1 : Int32)) = (3 : Int32) by decide]; exact k)) ?_
      obtain ⟨cl241, Ar241, -, S241, M241, H241, -⟩ := id v221
      have hin241 : ¬ ((3 : Int32) < 0 ∨ cl241.slots.size ≤ ((3 : Int32)).toNatClampNeg) := (inb_of S241 ⟨by decide, by decide⟩)
      have hat241 : cl241.slots[((3 : Int32)).toNatClampNeg]? = some (.long (-pu1)) := (H241.at hin241 rfl)
      refine own_go (st' := T238.setTop (mkF m 287 #[oR a1, oR sl, oR sp, oi 1, .val (.long (own_lmin (9223372036854775807 : Int64) (-(-pu1)))), .second, .val (.long ((own_lmin (9223372036854775807 : Int64) (-(-pu1))) + (1 : Int64))), .second, oi 1, oi 1] [(.long (-pu1))])) (X238.laload hx (j := (3 : Int32)) (v := (.long (-pu1))) (by rw [e238]; exact Ar241.1) (State.isArrayOf_alike hZ.alike Ar241.2.1) Ar241.2.2 hin241 hat241 (g := (mkF m 286 #[oR a1, oR sl, oR sp, oi 1, .val (.long (own_lmin (9223372036854775807 : Int64) (-(-pu1)))), .second, .val (.long ((own_lmin (9223372036854775807 : Int64) (-(-pu1))) + (1 : Int64))), .second, oi 1, oi 1] [(.int (3 : Int32)), (.ref rp)])) rfl rfl (hb hby d8_286)) ?_
      refine own_go (st' := T238.setTop (mkF m 288 #[oR a1, oR sl, oR sp, oi 1, .val (.long (own_lmin (9223372036854775807 : Int64) (-(-pu1)))), .second, .val (.long ((own_lmin (9223372036854775807 : Int64) (-(-pu1))) + (1 : Int64))), .second, oi 1, oi 1] [(.long (-(-pu1)))])) (fun _ k => XS.lneg X238.here hx rfl (hb hby d8_287) rfl k) ?_
      refine own_go (st' := T238.setTop (mkF m 290 #[oR a1, oR sl, oR sp, oi 1, .val (.long (own_lmin (9223372036854775807 : Int64) (-(-pu1)))), .second, .val (.long ((own_lmin (9223372036854775807 : Int64) (-(-pu1))) + (1 : Int64))), .second, oi 1, oi 1] [(.long ((own_lmin (9223372036854775807 : Int64) (-(-pu1))) + (1 : Int64))), (.long (-(-pu1)))])) (fun _ k => XS.lload X238.here hx rfl (hb hby d8_288) rfl k) ?_
      refine own_go (st' := T238.setTop (mkF m 291 #[oR a1, oR sl, oR sp, oi 1, .val (.long (own_lmin (9223372036854775807 : Int64) (-(-pu1)))), .second, .val (.long ((own_lmin (9223372036854775807 : Int64) (-(-pu1))) + (1 : Int64))), .second, oi 1, oi 1] [(.int (lcmpW (-(-pu1)) ((own_lmin (9223372036854775807 : Int64) (-(-pu1))) + (1 : Int64))))])) (fun _ k => XS.lcmp X238.here hx rfl (hb hby d8_290) rfl k) ?_
      have hc242 : ¬ (((own_lmin (9223372036854775807 : Int64) (-(-pu1))) + (1 : Int64)) < (-(-pu1))) := own_tp pu1 (by rw [hpu1]; exact hb1)
      refine own_go (st' := T238.setTop (mkF m 294 #[oR a1, oR sl, oR sp, oi 1, .val (.long (own_lmin (9223372036854775807 : Int64) (-(-pu1)))), .second, .val (.long ((own_lmin (9223372036854775807 : Int64) (-(-pu1))) + (1 : Int64))), .second, oi 1, oi 1] [])) (fun _ k => XS.ifNo X238.here hx rfl (hb hby d8_291) rfl ((if0 _ _).trans (flt (fun q_ => hc242 ((lw_gt (-(-pu1)) ((own_lmin (9223372036854775807 : Int64) (-(-pu1))) + (1 : Int64))).mp q_))).2.2.1) k) ?_
      refine own_go (st' := T238.setTop (mkF m 295 #[oR a1, oR sl, oR sp, oi 1, .val (.long (own_lmin (9223372036854775807 : Int64) (-(-pu1)))), .second, .val (.long ((own_lmin (9223372036854775807 : Int64) (-(-pu1))) + (1 : Int64))), .second, oi 1, oi 1] [(.ref a1)])) (fun _ k => XS.aloadN X238.here hx rfl (hb hby d8_294) rfl rfl k) ?_
      have c243 : Fld Z h221 a1 oS0 "flow" "[I" (.ref rf) := ((c185.other W189 (Or.inl (own_ne (by omega)))).other W221 (Or.inl (own_ne (by omega))))
      obtain ⟨T244, X244, e244, st244⟩ := getF X238 hx hZ hown (host := "") (Or.inl (own_hw hw 52)) Via.refl e238 c243 (g := (mkF m 295 #[oR a1, oR sl, oR sp, oi 1, .val (.long (own_lmin (9223372036854775807 : Int64) (-(-pu1)))), .second, .val (.long ((own_lmin (9223372036854775807 : Int64) (-(-pu1))) + (1 : Int64))), .second, oi 1, oi 1] [(.ref a1)])) rfl rfl (hb hby d8_295)
      refine own_go (st' := T244.setTop (mkF m 298 #[oR a1, oR sl, oR sp, oi 1, .val (.long (own_lmin (9223372036854775807 : Int64) (-(-pu1)))), .second, .val (.long ((own_lmin (9223372036854775807 : Int64) (-(-pu1))) + (1 : Int64))), .second, oi 1, oi 1] [(.ref rf)])) (st244) ?_
      refine own_go (st' := T244.setTop (mkF m 300 #[oR a1, oR sl, oR sp, oi 1, .val (.long (own_lmin (9223372036854775807 : Int64) (-(-pu1)))), .second, .val (.long ((own_lmin (9223372036854775807 : Int64) (-(-pu1))) + (1 : Int64))), .second, oi 1, oi 1] [(.int (1 : Int32)), (.ref rf)])) (fun _ k => XS.iload X244.here hx rfl (hb hby d8_298) rfl k) ?_
      refine own_go (st' := T244.setTop (mkF m 301 #[oR a1, oR sl, oR sp, oi 1, .val (.long (own_lmin (9223372036854775807 : Int64) (-(-pu1)))), .second, .val (.long ((own_lmin (9223372036854775807 : Int64) (-(-pu1))) + (1 : Int64))), .second, oi 1, oi 1] [(.ref a1), (.int (1 : Int32)), (.ref rf)])) (fun _ k => XS.aloadN X244.here hx rfl (hb hby d8_300) rfl rfl k) ?_
      have c245 : Fld Z h221 a1 oS0 "arcOwned" "[I" (.ref ao) := ((((c162.other W167 (Or.inl (own_ne (by omega)))).other W175 (Or.inl (own_ne (by omega)))).other W189 (Or.inl (own_ne (by omega)))).other W221 (Or.inl (own_ne (by omega))))
      obtain ⟨T246, X246, e246, st246⟩ := getF X244 hx hZ hown (host := "") (Or.inl (own_hw hw 25)) Via.refl e244 c245 (g := (mkF m 301 #[oR a1, oR sl, oR sp, oi 1, .val (.long (own_lmin (9223372036854775807 : Int64) (-(-pu1)))), .second, .val (.long ((own_lmin (9223372036854775807 : Int64) (-(-pu1))) + (1 : Int64))), .second, oi 1, oi 1] [(.ref a1), (.int (1 : Int32)), (.ref rf)])) rfl rfl (hb hby d8_301)
      refine own_go (st' := T246.setTop (mkF m 304 #[oR a1, oR sl, oR sp, oi 1, .val (.long (own_lmin (9223372036854775807 : Int64) (-(-pu1)))), .second, .val (.long ((own_lmin (9223372036854775807 : Int64) (-(-pu1))) + (1 : Int64))), .second, oi 1, oi 1] [(.ref ao), (.int (1 : Int32)), (.ref rf)])) (st246) ?_
      refine own_go (st' := T246.setTop (mkF m 306 #[oR a1, oR sl, oR sp, oi 1, .val (.long (own_lmin (9223372036854775807 : Int64) (-(-pu1)))), .second, .val (.long ((own_lmin (9223372036854775807 : Int64) (-(-pu1))) + (1 : Int64))), .second, oi 1, oi 1] [(.int (1 : Int32)), (.ref ao), (.int (1 : Int32)), (.ref rf)])) (fun _ k => XS.iload X246.here hx rfl (hb hby d8_304) rfl k) ?_
      have c247 : Arv Z h221 ao kao .int (2 : Int32) [(.int ca), (.int cb)] (.int (0 : Int32)) := ((((c164.other W167 (own_ne (by omega))).other W175 (own_ne (by omega))).other W189 (own_ne (by omega))).other W221 (own_ne (by omega)))
      obtain ⟨cl248, Ar248, -, S248, M248, H248, -⟩ := id c247
      have hin248 : ¬ ((1 : Int32) < 0 ∨ cl248.slots.size ≤ ((1 : Int32)).toNatClampNeg) := (inb_of S248 ⟨by decide, by decide⟩)
      have hat248 : cl248.slots[((1 : Int32)).toNatClampNeg]? = some (.int cb) := (H248.at hin248 rfl)
      refine own_go (st' := T246.setTop (mkF m 307 #[oR a1, oR sl, oR sp, oi 1, .val (.long (own_lmin (9223372036854775807 : Int64) (-(-pu1)))), .second, .val (.long ((own_lmin (9223372036854775807 : Int64) (-(-pu1))) + (1 : Int64))), .second, oi 1, oi 1] [(.int cb), (.int (1 : Int32)), (.ref rf)])) (X246.iaload hx (j := (1 : Int32)) (v := (.int cb)) (by rw [e246]; exact Ar248.1) (State.isArrayOf_alike hZ.alike Ar248.2.1) Ar248.2.2 hin248 hat248 (g := (mkF m 306 #[oR a1, oR sl, oR sp, oi 1, .val (.long (own_lmin (9223372036854775807 : Int64) (-(-pu1)))), .second, .val (.long ((own_lmin (9223372036854775807 : Int64) (-(-pu1))) + (1 : Int64))), .second, oi 1, oi 1] [(.int (1 : Int32)), (.ref ao), (.int (1 : Int32)), (.ref rf)])) rfl rfl (hb hby d8_306)) ?_
      have c249 : Arv Z h221 rf krf .int (2 : Int32) [(.int ca), (.int (0 : Int32))] (.int (0 : Int32)) := ((c187.other W189 (own_ne (by omega))).other W221 (own_ne (by omega)))
      obtain ⟨cl250, Ar250, qc250, S250, M250, H250, G250⟩ := id c249
      have hin250 : ¬ ((1 : Int32) < 0 ∨ cl250.slots.size ≤ ((1 : Int32)).toNatClampNeg) := (inb_of S250 ⟨by decide, by decide⟩)
      obtain ⟨T250, h250, X250, e250, W250, st250⟩ := stI X246 hx hZ e246 Ar250 (j := (1 : Int32)) hin250 (g := (mkF m 307 #[oR a1, oR sl, oR sp, oi 1, .val (.long (own_lmin (9223372036854775807 : Int64) (-(-pu1)))), .second, .val (.long ((own_lmin (9223372036854775807 : Int64) (-(-pu1))) + (1 : Int64))), .second, oi 1, oi 1] [(.int cb), (.int (1 : Int32)), (.ref rf)])) rfl rfl (hb hby d8_307)
      have sz250 : h250.size = h221.size := W250.size
      have N250 := Fr.snoc X250 N221 (by omega)
      have v250 : Arv Z h250 rf krf .int (2 : Int32) [(.int ca), (.int cb)] (.int (0 : Int32)) := Arv.set Ar250 qc250 S250 M250 H250 G250 rfl W250 1 rfl (Nat.le_of_ble_eq_true rfl)
      refine own_go (st' := T250.setTop (mkF m 308 #[oR a1, oR sl, oR sp, oi 1, .val (.long (own_lmin (9223372036854775807 : Int64) (-(-pu1)))), .second, .val (.long ((own_lmin (9223372036854775807 : Int64) (-(-pu1))) + (1 : Int64))), .second, oi 1, oi 1] [])) (st250) ?_
      refine own_go (st' := T250.setTop (mkF m 309 #[oR a1, oR sl, oR sp, oi 1, .val (.long (own_lmin (9223372036854775807 : Int64) (-(-pu1)))), .second, .val (.long ((own_lmin (9223372036854775807 : Int64) (-(-pu1))) + (1 : Int64))), .second, oi 1, oi 1] [(.ref a1)])) (fun _ k => XS.aloadN X250.here hx rfl (hb hby d8_308) rfl rfl k) ?_
      have c251 : Fld Z h250 a1 oS0 "excess" "[I" (.ref re) := (((c176.other W189 (Or.inl (own_ne (by omega)))).other W221 (Or.inl (own_ne (by omega)))).other W250 (Or.inl (own_ne (by omega))))
      obtain ⟨T252, X252, e252, st252⟩ := getF X250 hx hZ hown (host := "") (Or.inl (own_hw hw 56)) Via.refl e250 c251 (g := (mkF m 309 #[oR a1, oR sl, oR sp, oi 1, .val (.long (own_lmin (9223372036854775807 : Int64) (-(-pu1)))), .second, .val (.long ((own_lmin (9223372036854775807 : Int64) (-(-pu1))) + (1 : Int64))), .second, oi 1, oi 1] [(.ref a1)])) rfl rfl (hb hby d8_309)
      refine own_go (st' := T252.setTop (mkF m 312 #[oR a1, oR sl, oR sp, oi 1, .val (.long (own_lmin (9223372036854775807 : Int64) (-(-pu1)))), .second, .val (.long ((own_lmin (9223372036854775807 : Int64) (-(-pu1))) + (1 : Int64))), .second, oi 1, oi 1] [(.ref re)])) (st252) ?_
      refine own_go (st' := T252.setTop (mkF m 313 #[oR a1, oR sl, oR sp, oi 1, .val (.long (own_lmin (9223372036854775807 : Int64) (-(-pu1)))), .second, .val (.long ((own_lmin (9223372036854775807 : Int64) (-(-pu1))) + (1 : Int64))), .second, oi 1, oi 1] [(.int (1 : Int32)), (.ref re)])) (fun _ k => XS.iloadN X252.here hx rfl (hb hby d8_312) rfl k) ?_
      refine own_go (st' := T252.setTop (mkF m 314 #[oR a1, oR sl, oR sp, oi 1, .val (.long (own_lmin (9223372036854775807 : Int64) (-(-pu1)))), .second, .val (.long ((own_lmin (9223372036854775807 : Int64) (-(-pu1))) + (1 : Int64))), .second, oi 1, oi 1] [(.int (1 : Int32)), (.ref re), (.int (1 : Int32)), (.ref re)])) (fun _ k => XT.dup2 X252.here hx rfl (hb hby d8_313) rfl rfl rfl k) ?_
      have c253 : Arv Z h250 re kre .int (5 : Int32) [(.int (ca - ca)), (.int cb), (.int ((-ca) + ca)), (.int (-cb)), (.int (((-tt) + ca) + cb))] (.int (0 : Int32)) := ((v189.other W221 (own_ne (by omega))).other W250 (own_ne (by omega)))
      obtain ⟨cl254, Ar254, -, S254, M254, H254, -⟩ := id c253
      have hin254 : ¬ ((1 : Int32) < 0 ∨ cl254.slots.size ≤ ((1 : Int32)).toNatClampNeg) := (inb_of S254 ⟨by decide, by decide⟩)
      have hat254 : cl254.slots[((1 : Int32)).toNatClampNeg]? = some (.int cb) := (H254.at hin254 rfl)
      refine own_go (st' := T252.setTop (mkF m 315 #[oR a1, oR sl, oR sp, oi 1, .val (.long (own_lmin (9223372036854775807 : Int64) (-(-pu1)))), .second, .val (.long ((own_lmin (9223372036854775807 : Int64) (-(-pu1))) + (1 : Int64))), .second, oi 1, oi 1] [(.int cb), (.int (1 : Int32)), (.ref re)])) (X252.iaload hx (j := (1 : Int32)) (v := (.int cb)) (by rw [e252]; exact Ar254.1) (State.isArrayOf_alike hZ.alike Ar254.2.1) Ar254.2.2 hin254 hat254 (g := (mkF m 314 #[oR a1, oR sl, oR sp, oi 1, .val (.long (own_lmin (9223372036854775807 : Int64) (-(-pu1)))), .second, .val (.long ((own_lmin (9223372036854775807 : Int64) (-(-pu1))) + (1 : Int64))), .second, oi 1, oi 1] [(.int (1 : Int32)), (.ref re), (.int (1 : Int32)), (.ref re)])) rfl rfl (hb hby d8_314)) ?_
      refine own_go (st' := T252.setTop (mkF m 316 #[oR a1, oR sl, oR sp, oi 1, .val (.long (own_lmin (9223372036854775807 : Int64) (-(-pu1)))), .second, .val (.long ((own_lmin (9223372036854775807 : Int64) (-(-pu1))) + (1 : Int64))), .second, oi 1, oi 1] [(.ref a1), (.int cb), (.int (1 : Int32)), (.ref re)])) (fun _ k => XS.aloadN X252.here hx rfl (hb hby d8_315) rfl rfl k) ?_
      have c255 : Fld Z h250 a1 oS0 "flow" "[I" (.ref rf) := (c243.other W250 (Or.inl (own_ne (by omega))))
      obtain ⟨T256, X256, e256, st256⟩ := getF X252 hx hZ hown (host := "") (Or.inl (own_hw hw 52)) Via.refl e252 c255 (g := (mkF m 316 #[oR a1, oR sl, oR sp, oi 1, .val (.long (own_lmin (9223372036854775807 : Int64) (-(-pu1)))), .second, .val (.long ((own_lmin (9223372036854775807 : Int64) (-(-pu1))) + (1 : Int64))), .second, oi 1, oi 1] [(.ref a1), (.int cb), (.int (1 : Int32)), (.ref re)])) rfl rfl (hb hby d8_316)
      refine own_go (st' := T256.setTop (mkF m 319 #[oR a1, oR sl, oR sp, oi 1, .val (.long (own_lmin (9223372036854775807 : Int64) (-(-pu1)))), .second, .val (.long ((own_lmin (9223372036854775807 : Int64) (-(-pu1))) + (1 : Int64))), .second, oi 1, oi 1] [(.ref rf), (.int cb), (.int (1 : Int32)), (.ref re)])) (st256) ?_
      refine own_go (st' := T256.setTop (mkF m 321 #[oR a1, oR sl, oR sp, oi 1, .val (.long (own_lmin (9223372036854775807 : Int64) (-(-pu1)))), .second, .val (.long ((own_lmin (9223372036854775807 : Int64) (-(-pu1))) + (1 : Int64))), .second, oi 1, oi 1] [(.int (1 : Int32)), (.ref rf), (.int cb), (.int (1 : Int32)), (.ref re)])) (fun _ k => XS.iload X256.here hx rfl (hb hby d8_319) rfl k) ?_
      obtain ⟨cl257, Ar257, -, S257, M257, H257, -⟩ := id v250
      have hin257 : ¬ ((1 : Int32) < 0 ∨ cl257.slots.size ≤ ((1 : Int32)).toNatClampNeg) := (inb_of S257 ⟨by decide, by decide⟩)
      have hat257 : cl257.slots[((1 : Int32)).toNatClampNeg]? = some (.int cb) := (H257.at hin257 rfl)
      refine own_go (st' := T256.setTop (mkF m 322 #[oR a1, oR sl, oR sp, oi 1, .val (.long (own_lmin (9223372036854775807 : Int64) (-(-pu1)))), .second, .val (.long ((own_lmin (9223372036854775807 : Int64) (-(-pu1))) + (1 : Int64))), .second, oi 1, oi 1] [(.int cb), (.int cb), (.int (1 : Int32)), (.ref re)])) (X256.iaload hx (j := (1 : Int32)) (v := (.int cb)) (by rw [e256]; exact Ar257.1) (State.isArrayOf_alike hZ.alike Ar257.2.1) Ar257.2.2 hin257 hat257 (g := (mkF m 321 #[oR a1, oR sl, oR sp, oi 1, .val (.long (own_lmin (9223372036854775807 : Int64) (-(-pu1)))), .second, .val (.long ((own_lmin (9223372036854775807 : Int64) (-(-pu1))) + (1 : Int64))), .second, oi 1, oi 1] [(.int (1 : Int32)), (.ref rf), (.int cb), (.int (1 : Int32)), (.ref re)])) rfl rfl (hb hby d8_321)) ?_
      refine own_go (st' := T256.setTop (mkF m 323 #[oR a1, oR sl, oR sp, oi 1, .val (.long (own_lmin (9223372036854775807 : Int64) (-(-pu1)))), .second, .val (.long ((own_lmin (9223372036854775807 : Int64) (-(-pu1))) + (1 : Int64))), .second, oi 1, oi 1] [(.int (cb - cb)), (.int (1 : Int32)), (.ref re)])) (fun _ k => XS.isub X256.here hx rfl (hb hby d8_322) rfl k) ?_
      obtain ⟨cl258, Ar258, qc258, S258, M258, H258, G258⟩ := id c253
      have hin258 : ¬ ((1 : Int32) < 0 ∨ cl258.slots.size ≤ ((1 : Int32)).toNatClampNeg) := (inb_of S258 ⟨by decide, by decide⟩)
      obtain ⟨T258, h258, X258, e258, W258, st258⟩ := stI X256 hx hZ e256 Ar258 (j := (1 : Int32)) hin258 (g := (mkF m 323 #[oR a1, oR sl, oR sp, oi 1, .val (.long (own_lmin (9223372036854775807 : Int64) (-(-pu1)))), .second, .val (.long ((own_lmin (9223372036854775807 : Int64) (-(-pu1))) + (1 : Int64))), .second, oi 1, oi 1] [(.int (cb - cb)), (.int (1 : Int32)), (.ref re)])) rfl rfl (hb hby d8_323)
      have sz258 : h258.size = h250.size := W258.size
      have N258 := Fr.snoc X258 N250 (by omega)
      have v258 : Arv Z h258 re kre .int (5 : Int32) [(.int (ca - ca)), (.int (cb - cb)), (.int ((-ca) + ca)), (.int (-cb)), (.int (((-tt) + ca) + cb))] (.int (0 : Int32)) := Arv.set Ar258 qc258 S258 M258 H258 G258 rfl W258 1 rfl (Nat.le_of_ble_eq_true rfl)
      refine own_go (st' := T258.setTop (mkF m 324 #[oR a1, oR sl, oR sp, oi 1, .val (.long (own_lmin (9223372036854775807 : Int64) (-(-pu1)))), .second, .val (.long ((own_lmin (9223372036854775807 : Int64) (-(-pu1))) + (1 : Int64))), .second, oi 1, oi 1] [])) (st258) ?_
      refine own_go (st' := T258.setTop (mkF m 325 #[oR a1, oR sl, oR sp, oi 1, .val (.long (own_lmin (9223372036854775807 : Int64) (-(-pu1)))), .second, .val (.long ((own_lmin (9223372036854775807 : Int64) (-(-pu1))) + (1 : Int64))), .second, oi 1, oi 1] [(.ref a1)])) (fun _ k => XS.aloadN X258.here hx rfl (hb hby d8_324) rfl rfl k) ?_
      have c259 : Fld Z h258 a1 oS0 "excess" "[I" (.ref re) := (c251.other W258 (Or.inl (own_ne (by omega))))
      obtain ⟨T260, X260, e260, st260⟩ := getF X258 hx hZ hown (host := "") (Or.inl (own_hw hw 56)) Via.refl e258 c259 (g := (mkF m 325 #[oR a1, oR sl, oR sp, oi 1, .val (.long (own_lmin (9223372036854775807 : Int64) (-(-pu1)))), .second, .val (.long ((own_lmin (9223372036854775807 : Int64) (-(-pu1))) + (1 : Int64))), .second, oi 1, oi 1] [(.ref a1)])) rfl rfl (hb hby d8_325)
      refine own_go (st' := T260.setTop (mkF m 328 #[oR a1, oR sl, oR sp, oi 1, .val (.long (own_lmin (9223372036854775807 : Int64) (-(-pu1)))), .second, .val (.long ((own_lmin (9223372036854775807 : Int64) (-(-pu1))) + (1 : Int64))), .second, oi 1, oi 1] [(.ref re)])) (st260) ?_
      refine own_go (st' := T260.setTop (mkF m 329 #[oR a1, oR sl, oR sp, oi 1, .val (.long (own_lmin (9223372036854775807 : Int64) (-(-pu1)))), .second, .val (.long ((own_lmin (9223372036854775807 : Int64) (-(-pu1))) + (1 : Int64))), .second, oi 1, oi 1] [(.ref a1), (.ref re)])) (fun _ k => XS.aloadN X260.here hx rfl (hb hby d8_328) rfl rfl k) ?_
      have c261 : Fld Z h258 a1 oS0 "topicCount" "I" (.int (2 : Int32)) := ((c235.other W250 (Or.inl (own_ne (by omega)))).other W258 (Or.inl (own_ne (by omega))))
      obtain ⟨T262, X262, e262, st262⟩ := getF X260 hx hZ hown (host := "") (Or.inl (own_hw hw 11)) Via.refl e260 c261 (g := (mkF m 329 #[oR a1, oR sl, oR sp, oi 1, .val (.long (own_lmin (9223372036854775807 : Int64) (-(-pu1)))), .second, .val (.long ((own_lmin (9223372036854775807 : Int64) (-(-pu1))) + (1 : Int64))), .second, oi 1, oi 1] [(.ref a1), (.ref re)])) rfl rfl (hb hby d8_329)
      refine own_go (st' := T262.setTop (mkF m 332 #[oR a1, oR sl, oR sp, oi 1, .val (.long (own_lmin (9223372036854775807 : Int64) (-(-pu1)))), .second, .val (.long ((own_lmin (9223372036854775807 : Int64) (-(-pu1))) + (1 : Int64))), .second, oi 1, oi 1] [(.int (2 : Int32)), (.ref re)])) (st262) ?_
      refine own_go (st' := T262.setTop (mkF m 333 #[oR a1, oR sl, oR sp, oi 1, .val (.long (own_lmin (9223372036854775807 : Int64) (-(-pu1)))), .second, .val (.long ((own_lmin (9223372036854775807 : Int64) (-(-pu1))) + (1 : Int64))), .second, oi 1, oi 1] [(.ref a1), (.int (2 : Int32)), (.ref re)])) (fun _ k => XS.aloadN X262.here hx rfl (hb hby d8_332) rfl rfl k) ?_
      have c263 : Fld Z h258 a1 oS0 "arcUnit" "[I" (.ref au) := ((c237.other W250 (Or.inl (own_ne (by omega)))).other W258 (Or.inl (own_ne (by omega))))
      obtain ⟨T264, X264, e264, st264⟩ := getF X262 hx hZ hown (host := "") (Or.inl (own_hw hw 23)) Via.refl e262 c263 (g := (mkF m 333 #[oR a1, oR sl, oR sp, oi 1, .val (.long (own_lmin (9223372036854775807 : Int64) (-(-pu1)))), .second, .val (.long ((own_lmin (9223372036854775807 : Int64) (-(-pu1))) + (1 : Int64))), .second, oi 1, oi 1] [(.ref a1), (.int (2 : Int32)), (.ref re)])) rfl rfl (hb hby d8_333)
      refine own_go (st' := T264.setTop (mkF m 336 #[oR a1, oR sl, oR sp, oi 1, .val (.long (own_lmin (9223372036854775807 : Int64) (-(-pu1)))), .second, .val (.long ((own_lmin (9223372036854775807 : Int64) (-(-pu1))) + (1 : Int64))), .second, oi 1, oi 1] [(.ref au), (.int (2 : Int32)), (.ref re)])) (st264) ?_
      refine own_go (st' := T264.setTop (mkF m 338 #[oR a1, oR sl, oR sp, oi 1, .val (.long (own_lmin (9223372036854775807 : Int64) (-(-pu1)))), .second, .val (.long ((own_lmin (9223372036854775807 : Int64) (-(-pu1))) + (1 : Int64))), .second, oi 1, oi 1] [(.int (1 : Int32)), (.ref au), (.int (2 : Int32)), (.ref re)])) (fun _ k => XS.iload X264.here hx rfl (hb hby d8_336) rfl k) ?_
      have c265 : Arv Z h258 au kau .int (2 : Int32) [(.int (0 : Int32)), (.int (1 : Int32))] (.int (0 : Int32)) := ((c239.other W250 (own_ne (by omega))).other W258 (own_ne (by omega)))
      obtain ⟨cl266, Ar266, -, S266, M266, H266, -⟩ := id c265
      have hin266 : ¬ ((1 : Int32) < 0 ∨ cl266.slots.size ≤ ((1 : Int32)).toNatClampNeg) := (inb_of S266 ⟨by decide, by decide⟩)
      have hat266 : cl266.slots[((1 : Int32)).toNatClampNeg]? = some (.int (1 : Int32)) := (H266.at hin266 rfl)
      refine own_go (st' := T264.setTop (mkF m 339 #[oR a1, oR sl, oR sp, oi 1, .val (.long (own_lmin (9223372036854775807 : Int64) (-(-pu1)))), .second, .val (.long ((own_lmin (9223372036854775807 : Int64) (-(-pu1))) + (1 : Int64))), .second, oi 1, oi 1] [(.int (1 : Int32)), (.int (2 : Int32)), (.ref re)])) (X264.iaload hx (j := (1 : Int32)) (v := (.int (1 : Int32))) (by rw [e264]; exact Ar266.1) (State.isArrayOf_alike hZ.alike Ar266.2.1) Ar266.2.2 hin266 hat266 (g := (mkF m 338 #[oR a1, oR sl, oR sp, oi 1, .val (.long (own_lmin (9223372036854775807 : Int64) (-(-pu1)))), .second, .val (.long ((own_lmin (9223372036854775807 : Int64) (-(-pu1))) + (1 : Int64))), .second, oi 1, oi 1] [(.int (1 : Int32)), (.ref au), (.int (2 : Int32)), (.ref re)])) rfl rfl (hb hby d8_338)) ?_
      refine own_go (st' := T264.setTop (mkF m 340 #[oR a1, oR sl, oR sp, oi 1, .val (.long (own_lmin (9223372036854775807 : Int64) (-(-pu1)))), .second, .val (.long ((own_lmin (9223372036854775807 : Int64) (-(-pu1))) + (1 : Int64))), .second, oi 1, oi 1] [(.int (3 : Int32)), (.ref re)])) (fun _ k => XS.iadd X264.here hx rfl (hb hby d8_339) rfl (by rw [show ((2 : Int32) + (1 : Int32)) = (3 : Int32) by decide]; exact k)) ?_
      refine own_go (st' := T264.setTop (mkF m 341 #[oR a1, oR sl, oR sp, oi 1, .val (.long (own_lmin (9223372036854775807 : Int64) (-(-pu1)))), .second, .val (.long ((own_lmin (9223372036854775807 : Int64) (-(-pu1))) + (1 : Int64))), .second, oi 1, oi 1] [(.int (3 : Int32)), (.ref re), (.int (3 : Int32)), (.ref re)])) (fun _ k => XT.dup2 X264.here hx rfl (hb hby d8_340) rfl rfl rfl k) ?_
      obtain ⟨cl267, Ar267, -, S267, M267, H267, -⟩ := id v258
      have hin267 : ¬ ((3 : Int32) < 0 ∨ cl267.slots.size ≤ ((3 : Int32)).toNatClampNeg) := (inb_of S267 ⟨by decide, by decide⟩)
      have hat267 : cl267.slots[((3 : Int32)).toNatClampNeg]? = some (.int (-cb)) := (H267.at hin267 rfl)
      refine own_go (st' := T264.setTop (mkF m 342 #[oR a1, oR sl, oR sp, oi 1, .val (.long (own_lmin (9223372036854775807 : Int64) (-(-pu1)))), .second, .val (.long ((own_lmin (9223372036854775807 : Int64) (-(-pu1))) + (1 : Int64))), .second, oi 1, oi 1] [(.int (-cb)), (.int (3 : Int32)), (.ref re)])) (X264.iaload hx (j := (3 : Int32)) (v := (.int (-cb))) (by rw [e264]; exact Ar267.1) (State.isArrayOf_alike hZ.alike Ar267.2.1) Ar267.2.2 hin267 hat267 (g := (mkF m 341 #[oR a1, oR sl, oR sp, oi 1, .val (.long (own_lmin (9223372036854775807 : Int64) (-(-pu1)))), .second, .val (.long ((own_lmin (9223372036854775807 : Int64) (-(-pu1))) + (1 : Int64))), .second, oi 1, oi 1] [(.int (3 : Int32)), (.ref re), (.int (3 : Int32)), (.ref re)])) rfl rfl (hb hby d8_341)) ?_
      refine own_go (st' := T264.setTop (mkF m 343 #[oR a1, oR sl, oR sp, oi 1, .val (.long (own_lmin (9223372036854775807 : Int64) (-(-pu1)))), .second, .val (.long ((own_lmin (9223372036854775807 : Int64) (-(-pu1))) + (1 : Int64))), .second, oi 1, oi 1] [(.ref a1), (.int (-cb)), (.int (3 : Int32)), (.ref re)])) (fun _ k => XS.aloadN X264.here hx rfl (hb hby d8_342) rfl rfl k) ?_
      have c268 : Fld Z h258 a1 oS0 "flow" "[I" (.ref rf) := (c255.other W258 (Or.inl (own_ne (by omega))))
      obtain ⟨T269, X269, e269, st269⟩ := getF X264 hx hZ hown (host := "") (Or.inl (own_hw hw 52)) Via.refl e264 c268 (g := (mkF m 343 #[oR a1, oR sl, oR sp, oi 1, .val (.long (own_lmin (9223372036854775807 : Int64) (-(-pu1)))), .second, .val (.long ((own_lmin (9223372036854775807 : Int64) (-(-pu1))) + (1 : Int64))), .second, oi 1, oi 1] [(.ref a1), (.int (-cb)), (.int (3 : Int32)), (.ref re)])) rfl rfl (hb hby d8_343)
      refine own_go (st' := T269.setTop (mkF m 346 #[oR a1, oR sl, oR sp, oi 1, .val (.long (own_lmin (9223372036854775807 : Int64) (-(-pu1)))), .second, .val (.long ((own_lmin (9223372036854775807 : Int64) (-(-pu1))) + (1 : Int64))), .second, oi 1, oi 1] [(.ref rf), (.int (-cb)), (.int (3 : Int32)), (.ref re)])) (st269) ?_
      refine own_go (st' := T269.setTop (mkF m 348 #[oR a1, oR sl, oR sp, oi 1, .val (.long (own_lmin (9223372036854775807 : Int64) (-(-pu1)))), .second, .val (.long ((own_lmin (9223372036854775807 : Int64) (-(-pu1))) + (1 : Int64))), .second, oi 1, oi 1] [(.int (1 : Int32)), (.ref rf), (.int (-cb)), (.int (3 : Int32)), (.ref re)])) (fun _ k => XS.iload X269.here hx rfl (hb hby d8_346) rfl k) ?_
      have c270 : Arv Z h258 rf krf .int (2 : Int32) [(.int ca), (.int cb)] (.int (0 : Int32)) := (v250.other W258 (own_ne (by omega)))
      obtain ⟨cl271, Ar271, -, S271, M271, H271, -⟩ := id c270
      have hin271 : ¬ ((1 : Int32) < 0 ∨ cl271.slots.size ≤ ((1 : Int32)).toNatClampNeg) := (inb_of S271 ⟨by decide, by decide⟩)
      have hat271 : cl271.slots[((1 : Int32)).toNatClampNeg]? = some (.int cb) := (H271.at hin271 rfl)
      refine own_go (st' := T269.setTop (mkF m 349 #[oR a1, oR sl, oR sp, oi 1, .val (.long (own_lmin (9223372036854775807 : Int64) (-(-pu1)))), .second, .val (.long ((own_lmin (9223372036854775807 : Int64) (-(-pu1))) + (1 : Int64))), .second, oi 1, oi 1] [(.int cb), (.int (-cb)), (.int (3 : Int32)), (.ref re)])) (X269.iaload hx (j := (1 : Int32)) (v := (.int cb)) (by rw [e269]; exact Ar271.1) (State.isArrayOf_alike hZ.alike Ar271.2.1) Ar271.2.2 hin271 hat271 (g := (mkF m 348 #[oR a1, oR sl, oR sp, oi 1, .val (.long (own_lmin (9223372036854775807 : Int64) (-(-pu1)))), .second, .val (.long ((own_lmin (9223372036854775807 : Int64) (-(-pu1))) + (1 : Int64))), .second, oi 1, oi 1] [(.int (1 : Int32)), (.ref rf), (.int (-cb)), (.int (3 : Int32)), (.ref re)])) rfl rfl (hb hby d8_348)) ?_
      refine own_go (st' := T269.setTop (mkF m 350 #[oR a1, oR sl, oR sp, oi 1, .val (.long (own_lmin (9223372036854775807 : Int64) (-(-pu1)))), .second, .val (.long ((own_lmin (9223372036854775807 : Int64) (-(-pu1))) + (1 : Int64))), .second, oi 1, oi 1] [(.int ((-cb) + cb)), (.int (3 : Int32)), (.ref re)])) (fun _ k => XS.iadd X269.here hx rfl (hb hby d8_349) rfl k) ?_
      obtain ⟨cl272, Ar272, qc272, S272, M272, H272, G272⟩ := id v258
      have hin272 : ¬ ((3 : Int32) < 0 ∨ cl272.slots.size ≤ ((3 : Int32)).toNatClampNeg) := (inb_of S272 ⟨by decide, by decide⟩)
      obtain ⟨T272, h272, X272, e272, W272, st272⟩ := stI X269 hx hZ e269 Ar272 (j := (3 : Int32)) hin272 (g := (mkF m 350 #[oR a1, oR sl, oR sp, oi 1, .val (.long (own_lmin (9223372036854775807 : Int64) (-(-pu1)))), .second, .val (.long ((own_lmin (9223372036854775807 : Int64) (-(-pu1))) + (1 : Int64))), .second, oi 1, oi 1] [(.int ((-cb) + cb)), (.int (3 : Int32)), (.ref re)])) rfl rfl (hb hby d8_350)
      have sz272 : h272.size = h258.size := W272.size
      have N272 := Fr.snoc X272 N258 (by omega)
      have v272 : Arv Z h272 re kre .int (5 : Int32) [(.int (ca - ca)), (.int (cb - cb)), (.int ((-ca) + ca)), (.int ((-cb) + cb)), (.int (((-tt) + ca) + cb))] (.int (0 : Int32)) := Arv.set Ar272 qc272 S272 M272 H272 G272 rfl W272 3 rfl (Nat.le_of_ble_eq_true rfl)
      refine own_go (st' := T272.setTop (mkF m 351 #[oR a1, oR sl, oR sp, oi 1, .val (.long (own_lmin (9223372036854775807 : Int64) (-(-pu1)))), .second, .val (.long ((own_lmin (9223372036854775807 : Int64) (-(-pu1))) + (1 : Int64))), .second, oi 1, oi 1] [])) (st272) ?_
      refine own_go (st' := T272.setTop (mkF m 354 #[oR a1, oR sl, oR sp, oi 1, .val (.long (own_lmin (9223372036854775807 : Int64) (-(-pu1)))), .second, .val (.long ((own_lmin (9223372036854775807 : Int64) (-(-pu1))) + (1 : Int64))), .second, oi 2, oi 1] [])) (fun _ k => XS.iinc X272.here hx rfl (hb hby d8_351) rfl (l' := #[oR a1, oR sl, oR sp, oi 1, .val (.long (own_lmin (9223372036854775807 : Int64) (-(-pu1)))), .second, .val (.long ((own_lmin (9223372036854775807 : Int64) (-(-pu1))) + (1 : Int64))), .second, oi 2, oi 1]) (by rw [show ((1 : Int32) + Int32.ofInt 1) = (2 : Int32) by decide]; rfl) k) ?_
      refine own_go (st' := T272.setTop (mkF m 248 #[oR a1, oR sl, oR sp, oi 1, .val (.long (own_lmin (9223372036854775807 : Int64) (-(-pu1)))), .second, .val (.long ((own_lmin (9223372036854775807 : Int64) (-(-pu1))) + (1 : Int64))), .second, oi 2, oi 1] [])) (fun _ k => XS.goto X272.here hx rfl (pc0 := 354) (pc' := 248) rfl (hb hby d8_354) (by decide) (by decide) k) ?_
      refine own_go (st' := T272.setTop (mkF m 250 #[oR a1, oR sl, oR sp, oi 1, .val (.long (own_lmin (9223372036854775807 : Int64) (-(-pu1)))), .second, .val (.long ((own_lmin (9223372036854775807 : Int64) (-(-pu1))) + (1 : Int64))), .second, oi 2, oi 1] [(.int (2 : Int32))])) (fun _ k => XS.iload X272.here hx rfl (hb hby d8_248) rfl k) ?_
      refine own_go (st' := T272.setTop (mkF m 251 #[oR a1, oR sl, oR sp, oi 1, .val (.long (own_lmin (9223372036854775807 : Int64) (-(-pu1)))), .second, .val (.long ((own_lmin (9223372036854775807 : Int64) (-(-pu1))) + (1 : Int64))), .second, oi 2, oi 1] [(.ref a1), (.int (2 : Int32))])) (fun _ k => XS.aloadN X272.here hx rfl (hb hby d8_250) rfl rfl k) ?_
      have c273 : Fld Z h272 a1 oS0 oS2 "[I" (.ref rts) := (((c222.other W250 (Or.inl (own_ne (by omega)))).other W258 (Or.inl (own_ne (by omega)))).other W272 (Or.inl (own_ne (by omega))))
      obtain ⟨T274, X274, e274, st274⟩ := getF X272 hx hZ hown (host := "") (Or.inl (own_hw hw 29)) Via.refl e272 c273 (g := (mkF m 251 #[oR a1, oR sl, oR sp, oi 1, .val (.long (own_lmin (9223372036854775807 : Int64) (-(-pu1)))), .second, .val (.long ((own_lmin (9223372036854775807 : Int64) (-(-pu1))) + (1 : Int64))), .second, oi 2, oi 1] [(.ref a1), (.int (2 : Int32))])) rfl rfl (hb hby d8_251)
      refine own_go (st' := T274.setTop (mkF m 254 #[oR a1, oR sl, oR sp, oi 1, .val (.long (own_lmin (9223372036854775807 : Int64) (-(-pu1)))), .second, .val (.long ((own_lmin (9223372036854775807 : Int64) (-(-pu1))) + (1 : Int64))), .second, oi 2, oi 1] [(.ref rts), (.int (2 : Int32))])) (st274) ?_
      refine own_go (st' := T274.setTop (mkF m 255 #[oR a1, oR sl, oR sp, oi 1, .val (.long (own_lmin (9223372036854775807 : Int64) (-(-pu1)))), .second, .val (.long ((own_lmin (9223372036854775807 : Int64) (-(-pu1))) + (1 : Int64))), .second, oi 2, oi 1] [(.int (1 : Int32)), (.ref rts), (.int (2 : Int32))])) (fun _ k => XS.iloadN X274.here hx rfl (hb hby d8_254) rfl k) ?_
      refine own_go (st' := T274.setTop (mkF m 256 #[oR a1, oR sl, oR sp, oi 1, .val (.long (own_lmin (9223372036854775807 : Int64) (-(-pu1)))), .second, .val (.long ((own_lmin (9223372036854775807 : Int64) (-(-pu1))) + (1 : Int64))), .second, oi 2, oi 1] [(.int (1 : Int32)), (.int (1 : Int32)), (.ref rts), (.int (2 : Int32))])) (fun _ k => XS.iconst X274.here hx rfl (hb hby d8_255) k) ?_
      refine own_go (st' := T274.setTop (mkF m 257 #[oR a1, oR sl, oR sp, oi 1, .val (.long (own_lmin (9223372036854775807 : Int64) (-(-pu1)))), .second, .val (.long ((own_lmin (9223372036854775807 : Int64) (-(-pu1))) + (1 : Int64))), .second, oi 2, oi 1] [(.int (2 : Int32)), (.ref rts), (.int (2 : Int32))])) (fun _ k => XS.iadd X274.here hx rfl (hb hby d8_256) rfl (by rw [show ((1 : Int32) + (1 : Int32)) = (2 : Int32) by decide]; exact k)) ?_
      have c275 : Arv Z h272 rts krts .int (3 : Int32) [(.int (0 : Int32)), (.int (1 : Int32)), (.int (2 : Int32))] (.int (0 : Int32)) := (((c224.other W250 (own_ne (by omega))).other W258 (own_ne (by omega))).other W272 (own_ne (by omega)))
      obtain ⟨cl276, Ar276, -, S276, M276, H276, -⟩ := id c275
      have hin276 : ¬ ((2 : Int32) < 0 ∨ cl276.slots.size ≤ ((2 : Int32)).toNatClampNeg) := (inb_of S276 ⟨by decide, by decide⟩)
      have hat276 : cl276.slots[((2 : Int32)).toNatClampNeg]? = some (.int (2 : Int32)) := (H276.at hin276 rfl)
      refine own_go (st' := T274.setTop (mkF m 258 #[oR a1, oR sl, oR sp, oi 1, .val (.long (own_lmin (9223372036854775807 : Int64) (-(-pu1)))), .second, .val (.long ((own_lmin (9223372036854775807 : Int64) (-(-pu1))) + (1 : Int64))), .second, oi 2, oi 1] [(.int (2 : Int32)), (.int (2 : Int32))])) (X274.iaload hx (j := (2 : Int32)) (v := (.int (2 : Int32))) (by rw [e274]; exact Ar276.1) (State.isArrayOf_alike hZ.alike Ar276.2.1) Ar276.2.2 hin276 hat276 (g := (mkF m 257 #[oR a1, oR sl, oR sp, oi 1, .val (.long (own_lmin (9223372036854775807 : Int64) (-(-pu1)))), .second, .val (.long ((own_lmin (9223372036854775807 : Int64) (-(-pu1))) + (1 : Int64))), .second, oi 2, oi 1] [(.int (2 : Int32)), (.ref rts), (.int (2 : Int32))])) rfl rfl (hb hby d8_257)) ?_
      have hc277 : ¬ ((2 : Int32) < (2 : Int32)) := by decide
      refine own_go (st' := T274.setTop (mkF m 357 #[oR a1, oR sl, oR sp, oi 1, .val (.long (own_lmin (9223372036854775807 : Int64) (-(-pu1)))), .second, .val (.long ((own_lmin (9223372036854775807 : Int64) (-(-pu1))) + (1 : Int64))), .second, oi 2, oi 1] [])) (fun _ k => XS.icmpYes X274.here hx rfl (pc0 := 258) (pc' := 357) rfl (hb hby d8_258) rfl (flt hc277).2.1 (by decide) (by decide) k) ?_
      refine own_go (st' := T274.setTop (mkF m 360 #[oR a1, oR sl, oR sp, oi 2, .val (.long (own_lmin (9223372036854775807 : Int64) (-(-pu1)))), .second, .val (.long ((own_lmin (9223372036854775807 : Int64) (-(-pu1))) + (1 : Int64))), .second, oi 2, oi 1] [])) (fun _ k => XS.iinc X274.here hx rfl (hb hby d8_357) rfl (l' := #[oR a1, oR sl, oR sp, oi 2, .val (.long (own_lmin (9223372036854775807 : Int64) (-(-pu1)))), .second, .val (.long ((own_lmin (9223372036854775807 : Int64) (-(-pu1))) + (1 : Int64))), .second, oi 2, oi 1]) (by rw [show ((1 : Int32) + Int32.ofInt 1) = (2 : Int32) by decide]; rfl) k) ?_
      refine own_go (st' := T274.setTop (mkF m 155 #[oR a1, oR sl, oR sp, oi 2, .val (.long (own_lmin (9223372036854775807 : Int64) (-(-pu1)))), .second, .val (.long ((own_lmin (9223372036854775807 : Int64) (-(-pu1))) + (1 : Int64))), .second, oi 2, oi 1] [])) (fun _ k => XS.goto X274.here hx rfl (pc0 := 360) (pc' := 155) rfl (hb hby d8_360) (by decide) (by decide) k) ?_
      refine own_go (st' := T274.setTop (mkF m 156 #[oR a1, oR sl, oR sp, oi 2, .val (.long (own_lmin (9223372036854775807 : Int64) (-(-pu1)))), .second, .val (.long ((own_lmin (9223372036854775807 : Int64) (-(-pu1))) + (1 : Int64))), .second, oi 2, oi 1] [(.int (2 : Int32))])) (fun _ k => XS.iloadN X274.here hx rfl (hb hby d8_155) rfl k) ?_
      refine own_go (st' := T274.setTop (mkF m 157 #[oR a1, oR sl, oR sp, oi 2, .val (.long (own_lmin (9223372036854775807 : Int64) (-(-pu1)))), .second, .val (.long ((own_lmin (9223372036854775807 : Int64) (-(-pu1))) + (1 : Int64))), .second, oi 2, oi 1] [(.ref a1), (.int (2 : Int32))])) (fun _ k => XS.aloadN X274.here hx rfl (hb hby d8_156) rfl rfl k) ?_
      have c278 : Fld Z h272 a1 oS0 "topicCount" "I" (.int (2 : Int32)) := (c261.other W272 (Or.inl (own_ne (by omega))))
      obtain ⟨T279, X279, e279, st279⟩ := getF X274 hx hZ hown (host := "") (Or.inl (own_hw hw 11)) Via.refl e274 c278 (g := (mkF m 157 #[oR a1, oR sl, oR sp, oi 2, .val (.long (own_lmin (9223372036854775807 : Int64) (-(-pu1)))), .second, .val (.long ((own_lmin (9223372036854775807 : Int64) (-(-pu1))) + (1 : Int64))), .second, oi 2, oi 1] [(.ref a1), (.int (2 : Int32))])) rfl rfl (hb hby d8_157)
      refine own_go (st' := T279.setTop (mkF m 160 #[oR a1, oR sl, oR sp, oi 2, .val (.long (own_lmin (9223372036854775807 : Int64) (-(-pu1)))), .second, .val (.long ((own_lmin (9223372036854775807 : Int64) (-(-pu1))) + (1 : Int64))), .second, oi 2, oi 1] [(.int (2 : Int32)), (.int (2 : Int32))])) (st279) ?_
      have hc280 : ¬ ((2 : Int32) < (2 : Int32)) := by decide
      refine own_go (st' := T279.setTop (mkF m 363 #[oR a1, oR sl, oR sp, oi 2, .val (.long (own_lmin (9223372036854775807 : Int64) (-(-pu1)))), .second, .val (.long ((own_lmin (9223372036854775807 : Int64) (-(-pu1))) + (1 : Int64))), .second, oi 2, oi 1] [])) (fun _ k => XS.icmpYes X279.here hx rfl (pc0 := 160) (pc' := 363) rfl (hb hby d8_160) rfl (flt hc280).2.1 (by decide) (by decide) k) ?_
      refine own_go (st' := T279.setTop (mkF m 364 #[oR a1, oR sl, oR sp, oi 2, .val (.long (own_lmin (9223372036854775807 : Int64) (-(-pu1)))), .second, .val (.long ((own_lmin (9223372036854775807 : Int64) (-(-pu1))) + (1 : Int64))), .second, oi 2, oi 1] [(.ref a1)])) (fun _ k => XS.aloadN X279.here hx rfl (hb hby d8_363) rfl rfl k) ?_
      have c282 : Fld Z h272 a1 oS0 "excess" "[I" (.ref re) := (c259.other W272 (Or.inl (own_ne (by omega))))
      have c283 : Exa Z h272 a1 oS0 := (((((((((((((c49.wr W60).wr W70).wr W80).wr W93).wr W106).wr W138).wr W167).wr W175).wr W189).wr W221).wr W250).wr W258).wr W272)
      obtain ⟨cq281, qc281, qc281'⟩ := (c283).cell
      obtain ⟨_, _, ⟨T281, LC281, kC281, nC281⟩, -, X281, ⟨Lc281, hQ281, lq281, yq281, zq281⟩, st281⟩ := X279.privateBack hx (y := oM13) hown (mvT hZ (own_hw hw 106)) (mvT hZ (own_hw hw 107)) (own_sel_priv (mvT hZ (own_hw hw 2)) (Cond.privateMethod_at (mvP hZ (own_hw hw 108) (args := #[]))) (mvT hZ (own_hw hw 107)) (by decide)) (Cond.privateMethod_at (mvP hZ (own_hw hw 108) (args := #[]))) (mvT hZ (own_hw hw 109)) (by decide) (backOf (W := 0) (rm11 l Z a0 hw [] a1 re kre (ca - ca) (cb - cb) ((-ca) + ca) ((-cb) + cb) (((-tt) + ca) + cb) h272 n0 (by omega) c282 v272 (own_z1 ca) (own_z1 cb) (own_z2 ca) (own_z2 cb) (own_z3 _ _ _ htt)) hZ (own_hw hw 109) (own_hw hw 3) (by decide) (by decide)) (g := (mkF m 364 #[oR a1, oR sl, oR sp, oi 2, .val (.long (own_lmin (9223372036854775807 : Int64) (-(-pu1)))), .second, .val (.long ((own_lmin (9223372036854775807 : Int64) (-(-pu1))) + (1 : Int64))), .second, oi 2, oi 1] [(.ref a1)])) rfl (by rw [hml]; rfl) (Steps.refl _) (a := a1) (by rw [e279]; exact qc281) qc281' (argsL := []) (rest := []) (lenOf pd_7 rfl) rfl (by show 2 * 0 + _ ≤ _; exact Nat.le_of_eq rfl) (hb hby d8_364) (fun _ _ => ⟨rfl, e279, (by decide : 0 + 0 ≤ _), (by decide : 0 + 0 ≤ _)⟩)
      dsimp only [Pt.U, Pt.locs, Pt.cells, Pt.slots] at X281 lq281 yq281 zq281 st281 hQ281
      subst lq281 yq281 zq281
      obtain ⟨rfl, Nq281, eq281⟩ := hQ281
      have N281 := Fr.app N272 Nq281
      refine own_go (st' := T281.setTop (mkF m 367 #[oR a1, oR sl, oR sp, oi 2, .val (.long (own_lmin (9223372036854775807 : Int64) (-(-pu1)))), .second, .val (.long ((own_lmin (9223372036854775807 : Int64) (-(-pu1))) + (1 : Int64))), .second, oi 2, oi 1] [(.int (0 : Int32))])) (fun _ k => st281.trans k) ?_
      have hc284 : (0 : Int32) = (0 : Int32) := by decide
      refine own_go (st' := T281.setTop (mkF m 405 #[oR a1, oR sl, oR sp, oi 2, .val (.long (own_lmin (9223372036854775807 : Int64) (-(-pu1)))), .second, .val (.long ((own_lmin (9223372036854775807 : Int64) (-(-pu1))) + (1 : Int64))), .second, oi 2, oi 1] [])) (fun _ k => XS.ifYes X281.here hx rfl (pc0 := 367) (pc' := 405) rfl (hb hby d8_367) rfl ((if0 _ _).trans (teq hc284).1) (by decide) (by decide) k) ?_
      obtain ⟨fs, hr, hrun, hended, hW, hsame⟩ := X281.leave (v := none) (fun _ => rfl)
      refine ⟨_, _, ?_, hP _ _ hrun hended ⟨_, _, rfl, ?_, ⟨_, rfl⟩, hW, hsame.mono (by decide) (by decide)⟩⟩
      · exact X281.returnOut hx Bd.returns (hb hby d8_405) hr
      · show Qrm8 Z a1 au ao us rts rta rf rl re rp sl sp kau kao kus krts krta krf krl kre krp ksl ksp ca cb sa sb qa qb tt ww h0 n0 _ T281.heap _
        have c286 : Arv Z h272 rp krp .long (5 : Int32) [(.long (-((own_lmin (9223372036854775807 : Int64) (-(-pu0))) + (1 : Int64)))), (.long (-((own_lmin (9223372036854775807 : Int64) (-(-pu1))) + (1 : Int64)))), (.long (-pu0)), (.long (-pu1)), (.long (0 : Int64))] (.long (0 : Int64)) := (((v221.other W250 (own_ne (by omega))).other W258 (own_ne (by omega))).other W272 (own_ne (by omega)))
        have c287 : Arv Z h272 rl krl .int (2 : Int32) [(.int ca), (.int cb)] (.int (0 : Int32)) := (((((((((c104.other W106 (own_ne (by omega))).other W138 (own_ne (by omega))).other W167 (own_ne (by omega))).other W175 (own_ne (by omega))).other W189 (own_ne (by omega))).other W221 (own_ne (by omega))).other W250 (own_ne (by omega))).other W258 (own_ne (by omega))).other W272 (own_ne (by omega)))
        rw [eq281]
        exact ⟨(-((own_lmin (9223372036854775807 : Int64) (-(-pu0))) + (1 : Int64))), (-((own_lmin (9223372036854775807 : Int64) (-(-pu1))) + (1 : Int64))), rfl, N281, ((((((((((((((((((Keep.refl h0 [rf, rl, re, rp]).wr W5 (Or.inl (List.mem_of_getElem? (i := 1) rfl))).wr W23 (Or.inl (List.mem_of_getElem? (i := 3) rfl))).wr W33 (Or.inl (List.mem_of_getElem? (i := 2) rfl))).wr W42 (Or.inl (List.mem_of_getElem? (i := 1) rfl))).wr W60 (Or.inl (List.mem_of_getElem? (i := 3) rfl))).wr W70 (Or.inl (List.mem_of_getElem? (i := 2) rfl))).wr W80 (Or.inl (List.mem_of_getElem? (i := 2) rfl))).wr W93 (Or.inl (List.mem_of_getElem? (i := 2) rfl))).wr W106 (Or.inl (List.mem_of_getElem? (i := 2) rfl))).wr W138 (Or.inl (List.mem_of_getElem? (i := 3) rfl))).wr W167 (Or.inl (List.mem_of_getElem? (i := 0) rfl))).wr W175 (Or.inl (List.mem_of_getElem? (i := 2) rfl))).wr W189 (Or.inl (List.mem_of_getElem? (i := 2) rfl))).wr W221 (Or.inl (List.mem_of_getElem? (i := 3) rfl))).wr W250 (Or.inl (List.mem_of_getElem? (i := 0) rfl))).wr W258 (Or.inl (List.mem_of_getElem? (i := 2) rfl))).wr W272 (Or.inl (List.mem_of_getElem? (i := 2) rfl))), c287, (by rw [← hpu0, ← hpu1]; exact c286)⟩
    refine own_go (st' := T53.setTop (mkF m 39 #[oR a1, oR sl, oR sp, oi 1, .val (.long (own_lmin qb (own_mc ww cb sb))), .second, .unset, .unset, .unset, .unset] [(.ref a1)])) (fun _ k => XS.aloadN X53.here hx rfl (hb hby d8_38) rfl rfl k) ?_
    obtain ⟨T288, X288, e288, st288⟩ := getF X53 hx hZ hown (host := "") (Or.inl (own_hw hw 54)) Via.refl eq53 c45 (g := (mkF m 39 #[oR a1, oR sl, oR sp, oi 1, .val (.long (own_lmin qb (own_mc ww cb sb))), .second, .unset, .unset, .unset, .unset] [(.ref a1)])) rfl rfl (hb hby d8_39)
    refine own_go (st' := T288.setTop (mkF m 42 #[oR a1, oR sl, oR sp, oi 1, .val (.long (own_lmin qb (own_mc ww cb sb))), .second, .unset, .unset, .unset, .unset] [(.ref rl)])) (st288) ?_
    refine own_go (st' := T288.setTop (mkF m 43 #[oR a1, oR sl, oR sp, oi 1, .val (.long (own_lmin qb (own_mc ww cb sb))), .second, .unset, .unset, .unset, .unset] [(.int (1 : Int32)), (.ref rl)])) (fun _ k => XS.iloadN X288.here hx rfl (hb hby d8_42) rfl k) ?_
    obtain ⟨cl289, Ar289, -, S289, M289, H289, -⟩ := id v42
    have hin289 : ¬ ((1 : Int32) < 0 ∨ cl289.slots.size ≤ ((1 : Int32)).toNatClampNeg) := (inb_of S289 ⟨by decide, by decide⟩)
    have hat289 : cl289.slots[((1 : Int32)).toNatClampNeg]? = some (.int cb) := (H289.at hin289 rfl)
    refine own_go (st' := T288.setTop (mkF m 44 #[oR a1, oR sl, oR sp, oi 1, .val (.long (own_lmin qb (own_mc ww cb sb))), .second, .unset, .unset, .unset, .unset] [(.int cb)])) (X288.iaload hx (j := (1 : Int32)) (v := (.int cb)) (by rw [e288]; exact Ar289.1) (State.isArrayOf_alike hZ.alike Ar289.2.1) Ar289.2.2 hin289 hat289 (g := (mkF m 43 #[oR a1, oR sl, oR sp, oi 1, .val (.long (own_lmin qb (own_mc ww cb sb))), .second, .unset, .unset, .unset, .unset] [(.int (1 : Int32)), (.ref rl)])) rfl rfl (hb hby d8_43)) ?_
    by_cases hc290 : (0 : Int32) < cb
    · --
      refine own_go (st' := T288.setTop (mkF m 47 #[oR a1, oR sl, oR sp, oi 1, .val (.long (own_lmin qb (own_mc ww cb sb))), .second, .unset, .unset, .unset, .unset] [])) (fun _ k => XS.ifNo X288.here hx rfl (hb hby d8_44) rfl ((if0 _ _).trans (tlt hc290).2.2.2) k) ?_
      refine own_go (st' := T288.setTop (mkF m 49 #[oR a1, oR sl, oR sp, oi 1, .val (.long (own_lmin qb (own_mc ww cb sb))), .second, .unset, .unset, .unset, .unset] [(.long (own_lmin qb (own_mc ww cb sb)))])) (fun _ k => XS.lload X288.here hx rfl (hb hby d8_47) rfl k) ?_
      refine own_go (st' := T288.setTop (mkF m 50 #[oR a1, oR sl, oR sp, oi 1, .val (.long (own_lmin qb (own_mc ww cb sb))), .second, .unset, .unset, .unset, .unset] [(.ref a1), (.long (own_lmin qb (own_mc ww cb sb)))])) (fun _ k => XS.aloadN X288.here hx rfl (hb hby d8_49) rfl rfl k) ?_
      refine own_go (st' := T288.setTop (mkF m 51 #[oR a1, oR sl, oR sp, oi 1, .val (.long (own_lmin qb (own_mc ww cb sb))), .second, .unset, .unset, .unset, .unset] [(.int (1 : Int32)), (.ref a1), (.long (own_lmin qb (own_mc ww cb sb)))])) (fun _ k => XS.iloadN X288.here hx rfl (hb hby d8_50) rfl k) ?_
      refine own_go (st' := T288.setTop (mkF m 52 #[oR a1, oR sl, oR sp, oi 1, .val (.long (own_lmin qb (own_mc ww cb sb))), .second, .unset, .unset, .unset, .unset] [(.ref a1), (.int (1 : Int32)), (.ref a1), (.long (own_lmin qb (own_mc ww cb sb)))])) (fun _ k => XS.aloadN X288.here hx rfl (hb hby d8_51) rfl rfl k) ?_
      obtain ⟨T291, X291, e291, st291⟩ := getF X288 hx hZ hown (host := "") (Or.inl (own_hw hw 54)) Via.refl e288 c45 (g := (mkF m 52 #[oR a1, oR sl, oR sp, oi 1, .val (.long (own_lmin qb (own_mc ww cb sb))), .second, .unset, .unset, .unset, .unset] [(.ref a1), (.int (1 : Int32)), (.ref a1), (.long (own_lmin qb (own_mc ww cb sb)))])) rfl rfl (hb hby d8_52)
      refine own_go (st' := T291.setTop (mkF m 55 #[oR a1, oR sl, oR sp, oi 1, .val (.long (own_lmin qb (own_mc ww cb sb))), .second, .unset, .unset, .unset, .unset] [(.ref rl), (.int (1 : Int32)), (.ref a1), (.long (own_lmin qb (own_mc ww cb sb)))])) (st291) ?_
      refine own_go (st' := T291.setTop (mkF m 56 #[oR a1, oR sl, oR sp, oi 1, .val (.long (own_lmin qb (own_mc ww cb sb))), .second, .unset, .unset, .unset, .unset] [(.int (1 : Int32)), (.ref rl), (.int (1 : Int32)), (.ref a1), (.long (own_lmin qb (own_mc ww cb sb)))])) (fun _ k => XS.iloadN X291.here hx rfl (hb hby d8_55) rfl k) ?_
      obtain ⟨cl292, Ar292, -, S292, M292, H292, -⟩ := id v42
      have hin292 : ¬ ((1 : Int32) < 0 ∨ cl292.slots.size ≤ ((1 : Int32)).toNatClampNeg) := (inb_of S292 ⟨by decide, by decide⟩)
      have hat292 : cl292.slots[((1 : Int32)).toNatClampNeg]? = some (.int cb) := (H292.at hin292 rfl)
      refine own_go (st' := T291.setTop (mkF m 57 #[oR a1, oR sl, oR sp, oi 1, .val (.long (own_lmin qb (own_mc ww cb sb))), .second, .unset, .unset, .unset, .unset] [(.int cb), (.int (1 : Int32)), (.ref a1), (.long (own_lmin qb (own_mc ww cb sb)))])) (X291.iaload hx (j := (1 : Int32)) (v := (.int cb)) (by rw [e291]; exact Ar292.1) (State.isArrayOf_alike hZ.alike Ar292.2.1) Ar292.2.2 hin292 hat292 (g := (mkF m 56 #[oR a1, oR sl, oR sp, oi 1, .val (.long (own_lmin qb (own_mc ww cb sb))), .second, .unset, .unset, .unset, .unset] [(.int (1 : Int32)), (.ref rl), (.int (1 : Int32)), (.ref a1), (.long (own_lmin qb (own_mc ww cb sb)))])) rfl rfl (hb hby d8_56)) ?_
      refine own_go (st' := T291.setTop (mkF m 58 #[oR a1, oR sl, oR sp, oi 1, .val (.long (own_lmin qb (own_mc ww cb sb))), .second, .unset, .unset, .unset, .unset] [(.int (1 : Int32)), (.int cb), (.int (1 : Int32)), (.ref a1), (.long (own_lmin qb (own_mc ww cb sb)))])) (fun _ k => XS.iconst X291.here hx rfl (hb hby d8_57) k) ?_
      refine own_go (st' := T291.setTop (mkF m 59 #[oR a1, oR sl, oR sp, oi 1, .val (.long (own_lmin qb (own_mc ww cb sb))), .second, .unset, .unset, .unset, .unset] [(.int (cb - (1 : Int32))), (.int (1 : Int32)), (.ref a1), (.long (own_lmin qb (own_mc ww cb sb)))])) (fun _ k => XS.isub X291.here hx rfl (hb hby d8_58) rfl k) ?_
      obtain ⟨cq293, qc293, qc293'⟩ := (c49).cell
      obtain ⟨_, _, ⟨T293, LC293, kC293, nC293⟩, -, X293, ⟨Lc293, hQ293, lq293, yq293, zq293⟩, st293⟩ := X291.privateBack hx (y := oM0) hown (mvT hZ (own_hw hw 97)) (mvT hZ (own_hw hw 98)) (own_sel_priv (mvT hZ (own_hw hw 2)) (Cond.privateMethod_at (mvP hZ (own_hw hw 99) (args := #[]))) (mvT hZ (own_hw hw 98)) (by decide)) (Cond.privateMethod_at (mvP hZ (own_hw hw 99) (args := #[]))) (mvT hZ (own_hw hw 100)) (by decide) (backOf (W := 2) (rm9_1 l Z a0 hw [] a1 us kus (cb - (1 : Int32)) ww sa sb h42 n0 (by omega) c49 c50 c51 c52 (by assumption)) hZ (own_hw hw 100) (own_hw hw 3) (by decide) (by decide)) (g := (mkF m 59 #[oR a1, oR sl, oR sp, oi 1, .val (.long (own_lmin qb (own_mc ww cb sb))), .second, .unset, .unset, .unset, .unset] [(.int (cb - (1 : Int32))), (.int (1 : Int32)), (.ref a1), (.long (own_lmin qb (own_mc ww cb sb)))])) rfl (by rw [hml]; rfl) (Steps.refl _) (a := a1) (by rw [e291]; exact qc293) qc293' (argsL := [(.int (1 : Int32)), (.int (cb - (1 : Int32)))]) (rest := [(.long (own_lmin qb (own_mc ww cb sb)))]) (lenOf pd_5 rfl) rfl (by show 2 * 0 + _ ≤ _; exact Nat.le_of_eq rfl) (hb hby d8_59) (fun _ _ => ⟨rfl, e291, (by decide : 0 + 0 ≤ _), (by decide : 0 + 0 ≤ _)⟩)
      dsimp only [Pt.U, Pt.locs, Pt.cells, Pt.slots] at X293 lq293 yq293 zq293 st293 hQ293
      subst lq293 yq293 zq293
      obtain ⟨rfl, Nq293, eq293⟩ := hQ293
      have N293 := Fr.app N53 Nq293
      refine own_go (st' := T293.setTop (mkF m 62 #[oR a1, oR sl, oR sp, oi 1, .val (.long (own_lmin qb (own_mc ww cb sb))), .second, .unset, .unset, .unset, .unset] [(.long (own_mc ww (cb - (1 : Int32)) sb)), (.long (own_lmin qb (own_mc ww cb sb)))])) (fun _ k => st293.trans k) ?_
      obtain ⟨_, _, ⟨T294, LC294, kC294, nC294⟩, -, X294, ⟨Lc294, hQ294, lq294, yq294, zq294⟩, st294⟩ := Jvm.LawKit.callS X293 hx (y := oM5) hown (mvT hZ (own_hw hw 125)) (mvT hZ (own_hw hw 126)) (mvT hZ (own_hw hw 40)) (mvT hZ (own_hw hw 127)) (by decide) (backOf (W := 0) (rm15 l Z a0 hw [] (own_lmin qb (own_mc ww cb sb)) (own_mc ww (cb - (1 : Int32)) sb) h42 n0 (by omega) ) hZ (own_hw hw 127) (own_hw hw 40) (by decide) (by decide)) (g := (mkF m 62 #[oR a1, oR sl, oR sp, oi 1, .val (.long (own_lmin qb (own_mc ww cb sb))), .second, .unset, .unset, .unset, .unset] [(.long (own_mc ww (cb - (1 : Int32)) sb)), (.long (own_lmin qb (own_mc ww cb sb)))])) rfl (by rw [hml]; rfl) (argsL := [(.long (own_lmin qb (own_mc ww cb sb))), (.long (own_mc ww (cb - (1 : Int32)) sb))]) (rest := []) (lenOf pd_6 rfl) rfl (by show 2 * 0 + _ ≤ _; exact Nat.le_of_eq rfl) (hb hby d8_62) (fun _ _ => ⟨rfl, eq293, (by decide : 0 + 0 ≤ _), (by decide : 0 + 0 ≤ _)⟩)
      dsimp only [Pt.U, Pt.locs, Pt.cells, Pt.slots] at X294 lq294 yq294 zq294 st294 hQ294
      subst lq294 yq294 zq294
      obtain ⟨rfl, Nq294, eq294⟩ := hQ294
      have N294 := Fr.app N293 Nq294
      refine own_go (st' := T294.setTop (mkF m 65 #[oR a1, oR sl, oR sp, oi 1, .val (.long (own_lmin qb (own_mc ww cb sb))), .second, .unset, .unset, .unset, .unset] [(.long (own_lmax (own_lmin qb (own_mc ww cb sb)) (own_mc ww (cb - (1 : Int32)) sb)))])) (fun t k => st294 t k) ?_
      refine own_go (st' := T294.setTop (mkF m 67 #[oR a1, oR sl, oR sp, oi 1, .val (.long (own_lmax (own_lmin qb (own_mc ww cb sb)) (own_mc ww (cb - (1 : Int32)) sb))), .second, .unset, .unset, .unset, .unset] [])) (fun _ k => XS.lstore X294.here hx rfl (hb hby d8_65) rfl (l' := #[oR a1, oR sl, oR sp, oi 1, .val (.long (own_lmax (own_lmin qb (own_mc ww cb sb)) (own_mc ww (cb - (1 : Int32)) sb))), .second, .unset, .unset, .unset, .unset]) rfl k) ?_
      exact J67_54 _ _ (own_lmax (own_lmin qb (own_mc ww cb sb)) (own_mc ww (cb - (1 : Int32)) sb)) X294 eq294 N294 (if_pos hc290).symm
    · --
      refine own_go (st' := T288.setTop (mkF m 67 #[oR a1, oR sl, oR sp, oi 1, .val (.long (own_lmin qb (own_mc ww cb sb))), .second, .unset, .unset, .unset, .unset] [])) (fun _ k => XS.ifYes X288.here hx rfl (pc0 := 44) (pc' := 67) rfl (hb hby d8_44) rfl ((if0 _ _).trans (flt hc290).2.2.2) (by decide) (by decide) k) ?_
      exact J67_54 _ _ (own_lmin qb (own_mc ww cb sb)) X288 e288 N53 (if_neg hc290).symm
  refine own_go (st' := T16.setTop (mkF m 39 #[oR a1, oR sl, oR sp, oi 0, .val (.long (own_lmin qa (own_mc ww ca sa))), .second, .unset, .unset, .unset, .unset] [(.ref a1)])) (fun _ k => XS.aloadN X16.here hx rfl (hb hby d8_38) rfl rfl k) ?_
  obtain ⟨T295, X295, e295, st295⟩ := getF X16 hx hZ hown (host := "") (Or.inl (own_hw hw 54)) Via.refl eq16 c8 (g := (mkF m 39 #[oR a1, oR sl, oR sp, oi 0, .val (.long (own_lmin qa (own_mc ww ca sa))), .second, .unset, .unset, .unset, .unset] [(.ref a1)])) rfl rfl (hb hby d8_39)
  refine own_go (st' := T295.setTop (mkF m 42 #[oR a1, oR sl, oR sp, oi 0, .val (.long (own_lmin qa (own_mc ww ca sa))), .second, .unset, .unset, .unset, .unset] [(.ref rl)])) (st295) ?_
  refine own_go (st' := T295.setTop (mkF m 43 #[oR a1, oR sl, oR sp, oi 0, .val (.long (own_lmin qa (own_mc ww ca sa))), .second, .unset, .unset, .unset, .unset] [(.int (0 : Int32)), (.ref rl)])) (fun _ k => XS.iloadN X295.here hx rfl (hb hby d8_42) rfl k) ?_
  obtain ⟨cl296, Ar296, -, S296, M296, H296, -⟩ := id v5
  have hin296 : ¬ ((0 : Int32) < 0 ∨ cl296.slots.size ≤ ((0 : Int32)).toNatClampNeg) := (inb_of S296 ⟨by decide, by decide⟩)
  have hat296 : cl296.slots[((0 : Int32)).toNatClampNeg]? = some (.int ca) := (H296.at hin296 rfl)
  refine own_go (st' := T295.setTop (mkF m 44 #[oR a1, oR sl, oR sp, oi 0, .val (.long (own_lmin qa (own_mc ww ca sa))), .second, .unset, .unset, .unset, .unset] [(.int ca)])) (X295.iaload hx (j := (0 : Int32)) (v := (.int ca)) (by rw [e295]; exact Ar296.1) (State.isArrayOf_alike hZ.alike Ar296.2.1) Ar296.2.2 hin296 hat296 (g := (mkF m 43 #[oR a1, oR sl, oR sp, oi 0, .val (.long (own_lmin qa (own_mc ww ca sa))), .second, .unset, .unset, .unset, .unset] [(.int (0 : Int32)), (.ref rl)])) rfl rfl (hb hby d8_43)) ?_
  by_cases hc297 : (0 : Int32) < ca
  · --
    refine own_go (st' := T295.setTop (mkF m 47 #[oR a1, oR sl, oR sp, oi 0, .val (.long (own_lmin qa (own_mc ww ca sa))), .second, .unset, .unset, .unset, .unset] [])) (fun _ k => XS.ifNo X295.here hx rfl (hb hby d8_44) rfl ((if0 _ _).trans (tlt hc297).2.2.2) k) ?_
    refine own_go (st' := T295.setTop (mkF m 49 #[oR a1, oR sl, oR sp, oi 0, .val (.long (own_lmin qa (own_mc ww ca sa))), .second, .unset, .unset, .unset, .unset] [(.long (own_lmin qa (own_mc ww ca sa)))])) (fun _ k => XS.lload X295.here hx rfl (hb hby d8_47) rfl k) ?_
    refine own_go (st' := T295.setTop (mkF m 50 #[oR a1, oR sl, oR sp, oi 0, .val (.long (own_lmin qa (own_mc ww ca sa))), .second, .unset, .unset, .unset, .unset] [(.ref a1), (.long (own_lmin qa (own_mc ww ca sa)))])) (fun _ k => XS.aloadN X295.here hx rfl (hb hby d8_49) rfl rfl k) ?_
    refine own_go (st' := T295.setTop (mkF m 51 #[oR a1, oR sl, oR sp, oi 0, .val (.long (own_lmin qa (own_mc ww ca sa))), .second, .unset, .unset, .unset, .unset] [(.int (0 : Int32)), (.ref a1), (.long (own_lmin qa (own_mc ww ca sa)))])) (fun _ k => XS.iloadN X295.here hx rfl (hb hby d8_50) rfl k) ?_
    refine own_go (st' := T295.setTop (mkF m 52 #[oR a1, oR sl, oR sp, oi 0, .val (.long (own_lmin qa (own_mc ww ca sa))), .second, .unset, .unset, .unset, .unset] [(.ref a1), (.int (0 : Int32)), (.ref a1), (.long (own_lmin qa (own_mc ww ca sa)))])) (fun _ k => XS.aloadN X295.here hx rfl (hb hby d8_51) rfl rfl k) ?_
    obtain ⟨T298, X298, e298, st298⟩ := getF X295 hx hZ hown (host := "") (Or.inl (own_hw hw 54)) Via.refl e295 c8 (g := (mkF m 52 #[oR a1, oR sl, oR sp, oi 0, .val (.long (own_lmin qa (own_mc ww ca sa))), .second, .unset, .unset, .unset, .unset] [(.ref a1), (.int (0 : Int32)), (.ref a1), (.long (own_lmin qa (own_mc ww ca sa)))])) rfl rfl (hb hby d8_52)
    refine own_go (st' := T298.setTop (mkF m 55 #[oR a1, oR sl, oR sp, oi 0, .val (.long (own_lmin qa (own_mc ww ca sa))), .second, .unset, .unset, .unset, .unset] [(.ref rl), (.int (0 : Int32)), (.ref a1), (.long (own_lmin qa (own_mc ww ca sa)))])) (st298) ?_
    refine own_go (st' := T298.setTop (mkF m 56 #[oR a1, oR sl, oR sp, oi 0, .val (.long (own_lmin qa (own_mc ww ca sa))), .second, .unset, .unset, .unset, .unset] [(.int (0 : Int32)), (.ref rl), (.int (0 : Int32)), (.ref a1), (.long (own_lmin qa (own_mc ww ca sa)))])) (fun _ k => XS.iloadN X298.here hx rfl (hb hby d8_55) rfl k) ?_
    obtain ⟨cl299, Ar299, -, S299, M299, H299, -⟩ := id v5
    have hin299 : ¬ ((0 : Int32) < 0 ∨ cl299.slots.size ≤ ((0 : Int32)).toNatClampNeg) := (inb_of S299 ⟨by decide, by decide⟩)
    have hat299 : cl299.slots[((0 : Int32)).toNatClampNeg]? = some (.int ca) := (H299.at hin299 rfl)
    refine own_go (st' := T298.setTop (mkF m 57 #[oR a1, oR sl, oR sp, oi 0, .val (.long (own_lmin qa (own_mc ww ca sa))), .second, .unset, .unset, .unset, .unset] [(.int ca), (.int (0 : Int32)), (.ref a1), (.long (own_lmin qa (own_mc ww ca sa)))])) (X298.iaload hx (j := (0 : Int32)) (v := (.int ca)) (by rw [e298]; exact Ar299.1) (State.isArrayOf_alike hZ.alike Ar299.2.1) Ar299.2.2 hin299 hat299 (g := (mkF m 56 #[oR a1, oR sl, oR sp, oi 0, .val (.long (own_lmin qa (own_mc ww ca sa))), .second, .unset, .unset, .unset, .unset] [(.int (0 : Int32)), (.ref rl), (.int (0 : Int32)), (.ref a1), (.long (own_lmin qa (own_mc ww ca sa)))])) rfl rfl (hb hby d8_56)) ?_
    refine own_go (st' := T298.setTop (mkF m 58 #[oR a1, oR sl, oR sp, oi 0, .val (.long (own_lmin qa (own_mc ww ca sa))), .second, .unset, .unset, .unset, .unset] [(.int (1 : Int32)), (.int ca), (.int (0 : Int32)), (.ref a1), (.long (own_lmin qa (own_mc ww ca sa)))])) (fun _ k => XS.iconst X298.here hx rfl (hb hby d8_57) k) ?_
    refine own_go (st' := T298.setTop (mkF m 59 #[oR a1, oR sl, oR sp, oi 0, .val (.long (own_lmin qa (own_mc ww ca sa))), .second, .unset, .unset, .unset, .unset] [(.int (ca - (1 : Int32))), (.int (0 : Int32)), (.ref a1), (.long (own_lmin qa (own_mc ww ca sa)))])) (fun _ k => XS.isub X298.here hx rfl (hb hby d8_58) rfl k) ?_
    obtain ⟨cq300, qc300, qc300'⟩ := (c12).cell
    obtain ⟨_, _, ⟨T300, LC300, kC300, nC300⟩, -, X300, ⟨Lc300, hQ300, lq300, yq300, zq300⟩, st300⟩ := X298.privateBack hx (y := oM0) hown (mvT hZ (own_hw hw 97)) (mvT hZ (own_hw hw 98)) (own_sel_priv (mvT hZ (own_hw hw 2)) (Cond.privateMethod_at (mvP hZ (own_hw hw 99) (args := #[]))) (mvT hZ (own_hw hw 98)) (by decide)) (Cond.privateMethod_at (mvP hZ (own_hw hw 99) (args := #[]))) (mvT hZ (own_hw hw 100)) (by decide) (backOf (W := 2) (rm9_0 l Z a0 hw [] a1 us kus (ca - (1 : Int32)) ww sa sb h5 n0 (by omega) c12 c13 c14 c15 (by assumption)) hZ (own_hw hw 100) (own_hw hw 3) (by decide) (by decide)) (g := (mkF m 59 #[oR a1, oR sl, oR sp, oi 0, .val (.long (own_lmin qa (own_mc ww ca sa))), .second, .unset, .unset, .unset, .unset] [(.int (ca - (1 : Int32))), (.int (0 : Int32)), (.ref a1), (.long (own_lmin qa (own_mc ww ca sa)))])) rfl (by rw [hml]; rfl) (Steps.refl _) (a := a1) (by rw [e298]; exact qc300) qc300' (argsL := [(.int (0 : Int32)), (.int (ca - (1 : Int32)))]) (rest := [(.long (own_lmin qa (own_mc ww ca sa)))]) (lenOf pd_5 rfl) rfl (by show 2 * 0 + _ ≤ _; exact Nat.le_of_eq rfl) (hb hby d8_59) (fun _ _ => ⟨rfl, e298, (by decide : 0 + 0 ≤ _), (by decide : 0 + 0 ≤ _)⟩)
    dsimp only [Pt.U, Pt.locs, Pt.cells, Pt.slots] at X300 lq300 yq300 zq300 st300 hQ300
    subst lq300 yq300 zq300
    obtain ⟨rfl, Nq300, eq300⟩ := hQ300
    have N300 := Fr.app N16 Nq300
    refine own_go (st' := T300.setTop (mkF m 62 #[oR a1, oR sl, oR sp, oi 0, .val (.long (own_lmin qa (own_mc ww ca sa))), .second, .unset, .unset, .unset, .unset] [(.long (own_mc ww (ca - (1 : Int32)) sa)), (.long (own_lmin qa (own_mc ww ca sa)))])) (fun _ k => st300.trans k) ?_
    obtain ⟨_, _, ⟨T301, LC301, kC301, nC301⟩, -, X301, ⟨Lc301, hQ301, lq301, yq301, zq301⟩, st301⟩ := Jvm.LawKit.callS X300 hx (y := oM5) hown (mvT hZ (own_hw hw 125)) (mvT hZ (own_hw hw 126)) (mvT hZ (own_hw hw 40)) (mvT hZ (own_hw hw 127)) (by decide) (backOf (W := 0) (rm15 l Z a0 hw [] (own_lmin qa (own_mc ww ca sa)) (own_mc ww (ca - (1 : Int32)) sa) h5 n0 (by omega) ) hZ (own_hw hw 127) (own_hw hw 40) (by decide) (by decide)) (g := (mkF m 62 #[oR a1, oR sl, oR sp, oi 0, .val (.long (own_lmin qa (own_mc ww ca sa))), .second, .unset, .unset, .unset, .unset] [(.long (own_mc ww (ca - (1 : Int32)) sa)), (.long (own_lmin qa (own_mc ww ca sa)))])) rfl (by rw [hml]; rfl) (argsL := [(.long (own_lmin qa (own_mc ww ca sa))), (.long (own_mc ww (ca - (1 : Int32)) sa))]) (rest := []) (lenOf pd_6 rfl) rfl (by show 2 * 0 + _ ≤ _; exact Nat.le_of_eq rfl) (hb hby d8_62) (fun _ _ => ⟨rfl, eq300, (by decide : 0 + 0 ≤ _), (by decide : 0 + 0 ≤ _)⟩)
    dsimp only [Pt.U, Pt.locs, Pt.cells, Pt.slots] at X301 lq301 yq301 zq301 st301 hQ301
    subst lq301 yq301 zq301
    obtain ⟨rfl, Nq301, eq301⟩ := hQ301
    have N301 := Fr.app N300 Nq301
    refine own_go (st' := T301.setTop (mkF m 65 #[oR a1, oR sl, oR sp, oi 0, .val (.long (own_lmin qa (own_mc ww ca sa))), .second, .unset, .unset, .unset, .unset] [(.long (own_lmax (own_lmin qa (own_mc ww ca sa)) (own_mc ww (ca - (1 : Int32)) sa)))])) (fun t k => st301 t k) ?_
    refine own_go (st' := T301.setTop (mkF m 67 #[oR a1, oR sl, oR sp, oi 0, .val (.long (own_lmax (own_lmin qa (own_mc ww ca sa)) (own_mc ww (ca - (1 : Int32)) sa))), .second, .unset, .unset, .unset, .unset] [])) (fun _ k => XS.lstore X301.here hx rfl (hb hby d8_65) rfl (l' := #[oR a1, oR sl, oR sp, oi 0, .val (.long (own_lmax (own_lmin qa (own_mc ww ca sa)) (own_mc ww (ca - (1 : Int32)) sa))), .second, .unset, .unset, .unset, .unset]) rfl k) ?_
    exact J67_17 _ _ (own_lmax (own_lmin qa (own_mc ww ca sa)) (own_mc ww (ca - (1 : Int32)) sa)) X301 eq301 N301 (if_pos hc297).symm
  · --
    refine own_go (st' := T295.setTop (mkF m 67 #[oR a1, oR sl, oR sp, oi 0, .val (.long (own_lmin qa (own_mc ww ca sa))), .second, .unset, .unset, .unset, .unset] [])) (fun _ k => XS.ifYes X295.here hx rfl (pc0 := 44) (pc' := 67) rfl (hb hby d8_44) rfl ((if0 _ _).trans (flt hc297).2.2.2) (by decide) (by decide) k) ?_
    exact J67_17 _ _ (own_lmin qa (own_mc ww ca sa)) X295 e295 N16 (if_neg hc297).symm
theorem d12_0 : decode prog_29_method_6_code 0 = .ok (.aload_n 0, 1) := by decide +kernel
theorem d12_1 : decode prog_29_method_6_code 1 = .ok (.getfield 71, 3) := by decide +kernel
theorem d12_4 : decode prog_29_method_6_code 4 = .ok (.iload_n 1, 1) := by decide +kernel
theorem d12_5 : decode prog_29_method_6_code 5 = .ok (.iaload, 1) := by decide +kernel
theorem d12_6 : decode prog_29_method_6_code 6 = .ok (.ireturn, 1) := by decide +kernel
theorem pn_12 : plainName "com/example/limpet/limpet/StickyShares" = true := by first | (simp [plainName, overriddenIn]; done) | decide +kernel
theorem ef_rm12_0 (m : MethodId) (x0 : Addr) (x1 : Int32) : entryFrame m #[(.ref x0), (.int x1)] 2 = mkF m 0 #[.val (.ref x0), .val (.int x1)] [] := by first | (simp [entryFrame, mkF, argsToLocals, Value.category]; done) | rfl
def Qrm12_0 (Z : State) (a1 : Addr) (rl : Addr) (krl : ClassId) (ca : Int32) (cb : Int32) (h0 : Heap) (n0 : Nat) (v : Option Value) (h : Heap) (L : List Loc) : Prop := (v = some (.int ca)) ∧ (Fr n0 L) ∧ (h = h0)
set_option maxRecDepth 65536 in
set_option maxHeartbeats 40000000 in
theorem rm12_0 (l : Launch) (Z : State) (a0 : Array Value) (hw : ∀ d ∈ tables_1, d.before a0 Z = true) (ws : List Jvm.Cond) (a1 : Addr) (rl : Addr) (krl : ClassId) (ca : Int32) (cb : Int32) (h0 : Heap) (n0 : Nat) (Z0 : n0 ≤ h0.size) (pr1 : Fld Z h0 a1 "com/example/limpet/limpet/StickyShares" "load" "[I" (.ref rl)) (pr2 : Arv Z h0 rl krl .int (2 : Int32) [(.int ca), (.int cb)] (.int (0 : Int32))) :
    MetFree l oM1 (head1 (Jvm.Cond.code oM1 prog_29_method_6_code 2 (some .int) :: ws) ({ frames := 0, cells := 0, slots := 0, locals := 0 } : Room)) (fun a U => a = #[(.ref a1), (.int (0 : Int32))] ∧ Z.Warmed39 U.vm ∧ U.heap = h0) (fun _ _ _ _ _ => True) (fun _ U o U' => ∃ v L, o = .returned v ∧ Qrm12_0 Z a1 rl krl ca cb h0 n0 v U'.heap L ∧ FrameEnd U o U' L ({ frames := 0, cells := 0, slots := 0, locals := 0 } : Room).cells ({ frames := 0, cells := 0, slots := 0, locals := 0 } : Room).slots) := by
  refine MetFree.of_bodySF (plainFor_of_name pn_12) hisR ?_
  intro p e s m args below meth c s₁ Bd hml0 hP0 hK
  obtain ⟨rfl, hZ, hh⟩ := hP0
  have hx := Bd.exec
  have hby := Bd.bytes
  have hml : c.maxLocals = 2 := hml0
  have hown : s.vm.findClass oS0 = some m.cls := findClass_of_methodNamed Bd.named
  have hnm := (name_of_methodNamed Bd.named Bd.method).1
  have X0 : Stand p l e ({ frames := 0, cells := 0, slots := 0, locals := 0 } : Room) s m #[(.ref a1), (.int (0 : Int32))] below meth c s₁ [] 0 0 := Stand.of_body Bd
  have e0 : s₁.heap = h0 := by rw [← hh, Bd.state]; rfl
  have N0 := Fr.nil n0
  suffices own_H : ∀ (P : State → Outcome → Prop), (∀ U o, U.status = .running → Ended U below o → (∃ v L, o = .returned v ∧ Qrm12_0 Z a1 rl krl ca cb h0 n0 v U.heap L ∧ FrameEnd s o U L ({ frames := 0, cells := 0, slots := 0, locals := 0 } : Room).cells ({ frames := 0, cells := 0, slots := 0, locals := 0 } : Room).slots) → P U o) → own_Go p.tables e below P (s₁.setTop (mkF m 0 #[oR a1, oi 0] [])) from own_go (fun _ k => castTop (ef_rm12_0 m a1 (0 : Int32)) k) (own_H _ (fun U o h1 h2 h3 => ⟨h1, h2, h3⟩))
  intro P hP
  have lt_a1 : @LT.lt Nat _ a1 h0.size := pr1.lt
  have lt_rl : @LT.lt Nat _ rl h0.size := pr2.lt
  refine own_go (st' := s₁.setTop (mkF m 1 #[oR a1, oi 0] [(.ref a1)])) (fun _ k => XS.aloadN X0.here hx rfl (hb hby d12_0) rfl rfl k) ?_
  obtain ⟨T1, X1, e1, st1⟩ := getF X0 hx hZ hown (host := "") (Or.inl (own_hw hw 54)) Via.refl e0 pr1 (g := (mkF m 1 #[oR a1, oi 0] [(.ref a1)])) rfl rfl (hb hby d12_1)
  refine own_go (st' := T1.setTop (mkF m 4 #[oR a1, oi 0] [(.ref rl)])) (st1) ?_
  refine own_go (st' := T1.setTop (mkF m 5 #[oR a1, oi 0] [(.int (0 : Int32)), (.ref rl)])) (fun _ k => XS.iloadN X1.here hx rfl (hb hby d12_4) rfl k) ?_
  obtain ⟨cl2, Ar2, -, S2, M2, H2, -⟩ := id pr2
  have hin2 : ¬ ((0 : Int32) < 0 ∨ cl2.slots.size ≤ ((0 : Int32)).toNatClampNeg) := (inb_of S2 ⟨by decide, by decide⟩)
  have hat2 : cl2.slots[((0 : Int32)).toNatClampNeg]? = some (.int ca) := (H2.at hin2 rfl)
  refine own_go (st' := T1.setTop (mkF m 6 #[oR a1, oi 0] [(.int ca)])) (X1.iaload hx (j := (0 : Int32)) (v := (.int ca)) (by rw [e1]; exact Ar2.1) (State.isArrayOf_alike hZ.alike Ar2.2.1) Ar2.2.2 hin2 hat2 (g := (mkF m 5 #[oR a1, oi 0] [(.int (0 : Int32)), (.ref rl)])) rfl rfl (hb hby d12_5)) ?_
  obtain ⟨fs, hr, hrun, hended, hW, hsame⟩ := X1.leave (v := some (.int ca)) (fun h => by rw [Bd.returns] at h; cases h)
  refine ⟨_, _, ?_, hP _ _ hrun hended ⟨_, _, rfl, ?_, ⟨_, rfl⟩, hW, hsame.mono (by decide) (by decide)⟩⟩
  · exact retOut X1 hx Bd.returns rfl (Or.inl ⟨rfl, Or.inl rfl, _, rfl⟩) (hb hby d12_6) hr
  · show Qrm12_0 Z a1 rl krl ca cb h0 n0 _ T1.heap _
    rw [e1]
    exact ⟨rfl, N0, rfl⟩
theorem ef_rm12_1 (m : MethodId) (x0 : Addr) (x1 : Int32) : entryFrame m #[(.ref x0), (.int x1)] 2 = mkF m 0 #[.val (.ref x0), .val (.int x1)] [] := by first | (simp [entryFrame, mkF, argsToLocals, Value.category]; done) | rfl
def Qrm12_1 (Z : State) (a1 : Addr) (rl : Addr) (krl : ClassId) (ca : Int32) (cb : Int32) (h0 : Heap) (n0 : Nat) (v : Option Value) (h : Heap) (L : List Loc) : Prop := (v = some (.int cb)) ∧ (Fr n0 L) ∧ (h = h0)
set_option maxRecDepth 65536 in
set_option maxHeartbeats 40000000 in
theorem rm12_1 (l : Launch) (Z : State) (a0 : Array Value) (hw : ∀ d ∈ tables_1, d.before a0 Z = true) (ws : List Jvm.Cond) (a1 : Addr) (rl : Addr) (krl : ClassId) (ca : Int32) (cb : Int32) (h0 : Heap) (n0 : Nat) (Z0 : n0 ≤ h0.size) (pr1 : Fld Z h0 a1 "com/example/limpet/limpet/StickyShares" "load" "[I" (.ref rl)) (pr2 : Arv Z h0 rl krl .int (2 : Int32) [(.int ca), (.int cb)] (.int (0 : Int32))) :
    MetFree l oM1 (head1 (Jvm.Cond.code oM1 prog_29_method_6_code 2 (some .int) :: ws) ({ frames := 0, cells := 0, slots := 0, locals := 0 } : Room)) (fun a U => a = #[(.ref a1), (.int (1 : Int32))] ∧ Z.Warmed39 U.vm ∧ U.heap = h0) (fun _ _ _ _ _ => True) (fun _ U o U' => ∃ v L, o = .returned v ∧ Qrm12_1 Z a1 rl krl ca cb h0 n0 v U'.heap L ∧ FrameEnd U o U' L ({ frames := 0, cells := 0, slots := 0, locals := 0 } : Room).cells ({ frames := 0, cells := 0, slots := 0, locals := 0 } : Room).slots) := by
  refine MetFree.of_bodySF (plainFor_of_name pn_12) hisR ?_
  intro p e s m args below meth c s₁ Bd hml0 hP0 hK
  obtain ⟨rfl, hZ, hh⟩ := hP0
  have hx := Bd.exec
  have hby := Bd.bytes
  have hml : c.maxLocals = 2 := hml0
  have hown : s.vm.findClass oS0 = some m.cls := findClass_of_methodNamed Bd.named
  have hnm := (name_of_methodNamed Bd.named Bd.method).1
  have X0 : Stand p l e ({ frames := 0, cells := 0, slots := 0, locals := 0 } : Room) s m #[(.ref a1), (.int (1 : Int32))] below meth c s₁ [] 0 0 := Stand.of_body Bd
  have e0 : s₁.heap = h0 := by rw [← hh, Bd.state]; rfl
  have N0 := Fr.nil n0
  suffices own_H : ∀ (P : State → Outcome → Prop), (∀ U o, U.status = .running → Ended U below o → (∃ v L, o = .returned v ∧ Qrm12_1 Z a1 rl krl ca cb h0 n0 v U.heap L ∧ FrameEnd s o U L ({ frames := 0, cells := 0, slots := 0, locals := 0 } : Room).cells ({ frames := 0, cells := 0, slots := 0, locals := 0 } : Room).slots) → P U o) → own_Go p.tables e below P (s₁.setTop (mkF m 0 #[oR a1, oi 1] [])) from own_go (fun _ k => castTop (ef_rm12_1 m a1 (1 : Int32)) k) (own_H _ (fun U o h1 h2 h3 => ⟨h1, h2, h3⟩))
  intro P hP
  have lt_a1 : @LT.lt Nat _ a1 h0.size := pr1.lt
  have lt_rl : @LT.lt Nat _ rl h0.size := pr2.lt
  refine own_go (st' := s₁.setTop (mkF m 1 #[oR a1, oi 1] [(.ref a1)])) (fun _ k => XS.aloadN X0.here hx rfl (hb hby d12_0) rfl rfl k) ?_
  obtain ⟨T1, X1, e1, st1⟩ := getF X0 hx hZ hown (host := "") (Or.inl (own_hw hw 54)) Via.refl e0 pr1 (g := (mkF m 1 #[oR a1, oi 1] [(.ref a1)])) rfl rfl (hb hby d12_1)
  refine own_go (st' := T1.setTop (mkF m 4 #[oR a1, oi 1] [(.ref rl)])) (st1) ?_
  refine own_go (st' := T1.setTop (mkF m 5 #[oR a1, oi 1] [(.int (1 : Int32)), (.ref rl)])) (fun _ k => XS.iloadN X1.here hx rfl (hb hby d12_4) rfl k) ?_
  obtain ⟨cl2, Ar2, -, S2, M2, H2, -⟩ := id pr2
  have hin2 : ¬ ((1 : Int32) < 0 ∨ cl2.slots.size ≤ ((1 : Int32)).toNatClampNeg) := (inb_of S2 ⟨by decide, by decide⟩)
  have hat2 : cl2.slots[((1 : Int32)).toNatClampNeg]? = some (.int cb) := (H2.at hin2 rfl)
  refine own_go (st' := T1.setTop (mkF m 6 #[oR a1, oi 1] [(.int cb)])) (X1.iaload hx (j := (1 : Int32)) (v := (.int cb)) (by rw [e1]; exact Ar2.1) (State.isArrayOf_alike hZ.alike Ar2.2.1) Ar2.2.2 hin2 hat2 (g := (mkF m 5 #[oR a1, oi 1] [(.int (1 : Int32)), (.ref rl)])) rfl rfl (hb hby d12_5)) ?_
  obtain ⟨fs, hr, hrun, hended, hW, hsame⟩ := X1.leave (v := some (.int cb)) (fun h => by rw [Bd.returns] at h; cases h)
  refine ⟨_, _, ?_, hP _ _ hrun hended ⟨_, _, rfl, ?_, ⟨_, rfl⟩, hW, hsame.mono (by decide) (by decide)⟩⟩
  · exact retOut X1 hx Bd.returns rfl (Or.inl ⟨rfl, Or.inl rfl, _, rfl⟩) (hb hby d12_6) hr
  · show Qrm12_1 Z a1 rl krl ca cb h0 n0 _ T1.heap _
    rw [e1]
    exact ⟨rfl, N0, rfl⟩
theorem d13_0 : decode prog_29_method_7_code 0 = .ok (.aload_n 0, 1) := by decide +kernel
theorem d13_1 : decode prog_29_method_7_code 1 = .ok (.getfield 83, 3) := by decide +kernel
theorem d13_4 : decode prog_29_method_7_code 4 = .ok (.aload_n 0, 1) := by decide +kernel
theorem d13_5 : decode prog_29_method_7_code 5 = .ok (.getfield 20, 3) := by decide +kernel
theorem d13_8 : decode prog_29_method_7_code 8 = .ok (.laload, 1) := by decide +kernel
theorem d13_9 : decode prog_29_method_7_code 9 = .ok (.aload_n 0, 1) := by decide +kernel
theorem d13_10 : decode prog_29_method_7_code 10 = .ok (.getfield 83, 3) := by decide +kernel
theorem d13_13 : decode prog_29_method_7_code 13 = .ok (.aload_n 0, 1) := by decide +kernel
theorem d13_14 : decode prog_29_method_7_code 14 = .ok (.getfield 11, 3) := by decide +kernel
theorem d13_17 : decode prog_29_method_7_code 17 = .ok (.iload_n 1, 1) := by decide +kernel
theorem d13_18 : decode prog_29_method_7_code 18 = .ok (.iadd, 1) := by decide +kernel
theorem d13_19 : decode prog_29_method_7_code 19 = .ok (.laload, 1) := by decide +kernel
theorem d13_20 : decode prog_29_method_7_code 20 = .ok (.lsub, 1) := by decide +kernel
theorem d13_21 : decode prog_29_method_7_code 21 = .ok (.lreturn, 1) := by decide +kernel
theorem pn_13 : plainName "com/example/limpet/limpet/StickyShares" = true := by first | (simp [plainName, overriddenIn]; done) | decide +kernel
theorem ef_rm13_0 (m : MethodId) (x0 : Addr) (x1 : Int32) : entryFrame m #[(.ref x0), (.int x1)] 2 = mkF m 0 #[.val (.ref x0), .val (.int x1)] [] := by first | (simp [entryFrame, mkF, argsToLocals, Value.category]; done) | rfl
def Qrm13_0 (Z : State) (a1 : Addr) (rp : Addr) (krp : ClassId) (y0 : Int64) (y1 : Int64) (y2 : Int64) (y3 : Int64) (y4 : Int64) (h0 : Heap) (n0 : Nat) (v : Option Value) (h : Heap) (L : List Loc) : Prop := (v = some (.long (y4 - y2))) ∧ (Fr n0 L) ∧ (h = h0)
set_option maxRecDepth 65536 in
set_option maxHeartbeats 40000000 in
theorem rm13_0 (l : Launch) (Z : State) (a0 : Array Value) (hw : ∀ d ∈ tables_1, d.before a0 Z = true) (ws : List Jvm.Cond) (a1 : Addr) (rp : Addr) (krp : ClassId) (y0 : Int64) (y1 : Int64) (y2 : Int64) (y3 : Int64) (y4 : Int64) (h0 : Heap) (n0 : Nat) (Z0 : n0 ≤ h0.size) (pr1 : Fld Z h0 a1 "com/example/limpet/limpet/StickyShares" "potential" "[J" (.ref rp)) (pr2 : Fld Z h0 a1 "com/example/limpet/limpet/StickyShares" "sink" "I" (.int (4 : Int32))) (pr3 : Fld Z h0 a1 "com/example/limpet/limpet/StickyShares" "topicCount" "I" (.int (2 : Int32))) (pr4 : Arv Z h0 rp krp .long (5 : Int32) [(.long y0), (.long y1), (.long y2), (.long y3), (.long y4)] (.long (0 : Int64))) :
    MetFree l oM2 (head1 (Jvm.Cond.code oM2 prog_29_method_7_code 2 (some .long) :: ws) ({ frames := 0, cells := 0, slots := 0, locals := 0 } : Room)) (fun a U => a = #[(.ref a1), (.int (0 : Int32))] ∧ Z.Warmed39 U.vm ∧ U.heap = h0) (fun _ _ _ _ _ => True) (fun _ U o U' => ∃ v L, o = .returned v ∧ Qrm13_0 Z a1 rp krp y0 y1 y2 y3 y4 h0 n0 v U'.heap L ∧ FrameEnd U o U' L ({ frames := 0, cells := 0, slots := 0, locals := 0 } : Room).cells ({ frames := 0, cells := 0, slots := 0, locals := 0 } : Room).slots) := by
  refine MetFree.of_bodySF (plainFor_of_name pn_13) hisR ?_
  intro p e s m args below meth c s₁ Bd hml0 hP0 hK
  obtain ⟨rfl, hZ, hh⟩ := hP0
  have hx := Bd.exec
  have hby := Bd.bytes
  have hml : c.maxLocals = 2 := hml0
  have hown : s.vm.findClass oS0 = some m.cls := findClass_of_methodNamed Bd.named
  have hnm := (name_of_methodNamed Bd.named Bd.method).1
  have X0 : Stand p l e ({ frames := 0, cells := 0, slots := 0, locals := 0 } : Room) s m #[(.ref a1), (.int (0 : Int32))] below meth c s₁ [] 0 0 := Stand.of_body Bd
  have e0 : s₁.heap = h0 := by rw [← hh, Bd.state]; rfl
  have N0 := Fr.nil n0
  suffices own_H : ∀ (P : State → Outcome → Prop), (∀ U o, U.status = .running → Ended U below o → (∃ v L, o = .returned v ∧ Qrm13_0 Z a1 rp krp y0 y1 y2 y3 y4 h0 n0 v U.heap L ∧ FrameEnd s o U L ({ frames := 0, cells := 0, slots := 0, locals := 0 } : Room).cells ({ frames := 0, cells := 0, slots := 0, locals := 0 } : Room).slots) → P U o) → own_Go p.tables e below P (s₁.setTop (mkF m 0 #[oR a1, oi 0] [])) from own_go (fun _ k => castTop (ef_rm13_0 m a1 (0 : Int32)) k) (own_H _ (fun U o h1 h2 h3 => ⟨h1, h2, h3⟩))
  intro P hP
  have lt_a1 : @LT.lt Nat _ a1 h0.size := pr1.lt
  have lt_rp : @LT.lt Nat _ rp h0.size := pr4.lt
  refine own_go (st' := s₁.setTop (mkF m 1 #[oR a1, oi 0] [(.ref a1)])) (fun _ k => XS.aloadN X0.here hx rfl (hb hby d13_0) rfl rfl k) ?_
  obtain ⟨T1, X1, e1, st1⟩ := getF X0 hx hZ hown (host := "") (Or.inl (own_hw hw 60)) Via.refl e0 pr1 (g := (mkF m 1 #[oR a1, oi 0] [(.ref a1)])) rfl rfl (hb hby d13_1)
  refine own_go (st' := T1.setTop (mkF m 4 #[oR a1, oi 0] [(.ref rp)])) (st1) ?_
  refine own_go (st' := T1.setTop (mkF m 5 #[oR a1, oi 0] [(.ref a1), (.ref rp)])) (fun _ k => XS.aloadN X1.here hx rfl (hb hby d13_4) rfl rfl k) ?_
  obtain ⟨T2, X2, e2, st2⟩ := getF X1 hx hZ hown (host := "") (Or.inl (own_hw hw 15)) Via.refl e1 pr2 (g := (mkF m 5 #[oR a1, oi 0] [(.ref a1), (.ref rp)])) rfl rfl (hb hby d13_5)
  refine own_go (st' := T2.setTop (mkF m 8 #[oR a1, oi 0] [(.int (4 : Int32)), (.ref rp)])) (st2) ?_
  obtain ⟨cl3, Ar3, -, S3, M3, H3, -⟩ := id pr4
  have hin3 : ¬ ((4 : Int32) < 0 ∨ cl3.slots.size ≤ ((4 : Int32)).toNatClampNeg) := (inb_of S3 ⟨by decide, by decide⟩)
  have hat3 : cl3.slots[((4 : Int32)).toNatClampNeg]? = some (.long y4) := (H3.at hin3 rfl)
  refine own_go (st' := T2.setTop (mkF m 9 #[oR a1, oi 0] [(.long y4)])) (X2.laload hx (j := (4 : Int32)) (v := (.long y4)) (by rw [e2]; exact Ar3.1) (State.isArrayOf_alike hZ.alike Ar3.2.1) Ar3.2.2 hin3 hat3 (g := (mkF m 8 #[oR a1, oi 0] [(.int (4 : Int32)), (.ref rp)])) rfl rfl (hb hby d13_8)) ?_
  refine own_go (st' := T2.setTop (mkF m 10 #[oR a1, oi 0] [(.ref a1), (.long y4)])) (fun _ k => XS.aloadN X2.here hx rfl (hb hby d13_9) rfl rfl k) ?_
  obtain ⟨T4, X4, e4, st4⟩ := getF X2 hx hZ hown (host := "") (Or.inl (own_hw hw 60)) Via.refl e2 pr1 (g := (mkF m 10 #[oR a1, oi 0] [(.ref a1), (.long y4)])) rfl rfl (hb hby d13_10)
  refine own_go (st' := T4.setTop (mkF m 13 #[oR a1, oi 0] [(.ref rp), (.long y4)])) (st4) ?_
  refine own_go (st' := T4.setTop (mkF m 14 #[oR a1, oi 0] [(.ref a1), (.ref rp), (.long y4)])) (fun _ k => XS.aloadN X4.here hx rfl (hb hby d13_13) rfl rfl k) ?_
  obtain ⟨T5, X5, e5, st5⟩ := getF X4 hx hZ hown (host := "") (Or.inl (own_hw hw 11)) Via.refl e4 pr3 (g := (mkF m 14 #[oR a1, oi 0] [(.ref a1), (.ref rp), (.long y4)])) rfl rfl (hb hby d13_14)
  refine own_go (st' := T5.setTop (mkF m 17 #[oR a1, oi 0] [(.int (2 : Int32)), (.ref rp), (.long y4)])) (st5) ?_
  refine own_go (st' := T5.setTop (mkF m 18 #[oR a1, oi 0] [(.int (0 : Int32)), (.int (2 : Int32)), (.ref rp), (.long y4)])) (fun _ k => XS.iloadN X5.here hx rfl (hb hby d13_17) rfl k) ?_
  refine own_go (st' := T5.setTop (mkF m 19 #[oR a1, oi 0] [(.int (2 : Int32)), (.ref rp), (.long y4)])) (fun _ k => XS.iadd X5.here hx rfl (hb hby d13_18) rfl (by rw [show ((2 : Int32) + (0 : Int32)) = (2 : Int32) by decide]; exact k)) ?_
  obtain ⟨cl6, Ar6, -, S6, M6, H6, -⟩ := id pr4
  have hin6 : ¬ ((2 : Int32) < 0 ∨ cl6.slots.size ≤ ((2 : Int32)).toNatClampNeg) := (inb_of S6 ⟨by decide, by decide⟩)
  have hat6 : cl6.slots[((2 : Int32)).toNatClampNeg]? = some (.long y2) := (H6.at hin6 rfl)
  refine own_go (st' := T5.setTop (mkF m 20 #[oR a1, oi 0] [(.long y2), (.long y4)])) (X5.laload hx (j := (2 : Int32)) (v := (.long y2)) (by rw [e5]; exact Ar6.1) (State.isArrayOf_alike hZ.alike Ar6.2.1) Ar6.2.2 hin6 hat6 (g := (mkF m 19 #[oR a1, oi 0] [(.int (2 : Int32)), (.ref rp), (.long y4)])) rfl rfl (hb hby d13_19)) ?_
  refine own_go (st' := T5.setTop (mkF m 21 #[oR a1, oi 0] [(.long (y4 - y2))])) (fun _ k => XS.lsub X5.here hx rfl (hb hby d13_20) rfl k) ?_
  obtain ⟨fs, hr, hrun, hended, hW, hsame⟩ := X5.leave (v := some (.long (y4 - y2))) (fun h => by rw [Bd.returns] at h; cases h)
  refine ⟨_, _, ?_, hP _ _ hrun hended ⟨_, _, rfl, ?_, ⟨_, rfl⟩, hW, hsame.mono (by decide) (by decide)⟩⟩
  · exact retOut X5 hx Bd.returns rfl (Or.inr (Or.inl ⟨rfl, rfl, _, rfl⟩)) (hb hby d13_21) hr
  · show Qrm13_0 Z a1 rp krp y0 y1 y2 y3 y4 h0 n0 _ T5.heap _
    rw [e5]
    exact ⟨rfl, N0, rfl⟩
theorem ef_rm13_1 (m : MethodId) (x0 : Addr) (x1 : Int32) : entryFrame m #[(.ref x0), (.int x1)] 2 = mkF m 0 #[.val (.ref x0), .val (.int x1)] [] := by first | (simp [entryFrame, mkF, argsToLocals, Value.category]; done) | rfl
def Qrm13_1 (Z : State) (a1 : Addr) (rp : Addr) (krp : ClassId) (y0 : Int64) (y1 : Int64) (y2 : Int64) (y3 : Int64) (y4 : Int64) (h0 : Heap) (n0 : Nat) (v : Option Value) (h : Heap) (L : List Loc) : Prop := (v = some (.long (y4 - y3))) ∧ (Fr n0 L) ∧ (h = h0)
set_option maxRecDepth 65536 in
set_option maxHeartbeats 40000000 in
theorem rm13_1 (l : Launch) (Z : State) (a0 : Array Value) (hw : ∀ d ∈ tables_1, d.before a0 Z = true) (ws : List Jvm.Cond) (a1 : Addr) (rp : Addr) (krp : ClassId) (y0 : Int64) (y1 : Int64) (y2 : Int64) (y3 : Int64) (y4 : Int64) (h0 : Heap) (n0 : Nat) (Z0 : n0 ≤ h0.size) (pr1 : Fld Z h0 a1 "com/example/limpet/limpet/StickyShares" "potential" "[J" (.ref rp)) (pr2 : Fld Z h0 a1 "com/example/limpet/limpet/StickyShares" "sink" "I" (.int (4 : Int32))) (pr3 : Fld Z h0 a1 "com/example/limpet/limpet/StickyShares" "topicCount" "I" (.int (2 : Int32))) (pr4 : Arv Z h0 rp krp .long (5 : Int32) [(.long y0), (.long y1), (.long y2), (.long y3), (.long y4)] (.long (0 : Int64))) :
    MetFree l oM2 (head1 (Jvm.Cond.code oM2 prog_29_method_7_code 2 (some .long) :: ws) ({ frames := 0, cells := 0, slots := 0, locals := 0 } : Room)) (fun a U => a = #[(.ref a1), (.int (1 : Int32))] ∧ Z.Warmed39 U.vm ∧ U.heap = h0) (fun _ _ _ _ _ => True) (fun _ U o U' => ∃ v L, o = .returned v ∧ Qrm13_1 Z a1 rp krp y0 y1 y2 y3 y4 h0 n0 v U'.heap L ∧ FrameEnd U o U' L ({ frames := 0, cells := 0, slots := 0, locals := 0 } : Room).cells ({ frames := 0, cells := 0, slots := 0, locals := 0 } : Room).slots) := by
  refine MetFree.of_bodySF (plainFor_of_name pn_13) hisR ?_
  intro p e s m args below meth c s₁ Bd hml0 hP0 hK
  obtain ⟨rfl, hZ, hh⟩ := hP0
  have hx := Bd.exec
  have hby := Bd.bytes
  have hml : c.maxLocals = 2 := hml0
  have hown : s.vm.findClass oS0 = some m.cls := findClass_of_methodNamed Bd.named
  have hnm := (name_of_methodNamed Bd.named Bd.method).1
  have X0 : Stand p l e ({ frames := 0, cells := 0, slots := 0, locals := 0 } : Room) s m #[(.ref a1), (.int (1 : Int32))] below meth c s₁ [] 0 0 := Stand.of_body Bd
  have e0 : s₁.heap = h0 := by rw [← hh, Bd.state]; rfl
  have N0 := Fr.nil n0
  suffices own_H : ∀ (P : State → Outcome → Prop), (∀ U o, U.status = .running → Ended U below o → (∃ v L, o = .returned v ∧ Qrm13_1 Z a1 rp krp y0 y1 y2 y3 y4 h0 n0 v U.heap L ∧ FrameEnd s o U L ({ frames := 0, cells := 0, slots := 0, locals := 0 } : Room).cells ({ frames := 0, cells := 0, slots := 0, locals := 0 } : Room).slots) → P U o) → own_Go p.tables e below P (s₁.setTop (mkF m 0 #[oR a1, oi 1] [])) from own_go (fun _ k => castTop (ef_rm13_1 m a1 (1 : Int32)) k) (own_H _ (fun U o h1 h2 h3 => ⟨h1, h2, h3⟩))
  intro P hP
  have lt_a1 : @LT.lt Nat _ a1 h0.size := pr1.lt
  have lt_rp : @LT.lt Nat _ rp h0.size := pr4.lt
  refine own_go (st' := s₁.setTop (mkF m 1 #[oR a1, oi 1] [(.ref a1)])) (fun _ k => XS.aloadN X0.here hx rfl (hb hby d13_0) rfl rfl k) ?_
  obtain ⟨T1, X1, e1, st1⟩ := getF X0 hx hZ hown (host := "") (Or.inl (own_hw hw 60)) Via.refl e0 pr1 (g := (mkF m 1 #[oR a1, oi 1] [(.ref a1)])) rfl rfl (hb hby d13_1)
  refine own_go (st' := T1.setTop (mkF m 4 #[oR a1, oi 1] [(.ref rp)])) (st1) ?_
  refine own_go (st' := T1.setTop (mkF m 5 #[oR a1, oi 1] [(.ref a1), (.ref rp)])) (fun _ k => XS.aloadN X1.here hx rfl (hb hby d13_4) rfl rfl k) ?_
  obtain ⟨T2, X2, e2, st2⟩ := getF X1 hx hZ hown (host := "") (Or.inl (own_hw hw 15)) Via.refl e1 pr2 (g := (mkF m 5 #[oR a1, oi 1] [(.ref a1), (.ref rp)])) rfl rfl (hb hby d13_5)
  refine own_go (st' := T2.setTop (mkF m 8 #[oR a1, oi 1] [(.int (4 : Int32)), (.ref rp)])) (st2) ?_
  obtain ⟨cl3, Ar3, -, S3, M3, H3, -⟩ := id pr4
  have hin3 : ¬ ((4 : Int32) < 0 ∨ cl3.slots.size ≤ ((4 : Int32)).toNatClampNeg) := (inb_of S3 ⟨by decide, by decide⟩)
  have hat3 : cl3.slots[((4 : Int32)).toNatClampNeg]? = some (.long y4) := (H3.at hin3 rfl)
  refine own_go (st' := T2.setTop (mkF m 9 #[oR a1, oi 1] [(.long y4)])) (X2.laload hx (j := (4 : Int32)) (v := (.long y4)) (by rw [e2]; exact Ar3.1) (State.isArrayOf_alike hZ.alike Ar3.2.1) Ar3.2.2 hin3 hat3 (g := (mkF m 8 #[oR a1, oi 1] [(.int (4 : Int32)), (.ref rp)])) rfl rfl (hb hby d13_8)) ?_
  refine own_go (st' := T2.setTop (mkF m 10 #[oR a1, oi 1] [(.ref a1), (.long y4)])) (fun _ k => XS.aloadN X2.here hx rfl (hb hby d13_9) rfl rfl k) ?_
  obtain ⟨T4, X4, e4, st4⟩ := getF X2 hx hZ hown (host := "") (Or.inl (own_hw hw 60)) Via.refl e2 pr1 (g := (mkF m 10 #[oR a1, oi 1] [(.ref a1), (.long y4)])) rfl rfl (hb hby d13_10)
  refine own_go (st' := T4.setTop (mkF m 13 #[oR a1, oi 1] [(.ref rp), (.long y4)])) (st4) ?_
  refine own_go (st' := T4.setTop (mkF m 14 #[oR a1, oi 1] [(.ref a1), (.ref rp), (.long y4)])) (fun _ k => XS.aloadN X4.here hx rfl (hb hby d13_13) rfl rfl k) ?_
  obtain ⟨T5, X5, e5, st5⟩ := getF X4 hx hZ hown (host := "") (Or.inl (own_hw hw 11)) Via.refl e4 pr3 (g := (mkF m 14 #[oR a1, oi 1] [(.ref a1), (.ref rp), (.long y4)])) rfl rfl (hb hby d13_14)
  refine own_go (st' := T5.setTop (mkF m 17 #[oR a1, oi 1] [(.int (2 : Int32)), (.ref rp), (.long y4)])) (st5) ?_
  refine own_go (st' := T5.setTop (mkF m 18 #[oR a1, oi 1] [(.int (1 : Int32)), (.int (2 : Int32)), (.ref rp), (.long y4)])) (fun _ k => XS.iloadN X5.here hx rfl (hb hby d13_17) rfl k) ?_
  refine own_go (st' := T5.setTop (mkF m 19 #[oR a1, oi 1] [(.int (3 : Int32)), (.ref rp), (.long y4)])) (fun _ k => XS.iadd X5.here hx rfl (hb hby d13_18) rfl (by rw [show ((2 : Int32) + (1 : Int32)) = (3 : Int32) by decide]; exact k)) ?_
  obtain ⟨cl6, Ar6, -, S6, M6, H6, -⟩ := id pr4
  have hin6 : ¬ ((3 : Int32) < 0 ∨ cl6.slots.size ≤ ((3 : Int32)).toNatClampNeg) := (inb_of S6 ⟨by decide, by decide⟩)
  have hat6 : cl6.slots[((3 : Int32)).toNatClampNeg]? = some (.long y3) := (H6.at hin6 rfl)
  refine own_go (st' := T5.setTop (mkF m 20 #[oR a1, oi 1] [(.long y3), (.long y4)])) (X5.laload hx (j := (3 : Int32)) (v := (.long y3)) (by rw [e5]; exact Ar6.1) (State.isArrayOf_alike hZ.alike Ar6.2.1) Ar6.2.2 hin6 hat6 (g := (mkF m 19 #[oR a1, oi 1] [(.int (3 : Int32)), (.ref rp), (.long y4)])) rfl rfl (hb hby d13_19)) ?_
  refine own_go (st' := T5.setTop (mkF m 21 #[oR a1, oi 1] [(.long (y4 - y3))])) (fun _ k => XS.lsub X5.here hx rfl (hb hby d13_20) rfl k) ?_
  obtain ⟨fs, hr, hrun, hended, hW, hsame⟩ := X5.leave (v := some (.long (y4 - y3))) (fun h => by rw [Bd.returns] at h; cases h)
  refine ⟨_, _, ?_, hP _ _ hrun hended ⟨_, _, rfl, ?_, ⟨_, rfl⟩, hW, hsame.mono (by decide) (by decide)⟩⟩
  · exact retOut X5 hx Bd.returns rfl (Or.inr (Or.inl ⟨rfl, rfl, _, rfl⟩)) (hb hby d13_21) hr
  · show Qrm13_1 Z a1 rp krp y0 y1 y2 y3 y4 h0 n0 _ T5.heap _
    rw [e5]
    exact ⟨rfl, N0, rfl⟩
theorem d14_0 : decode method_3_code 0 = .ok (.ldc2_w 32, 3) := by decide +kernel
theorem d14_3 : decode method_3_code 3 = .ok (.iload_n 2, 1) := by decide +kernel
theorem d14_4 : decode method_3_code 4 = .ok (.iload_n 3, 1) := by decide +kernel
theorem d14_5 : decode method_3_code 5 = .ok (.idiv, 1) := by decide +kernel
theorem d14_6 : decode method_3_code 6 = .ok (.i2l, 1) := by decide +kernel
theorem d14_7 : decode method_3_code 7 = .ok (.lmul, 1) := by decide +kernel
theorem d14_8 : decode method_3_code 8 = .ok (.lconst 1, 1) := by decide +kernel
theorem d14_9 : decode method_3_code 9 = .ok (.ladd, 1) := by decide +kernel
theorem d14_10 : decode method_3_code 10 = .ok (.lload 4, 2) := by decide +kernel
theorem d14_12 : decode method_3_code 12 = .ok (.lmul, 1) := by decide +kernel
theorem d14_13 : decode method_3_code 13 = .ok (.lstore 6, 2) := by decide +kernel
theorem d14_15 : decode method_3_code 15 = .ok (.lload_n 0, 1) := by decide +kernel
theorem d14_16 : decode method_3_code 16 = .ok (.lload 6, 2) := by decide +kernel
theorem d14_18 : decode method_3_code 18 = .ok (.lcmp, 1) := by decide +kernel
theorem d14_19 : decode method_3_code 19 = .ok (.ifCond .le 6, 3) := by decide +kernel
theorem d14_22 : decode method_3_code 22 = .ok (.lload 6, 2) := by decide +kernel
theorem d14_24 : decode method_3_code 24 = .ok (.lreturn, 1) := by decide +kernel
theorem d14_25 : decode method_3_code 25 = .ok (.iload_n 2, 1) := by decide +kernel
theorem d14_26 : decode method_3_code 26 = .ok (.ifCond .le 30, 3) := by decide +kernel
theorem d14_29 : decode method_3_code 29 = .ok (.ldc2_w 32, 3) := by decide +kernel
theorem d14_32 : decode method_3_code 32 = .ok (.iload_n 2, 1) := by decide +kernel
theorem d14_33 : decode method_3_code 33 = .ok (.iconst 1, 1) := by decide +kernel
theorem d14_34 : decode method_3_code 34 = .ok (.isub, 1) := by decide +kernel
theorem d14_35 : decode method_3_code 35 = .ok (.iload_n 3, 1) := by decide +kernel
theorem d14_36 : decode method_3_code 36 = .ok (.idiv, 1) := by decide +kernel
theorem d14_37 : decode method_3_code 37 = .ok (.i2l, 1) := by decide +kernel
theorem d14_38 : decode method_3_code 38 = .ok (.lmul, 1) := by decide +kernel
theorem d14_39 : decode method_3_code 39 = .ok (.lconst 1, 1) := by decide +kernel
theorem d14_40 : decode method_3_code 40 = .ok (.ladd, 1) := by decide +kernel
theorem d14_41 : decode method_3_code 41 = .ok (.lload 4, 2) := by decide +kernel
theorem d14_43 : decode method_3_code 43 = .ok (.lmul, 1) := by decide +kernel
theorem d14_44 : decode method_3_code 44 = .ok (.lstore 8, 2) := by decide +kernel
theorem d14_46 : decode method_3_code 46 = .ok (.lload_n 0, 1) := by decide +kernel
theorem d14_47 : decode method_3_code 47 = .ok (.lload 8, 2) := by decide +kernel
theorem d14_49 : decode method_3_code 49 = .ok (.lcmp, 1) := by decide +kernel
theorem d14_50 : decode method_3_code 50 = .ok (.ifCond .ge 6, 3) := by decide +kernel
theorem d14_53 : decode method_3_code 53 = .ok (.lload 8, 2) := by decide +kernel
theorem d14_55 : decode method_3_code 55 = .ok (.lreturn, 1) := by decide +kernel
theorem d14_56 : decode method_3_code 56 = .ok (.lload_n 0, 1) := by decide +kernel
theorem d14_57 : decode method_3_code 57 = .ok (.lreturn, 1) := by decide +kernel
theorem pn_14 : plainName "com/example/limpet/limpet/StickySharesPricePinLaw" = true := by first | (simp [plainName, overriddenIn]; done) | decide +kernel
theorem ef_rm14 (m : MethodId) (x0 : Int64) (x1 : Int32) (x2 : Int32) (x3 : Int64) : entryFrame m #[(.long x0), (.int x1), (.int x2), (.long x3)] 10 = mkF m 0 #[.val (.long x0), .second, .val (.int x1), .val (.int x2), .val (.long x3), .second, .unset, .unset, .unset, .unset] [] := by first | (simp [entryFrame, mkF, argsToLocals, Value.category]; done) | rfl
def Qrm14 (Z : State) (qq : Int64) (ll : Int32) (ss : Int32) (ww : Int64) (h0 : Heap) (n0 : Nat) (v : Option Value) (h : Heap) (L : List Loc) : Prop := (v = some (.long (own_exp qq ww ll ss))) ∧ (Fr n0 L) ∧ (h = h0)
set_option maxRecDepth 65536 in
set_option maxHeartbeats 40000000 in
theorem rm14 (l : Launch) (Z : State) (a0 : Array Value) (hw : ∀ d ∈ tables_1, d.before a0 Z = true) (ws : List Jvm.Cond) (qq : Int64) (ll : Int32) (ss : Int32) (ww : Int64) (h0 : Heap) (n0 : Nat) (Z0 : n0 ≤ h0.size) (hnz : ss ≠ 0) :
    MetFree l oM7 (head1 (Jvm.Cond.code oM7 method_3_code 10 (some .long) :: ws) ({ frames := 0, cells := 0, slots := 0, locals := 0 } : Room)) (fun a U => a = #[(.long qq), (.int ll), (.int ss), (.long ww)] ∧ Z.Warmed39 U.vm ∧ U.heap = h0) (fun _ _ _ _ _ => True) (fun _ U o U' => ∃ v L, o = .returned v ∧ Qrm14 Z qq ll ss ww h0 n0 v U'.heap L ∧ FrameEnd U o U' L ({ frames := 0, cells := 0, slots := 0, locals := 0 } : Room).cells ({ frames := 0, cells := 0, slots := 0, locals := 0 } : Room).slots) := by
  refine MetFree.of_bodySF (plainFor_of_name pn_14) hisR ?_
  intro p e s m args below meth c s₁ Bd hml0 hP0 hK
  obtain ⟨rfl, hZ, hh⟩ := hP0
  have hx := Bd.exec
  have hby := Bd.bytes
  have hml : c.maxLocals = 10 := hml0
  have hown : s.vm.findClass "com/example/limpet/limpet/StickySharesPricePinLaw" = some m.cls := findClass_of_methodNamed Bd.named
  have hnm := (name_of_methodNamed Bd.named Bd.method).1
  have X0 : Stand p l e ({ frames := 0, cells := 0, slots := 0, locals := 0 } : Room) s m #[(.long qq), (.int ll), (.int ss), (.long ww)] below meth c s₁ [] 0 0 := Stand.of_body Bd
  have e0 : s₁.heap = h0 := by rw [← hh, Bd.state]; rfl
  have N0 := Fr.nil n0
  suffices own_H : ∀ (P : State → Outcome → Prop), (∀ U o, U.status = .running → Ended U below o → (∃ v L, o = .returned v ∧ Qrm14 Z qq ll ss ww h0 n0 v U.heap L ∧ FrameEnd s o U L ({ frames := 0, cells := 0, slots := 0, locals := 0 } : Room).cells ({ frames := 0, cells := 0, slots := 0, locals := 0 } : Room).slots) → P U o) → own_Go p.tables e below P (s₁.setTop (mkF m 0 #[oj qq, .second, oi ll, oi ss, oj ww, .second, .unset, .unset, .unset, .unset] [])) from own_go (fun _ k => castTop (ef_rm14 m qq ll ss ww) k) (own_H _ (fun U o h1 h2 h3 => ⟨h1, h2, h3⟩))
  intro P hP
  refine own_go (st' := s₁.setTop (mkF m 3 #[oj qq, .second, oi ll, oi ss, oj ww, .second, .unset, .unset, .unset, .unset] [(.long (2 : Int64))])) (X0.ldc2Long hx hown (mvT hZ (own_hw hw 124)) (g := (mkF m 0 #[oj qq, .second, oi ll, oi ss, oj ww, .second, .unset, .unset, .unset, .unset] [])) rfl (hb hby d14_0)) ?_
  refine own_go (st' := s₁.setTop (mkF m 4 #[oj qq, .second, oi ll, oi ss, oj ww, .second, .unset, .unset, .unset, .unset] [(.int ll), (.long (2 : Int64))])) (fun _ k => XS.iloadN X0.here hx rfl (hb hby d14_3) rfl k) ?_
  refine own_go (st' := s₁.setTop (mkF m 5 #[oj qq, .second, oi ll, oi ss, oj ww, .second, .unset, .unset, .unset, .unset] [(.int ss), (.int ll), (.long (2 : Int64))])) (fun _ k => XS.iloadN X0.here hx rfl (hb hby d14_4) rfl k) ?_
  refine own_go (st' := s₁.setTop (mkF m 6 #[oj qq, .second, oi ll, oi ss, oj ww, .second, .unset, .unset, .unset, .unset] [(.int (ll / ss)), (.long (2 : Int64))])) (fun _ k => XS.idiv X0.here hx rfl (hb hby d14_5) rfl hnz k) ?_
  refine own_go (st' := s₁.setTop (mkF m 7 #[oj qq, .second, oi ll, oi ss, oj ww, .second, .unset, .unset, .unset, .unset] [(.long (ll / ss).toInt64), (.long (2 : Int64))])) (fun _ k => XS.i2l X0.here hx rfl (hb hby d14_6) rfl k) ?_
  refine own_go (st' := s₁.setTop (mkF m 8 #[oj qq, .second, oi ll, oi ss, oj ww, .second, .unset, .unset, .unset, .unset] [(.long ((2 : Int64) * (ll / ss).toInt64))])) (fun _ k => XS.lmul X0.here hx rfl (hb hby d14_7) rfl k) ?_
  refine own_go (st' := s₁.setTop (mkF m 9 #[oj qq, .second, oi ll, oi ss, oj ww, .second, .unset, .unset, .unset, .unset] [(.long (1 : Int64)), (.long ((2 : Int64) * (ll / ss).toInt64))])) (fun _ k => XS.lconst X0.here hx rfl (hb hby d14_8) k) ?_
  refine own_go (st' := s₁.setTop (mkF m 10 #[oj qq, .second, oi ll, oi ss, oj ww, .second, .unset, .unset, .unset, .unset] [(.long (((2 : Int64) * (ll / ss).toInt64) + (1 : Int64)))])) (fun _ k => XS.ladd X0.here hx rfl (hb hby d14_9) rfl k) ?_
  refine own_go (st' := s₁.setTop (mkF m 12 #[oj qq, .second, oi ll, oi ss, oj ww, .second, .unset, .unset, .unset, .unset] [(.long ww), (.long (((2 : Int64) * (ll / ss).toInt64) + (1 : Int64)))])) (fun _ k => XS.lload X0.here hx rfl (hb hby d14_10) rfl k) ?_
  refine own_go (st' := s₁.setTop (mkF m 13 #[oj qq, .second, oi ll, oi ss, oj ww, .second, .unset, .unset, .unset, .unset] [(.long ((((2 : Int64) * (ll / ss).toInt64) + (1 : Int64)) * ww))])) (fun _ k => XS.lmul X0.here hx rfl (hb hby d14_12) rfl k) ?_
  refine own_go (st' := s₁.setTop (mkF m 15 #[oj qq, .second, oi ll, oi ss, oj ww, .second, .val (.long ((((2 : Int64) * (ll / ss).toInt64) + (1 : Int64)) * ww)), .second, .unset, .unset] [])) (fun _ k => XS.lstore X0.here hx rfl (hb hby d14_13) rfl (l' := #[oj qq, .second, oi ll, oi ss, oj ww, .second, .val (.long ((((2 : Int64) * (ll / ss).toInt64) + (1 : Int64)) * ww)), .second, .unset, .unset]) rfl k) ?_
  refine own_go (st' := s₁.setTop (mkF m 16 #[oj qq, .second, oi ll, oi ss, oj ww, .second, .val (.long ((((2 : Int64) * (ll / ss).toInt64) + (1 : Int64)) * ww)), .second, .unset, .unset] [(.long qq)])) (fun _ k => XS.lloadN X0.here hx rfl (hb hby d14_15) rfl k) ?_
  refine own_go (st' := s₁.setTop (mkF m 18 #[oj qq, .second, oi ll, oi ss, oj ww, .second, .val (.long ((((2 : Int64) * (ll / ss).toInt64) + (1 : Int64)) * ww)), .second, .unset, .unset] [(.long ((((2 : Int64) * (ll / ss).toInt64) + (1 : Int64)) * ww)), (.long qq)])) (fun _ k => XS.lload X0.here hx rfl (hb hby d14_16) rfl k) ?_
  refine own_go (st' := s₁.setTop (mkF m 19 #[oj qq, .second, oi ll, oi ss, oj ww, .second, .val (.long ((((2 : Int64) * (ll / ss).toInt64) + (1 : Int64)) * ww)), .second, .unset, .unset] [(.int (lcmpW qq ((((2 : Int64) * (ll / ss).toInt64) + (1 : Int64)) * ww)))])) (fun _ k => XS.lcmp X0.here hx rfl (hb hby d14_18) rfl k) ?_
  by_cases hc1 : ((((2 : Int64) * (ll / ss).toInt64) + (1 : Int64)) * ww) < qq
  · --
    refine own_go (st' := s₁.setTop (mkF m 22 #[oj qq, .second, oi ll, oi ss, oj ww, .second, .val (.long ((((2 : Int64) * (ll / ss).toInt64) + (1 : Int64)) * ww)), .second, .unset, .unset] [])) (fun _ k => XS.ifNo X0.here hx rfl (hb hby d14_19) rfl ((if0 _ _).trans (tlt ((lw_gt qq ((((2 : Int64) * (ll / ss).toInt64) + (1 : Int64)) * ww)).mpr hc1)).2.2.2) k) ?_
    refine own_go (st' := s₁.setTop (mkF m 24 #[oj qq, .second, oi ll, oi ss, oj ww, .second, .val (.long ((((2 : Int64) * (ll / ss).toInt64) + (1 : Int64)) * ww)), .second, .unset, .unset] [(.long ((((2 : Int64) * (ll / ss).toInt64) + (1 : Int64)) * ww))])) (fun _ k => XS.lload X0.here hx rfl (hb hby d14_22) rfl k) ?_
    obtain ⟨fs, hr, hrun, hended, hW, hsame⟩ := X0.leave (v := some (.long ((((2 : Int64) * (ll / ss).toInt64) + (1 : Int64)) * ww))) (fun h => by rw [Bd.returns] at h; cases h)
    refine ⟨_, _, ?_, hP _ _ hrun hended ⟨_, _, rfl, ?_, ⟨_, rfl⟩, hW, hsame.mono (by decide) (by decide)⟩⟩
    · exact retOut X0 hx Bd.returns rfl (Or.inr (Or.inl ⟨rfl, rfl, _, rfl⟩)) (hb hby d14_24) hr
    · show Qrm14 Z qq ll ss ww h0 n0 _ s₁.heap _
      rw [e0]
      exact ⟨(by unfold own_exp own_mc; rw [if_pos hc1]), N0, rfl⟩
  · --
    refine own_go (st' := s₁.setTop (mkF m 25 #[oj qq, .second, oi ll, oi ss, oj ww, .second, .val (.long ((((2 : Int64) * (ll / ss).toInt64) + (1 : Int64)) * ww)), .second, .unset, .unset] [])) (fun _ k => XS.ifYes X0.here hx rfl (pc0 := 19) (pc' := 25) rfl (hb hby d14_19) rfl ((if0 _ _).trans (flt (fun q_ => hc1 ((lw_gt qq ((((2 : Int64) * (ll / ss).toInt64) + (1 : Int64)) * ww)).mp q_))).2.2.2) (by decide) (by decide) k) ?_
    refine own_go (st' := s₁.setTop (mkF m 26 #[oj qq, .second, oi ll, oi ss, oj ww, .second, .val (.long ((((2 : Int64) * (ll / ss).toInt64) + (1 : Int64)) * ww)), .second, .unset, .unset] [(.int ll)])) (fun _ k => XS.iloadN X0.here hx rfl (hb hby d14_25) rfl k) ?_
    by_cases hc3 : (0 : Int32) < ll
    · --
      refine own_go (st' := s₁.setTop (mkF m 29 #[oj qq, .second, oi ll, oi ss, oj ww, .second, .val (.long ((((2 : Int64) * (ll / ss).toInt64) + (1 : Int64)) * ww)), .second, .unset, .unset] [])) (fun _ k => XS.ifNo X0.here hx rfl (hb hby d14_26) rfl ((if0 _ _).trans (tlt hc3).2.2.2) k) ?_
      refine own_go (st' := s₁.setTop (mkF m 32 #[oj qq, .second, oi ll, oi ss, oj ww, .second, .val (.long ((((2 : Int64) * (ll / ss).toInt64) + (1 : Int64)) * ww)), .second, .unset, .unset] [(.long (2 : Int64))])) (X0.ldc2Long hx hown (mvT hZ (own_hw hw 124)) (g := (mkF m 29 #[oj qq, .second, oi ll, oi ss, oj ww, .second, .val (.long ((((2 : Int64) * (ll / ss).toInt64) + (1 : Int64)) * ww)), .second, .unset, .unset] [])) rfl (hb hby d14_29)) ?_
      refine own_go (st' := s₁.setTop (mkF m 33 #[oj qq, .second, oi ll, oi ss, oj ww, .second, .val (.long ((((2 : Int64) * (ll / ss).toInt64) + (1 : Int64)) * ww)), .second, .unset, .unset] [(.int ll), (.long (2 : Int64))])) (fun _ k => XS.iloadN X0.here hx rfl (hb hby d14_32) rfl k) ?_
      refine own_go (st' := s₁.setTop (mkF m 34 #[oj qq, .second, oi ll, oi ss, oj ww, .second, .val (.long ((((2 : Int64) * (ll / ss).toInt64) + (1 : Int64)) * ww)), .second, .unset, .unset] [(.int (1 : Int32)), (.int ll), (.long (2 : Int64))])) (fun _ k => XS.iconst X0.here hx rfl (hb hby d14_33) k) ?_
      refine own_go (st' := s₁.setTop (mkF m 35 #[oj qq, .second, oi ll, oi ss, oj ww, .second, .val (.long ((((2 : Int64) * (ll / ss).toInt64) + (1 : Int64)) * ww)), .second, .unset, .unset] [(.int (ll - (1 : Int32))), (.long (2 : Int64))])) (fun _ k => XS.isub X0.here hx rfl (hb hby d14_34) rfl k) ?_
      refine own_go (st' := s₁.setTop (mkF m 36 #[oj qq, .second, oi ll, oi ss, oj ww, .second, .val (.long ((((2 : Int64) * (ll / ss).toInt64) + (1 : Int64)) * ww)), .second, .unset, .unset] [(.int ss), (.int (ll - (1 : Int32))), (.long (2 : Int64))])) (fun _ k => XS.iloadN X0.here hx rfl (hb hby d14_35) rfl k) ?_
      refine own_go (st' := s₁.setTop (mkF m 37 #[oj qq, .second, oi ll, oi ss, oj ww, .second, .val (.long ((((2 : Int64) * (ll / ss).toInt64) + (1 : Int64)) * ww)), .second, .unset, .unset] [(.int ((ll - (1 : Int32)) / ss)), (.long (2 : Int64))])) (fun _ k => XS.idiv X0.here hx rfl (hb hby d14_36) rfl hnz k) ?_
      refine own_go (st' := s₁.setTop (mkF m 38 #[oj qq, .second, oi ll, oi ss, oj ww, .second, .val (.long ((((2 : Int64) * (ll / ss).toInt64) + (1 : Int64)) * ww)), .second, .unset, .unset] [(.long ((ll - (1 : Int32)) / ss).toInt64), (.long (2 : Int64))])) (fun _ k => XS.i2l X0.here hx rfl (hb hby d14_37) rfl k) ?_
      refine own_go (st' := s₁.setTop (mkF m 39 #[oj qq, .second, oi ll, oi ss, oj ww, .second, .val (.long ((((2 : Int64) * (ll / ss).toInt64) + (1 : Int64)) * ww)), .second, .unset, .unset] [(.long ((2 : Int64) * ((ll - (1 : Int32)) / ss).toInt64))])) (fun _ k => XS.lmul X0.here hx rfl (hb hby d14_38) rfl k) ?_
      refine own_go (st' := s₁.setTop (mkF m 40 #[oj qq, .second, oi ll, oi ss, oj ww, .second, .val (.long ((((2 : Int64) * (ll / ss).toInt64) + (1 : Int64)) * ww)), .second, .unset, .unset] [(.long (1 : Int64)), (.long ((2 : Int64) * ((ll - (1 : Int32)) / ss).toInt64))])) (fun _ k => XS.lconst X0.here hx rfl (hb hby d14_39) k) ?_
      refine own_go (st' := s₁.setTop (mkF m 41 #[oj qq, .second, oi ll, oi ss, oj ww, .second, .val (.long ((((2 : Int64) * (ll / ss).toInt64) + (1 : Int64)) * ww)), .second, .unset, .unset] [(.long (((2 : Int64) * ((ll - (1 : Int32)) / ss).toInt64) + (1 : Int64)))])) (fun _ k => XS.ladd X0.here hx rfl (hb hby d14_40) rfl k) ?_
      refine own_go (st' := s₁.setTop (mkF m 43 #[oj qq, .second, oi ll, oi ss, oj ww, .second, .val (.long ((((2 : Int64) * (ll / ss).toInt64) + (1 : Int64)) * ww)), .second, .unset, .unset] [(.long ww), (.long (((2 : Int64) * ((ll - (1 : Int32)) / ss).toInt64) + (1 : Int64)))])) (fun _ k => XS.lload X0.here hx rfl (hb hby d14_41) rfl k) ?_
      refine own_go (st' := s₁.setTop (mkF m 44 #[oj qq, .second, oi ll, oi ss, oj ww, .second, .val (.long ((((2 : Int64) * (ll / ss).toInt64) + (1 : Int64)) * ww)), .second, .unset, .unset] [(.long ((((2 : Int64) * ((ll - (1 : Int32)) / ss).toInt64) + (1 : Int64)) * ww))])) (fun _ k => XS.lmul X0.here hx rfl (hb hby d14_43) rfl k) ?_
      refine own_go (st' := s₁.setTop (mkF m 46 #[oj qq, .second, oi ll, oi ss, oj ww, .second, .val (.long ((((2 : Int64) * (ll / ss).toInt64) + (1 : Int64)) * ww)), .second, .val (.long ((((2 : Int64) * ((ll - (1 : Int32)) / ss).toInt64) + (1 : Int64)) * ww)), .second] [])) (fun _ k => XS.lstore X0.here hx rfl (hb hby d14_44) rfl (l' := #[oj qq, .second, oi ll, oi ss, oj ww, .second, .val (.long ((((2 : Int64) * (ll / ss).toInt64) + (1 : Int64)) * ww)), .second, .val (.long ((((2 : Int64) * ((ll - (1 : Int32)) / ss).toInt64) + (1 : Int64)) * ww)), .second]) rfl k) ?_
      refine own_go (st' := s₁.setTop (mkF m 47 #[oj qq, .second, oi ll, oi ss, oj ww, .second, .val (.long ((((2 : Int64) * (ll / ss).toInt64) + (1 : Int64)) * ww)), .second, .val (.long ((((2 : Int64) * ((ll - (1 : Int32)) / ss).toInt64) + (1 : Int64)) * ww)), .second] [(.long qq)])) (fun _ k => XS.lloadN X0.here hx rfl (hb hby d14_46) rfl k) ?_
      refine own_go (st' := s₁.setTop (mkF m 49 #[oj qq, .second, oi ll, oi ss, oj ww, .second, .val (.long ((((2 : Int64) * (ll / ss).toInt64) + (1 : Int64)) * ww)), .second, .val (.long ((((2 : Int64) * ((ll - (1 : Int32)) / ss).toInt64) + (1 : Int64)) * ww)), .second] [(.long ((((2 : Int64) * ((ll - (1 : Int32)) / ss).toInt64) + (1 : Int64)) * ww)), (.long qq)])) (fun _ k => XS.lload X0.here hx rfl (hb hby d14_47) rfl k) ?_
      refine own_go (st' := s₁.setTop (mkF m 50 #[oj qq, .second, oi ll, oi ss, oj ww, .second, .val (.long ((((2 : Int64) * (ll / ss).toInt64) + (1 : Int64)) * ww)), .second, .val (.long ((((2 : Int64) * ((ll - (1 : Int32)) / ss).toInt64) + (1 : Int64)) * ww)), .second] [(.int (lcmpW qq ((((2 : Int64) * ((ll - (1 : Int32)) / ss).toInt64) + (1 : Int64)) * ww)))])) (fun _ k => XS.lcmp X0.here hx rfl (hb hby d14_49) rfl k) ?_
      by_cases hc4 : qq < ((((2 : Int64) * ((ll - (1 : Int32)) / ss).toInt64) + (1 : Int64)) * ww)
      · --
        refine own_go (st' := s₁.setTop (mkF m 53 #[oj qq, .second, oi ll, oi ss, oj ww, .second, .val (.long ((((2 : Int64) * (ll / ss).toInt64) + (1 : Int64)) * ww)), .second, .val (.long ((((2 : Int64) * ((ll - (1 : Int32)) / ss).toInt64) + (1 : Int64)) * ww)), .second] [])) (fun _ k => XS.ifNo X0.here hx rfl (hb hby d14_50) rfl ((if0 _ _).trans (tlt ((lw_lt qq ((((2 : Int64) * ((ll - (1 : Int32)) / ss).toInt64) + (1 : Int64)) * ww)).mpr hc4)).2.1) k) ?_
        refine own_go (st' := s₁.setTop (mkF m 55 #[oj qq, .second, oi ll, oi ss, oj ww, .second, .val (.long ((((2 : Int64) * (ll / ss).toInt64) + (1 : Int64)) * ww)), .second, .val (.long ((((2 : Int64) * ((ll - (1 : Int32)) / ss).toInt64) + (1 : Int64)) * ww)), .second] [(.long ((((2 : Int64) * ((ll - (1 : Int32)) / ss).toInt64) + (1 : Int64)) * ww))])) (fun _ k => XS.lload X0.here hx rfl (hb hby d14_53) rfl k) ?_
        obtain ⟨fs, hr, hrun, hended, hW, hsame⟩ := X0.leave (v := some (.long ((((2 : Int64) * ((ll - (1 : Int32)) / ss).toInt64) + (1 : Int64)) * ww))) (fun h => by rw [Bd.returns] at h; cases h)
        refine ⟨_, _, ?_, hP _ _ hrun hended ⟨_, _, rfl, ?_, ⟨_, rfl⟩, hW, hsame.mono (by decide) (by decide)⟩⟩
        · exact retOut X0 hx Bd.returns rfl (Or.inr (Or.inl ⟨rfl, rfl, _, rfl⟩)) (hb hby d14_55) hr
        · show Qrm14 Z qq ll ss ww h0 n0 _ s₁.heap _
          rw [e0]
          exact ⟨(by unfold own_exp own_mc; rw [if_neg hc1, if_pos hc3, if_pos hc4]), N0, rfl⟩
      · --
        refine own_go (st' := s₁.setTop (mkF m 56 #[oj qq, .second, oi ll, oi ss, oj ww, .second, .val (.long ((((2 : Int64) * (ll / ss).toInt64) + (1 : Int64)) * ww)), .second, .val (.long ((((2 : Int64) * ((ll - (1 : Int32)) / ss).toInt64) + (1 : Int64)) * ww)), .second] [])) (fun _ k => XS.ifYes X0.here hx rfl (pc0 := 50) (pc' := 56) rfl (hb hby d14_50) rfl ((if0 _ _).trans (flt (fun q_ => hc4 ((lw_lt qq ((((2 : Int64) * ((ll - (1 : Int32)) / ss).toInt64) + (1 : Int64)) * ww)).mp q_))).2.1) (by decide) (by decide) k) ?_
        refine own_go (st' := s₁.setTop (mkF m 57 #[oj qq, .second, oi ll, oi ss, oj ww, .second, .val (.long ((((2 : Int64) * (ll / ss).toInt64) + (1 : Int64)) * ww)), .second, .val (.long ((((2 : Int64) * ((ll - (1 : Int32)) / ss).toInt64) + (1 : Int64)) * ww)), .second] [(.long qq)])) (fun _ k => XS.lloadN X0.here hx rfl (hb hby d14_56) rfl k) ?_
        obtain ⟨fs, hr, hrun, hended, hW, hsame⟩ := X0.leave (v := some (.long qq)) (fun h => by rw [Bd.returns] at h; cases h)
        refine ⟨_, _, ?_, hP _ _ hrun hended ⟨_, _, rfl, ?_, ⟨_, rfl⟩, hW, hsame.mono (by decide) (by decide)⟩⟩
        · exact retOut X0 hx Bd.returns rfl (Or.inr (Or.inl ⟨rfl, rfl, _, rfl⟩)) (hb hby d14_57) hr
        · show Qrm14 Z qq ll ss ww h0 n0 _ s₁.heap _
          rw [e0]
          exact ⟨(by unfold own_exp own_mc; rw [if_neg hc1, if_pos hc3, if_neg hc4]), N0, rfl⟩
    · --
      refine own_go (st' := s₁.setTop (mkF m 56 #[oj qq, .second, oi ll, oi ss, oj ww, .second, .val (.long ((((2 : Int64) * (ll / ss).toInt64) + (1 : Int64)) * ww)), .second, .unset, .unset] [])) (fun _ k => XS.ifYes X0.here hx rfl (pc0 := 26) (pc' := 56) rfl (hb hby d14_26) rfl ((if0 _ _).trans (flt hc3).2.2.2) (by decide) (by decide) k) ?_
      refine own_go (st' := s₁.setTop (mkF m 57 #[oj qq, .second, oi ll, oi ss, oj ww, .second, .val (.long ((((2 : Int64) * (ll / ss).toInt64) + (1 : Int64)) * ww)), .second, .unset, .unset] [(.long qq)])) (fun _ k => XS.lloadN X0.here hx rfl (hb hby d14_56) rfl k) ?_
      obtain ⟨fs, hr, hrun, hended, hW, hsame⟩ := X0.leave (v := some (.long qq)) (fun h => by rw [Bd.returns] at h; cases h)
      refine ⟨_, _, ?_, hP _ _ hrun hended ⟨_, _, rfl, ?_, ⟨_, rfl⟩, hW, hsame.mono (by decide) (by decide)⟩⟩
      · exact retOut X0 hx Bd.returns rfl (Or.inr (Or.inl ⟨rfl, rfl, _, rfl⟩)) (hb hby d14_57) hr
      · show Qrm14 Z qq ll ss ww h0 n0 _ s₁.heap _
        rw [e0]
        exact ⟨(by unfold own_exp own_mc; rw [if_neg hc1, if_neg hc3]), N0, rfl⟩
theorem pd_8 : parseMethodDescriptor "([I[I[I[I[I)V" = some ⟨[(.array .int), (.array .int), (.array .int), (.array .int), (.array .int)], none⟩ := by decide +kernel
theorem pd_9 : parseMethodDescriptor "([I[J)V" = some ⟨[(.array .int), (.array .long)], none⟩ := by decide +kernel
theorem pd_10 : parseMethodDescriptor "(I)I" = some ⟨[.int], some .int⟩ := by decide +kernel
theorem pd_11 : parseMethodDescriptor "(I)J" = some ⟨[.int], some .long⟩ := by decide +kernel
theorem pd_12 : parseMethodDescriptor "(JIIJ)J" = some ⟨[.long, .int, .int, .long], some .long⟩ := by decide +kernel
theorem pn_0 : plainName "com/example/limpet/limpet/StickySharesPricePinLaw" = true := by first | (simp [plainName, overriddenIn]; done) | decide +kernel
theorem ef_rm0 (m : MethodId) (x0 : Int32) (x1 : Int32) (x2 : Int64) (x3 : Int64) : entryFrame m #[(.int x0), (.int x1), (.long x2), (.long x3)] maxLocals = mkF m 0 #[.val (.int x0), .val (.int x1), .val (.long x2), .second, .val (.long x3), .second, .unset, .unset, .unset, .unset, .unset, .unset, .unset, .unset, .unset, .unset, .unset, .unset] [] := by first | (simp [entryFrame, mkF, argsToLocals, Value.category, maxLocals]; done) | rfl
def Qrm0 (Z : State) (pt : Int32) (sz : Int32) (ra : Int64) (rb : Int64) (h0 : Heap) (n0 : Nat) (v : Option Value) (h : Heap) (L : List Loc) : Prop := v = some (.int 1) ∧ Fr n0 L ∧ True
set_option maxRecDepth 65536 in
set_option maxHeartbeats 40000000 in
theorem rm0 (l : Launch) (Z : State) (a0 : Array Value) (hw : ∀ d ∈ tables_1, d.before a0 Z = true) (ws : List Jvm.Cond) (pt : Int32) (sz : Int32) (ra : Int64) (rb : Int64) (h0 : Heap) (n0 : Nat) (Z0 : n0 ≤ h0.size)  :
    MetFree l x (head1 (Jvm.Cond.code x code maxLocals ret :: ws) room_1) (fun a U => a = #[(.int pt), (.int sz), (.long ra), (.long rb)] ∧ Z.Warmed39 U.vm ∧ U.heap = h0) (fun _ _ _ _ _ => True) (fun _ U o U' => ∃ v L, o = .returned v ∧ Qrm0 Z pt sz ra rb h0 n0 v U'.heap L ∧ FrameEnd U o U' L 64 320) := by
  refine MetFree.of_bodySF (plainFor_of_name pn_0) hisR ?_
  intro p e s m args below meth c s₁ Bd hml0 hP0 hK
  obtain ⟨rfl, hZ, hh⟩ := hP0
  have hx := Bd.exec
  have hby := Bd.bytes
  have hml : c.maxLocals = 18 := hml0
  have hown : s.vm.findClass "com/example/limpet/limpet/StickySharesPricePinLaw" = some m.cls := findClass_of_methodNamed Bd.named
  have hnm := (name_of_methodNamed Bd.named Bd.method).1
  have X0 : Stand p l e room_1 s m #[(.int pt), (.int sz), (.long ra), (.long rb)] below meth c s₁ [] 0 0 := Stand.of_body Bd
  have e0 : s₁.heap = h0 := by rw [← hh, Bd.state]; rfl
  have N0 := Fr.nil n0
  suffices own_H : ∀ (P : State → Outcome → Prop), (∀ U o, U.status = .running → Ended U below o → (∃ v L, o = .returned v ∧ Qrm0 Z pt sz ra rb h0 n0 v U.heap L ∧ FrameEnd s o U L 64 320) → P U o) → own_Go p.tables e below P (s₁.setTop (mkF m 0 #[oi pt, oi sz, oj ra, .second, oj rb, .second, .unset, .unset, .unset, .unset, .unset, .unset, .unset, .unset, .unset, .unset, .unset, .unset] [])) from own_go (fun _ k => castTop (ef_rm0 m pt sz ra rb) k) (own_H _ (fun U o h1 h2 h3 => ⟨h1, h2, h3⟩))
  intro P hP
  refine own_go (st' := s₁.setTop (mkF m 1 #[oi pt, oi sz, oj ra, .second, oj rb, .second, .unset, .unset, .unset, .unset, .unset, .unset, .unset, .unset, .unset, .unset, .unset, .unset] [(.int pt)])) (fun _ k => XS.iloadN X0.here hx rfl (hb hby at_0) rfl k) ?_
  refine own_go (st' := s₁.setTop (mkF m 3 #[oi pt, oi sz, oj ra, .second, oj rb, .second, .unset, .unset, .unset, .unset, .unset, .unset, .unset, .unset, .unset, .unset, .unset, .unset] [(.int (7 : Int32)), (.int pt)])) (fun _ k => XS.bipush X0.here hx rfl (hb hby at_1) k) ?_
  obtain ⟨na, hna⟩ : ∃ z : Int32, z = (pt &&& (7 : Int32)) := ⟨_, rfl⟩
  refine own_go (st' := s₁.setTop (mkF m 4 #[oi pt, oi sz, oj ra, .second, oj rb, .second, .unset, .unset, .unset, .unset, .unset, .unset, .unset, .unset, .unset, .unset, .unset, .unset] [(.int na)])) (fun _ k => XS.iand X0.here hx rfl (hb hby at_3) rfl (by rw [hna] at k; exact k)) ?_
  refine own_go (st' := s₁.setTop (mkF m 6 #[oi pt, oi sz, oj ra, .second, oj rb, .second, oi na, .unset, .unset, .unset, .unset, .unset, .unset, .unset, .unset, .unset, .unset, .unset] [])) (fun _ k => XS.istore X0.here hx rfl (hb hby at_4) rfl (l' := #[oi pt, oi sz, oj ra, .second, oj rb, .second, oi na, .unset, .unset, .unset, .unset, .unset, .unset, .unset, .unset, .unset, .unset, .unset]) rfl k) ?_
  refine own_go (st' := s₁.setTop (mkF m 7 #[oi pt, oi sz, oj ra, .second, oj rb, .second, oi na, .unset, .unset, .unset, .unset, .unset, .unset, .unset, .unset, .unset, .unset, .unset] [(.int pt)])) (fun _ k => XS.iloadN X0.here hx rfl (hb hby at_6) rfl k) ?_
  refine own_go (st' := s₁.setTop (mkF m 8 #[oi pt, oi sz, oj ra, .second, oj rb, .second, oi na, .unset, .unset, .unset, .unset, .unset, .unset, .unset, .unset, .unset, .unset, .unset] [(.int (3 : Int32)), (.int pt)])) (fun _ k => XS.iconst X0.here hx rfl (hb hby at_7) k) ?_
  refine own_go (st' := s₁.setTop (mkF m 9 #[oi pt, oi sz, oj ra, .second, oj rb, .second, oi na, .unset, .unset, .unset, .unset, .unset, .unset, .unset, .unset, .unset, .unset, .unset] [(.int ((pt.toUInt32 >>> ((3 : Int32) &&& 31).toUInt32).toInt32))])) (fun _ k => XS.iushr X0.here hx rfl (hb hby at_8) rfl k) ?_
  refine own_go (st' := s₁.setTop (mkF m 11 #[oi pt, oi sz, oj ra, .second, oj rb, .second, oi na, .unset, .unset, .unset, .unset, .unset, .unset, .unset, .unset, .unset, .unset, .unset] [(.int (7 : Int32)), (.int ((pt.toUInt32 >>> ((3 : Int32) &&& 31).toUInt32).toInt32))])) (fun _ k => XS.bipush X0.here hx rfl (hb hby at_9) k) ?_
  obtain ⟨nb, hnb⟩ : ∃ z : Int32, z = (((pt.toUInt32 >>> ((3 : Int32) &&& 31).toUInt32).toInt32) &&& (7 : Int32)) := ⟨_, rfl⟩
  refine own_go (st' := s₁.setTop (mkF m 12 #[oi pt, oi sz, oj ra, .second, oj rb, .second, oi na, .unset, .unset, .unset, .unset, .unset, .unset, .unset, .unset, .unset, .unset, .unset] [(.int nb)])) (fun _ k => XS.iand X0.here hx rfl (hb hby at_11) rfl (by rw [hnb] at k; exact k)) ?_
  refine own_go (st' := s₁.setTop (mkF m 14 #[oi pt, oi sz, oj ra, .second, oj rb, .second, oi na, oi nb, .unset, .unset, .unset, .unset, .unset, .unset, .unset, .unset, .unset, .unset] [])) (fun _ k => XS.istore X0.here hx rfl (hb hby at_12) rfl (l' := #[oi pt, oi sz, oj ra, .second, oj rb, .second, oi na, oi nb, .unset, .unset, .unset, .unset, .unset, .unset, .unset, .unset, .unset, .unset]) rfl k) ?_
  refine own_go (st' := s₁.setTop (mkF m 15 #[oi pt, oi sz, oj ra, .second, oj rb, .second, oi na, oi nb, .unset, .unset, .unset, .unset, .unset, .unset, .unset, .unset, .unset, .unset] [(.int sz)])) (fun _ k => XS.iloadN X0.here hx rfl (hb hby at_14) rfl k) ?_
  refine own_go (st' := s₁.setTop (mkF m 16 #[oi pt, oi sz, oj ra, .second, oj rb, .second, oi na, oi nb, .unset, .unset, .unset, .unset, .unset, .unset, .unset, .unset, .unset, .unset] [(.int (3 : Int32)), (.int sz)])) (fun _ k => XS.iconst X0.here hx rfl (hb hby at_15) k) ?_
  refine own_go (st' := s₁.setTop (mkF m 17 #[oi pt, oi sz, oj ra, .second, oj rb, .second, oi na, oi nb, .unset, .unset, .unset, .unset, .unset, .unset, .unset, .unset, .unset, .unset] [(.int (sz &&& (3 : Int32)))])) (fun _ k => XS.iand X0.here hx rfl (hb hby at_16) rfl k) ?_
  refine own_go (st' := s₁.setTop (mkF m 18 #[oi pt, oi sz, oj ra, .second, oj rb, .second, oi na, oi nb, .unset, .unset, .unset, .unset, .unset, .unset, .unset, .unset, .unset, .unset] [(.int (1 : Int32)), (.int (sz &&& (3 : Int32)))])) (fun _ k => XS.iconst X0.here hx rfl (hb hby at_17) k) ?_
  obtain ⟨za, hza⟩ : ∃ z : Int32, z = ((sz &&& (3 : Int32)) + (1 : Int32)) := ⟨_, rfl⟩
  refine own_go (st' := s₁.setTop (mkF m 19 #[oi pt, oi sz, oj ra, .second, oj rb, .second, oi na, oi nb, .unset, .unset, .unset, .unset, .unset, .unset, .unset, .unset, .unset, .unset] [(.int za)])) (fun _ k => XS.iadd X0.here hx rfl (hb hby at_18) rfl (by rw [hza] at k; exact k)) ?_
  refine own_go (st' := s₁.setTop (mkF m 21 #[oi pt, oi sz, oj ra, .second, oj rb, .second, oi na, oi nb, oi za, .unset, .unset, .unset, .unset, .unset, .unset, .unset, .unset, .unset] [])) (fun _ k => XS.istore X0.here hx rfl (hb hby at_19) rfl (l' := #[oi pt, oi sz, oj ra, .second, oj rb, .second, oi na, oi nb, oi za, .unset, .unset, .unset, .unset, .unset, .unset, .unset, .unset, .unset]) rfl k) ?_
  refine own_go (st' := s₁.setTop (mkF m 22 #[oi pt, oi sz, oj ra, .second, oj rb, .second, oi na, oi nb, oi za, .unset, .unset, .unset, .unset, .unset, .unset, .unset, .unset, .unset] [(.int sz)])) (fun _ k => XS.iloadN X0.here hx rfl (hb hby at_21) rfl k) ?_
  refine own_go (st' := s₁.setTop (mkF m 23 #[oi pt, oi sz, oj ra, .second, oj rb, .second, oi na, oi nb, oi za, .unset, .unset, .unset, .unset, .unset, .unset, .unset, .unset, .unset] [(.int (2 : Int32)), (.int sz)])) (fun _ k => XS.iconst X0.here hx rfl (hb hby at_22) k) ?_
  refine own_go (st' := s₁.setTop (mkF m 24 #[oi pt, oi sz, oj ra, .second, oj rb, .second, oi na, oi nb, oi za, .unset, .unset, .unset, .unset, .unset, .unset, .unset, .unset, .unset] [(.int ((sz.toUInt32 >>> ((2 : Int32) &&& 31).toUInt32).toInt32))])) (fun _ k => XS.iushr X0.here hx rfl (hb hby at_23) rfl k) ?_
  refine own_go (st' := s₁.setTop (mkF m 25 #[oi pt, oi sz, oj ra, .second, oj rb, .second, oi na, oi nb, oi za, .unset, .unset, .unset, .unset, .unset, .unset, .unset, .unset, .unset] [(.int (3 : Int32)), (.int ((sz.toUInt32 >>> ((2 : Int32) &&& 31).toUInt32).toInt32))])) (fun _ k => XS.iconst X0.here hx rfl (hb hby at_24) k) ?_
  refine own_go (st' := s₁.setTop (mkF m 26 #[oi pt, oi sz, oj ra, .second, oj rb, .second, oi na, oi nb, oi za, .unset, .unset, .unset, .unset, .unset, .unset, .unset, .unset, .unset] [(.int (((sz.toUInt32 >>> ((2 : Int32) &&& 31).toUInt32).toInt32) &&& (3 : Int32)))])) (fun _ k => XS.iand X0.here hx rfl (hb hby at_25) rfl k) ?_
  refine own_go (st' := s₁.setTop (mkF m 27 #[oi pt, oi sz, oj ra, .second, oj rb, .second, oi na, oi nb, oi za, .unset, .unset, .unset, .unset, .unset, .unset, .unset, .unset, .unset] [(.int (1 : Int32)), (.int (((sz.toUInt32 >>> ((2 : Int32) &&& 31).toUInt32).toInt32) &&& (3 : Int32)))])) (fun _ k => XS.iconst X0.here hx rfl (hb hby at_26) k) ?_
  obtain ⟨zb, hzb⟩ : ∃ z : Int32, z = ((((sz.toUInt32 >>> ((2 : Int32) &&& 31).toUInt32).toInt32) &&& (3 : Int32)) + (1 : Int32)) := ⟨_, rfl⟩
  refine own_go (st' := s₁.setTop (mkF m 28 #[oi pt, oi sz, oj ra, .second, oj rb, .second, oi na, oi nb, oi za, .unset, .unset, .unset, .unset, .unset, .unset, .unset, .unset, .unset] [(.int zb)])) (fun _ k => XS.iadd X0.here hx rfl (hb hby at_27) rfl (by rw [hzb] at k; exact k)) ?_
  refine own_go (st' := s₁.setTop (mkF m 30 #[oi pt, oi sz, oj ra, .second, oj rb, .second, oi na, oi nb, oi za, oi zb, .unset, .unset, .unset, .unset, .unset, .unset, .unset, .unset] [])) (fun _ k => XS.istore X0.here hx rfl (hb hby at_28) rfl (l' := #[oi pt, oi sz, oj ra, .second, oj rb, .second, oi na, oi nb, oi za, oi zb, .unset, .unset, .unset, .unset, .unset, .unset, .unset, .unset]) rfl k) ?_
  have hn0 : 0 ≤ na.toInt ∧ na.toInt ≤ 7 := by rw [hna]; exact own_7 _
  have hn1 : 0 ≤ nb.toInt ∧ nb.toInt ≤ 7 := by rw [hnb]; exact own_7 _
  have hs0 : 1 ≤ za.toInt ∧ za.toInt ≤ 4 := by rw [hza]; exact own_4 _
  have hs1 : 1 ≤ zb.toInt ∧ zb.toInt ≤ 4 := by rw [hzb]; exact own_4 _
  have hsa := own_nz4 za hs0
  have hsb := own_nz4 zb hs1
  have hww := own_w na nb hn0 hn1
  have J79_1 : ∀ (Tj1 : State) (lj1 : List Loc) (fl : Int32) (pa : Int64) (pb : Int64) (Xj1 : Stand p l e room_1 s m #[(.int pt), (.int sz), (.long ra), (.long rb)] below meth c Tj1 lj1 0 0) (ej1 : Tj1.heap = h0) (Nj1 : Fr n0 lj1) , own_Go p.tables e below P (Tj1.setTop (mkF m 79 #[oi pt, oi sz, oj ra, .second, oj rb, .second, oi na, oi nb, oi za, oi zb, oi fl, oj pa, .second, oj pb, .second, .unset, .unset, .unset] [])) := by
    intro Tj1 lj1 fl pa pb Xj1 ej1 Nj1
    obtain ⟨T2, h2, X2, e2, E2, A2, D2, -, st2⟩ := newO Xj1 hx hZ hown (own_hw hw 1) (own_hw hw 2) (own_hw hw 3) ej1 (g := (mkF m 79 #[oi pt, oi sz, oj ra, .second, oj rb, .second, oi na, oi nb, oi za, oi zb, oi fl, oj pa, .second, oj pb, .second, .unset, .unset, .unset] [])) rfl (hb hby at_79) (by decide) (by decide)
    obtain ⟨b2, g2⟩ : ∃ z, z = h0.size := ⟨_, rfl⟩
    rw [← g2] at A2 D2 st2
    have sz2 : h0.size ≤ h2.size := E2.1
    have lt2 : @LT.lt Nat _ b2 h2.size := A2.lt
    have f3 : Fld Z h2 b2 oS0 "topicCount" "I" (.int (0 : Int32)) := D2 (Or.inr (own_hw hw 12)) (ty := .int) (by decide)
    have f4 : Fld Z h2 b2 oS0 "unitCount" "I" (.int (0 : Int32)) := D2 (Or.inr (own_hw hw 14)) (ty := .int) (by decide)
    have f5 : Fld Z h2 b2 oS0 "sink" "I" (.int (0 : Int32)) := D2 (Or.inr (own_hw hw 16)) (ty := .int) (by decide)
    have f6 : Fld Z h2 b2 oS0 "total" "I" (.int (0 : Int32)) := D2 (Or.inr (own_hw hw 18)) (ty := .int) (by decide)
    have f7 : Fld Z h2 b2 oS0 oS3 "J" (.long (0 : Int64)) := D2 (Or.inr (own_hw hw 20)) (ty := .long) (by decide)
    have f8 : Fld Z h2 b2 oS0 "arcTopic" "[I" .null := D2 (Or.inr (own_hw hw 22)) (ty := (.array .int)) (by decide)
    have f9 : Fld Z h2 b2 oS0 "arcUnit" "[I" .null := D2 (Or.inr (own_hw hw 24)) (ty := (.array .int)) (by decide)
    have f10 : Fld Z h2 b2 oS0 "arcOwned" "[I" .null := D2 (Or.inr (own_hw hw 26)) (ty := (.array .int)) (by decide)
    have f11 : Fld Z h2 b2 oS0 "unitSize" "[I" .null := D2 (Or.inr (own_hw hw 28)) (ty := (.array .int)) (by decide)
    have f12 : Fld Z h2 b2 oS0 oS2 "[I" .null := D2 (Or.inr (own_hw hw 30)) (ty := (.array .int)) (by decide)
    have f13 : Fld Z h2 b2 oS0 "topicArcs" "[I" .null := D2 (Or.inr (own_hw hw 47)) (ty := (.array .int)) (by decide)
    have f14 : Fld Z h2 b2 oS0 "unitArcStart" "[I" .null := D2 (Or.inr (own_hw hw 49)) (ty := (.array .int)) (by decide)
    have f15 : Fld Z h2 b2 oS0 "unitArcs" "[I" .null := D2 (Or.inr (own_hw hw 51)) (ty := (.array .int)) (by decide)
    have f16 : Fld Z h2 b2 oS0 "flow" "[I" .null := D2 (Or.inr (own_hw hw 53)) (ty := (.array .int)) (by decide)
    have f17 : Fld Z h2 b2 oS0 "load" "[I" .null := D2 (Or.inr (own_hw hw 55)) (ty := (.array .int)) (by decide)
    have f18 : Fld Z h2 b2 oS0 "excess" "[I" .null := D2 (Or.inr (own_hw hw 57)) (ty := (.array .int)) (by decide)
    have f19 : Fld Z h2 b2 oS0 "potential" "[J" .null := D2 (Or.inr (own_hw hw 61)) (ty := (.array .long)) (by decide)
    have f20 : Fld Z h2 b2 oS0 "distance" "[J" .null := D2 (Or.inr (own_hw hw 63)) (ty := (.array .long)) (by decide)
    have f21 : Fld Z h2 b2 oS0 "level" "[I" .null := D2 (Or.inr (own_hw hw 65)) (ty := (.array .int)) (by decide)
    have f22 : Fld Z h2 b2 oS0 "queue" "[I" .null := D2 (Or.inr (own_hw hw 67)) (ty := (.array .int)) (by decide)
    have f23 : Fld Z h2 b2 oS0 "nextArc" "[I" .null := D2 (Or.inr (own_hw hw 69)) (ty := (.array .int)) (by decide)
    have f24 : Fld Z h2 b2 oS0 "pathNode" "[I" .null := D2 (Or.inr (own_hw hw 71)) (ty := (.array .int)) (by decide)
    have f25 : Fld Z h2 b2 oS0 "pathArc" "[I" .null := D2 (Or.inr (own_hw hw 73)) (ty := (.array .int)) (by decide)
    have f26 : Fld Z h2 b2 oS0 "heap" "Lcom/example/limpet/limpet/StickyShares$NodeHeap;" .null := D2 (Or.inr (own_hw hw 91)) (ty := (.object oS1)) (by decide)
    refine own_go (st' := T2.setTop (mkF m 82 #[oi pt, oi sz, oj ra, .second, oj rb, .second, oi na, oi nb, oi za, oi zb, oi fl, oj pa, .second, oj pb, .second, .unset, .unset, .unset] [(.ref b2)])) (st2) ?_
    refine own_go (st' := T2.setTop (mkF m 83 #[oi pt, oi sz, oj ra, .second, oj rb, .second, oi na, oi nb, oi za, oi zb, oi fl, oj pa, .second, oj pb, .second, .unset, .unset, .unset] [(.ref b2), (.ref b2)])) (fun _ k => XS.dup X2.here hx rfl (hb hby at_82) rfl rfl k) ?_
    refine own_go (st' := T2.setTop (mkF m 84 #[oi pt, oi sz, oj ra, .second, oj rb, .second, oi na, oi nb, oi za, oi zb, oi fl, oj pa, .second, oj pb, .second, .unset, .unset, .unset] [(.int (2 : Int32)), (.ref b2), (.ref b2)])) (fun _ k => XS.iconst X2.here hx rfl (hb hby at_83) k) ?_
    obtain ⟨T27, h27, k27, X27, e27, E27, A27, st27⟩ := newP X2 hx hZ (own_hw hw 4) e2 (g := (mkF m 84 #[oi pt, oi sz, oj ra, .second, oj rb, .second, oi na, oi nb, oi za, oi zb, oi fl, oj pa, .second, oj pb, .second, .unset, .unset, .unset] [(.int (2 : Int32)), (.ref b2), (.ref b2)])) rfl (hb hby at_84) rfl (by decide) (cap := 2) (by decide) (by decide) (by decide) (by decide)
    obtain ⟨b27, g27⟩ : ∃ z, z = h2.size := ⟨_, rfl⟩
    rw [← g27] at A27 st27
    have sz27 : h2.size ≤ h27.size := E27.1
    have lt27 : @LT.lt Nat _ b27 h27.size := A27.lt
    have v27 : Arv Z h27 b27 k27 .int (2 : Int32) [(.int (0 : Int32)), (.int (0 : Int32))] (.int (0 : Int32)) := (Arv.new A27 (by decide)).pad (pad_rep [] (.int (0 : Int32)) 2)
    refine own_go (st' := T27.setTop (mkF m 86 #[oi pt, oi sz, oj ra, .second, oj rb, .second, oi na, oi nb, oi za, oi zb, oi fl, oj pa, .second, oj pb, .second, .unset, .unset, .unset] [(.ref b27), (.ref b2), (.ref b2)])) (st27) ?_
    refine own_go (st' := T27.setTop (mkF m 87 #[oi pt, oi sz, oj ra, .second, oj rb, .second, oi na, oi nb, oi za, oi zb, oi fl, oj pa, .second, oj pb, .second, .unset, .unset, .unset] [(.ref b27), (.ref b27), (.ref b2), (.ref b2)])) (fun _ k => XS.dup X27.here hx rfl (hb hby at_86) rfl rfl k) ?_
    refine own_go (st' := T27.setTop (mkF m 88 #[oi pt, oi sz, oj ra, .second, oj rb, .second, oi na, oi nb, oi za, oi zb, oi fl, oj pa, .second, oj pb, .second, .unset, .unset, .unset] [(.int (0 : Int32)), (.ref b27), (.ref b27), (.ref b2), (.ref b2)])) (fun _ k => XS.iconst X27.here hx rfl (hb hby at_87) k) ?_
    refine own_go (st' := T27.setTop (mkF m 90 #[oi pt, oi sz, oj ra, .second, oj rb, .second, oi na, oi nb, oi za, oi zb, oi fl, oj pa, .second, oj pb, .second, .unset, .unset, .unset] [(.int na), (.int (0 : Int32)), (.ref b27), (.ref b27), (.ref b2), (.ref b2)])) (fun _ k => XS.iload X27.here hx rfl (hb hby at_88) rfl k) ?_
    obtain ⟨cl28, Ar28, qc28, S28, M28, H28, G28⟩ := id v27
    have hin28 : ¬ ((0 : Int32) < 0 ∨ cl28.slots.size ≤ ((0 : Int32)).toNatClampNeg) := (inb_of S28 ⟨by decide, by decide⟩)
    obtain ⟨T28, h28, X28, e28, W28, st28⟩ := stI X27 hx hZ e27 Ar28 (j := (0 : Int32)) hin28 (g := (mkF m 90 #[oi pt, oi sz, oj ra, .second, oj rb, .second, oi na, oi nb, oi za, oi zb, oi fl, oj pa, .second, oj pb, .second, .unset, .unset, .unset] [(.int na), (.int (0 : Int32)), (.ref b27), (.ref b27), (.ref b2), (.ref b2)])) rfl rfl (hb hby at_90)
    have sz28 : h28.size = h27.size := W28.size
    have N28 := Fr.snoc X28 Nj1 (by omega)
    have v28 : Arv Z h28 b27 k27 .int (2 : Int32) [(.int na), (.int (0 : Int32))] (.int (0 : Int32)) := Arv.set Ar28 qc28 S28 M28 H28 G28 rfl W28 0 rfl (Nat.le_of_ble_eq_true rfl)
    refine own_go (st' := T28.setTop (mkF m 91 #[oi pt, oi sz, oj ra, .second, oj rb, .second, oi na, oi nb, oi za, oi zb, oi fl, oj pa, .second, oj pb, .second, .unset, .unset, .unset] [(.ref b27), (.ref b2), (.ref b2)])) (st28) ?_
    refine own_go (st' := T28.setTop (mkF m 92 #[oi pt, oi sz, oj ra, .second, oj rb, .second, oi na, oi nb, oi za, oi zb, oi fl, oj pa, .second, oj pb, .second, .unset, .unset, .unset] [(.ref b27), (.ref b27), (.ref b2), (.ref b2)])) (fun _ k => XS.dup X28.here hx rfl (hb hby at_91) rfl rfl k) ?_
    refine own_go (st' := T28.setTop (mkF m 93 #[oi pt, oi sz, oj ra, .second, oj rb, .second, oi na, oi nb, oi za, oi zb, oi fl, oj pa, .second, oj pb, .second, .unset, .unset, .unset] [(.int (1 : Int32)), (.ref b27), (.ref b27), (.ref b2), (.ref b2)])) (fun _ k => XS.iconst X28.here hx rfl (hb hby at_92) k) ?_
    refine own_go (st' := T28.setTop (mkF m 95 #[oi pt, oi sz, oj ra, .second, oj rb, .second, oi na, oi nb, oi za, oi zb, oi fl, oj pa, .second, oj pb, .second, .unset, .unset, .unset] [(.int nb), (.int (1 : Int32)), (.ref b27), (.ref b27), (.ref b2), (.ref b2)])) (fun _ k => XS.iload X28.here hx rfl (hb hby at_93) rfl k) ?_
    obtain ⟨cl29, Ar29, qc29, S29, M29, H29, G29⟩ := id v28
    have hin29 : ¬ ((1 : Int32) < 0 ∨ cl29.slots.size ≤ ((1 : Int32)).toNatClampNeg) := (inb_of S29 ⟨by decide, by decide⟩)
    obtain ⟨T29, h29, X29, e29, W29, st29⟩ := stI X28 hx hZ e28 Ar29 (j := (1 : Int32)) hin29 (g := (mkF m 95 #[oi pt, oi sz, oj ra, .second, oj rb, .second, oi na, oi nb, oi za, oi zb, oi fl, oj pa, .second, oj pb, .second, .unset, .unset, .unset] [(.int nb), (.int (1 : Int32)), (.ref b27), (.ref b27), (.ref b2), (.ref b2)])) rfl rfl (hb hby at_95)
    have sz29 : h29.size = h28.size := W29.size
    have N29 := Fr.snoc X29 N28 (by omega)
    have v29 : Arv Z h29 b27 k27 .int (2 : Int32) [(.int na), (.int nb)] (.int (0 : Int32)) := Arv.set Ar29 qc29 S29 M29 H29 G29 rfl W29 1 rfl (Nat.le_of_ble_eq_true rfl)
    refine own_go (st' := T29.setTop (mkF m 96 #[oi pt, oi sz, oj ra, .second, oj rb, .second, oi na, oi nb, oi za, oi zb, oi fl, oj pa, .second, oj pb, .second, .unset, .unset, .unset] [(.ref b27), (.ref b2), (.ref b2)])) (st29) ?_
    refine own_go (st' := T29.setTop (mkF m 97 #[oi pt, oi sz, oj ra, .second, oj rb, .second, oi na, oi nb, oi za, oi zb, oi fl, oj pa, .second, oj pb, .second, .unset, .unset, .unset] [(.int (2 : Int32)), (.ref b27), (.ref b2), (.ref b2)])) (fun _ k => XS.iconst X29.here hx rfl (hb hby at_96) k) ?_
    obtain ⟨T30, h30, k30, X30, e30, E30, A30, st30⟩ := newP X29 hx hZ (own_hw hw 4) e29 (g := (mkF m 97 #[oi pt, oi sz, oj ra, .second, oj rb, .second, oi na, oi nb, oi za, oi zb, oi fl, oj pa, .second, oj pb, .second, .unset, .unset, .unset] [(.int (2 : Int32)), (.ref b27), (.ref b2), (.ref b2)])) rfl (hb hby at_97) rfl (by decide) (cap := 2) (by decide) (by decide) (by decide) (by decide)
    obtain ⟨b30, g30⟩ : ∃ z, z = h29.size := ⟨_, rfl⟩
    rw [← g30] at A30 st30
    have sz30 : h29.size ≤ h30.size := E30.1
    have lt30 : @LT.lt Nat _ b30 h30.size := A30.lt
    have v30 : Arv Z h30 b30 k30 .int (2 : Int32) [(.int (0 : Int32)), (.int (0 : Int32))] (.int (0 : Int32)) := (Arv.new A30 (by decide)).pad (pad_rep [] (.int (0 : Int32)) 2)
    refine own_go (st' := T30.setTop (mkF m 99 #[oi pt, oi sz, oj ra, .second, oj rb, .second, oi na, oi nb, oi za, oi zb, oi fl, oj pa, .second, oj pb, .second, .unset, .unset, .unset] [(.ref b30), (.ref b27), (.ref b2), (.ref b2)])) (st30) ?_
    refine own_go (st' := T30.setTop (mkF m 100 #[oi pt, oi sz, oj ra, .second, oj rb, .second, oi na, oi nb, oi za, oi zb, oi fl, oj pa, .second, oj pb, .second, .unset, .unset, .unset] [(.ref b30), (.ref b30), (.ref b27), (.ref b2), (.ref b2)])) (fun _ k => XS.dup X30.here hx rfl (hb hby at_99) rfl rfl k) ?_
    refine own_go (st' := T30.setTop (mkF m 101 #[oi pt, oi sz, oj ra, .second, oj rb, .second, oi na, oi nb, oi za, oi zb, oi fl, oj pa, .second, oj pb, .second, .unset, .unset, .unset] [(.int (0 : Int32)), (.ref b30), (.ref b30), (.ref b27), (.ref b2), (.ref b2)])) (fun _ k => XS.iconst X30.here hx rfl (hb hby at_100) k) ?_
    refine own_go (st' := T30.setTop (mkF m 102 #[oi pt, oi sz, oj ra, .second, oj rb, .second, oi na, oi nb, oi za, oi zb, oi fl, oj pa, .second, oj pb, .second, .unset, .unset, .unset] [(.int (0 : Int32)), (.int (0 : Int32)), (.ref b30), (.ref b30), (.ref b27), (.ref b2), (.ref b2)])) (fun _ k => XS.iconst X30.here hx rfl (hb hby at_101) k) ?_
    obtain ⟨cl31, Ar31, qc31, S31, M31, H31, G31⟩ := id v30
    have hin31 : ¬ ((0 : Int32) < 0 ∨ cl31.slots.size ≤ ((0 : Int32)).toNatClampNeg) := (inb_of S31 ⟨by decide, by decide⟩)
    obtain ⟨T31, h31, X31, e31, W31, st31⟩ := stI X30 hx hZ e30 Ar31 (j := (0 : Int32)) hin31 (g := (mkF m 102 #[oi pt, oi sz, oj ra, .second, oj rb, .second, oi na, oi nb, oi za, oi zb, oi fl, oj pa, .second, oj pb, .second, .unset, .unset, .unset] [(.int (0 : Int32)), (.int (0 : Int32)), (.ref b30), (.ref b30), (.ref b27), (.ref b2), (.ref b2)])) rfl rfl (hb hby at_102)
    have sz31 : h31.size = h30.size := W31.size
    have N31 := Fr.snoc X31 N29 (by omega)
    have v31 : Arv Z h31 b30 k30 .int (2 : Int32) [(.int (0 : Int32)), (.int (0 : Int32))] (.int (0 : Int32)) := Arv.set Ar31 qc31 S31 M31 H31 G31 rfl W31 0 rfl (Nat.le_of_ble_eq_true rfl)
    refine own_go (st' := T31.setTop (mkF m 103 #[oi pt, oi sz, oj ra, .second, oj rb, .second, oi na, oi nb, oi za, oi zb, oi fl, oj pa, .second, oj pb, .second, .unset, .unset, .unset] [(.ref b30), (.ref b27), (.ref b2), (.ref b2)])) (st31) ?_
    refine own_go (st' := T31.setTop (mkF m 104 #[oi pt, oi sz, oj ra, .second, oj rb, .second, oi na, oi nb, oi za, oi zb, oi fl, oj pa, .second, oj pb, .second, .unset, .unset, .unset] [(.ref b30), (.ref b30), (.ref b27), (.ref b2), (.ref b2)])) (fun _ k => XS.dup X31.here hx rfl (hb hby at_103) rfl rfl k) ?_
    refine own_go (st' := T31.setTop (mkF m 105 #[oi pt, oi sz, oj ra, .second, oj rb, .second, oi na, oi nb, oi za, oi zb, oi fl, oj pa, .second, oj pb, .second, .unset, .unset, .unset] [(.int (1 : Int32)), (.ref b30), (.ref b30), (.ref b27), (.ref b2), (.ref b2)])) (fun _ k => XS.iconst X31.here hx rfl (hb hby at_104) k) ?_
    refine own_go (st' := T31.setTop (mkF m 106 #[oi pt, oi sz, oj ra, .second, oj rb, .second, oi na, oi nb, oi za, oi zb, oi fl, oj pa, .second, oj pb, .second, .unset, .unset, .unset] [(.int (1 : Int32)), (.int (1 : Int32)), (.ref b30), (.ref b30), (.ref b27), (.ref b2), (.ref b2)])) (fun _ k => XS.iconst X31.here hx rfl (hb hby at_105) k) ?_
    obtain ⟨cl32, Ar32, qc32, S32, M32, H32, G32⟩ := id v31
    have hin32 : ¬ ((1 : Int32) < 0 ∨ cl32.slots.size ≤ ((1 : Int32)).toNatClampNeg) := (inb_of S32 ⟨by decide, by decide⟩)
    obtain ⟨T32, h32, X32, e32, W32, st32⟩ := stI X31 hx hZ e31 Ar32 (j := (1 : Int32)) hin32 (g := (mkF m 106 #[oi pt, oi sz, oj ra, .second, oj rb, .second, oi na, oi nb, oi za, oi zb, oi fl, oj pa, .second, oj pb, .second, .unset, .unset, .unset] [(.int (1 : Int32)), (.int (1 : Int32)), (.ref b30), (.ref b30), (.ref b27), (.ref b2), (.ref b2)])) rfl rfl (hb hby at_106)
    have sz32 : h32.size = h31.size := W32.size
    have N32 := Fr.snoc X32 N31 (by omega)
    have v32 : Arv Z h32 b30 k30 .int (2 : Int32) [(.int (0 : Int32)), (.int (1 : Int32))] (.int (0 : Int32)) := Arv.set Ar32 qc32 S32 M32 H32 G32 rfl W32 1 rfl (Nat.le_of_ble_eq_true rfl)
    refine own_go (st' := T32.setTop (mkF m 107 #[oi pt, oi sz, oj ra, .second, oj rb, .second, oi na, oi nb, oi za, oi zb, oi fl, oj pa, .second, oj pb, .second, .unset, .unset, .unset] [(.ref b30), (.ref b27), (.ref b2), (.ref b2)])) (st32) ?_
    refine own_go (st' := T32.setTop (mkF m 108 #[oi pt, oi sz, oj ra, .second, oj rb, .second, oi na, oi nb, oi za, oi zb, oi fl, oj pa, .second, oj pb, .second, .unset, .unset, .unset] [(.int (2 : Int32)), (.ref b30), (.ref b27), (.ref b2), (.ref b2)])) (fun _ k => XS.iconst X32.here hx rfl (hb hby at_107) k) ?_
    obtain ⟨T33, h33, k33, X33, e33, E33, A33, st33⟩ := newP X32 hx hZ (own_hw hw 4) e32 (g := (mkF m 108 #[oi pt, oi sz, oj ra, .second, oj rb, .second, oi na, oi nb, oi za, oi zb, oi fl, oj pa, .second, oj pb, .second, .unset, .unset, .unset] [(.int (2 : Int32)), (.ref b30), (.ref b27), (.ref b2), (.ref b2)])) rfl (hb hby at_108) rfl (by decide) (cap := 2) (by decide) (by decide) (by decide) (by decide)
    obtain ⟨b33, g33⟩ : ∃ z, z = h32.size := ⟨_, rfl⟩
    rw [← g33] at A33 st33
    have sz33 : h32.size ≤ h33.size := E33.1
    have lt33 : @LT.lt Nat _ b33 h33.size := A33.lt
    have v33 : Arv Z h33 b33 k33 .int (2 : Int32) [(.int (0 : Int32)), (.int (0 : Int32))] (.int (0 : Int32)) := (Arv.new A33 (by decide)).pad (pad_rep [] (.int (0 : Int32)) 2)
    refine own_go (st' := T33.setTop (mkF m 110 #[oi pt, oi sz, oj ra, .second, oj rb, .second, oi na, oi nb, oi za, oi zb, oi fl, oj pa, .second, oj pb, .second, .unset, .unset, .unset] [(.ref b33), (.ref b30), (.ref b27), (.ref b2), (.ref b2)])) (st33) ?_
    refine own_go (st' := T33.setTop (mkF m 111 #[oi pt, oi sz, oj ra, .second, oj rb, .second, oi na, oi nb, oi za, oi zb, oi fl, oj pa, .second, oj pb, .second, .unset, .unset, .unset] [(.ref b33), (.ref b33), (.ref b30), (.ref b27), (.ref b2), (.ref b2)])) (fun _ k => XS.dup X33.here hx rfl (hb hby at_110) rfl rfl k) ?_
    refine own_go (st' := T33.setTop (mkF m 112 #[oi pt, oi sz, oj ra, .second, oj rb, .second, oi na, oi nb, oi za, oi zb, oi fl, oj pa, .second, oj pb, .second, .unset, .unset, .unset] [(.int (0 : Int32)), (.ref b33), (.ref b33), (.ref b30), (.ref b27), (.ref b2), (.ref b2)])) (fun _ k => XS.iconst X33.here hx rfl (hb hby at_111) k) ?_
    refine own_go (st' := T33.setTop (mkF m 113 #[oi pt, oi sz, oj ra, .second, oj rb, .second, oi na, oi nb, oi za, oi zb, oi fl, oj pa, .second, oj pb, .second, .unset, .unset, .unset] [(.int (0 : Int32)), (.int (0 : Int32)), (.ref b33), (.ref b33), (.ref b30), (.ref b27), (.ref b2), (.ref b2)])) (fun _ k => XS.iconst X33.here hx rfl (hb hby at_112) k) ?_
    obtain ⟨cl34, Ar34, qc34, S34, M34, H34, G34⟩ := id v33
    have hin34 : ¬ ((0 : Int32) < 0 ∨ cl34.slots.size ≤ ((0 : Int32)).toNatClampNeg) := (inb_of S34 ⟨by decide, by decide⟩)
    obtain ⟨T34, h34, X34, e34, W34, st34⟩ := stI X33 hx hZ e33 Ar34 (j := (0 : Int32)) hin34 (g := (mkF m 113 #[oi pt, oi sz, oj ra, .second, oj rb, .second, oi na, oi nb, oi za, oi zb, oi fl, oj pa, .second, oj pb, .second, .unset, .unset, .unset] [(.int (0 : Int32)), (.int (0 : Int32)), (.ref b33), (.ref b33), (.ref b30), (.ref b27), (.ref b2), (.ref b2)])) rfl rfl (hb hby at_113)
    have sz34 : h34.size = h33.size := W34.size
    have N34 := Fr.snoc X34 N32 (by omega)
    have v34 : Arv Z h34 b33 k33 .int (2 : Int32) [(.int (0 : Int32)), (.int (0 : Int32))] (.int (0 : Int32)) := Arv.set Ar34 qc34 S34 M34 H34 G34 rfl W34 0 rfl (Nat.le_of_ble_eq_true rfl)
    refine own_go (st' := T34.setTop (mkF m 114 #[oi pt, oi sz, oj ra, .second, oj rb, .second, oi na, oi nb, oi za, oi zb, oi fl, oj pa, .second, oj pb, .second, .unset, .unset, .unset] [(.ref b33), (.ref b30), (.ref b27), (.ref b2), (.ref b2)])) (st34) ?_
    refine own_go (st' := T34.setTop (mkF m 115 #[oi pt, oi sz, oj ra, .second, oj rb, .second, oi na, oi nb, oi za, oi zb, oi fl, oj pa, .second, oj pb, .second, .unset, .unset, .unset] [(.ref b33), (.ref b33), (.ref b30), (.ref b27), (.ref b2), (.ref b2)])) (fun _ k => XS.dup X34.here hx rfl (hb hby at_114) rfl rfl k) ?_
    refine own_go (st' := T34.setTop (mkF m 116 #[oi pt, oi sz, oj ra, .second, oj rb, .second, oi na, oi nb, oi za, oi zb, oi fl, oj pa, .second, oj pb, .second, .unset, .unset, .unset] [(.int (1 : Int32)), (.ref b33), (.ref b33), (.ref b30), (.ref b27), (.ref b2), (.ref b2)])) (fun _ k => XS.iconst X34.here hx rfl (hb hby at_115) k) ?_
    refine own_go (st' := T34.setTop (mkF m 117 #[oi pt, oi sz, oj ra, .second, oj rb, .second, oi na, oi nb, oi za, oi zb, oi fl, oj pa, .second, oj pb, .second, .unset, .unset, .unset] [(.int (1 : Int32)), (.int (1 : Int32)), (.ref b33), (.ref b33), (.ref b30), (.ref b27), (.ref b2), (.ref b2)])) (fun _ k => XS.iconst X34.here hx rfl (hb hby at_116) k) ?_
    obtain ⟨cl35, Ar35, qc35, S35, M35, H35, G35⟩ := id v34
    have hin35 : ¬ ((1 : Int32) < 0 ∨ cl35.slots.size ≤ ((1 : Int32)).toNatClampNeg) := (inb_of S35 ⟨by decide, by decide⟩)
    obtain ⟨T35, h35, X35, e35, W35, st35⟩ := stI X34 hx hZ e34 Ar35 (j := (1 : Int32)) hin35 (g := (mkF m 117 #[oi pt, oi sz, oj ra, .second, oj rb, .second, oi na, oi nb, oi za, oi zb, oi fl, oj pa, .second, oj pb, .second, .unset, .unset, .unset] [(.int (1 : Int32)), (.int (1 : Int32)), (.ref b33), (.ref b33), (.ref b30), (.ref b27), (.ref b2), (.ref b2)])) rfl rfl (hb hby at_117)
    have sz35 : h35.size = h34.size := W35.size
    have N35 := Fr.snoc X35 N34 (by omega)
    have v35 : Arv Z h35 b33 k33 .int (2 : Int32) [(.int (0 : Int32)), (.int (1 : Int32))] (.int (0 : Int32)) := Arv.set Ar35 qc35 S35 M35 H35 G35 rfl W35 1 rfl (Nat.le_of_ble_eq_true rfl)
    refine own_go (st' := T35.setTop (mkF m 118 #[oi pt, oi sz, oj ra, .second, oj rb, .second, oi na, oi nb, oi za, oi zb, oi fl, oj pa, .second, oj pb, .second, .unset, .unset, .unset] [(.ref b33), (.ref b30), (.ref b27), (.ref b2), (.ref b2)])) (st35) ?_
    refine own_go (st' := T35.setTop (mkF m 119 #[oi pt, oi sz, oj ra, .second, oj rb, .second, oi na, oi nb, oi za, oi zb, oi fl, oj pa, .second, oj pb, .second, .unset, .unset, .unset] [(.int (2 : Int32)), (.ref b33), (.ref b30), (.ref b27), (.ref b2), (.ref b2)])) (fun _ k => XS.iconst X35.here hx rfl (hb hby at_118) k) ?_
    obtain ⟨T36, h36, k36, X36, e36, E36, A36, st36⟩ := newP X35 hx hZ (own_hw hw 4) e35 (g := (mkF m 119 #[oi pt, oi sz, oj ra, .second, oj rb, .second, oi na, oi nb, oi za, oi zb, oi fl, oj pa, .second, oj pb, .second, .unset, .unset, .unset] [(.int (2 : Int32)), (.ref b33), (.ref b30), (.ref b27), (.ref b2), (.ref b2)])) rfl (hb hby at_119) rfl (by decide) (cap := 2) (by decide) (by decide) (by decide) (by decide)
    obtain ⟨b36, g36⟩ : ∃ z, z = h35.size := ⟨_, rfl⟩
    rw [← g36] at A36 st36
    have sz36 : h35.size ≤ h36.size := E36.1
    have lt36 : @LT.lt Nat _ b36 h36.size := A36.lt
    have v36 : Arv Z h36 b36 k36 .int (2 : Int32) [(.int (0 : Int32)), (.int (0 : Int32))] (.int (0 : Int32)) := (Arv.new A36 (by decide)).pad (pad_rep [] (.int (0 : Int32)) 2)
    refine own_go (st' := T36.setTop (mkF m 121 #[oi pt, oi sz, oj ra, .second, oj rb, .second, oi na, oi nb, oi za, oi zb, oi fl, oj pa, .second, oj pb, .second, .unset, .unset, .unset] [(.ref b36), (.ref b33), (.ref b30), (.ref b27), (.ref b2), (.ref b2)])) (st36) ?_
    refine own_go (st' := T36.setTop (mkF m 122 #[oi pt, oi sz, oj ra, .second, oj rb, .second, oi na, oi nb, oi za, oi zb, oi fl, oj pa, .second, oj pb, .second, .unset, .unset, .unset] [(.ref b36), (.ref b36), (.ref b33), (.ref b30), (.ref b27), (.ref b2), (.ref b2)])) (fun _ k => XS.dup X36.here hx rfl (hb hby at_121) rfl rfl k) ?_
    refine own_go (st' := T36.setTop (mkF m 123 #[oi pt, oi sz, oj ra, .second, oj rb, .second, oi na, oi nb, oi za, oi zb, oi fl, oj pa, .second, oj pb, .second, .unset, .unset, .unset] [(.int (0 : Int32)), (.ref b36), (.ref b36), (.ref b33), (.ref b30), (.ref b27), (.ref b2), (.ref b2)])) (fun _ k => XS.iconst X36.here hx rfl (hb hby at_122) k) ?_
    refine own_go (st' := T36.setTop (mkF m 125 #[oi pt, oi sz, oj ra, .second, oj rb, .second, oi na, oi nb, oi za, oi zb, oi fl, oj pa, .second, oj pb, .second, .unset, .unset, .unset] [(.int na), (.int (0 : Int32)), (.ref b36), (.ref b36), (.ref b33), (.ref b30), (.ref b27), (.ref b2), (.ref b2)])) (fun _ k => XS.iload X36.here hx rfl (hb hby at_123) rfl k) ?_
    obtain ⟨cl37, Ar37, qc37, S37, M37, H37, G37⟩ := id v36
    have hin37 : ¬ ((0 : Int32) < 0 ∨ cl37.slots.size ≤ ((0 : Int32)).toNatClampNeg) := (inb_of S37 ⟨by decide, by decide⟩)
    obtain ⟨T37, h37, X37, e37, W37, st37⟩ := stI X36 hx hZ e36 Ar37 (j := (0 : Int32)) hin37 (g := (mkF m 125 #[oi pt, oi sz, oj ra, .second, oj rb, .second, oi na, oi nb, oi za, oi zb, oi fl, oj pa, .second, oj pb, .second, .unset, .unset, .unset] [(.int na), (.int (0 : Int32)), (.ref b36), (.ref b36), (.ref b33), (.ref b30), (.ref b27), (.ref b2), (.ref b2)])) rfl rfl (hb hby at_125)
    have sz37 : h37.size = h36.size := W37.size
    have N37 := Fr.snoc X37 N35 (by omega)
    have v37 : Arv Z h37 b36 k36 .int (2 : Int32) [(.int na), (.int (0 : Int32))] (.int (0 : Int32)) := Arv.set Ar37 qc37 S37 M37 H37 G37 rfl W37 0 rfl (Nat.le_of_ble_eq_true rfl)
    refine own_go (st' := T37.setTop (mkF m 126 #[oi pt, oi sz, oj ra, .second, oj rb, .second, oi na, oi nb, oi za, oi zb, oi fl, oj pa, .second, oj pb, .second, .unset, .unset, .unset] [(.ref b36), (.ref b33), (.ref b30), (.ref b27), (.ref b2), (.ref b2)])) (st37) ?_
    refine own_go (st' := T37.setTop (mkF m 127 #[oi pt, oi sz, oj ra, .second, oj rb, .second, oi na, oi nb, oi za, oi zb, oi fl, oj pa, .second, oj pb, .second, .unset, .unset, .unset] [(.ref b36), (.ref b36), (.ref b33), (.ref b30), (.ref b27), (.ref b2), (.ref b2)])) (fun _ k => XS.dup X37.here hx rfl (hb hby at_126) rfl rfl k) ?_
    refine own_go (st' := T37.setTop (mkF m 128 #[oi pt, oi sz, oj ra, .second, oj rb, .second, oi na, oi nb, oi za, oi zb, oi fl, oj pa, .second, oj pb, .second, .unset, .unset, .unset] [(.int (1 : Int32)), (.ref b36), (.ref b36), (.ref b33), (.ref b30), (.ref b27), (.ref b2), (.ref b2)])) (fun _ k => XS.iconst X37.here hx rfl (hb hby at_127) k) ?_
    refine own_go (st' := T37.setTop (mkF m 130 #[oi pt, oi sz, oj ra, .second, oj rb, .second, oi na, oi nb, oi za, oi zb, oi fl, oj pa, .second, oj pb, .second, .unset, .unset, .unset] [(.int nb), (.int (1 : Int32)), (.ref b36), (.ref b36), (.ref b33), (.ref b30), (.ref b27), (.ref b2), (.ref b2)])) (fun _ k => XS.iload X37.here hx rfl (hb hby at_128) rfl k) ?_
    obtain ⟨cl38, Ar38, qc38, S38, M38, H38, G38⟩ := id v37
    have hin38 : ¬ ((1 : Int32) < 0 ∨ cl38.slots.size ≤ ((1 : Int32)).toNatClampNeg) := (inb_of S38 ⟨by decide, by decide⟩)
    obtain ⟨T38, h38, X38, e38, W38, st38⟩ := stI X37 hx hZ e37 Ar38 (j := (1 : Int32)) hin38 (g := (mkF m 130 #[oi pt, oi sz, oj ra, .second, oj rb, .second, oi na, oi nb, oi za, oi zb, oi fl, oj pa, .second, oj pb, .second, .unset, .unset, .unset] [(.int nb), (.int (1 : Int32)), (.ref b36), (.ref b36), (.ref b33), (.ref b30), (.ref b27), (.ref b2), (.ref b2)])) rfl rfl (hb hby at_130)
    have sz38 : h38.size = h37.size := W38.size
    have N38 := Fr.snoc X38 N37 (by omega)
    have v38 : Arv Z h38 b36 k36 .int (2 : Int32) [(.int na), (.int nb)] (.int (0 : Int32)) := Arv.set Ar38 qc38 S38 M38 H38 G38 rfl W38 1 rfl (Nat.le_of_ble_eq_true rfl)
    refine own_go (st' := T38.setTop (mkF m 131 #[oi pt, oi sz, oj ra, .second, oj rb, .second, oi na, oi nb, oi za, oi zb, oi fl, oj pa, .second, oj pb, .second, .unset, .unset, .unset] [(.ref b36), (.ref b33), (.ref b30), (.ref b27), (.ref b2), (.ref b2)])) (st38) ?_
    refine own_go (st' := T38.setTop (mkF m 132 #[oi pt, oi sz, oj ra, .second, oj rb, .second, oi na, oi nb, oi za, oi zb, oi fl, oj pa, .second, oj pb, .second, .unset, .unset, .unset] [(.int (2 : Int32)), (.ref b36), (.ref b33), (.ref b30), (.ref b27), (.ref b2), (.ref b2)])) (fun _ k => XS.iconst X38.here hx rfl (hb hby at_131) k) ?_
    obtain ⟨T39, h39, k39, X39, e39, E39, A39, st39⟩ := newP X38 hx hZ (own_hw hw 4) e38 (g := (mkF m 132 #[oi pt, oi sz, oj ra, .second, oj rb, .second, oi na, oi nb, oi za, oi zb, oi fl, oj pa, .second, oj pb, .second, .unset, .unset, .unset] [(.int (2 : Int32)), (.ref b36), (.ref b33), (.ref b30), (.ref b27), (.ref b2), (.ref b2)])) rfl (hb hby at_132) rfl (by decide) (cap := 2) (by decide) (by decide) (by decide) (by decide)
    obtain ⟨b39, g39⟩ : ∃ z, z = h38.size := ⟨_, rfl⟩
    rw [← g39] at A39 st39
    have sz39 : h38.size ≤ h39.size := E39.1
    have lt39 : @LT.lt Nat _ b39 h39.size := A39.lt
    have v39 : Arv Z h39 b39 k39 .int (2 : Int32) [(.int (0 : Int32)), (.int (0 : Int32))] (.int (0 : Int32)) := (Arv.new A39 (by decide)).pad (pad_rep [] (.int (0 : Int32)) 2)
    refine own_go (st' := T39.setTop (mkF m 134 #[oi pt, oi sz, oj ra, .second, oj rb, .second, oi na, oi nb, oi za, oi zb, oi fl, oj pa, .second, oj pb, .second, .unset, .unset, .unset] [(.ref b39), (.ref b36), (.ref b33), (.ref b30), (.ref b27), (.ref b2), (.ref b2)])) (st39) ?_
    refine own_go (st' := T39.setTop (mkF m 135 #[oi pt, oi sz, oj ra, .second, oj rb, .second, oi na, oi nb, oi za, oi zb, oi fl, oj pa, .second, oj pb, .second, .unset, .unset, .unset] [(.ref b39), (.ref b39), (.ref b36), (.ref b33), (.ref b30), (.ref b27), (.ref b2), (.ref b2)])) (fun _ k => XS.dup X39.here hx rfl (hb hby at_134) rfl rfl k) ?_
    refine own_go (st' := T39.setTop (mkF m 136 #[oi pt, oi sz, oj ra, .second, oj rb, .second, oi na, oi nb, oi za, oi zb, oi fl, oj pa, .second, oj pb, .second, .unset, .unset, .unset] [(.int (0 : Int32)), (.ref b39), (.ref b39), (.ref b36), (.ref b33), (.ref b30), (.ref b27), (.ref b2), (.ref b2)])) (fun _ k => XS.iconst X39.here hx rfl (hb hby at_135) k) ?_
    refine own_go (st' := T39.setTop (mkF m 138 #[oi pt, oi sz, oj ra, .second, oj rb, .second, oi na, oi nb, oi za, oi zb, oi fl, oj pa, .second, oj pb, .second, .unset, .unset, .unset] [(.int za), (.int (0 : Int32)), (.ref b39), (.ref b39), (.ref b36), (.ref b33), (.ref b30), (.ref b27), (.ref b2), (.ref b2)])) (fun _ k => XS.iload X39.here hx rfl (hb hby at_136) rfl k) ?_
    obtain ⟨cl40, Ar40, qc40, S40, M40, H40, G40⟩ := id v39
    have hin40 : ¬ ((0 : Int32) < 0 ∨ cl40.slots.size ≤ ((0 : Int32)).toNatClampNeg) := (inb_of S40 ⟨by decide, by decide⟩)
    obtain ⟨T40, h40, X40, e40, W40, st40⟩ := stI X39 hx hZ e39 Ar40 (j := (0 : Int32)) hin40 (g := (mkF m 138 #[oi pt, oi sz, oj ra, .second, oj rb, .second, oi na, oi nb, oi za, oi zb, oi fl, oj pa, .second, oj pb, .second, .unset, .unset, .unset] [(.int za), (.int (0 : Int32)), (.ref b39), (.ref b39), (.ref b36), (.ref b33), (.ref b30), (.ref b27), (.ref b2), (.ref b2)])) rfl rfl (hb hby at_138)
    have sz40 : h40.size = h39.size := W40.size
    have N40 := Fr.snoc X40 N38 (by omega)
    have v40 : Arv Z h40 b39 k39 .int (2 : Int32) [(.int za), (.int (0 : Int32))] (.int (0 : Int32)) := Arv.set Ar40 qc40 S40 M40 H40 G40 rfl W40 0 rfl (Nat.le_of_ble_eq_true rfl)
    refine own_go (st' := T40.setTop (mkF m 139 #[oi pt, oi sz, oj ra, .second, oj rb, .second, oi na, oi nb, oi za, oi zb, oi fl, oj pa, .second, oj pb, .second, .unset, .unset, .unset] [(.ref b39), (.ref b36), (.ref b33), (.ref b30), (.ref b27), (.ref b2), (.ref b2)])) (st40) ?_
    refine own_go (st' := T40.setTop (mkF m 140 #[oi pt, oi sz, oj ra, .second, oj rb, .second, oi na, oi nb, oi za, oi zb, oi fl, oj pa, .second, oj pb, .second, .unset, .unset, .unset] [(.ref b39), (.ref b39), (.ref b36), (.ref b33), (.ref b30), (.ref b27), (.ref b2), (.ref b2)])) (fun _ k => XS.dup X40.here hx rfl (hb hby at_139) rfl rfl k) ?_
    refine own_go (st' := T40.setTop (mkF m 141 #[oi pt, oi sz, oj ra, .second, oj rb, .second, oi na, oi nb, oi za, oi zb, oi fl, oj pa, .second, oj pb, .second, .unset, .unset, .unset] [(.int (1 : Int32)), (.ref b39), (.ref b39), (.ref b36), (.ref b33), (.ref b30), (.ref b27), (.ref b2), (.ref b2)])) (fun _ k => XS.iconst X40.here hx rfl (hb hby at_140) k) ?_
    refine own_go (st' := T40.setTop (mkF m 143 #[oi pt, oi sz, oj ra, .second, oj rb, .second, oi na, oi nb, oi za, oi zb, oi fl, oj pa, .second, oj pb, .second, .unset, .unset, .unset] [(.int zb), (.int (1 : Int32)), (.ref b39), (.ref b39), (.ref b36), (.ref b33), (.ref b30), (.ref b27), (.ref b2), (.ref b2)])) (fun _ k => XS.iload X40.here hx rfl (hb hby at_141) rfl k) ?_
    obtain ⟨cl41, Ar41, qc41, S41, M41, H41, G41⟩ := id v40
    have hin41 : ¬ ((1 : Int32) < 0 ∨ cl41.slots.size ≤ ((1 : Int32)).toNatClampNeg) := (inb_of S41 ⟨by decide, by decide⟩)
    obtain ⟨T41, h41, X41, e41, W41, st41⟩ := stI X40 hx hZ e40 Ar41 (j := (1 : Int32)) hin41 (g := (mkF m 143 #[oi pt, oi sz, oj ra, .second, oj rb, .second, oi na, oi nb, oi za, oi zb, oi fl, oj pa, .second, oj pb, .second, .unset, .unset, .unset] [(.int zb), (.int (1 : Int32)), (.ref b39), (.ref b39), (.ref b36), (.ref b33), (.ref b30), (.ref b27), (.ref b2), (.ref b2)])) rfl rfl (hb hby at_143)
    have sz41 : h41.size = h40.size := W41.size
    have N41 := Fr.snoc X41 N40 (by omega)
    have v41 : Arv Z h41 b39 k39 .int (2 : Int32) [(.int za), (.int zb)] (.int (0 : Int32)) := Arv.set Ar41 qc41 S41 M41 H41 G41 rfl W41 1 rfl (Nat.le_of_ble_eq_true rfl)
    refine own_go (st' := T41.setTop (mkF m 144 #[oi pt, oi sz, oj ra, .second, oj rb, .second, oi na, oi nb, oi za, oi zb, oi fl, oj pa, .second, oj pb, .second, .unset, .unset, .unset] [(.ref b39), (.ref b36), (.ref b33), (.ref b30), (.ref b27), (.ref b2), (.ref b2)])) (st41) ?_
    have c43 : Exa Z h41 b2 oS0 := (((((((((((((((A2.ext E27).wr W28).wr W29).ext E30).wr W31).wr W32).ext E33).wr W34).wr W35).ext E36).wr W37).wr W38).ext E39).wr W40).wr W41)
    have c44 : Fld Z h41 b2 oS0 "topicCount" "I" (.int (0 : Int32)) := (((((((((((((((f3.ext E27).other W28 (Or.inl (own_ne (by omega)))).other W29 (Or.inl (own_ne (by omega)))).ext E30).other W31 (Or.inl (own_ne (by omega)))).other W32 (Or.inl (own_ne (by omega)))).ext E33).other W34 (Or.inl (own_ne (by omega)))).other W35 (Or.inl (own_ne (by omega)))).ext E36).other W37 (Or.inl (own_ne (by omega)))).other W38 (Or.inl (own_ne (by omega)))).ext E39).other W40 (Or.inl (own_ne (by omega)))).other W41 (Or.inl (own_ne (by omega))))
    have c45 : Fld Z h41 b2 oS0 "unitCount" "I" (.int (0 : Int32)) := (((((((((((((((f4.ext E27).other W28 (Or.inl (own_ne (by omega)))).other W29 (Or.inl (own_ne (by omega)))).ext E30).other W31 (Or.inl (own_ne (by omega)))).other W32 (Or.inl (own_ne (by omega)))).ext E33).other W34 (Or.inl (own_ne (by omega)))).other W35 (Or.inl (own_ne (by omega)))).ext E36).other W37 (Or.inl (own_ne (by omega)))).other W38 (Or.inl (own_ne (by omega)))).ext E39).other W40 (Or.inl (own_ne (by omega)))).other W41 (Or.inl (own_ne (by omega))))
    have c46 : Fld Z h41 b2 oS0 "sink" "I" (.int (0 : Int32)) := (((((((((((((((f5.ext E27).other W28 (Or.inl (own_ne (by omega)))).other W29 (Or.inl (own_ne (by omega)))).ext E30).other W31 (Or.inl (own_ne (by omega)))).other W32 (Or.inl (own_ne (by omega)))).ext E33).other W34 (Or.inl (own_ne (by omega)))).other W35 (Or.inl (own_ne (by omega)))).ext E36).other W37 (Or.inl (own_ne (by omega)))).other W38 (Or.inl (own_ne (by omega)))).ext E39).other W40 (Or.inl (own_ne (by omega)))).other W41 (Or.inl (own_ne (by omega))))
    have c47 : Fld Z h41 b2 oS0 "total" "I" (.int (0 : Int32)) := (((((((((((((((f6.ext E27).other W28 (Or.inl (own_ne (by omega)))).other W29 (Or.inl (own_ne (by omega)))).ext E30).other W31 (Or.inl (own_ne (by omega)))).other W32 (Or.inl (own_ne (by omega)))).ext E33).other W34 (Or.inl (own_ne (by omega)))).other W35 (Or.inl (own_ne (by omega)))).ext E36).other W37 (Or.inl (own_ne (by omega)))).other W38 (Or.inl (own_ne (by omega)))).ext E39).other W40 (Or.inl (own_ne (by omega)))).other W41 (Or.inl (own_ne (by omega))))
    have c48 : Fld Z h41 b2 oS0 oS3 "J" (.long (0 : Int64)) := (((((((((((((((f7.ext E27).other W28 (Or.inl (own_ne (by omega)))).other W29 (Or.inl (own_ne (by omega)))).ext E30).other W31 (Or.inl (own_ne (by omega)))).other W32 (Or.inl (own_ne (by omega)))).ext E33).other W34 (Or.inl (own_ne (by omega)))).other W35 (Or.inl (own_ne (by omega)))).ext E36).other W37 (Or.inl (own_ne (by omega)))).other W38 (Or.inl (own_ne (by omega)))).ext E39).other W40 (Or.inl (own_ne (by omega)))).other W41 (Or.inl (own_ne (by omega))))
    have c49 : Fld Z h41 b2 oS0 "arcTopic" "[I" .null := (((((((((((((((f8.ext E27).other W28 (Or.inl (own_ne (by omega)))).other W29 (Or.inl (own_ne (by omega)))).ext E30).other W31 (Or.inl (own_ne (by omega)))).other W32 (Or.inl (own_ne (by omega)))).ext E33).other W34 (Or.inl (own_ne (by omega)))).other W35 (Or.inl (own_ne (by omega)))).ext E36).other W37 (Or.inl (own_ne (by omega)))).other W38 (Or.inl (own_ne (by omega)))).ext E39).other W40 (Or.inl (own_ne (by omega)))).other W41 (Or.inl (own_ne (by omega))))
    have c50 : Fld Z h41 b2 oS0 "arcUnit" "[I" .null := (((((((((((((((f9.ext E27).other W28 (Or.inl (own_ne (by omega)))).other W29 (Or.inl (own_ne (by omega)))).ext E30).other W31 (Or.inl (own_ne (by omega)))).other W32 (Or.inl (own_ne (by omega)))).ext E33).other W34 (Or.inl (own_ne (by omega)))).other W35 (Or.inl (own_ne (by omega)))).ext E36).other W37 (Or.inl (own_ne (by omega)))).other W38 (Or.inl (own_ne (by omega)))).ext E39).other W40 (Or.inl (own_ne (by omega)))).other W41 (Or.inl (own_ne (by omega))))
    have c51 : Fld Z h41 b2 oS0 "arcOwned" "[I" .null := (((((((((((((((f10.ext E27).other W28 (Or.inl (own_ne (by omega)))).other W29 (Or.inl (own_ne (by omega)))).ext E30).other W31 (Or.inl (own_ne (by omega)))).other W32 (Or.inl (own_ne (by omega)))).ext E33).other W34 (Or.inl (own_ne (by omega)))).other W35 (Or.inl (own_ne (by omega)))).ext E36).other W37 (Or.inl (own_ne (by omega)))).other W38 (Or.inl (own_ne (by omega)))).ext E39).other W40 (Or.inl (own_ne (by omega)))).other W41 (Or.inl (own_ne (by omega))))
    have c52 : Fld Z h41 b2 oS0 "unitSize" "[I" .null := (((((((((((((((f11.ext E27).other W28 (Or.inl (own_ne (by omega)))).other W29 (Or.inl (own_ne (by omega)))).ext E30).other W31 (Or.inl (own_ne (by omega)))).other W32 (Or.inl (own_ne (by omega)))).ext E33).other W34 (Or.inl (own_ne (by omega)))).other W35 (Or.inl (own_ne (by omega)))).ext E36).other W37 (Or.inl (own_ne (by omega)))).other W38 (Or.inl (own_ne (by omega)))).ext E39).other W40 (Or.inl (own_ne (by omega)))).other W41 (Or.inl (own_ne (by omega))))
    have c53 : Fld Z h41 b2 oS0 oS2 "[I" .null := (((((((((((((((f12.ext E27).other W28 (Or.inl (own_ne (by omega)))).other W29 (Or.inl (own_ne (by omega)))).ext E30).other W31 (Or.inl (own_ne (by omega)))).other W32 (Or.inl (own_ne (by omega)))).ext E33).other W34 (Or.inl (own_ne (by omega)))).other W35 (Or.inl (own_ne (by omega)))).ext E36).other W37 (Or.inl (own_ne (by omega)))).other W38 (Or.inl (own_ne (by omega)))).ext E39).other W40 (Or.inl (own_ne (by omega)))).other W41 (Or.inl (own_ne (by omega))))
    have c54 : Fld Z h41 b2 oS0 "topicArcs" "[I" .null := (((((((((((((((f13.ext E27).other W28 (Or.inl (own_ne (by omega)))).other W29 (Or.inl (own_ne (by omega)))).ext E30).other W31 (Or.inl (own_ne (by omega)))).other W32 (Or.inl (own_ne (by omega)))).ext E33).other W34 (Or.inl (own_ne (by omega)))).other W35 (Or.inl (own_ne (by omega)))).ext E36).other W37 (Or.inl (own_ne (by omega)))).other W38 (Or.inl (own_ne (by omega)))).ext E39).other W40 (Or.inl (own_ne (by omega)))).other W41 (Or.inl (own_ne (by omega))))
    have c55 : Fld Z h41 b2 oS0 "unitArcStart" "[I" .null := (((((((((((((((f14.ext E27).other W28 (Or.inl (own_ne (by omega)))).other W29 (Or.inl (own_ne (by omega)))).ext E30).other W31 (Or.inl (own_ne (by omega)))).other W32 (Or.inl (own_ne (by omega)))).ext E33).other W34 (Or.inl (own_ne (by omega)))).other W35 (Or.inl (own_ne (by omega)))).ext E36).other W37 (Or.inl (own_ne (by omega)))).other W38 (Or.inl (own_ne (by omega)))).ext E39).other W40 (Or.inl (own_ne (by omega)))).other W41 (Or.inl (own_ne (by omega))))
    have c56 : Fld Z h41 b2 oS0 "unitArcs" "[I" .null := (((((((((((((((f15.ext E27).other W28 (Or.inl (own_ne (by omega)))).other W29 (Or.inl (own_ne (by omega)))).ext E30).other W31 (Or.inl (own_ne (by omega)))).other W32 (Or.inl (own_ne (by omega)))).ext E33).other W34 (Or.inl (own_ne (by omega)))).other W35 (Or.inl (own_ne (by omega)))).ext E36).other W37 (Or.inl (own_ne (by omega)))).other W38 (Or.inl (own_ne (by omega)))).ext E39).other W40 (Or.inl (own_ne (by omega)))).other W41 (Or.inl (own_ne (by omega))))
    have c57 : Fld Z h41 b2 oS0 "flow" "[I" .null := (((((((((((((((f16.ext E27).other W28 (Or.inl (own_ne (by omega)))).other W29 (Or.inl (own_ne (by omega)))).ext E30).other W31 (Or.inl (own_ne (by omega)))).other W32 (Or.inl (own_ne (by omega)))).ext E33).other W34 (Or.inl (own_ne (by omega)))).other W35 (Or.inl (own_ne (by omega)))).ext E36).other W37 (Or.inl (own_ne (by omega)))).other W38 (Or.inl (own_ne (by omega)))).ext E39).other W40 (Or.inl (own_ne (by omega)))).other W41 (Or.inl (own_ne (by omega))))
    have c58 : Fld Z h41 b2 oS0 "load" "[I" .null := (((((((((((((((f17.ext E27).other W28 (Or.inl (own_ne (by omega)))).other W29 (Or.inl (own_ne (by omega)))).ext E30).other W31 (Or.inl (own_ne (by omega)))).other W32 (Or.inl (own_ne (by omega)))).ext E33).other W34 (Or.inl (own_ne (by omega)))).other W35 (Or.inl (own_ne (by omega)))).ext E36).other W37 (Or.inl (own_ne (by omega)))).other W38 (Or.inl (own_ne (by omega)))).ext E39).other W40 (Or.inl (own_ne (by omega)))).other W41 (Or.inl (own_ne (by omega))))
    have c59 : Fld Z h41 b2 oS0 "excess" "[I" .null := (((((((((((((((f18.ext E27).other W28 (Or.inl (own_ne (by omega)))).other W29 (Or.inl (own_ne (by omega)))).ext E30).other W31 (Or.inl (own_ne (by omega)))).other W32 (Or.inl (own_ne (by omega)))).ext E33).other W34 (Or.inl (own_ne (by omega)))).other W35 (Or.inl (own_ne (by omega)))).ext E36).other W37 (Or.inl (own_ne (by omega)))).other W38 (Or.inl (own_ne (by omega)))).ext E39).other W40 (Or.inl (own_ne (by omega)))).other W41 (Or.inl (own_ne (by omega))))
    have c60 : Fld Z h41 b2 oS0 "level" "[I" .null := (((((((((((((((f21.ext E27).other W28 (Or.inl (own_ne (by omega)))).other W29 (Or.inl (own_ne (by omega)))).ext E30).other W31 (Or.inl (own_ne (by omega)))).other W32 (Or.inl (own_ne (by omega)))).ext E33).other W34 (Or.inl (own_ne (by omega)))).other W35 (Or.inl (own_ne (by omega)))).ext E36).other W37 (Or.inl (own_ne (by omega)))).other W38 (Or.inl (own_ne (by omega)))).ext E39).other W40 (Or.inl (own_ne (by omega)))).other W41 (Or.inl (own_ne (by omega))))
    have c61 : Fld Z h41 b2 oS0 "queue" "[I" .null := (((((((((((((((f22.ext E27).other W28 (Or.inl (own_ne (by omega)))).other W29 (Or.inl (own_ne (by omega)))).ext E30).other W31 (Or.inl (own_ne (by omega)))).other W32 (Or.inl (own_ne (by omega)))).ext E33).other W34 (Or.inl (own_ne (by omega)))).other W35 (Or.inl (own_ne (by omega)))).ext E36).other W37 (Or.inl (own_ne (by omega)))).other W38 (Or.inl (own_ne (by omega)))).ext E39).other W40 (Or.inl (own_ne (by omega)))).other W41 (Or.inl (own_ne (by omega))))
    have c62 : Fld Z h41 b2 oS0 "nextArc" "[I" .null := (((((((((((((((f23.ext E27).other W28 (Or.inl (own_ne (by omega)))).other W29 (Or.inl (own_ne (by omega)))).ext E30).other W31 (Or.inl (own_ne (by omega)))).other W32 (Or.inl (own_ne (by omega)))).ext E33).other W34 (Or.inl (own_ne (by omega)))).other W35 (Or.inl (own_ne (by omega)))).ext E36).other W37 (Or.inl (own_ne (by omega)))).other W38 (Or.inl (own_ne (by omega)))).ext E39).other W40 (Or.inl (own_ne (by omega)))).other W41 (Or.inl (own_ne (by omega))))
    have c63 : Fld Z h41 b2 oS0 "pathNode" "[I" .null := (((((((((((((((f24.ext E27).other W28 (Or.inl (own_ne (by omega)))).other W29 (Or.inl (own_ne (by omega)))).ext E30).other W31 (Or.inl (own_ne (by omega)))).other W32 (Or.inl (own_ne (by omega)))).ext E33).other W34 (Or.inl (own_ne (by omega)))).other W35 (Or.inl (own_ne (by omega)))).ext E36).other W37 (Or.inl (own_ne (by omega)))).other W38 (Or.inl (own_ne (by omega)))).ext E39).other W40 (Or.inl (own_ne (by omega)))).other W41 (Or.inl (own_ne (by omega))))
    have c64 : Fld Z h41 b2 oS0 "pathArc" "[I" .null := (((((((((((((((f25.ext E27).other W28 (Or.inl (own_ne (by omega)))).other W29 (Or.inl (own_ne (by omega)))).ext E30).other W31 (Or.inl (own_ne (by omega)))).other W32 (Or.inl (own_ne (by omega)))).ext E33).other W34 (Or.inl (own_ne (by omega)))).other W35 (Or.inl (own_ne (by omega)))).ext E36).other W37 (Or.inl (own_ne (by omega)))).other W38 (Or.inl (own_ne (by omega)))).ext E39).other W40 (Or.inl (own_ne (by omega)))).other W41 (Or.inl (own_ne (by omega))))
    have c65 : Fld Z h41 b2 oS0 "potential" "[J" .null := (((((((((((((((f19.ext E27).other W28 (Or.inl (own_ne (by omega)))).other W29 (Or.inl (own_ne (by omega)))).ext E30).other W31 (Or.inl (own_ne (by omega)))).other W32 (Or.inl (own_ne (by omega)))).ext E33).other W34 (Or.inl (own_ne (by omega)))).other W35 (Or.inl (own_ne (by omega)))).ext E36).other W37 (Or.inl (own_ne (by omega)))).other W38 (Or.inl (own_ne (by omega)))).ext E39).other W40 (Or.inl (own_ne (by omega)))).other W41 (Or.inl (own_ne (by omega))))
    have c66 : Fld Z h41 b2 oS0 "distance" "[J" .null := (((((((((((((((f20.ext E27).other W28 (Or.inl (own_ne (by omega)))).other W29 (Or.inl (own_ne (by omega)))).ext E30).other W31 (Or.inl (own_ne (by omega)))).other W32 (Or.inl (own_ne (by omega)))).ext E33).other W34 (Or.inl (own_ne (by omega)))).other W35 (Or.inl (own_ne (by omega)))).ext E36).other W37 (Or.inl (own_ne (by omega)))).other W38 (Or.inl (own_ne (by omega)))).ext E39).other W40 (Or.inl (own_ne (by omega)))).other W41 (Or.inl (own_ne (by omega))))
    have c67 : Fld Z h41 b2 oS0 "heap" "Lcom/example/limpet/limpet/StickyShares$NodeHeap;" .null := (((((((((((((((f26.ext E27).other W28 (Or.inl (own_ne (by omega)))).other W29 (Or.inl (own_ne (by omega)))).ext E30).other W31 (Or.inl (own_ne (by omega)))).other W32 (Or.inl (own_ne (by omega)))).ext E33).other W34 (Or.inl (own_ne (by omega)))).other W35 (Or.inl (own_ne (by omega)))).ext E36).other W37 (Or.inl (own_ne (by omega)))).other W38 (Or.inl (own_ne (by omega)))).ext E39).other W40 (Or.inl (own_ne (by omega)))).other W41 (Or.inl (own_ne (by omega))))
    have c68 : Arv Z h41 b27 k27 .int (2 : Int32) [(.int na), (.int nb)] (.int (0 : Int32)) := ((((((((((((v29.ext E30).other W31 (own_ne (by omega))).other W32 (own_ne (by omega))).ext E33).other W34 (own_ne (by omega))).other W35 (own_ne (by omega))).ext E36).other W37 (own_ne (by omega))).other W38 (own_ne (by omega))).ext E39).other W40 (own_ne (by omega))).other W41 (own_ne (by omega)))
    have c69 : Arv Z h41 b30 k30 .int (2 : Int32) [(.int (0 : Int32)), (.int (1 : Int32))] (.int (0 : Int32)) := (((((((((v32.ext E33).other W34 (own_ne (by omega))).other W35 (own_ne (by omega))).ext E36).other W37 (own_ne (by omega))).other W38 (own_ne (by omega))).ext E39).other W40 (own_ne (by omega))).other W41 (own_ne (by omega)))
    have c70 : Arv Z h41 b33 k33 .int (2 : Int32) [(.int (0 : Int32)), (.int (1 : Int32))] (.int (0 : Int32)) := ((((((v35.ext E36).other W37 (own_ne (by omega))).other W38 (own_ne (by omega))).ext E39).other W40 (own_ne (by omega))).other W41 (own_ne (by omega)))
    obtain ⟨_, _, ⟨T42, LC42, kC42, nC42⟩, -, X42, ⟨Lc42, hQ42, lq42, yq42, zq42⟩, st42⟩ := X41.specialBack hx (y := oM12) rfl hown (mvT hZ (own_hw hw 5)) (mvT hZ (own_hw hw 6)) (mvT hZ (own_hw hw 7)) (by decide) (backOf (W := 1) (rm1 l Z a0 hw [] b2 b27 b30 b33 b36 b39 k27 k30 k33 k39 na nb za zb h41 n0 (by omega) c43 c44 c45 c46 c47 c48 c49 c50 c51 c52 c53 c54 c55 c56 c57 c58 c59 c60 c61 c62 c63 c64 c65 c66 c67 c68 c69 c70 v41 (by omega) ⟨by omega, by omega, by omega, by omega⟩) hZ (own_hw hw 7) (own_hw hw 3) (by decide) (by decide)) (g := (mkF m 144 #[oi pt, oi sz, oj ra, .second, oj rb, .second, oi na, oi nb, oi za, oi zb, oi fl, oj pa, .second, oj pb, .second, .unset, .unset, .unset] [(.ref b39), (.ref b36), (.ref b33), (.ref b30), (.ref b27), (.ref b2), (.ref b2)])) rfl (by rw [hml]; rfl) (Steps.refl _) (a := b2) (argsL := [(.ref b27), (.ref b30), (.ref b33), (.ref b36), (.ref b39)]) (rest := [(.ref b2)]) (lenOf pd_8 rfl) rfl (by show 2 * 0 + _ ≤ _; exact Nat.le_of_eq rfl) (hb hby at_144) (fun _ _ => ⟨rfl, e41, (by decide : 6 + 19 ≤ _), (by decide : 34 + 72 ≤ _)⟩)
    dsimp only [Pt.U, Pt.locs, Pt.cells, Pt.slots] at X42 lq42 yq42 zq42 st42 hQ42
    subst lq42 yq42 zq42
    obtain ⟨h42, e42⟩ : ∃ z, T42.heap = z := ⟨_, rfl⟩
    rw [e42] at hQ42
    obtain ⟨rts_42, rta_42, rf_42, rl_42, re_42, rp_42, krts_42, krta_42, krf_42, krl_42, kre_42, krp_42, rfl, Nq42, K42, g42_0, g42_1, g42_2, g42_3, g42_4, g42_5, g42_6, g42_7, g42_8, g42_9, g42_10, g42_11, g42_12, g42_13, g42_14, g42_15, g42_16, g42_17, g42_18, g42_19, g42_20, g42_21, g42_22, g42_23, g42_24, g42_25, g42_26⟩ := hQ42
    have sz42 : h41.size ≤ h42.size := K42.1
    have N42 := Fr.app N41 Nq42
    have lt42_1 : @LT.lt Nat _ b2 h42.size := g42_0.lt
    have lt42_2 : @LT.lt Nat _ rts_42 h42.size := g42_15.lt
    have lt42_3 : @LT.lt Nat _ rta_42 h42.size := g42_16.lt
    have lt42_4 : @LT.lt Nat _ rf_42 h42.size := g42_17.lt
    have lt42_5 : @LT.lt Nat _ rl_42 h42.size := g42_18.lt
    have lt42_6 : @LT.lt Nat _ re_42 h42.size := g42_19.lt
    have lt42_7 : @LT.lt Nat _ rp_42 h42.size := g42_20.lt
    refine own_go (st' := T42.setTop (mkF m 147 #[oi pt, oi sz, oj ra, .second, oj rb, .second, oi na, oi nb, oi za, oi zb, oi fl, oj pa, .second, oj pb, .second, .unset, .unset, .unset] [(.ref b2)])) (fun _ k => st42.trans k) ?_
    refine own_go (st' := T42.setTop (mkF m 149 #[oi pt, oi sz, oj ra, .second, oj rb, .second, oi na, oi nb, oi za, oi zb, oi fl, oj pa, .second, oj pb, .second, oR b2, .unset, .unset] [])) (fun _ k => XS.astore X42.here hx rfl (hb hby at_147) rfl rfl (l' := #[oi pt, oi sz, oj ra, .second, oj rb, .second, oi na, oi nb, oi za, oi zb, oi fl, oj pa, .second, oj pb, .second, oR b2, .unset, .unset]) rfl k) ?_
    refine own_go (st' := T42.setTop (mkF m 151 #[oi pt, oi sz, oj ra, .second, oj rb, .second, oi na, oi nb, oi za, oi zb, oi fl, oj pa, .second, oj pb, .second, oR b2, .unset, .unset] [(.ref b2)])) (fun _ k => XS.aload X42.here hx rfl (hb hby at_149) rfl rfl k) ?_
    refine own_go (st' := T42.setTop (mkF m 152 #[oi pt, oi sz, oj ra, .second, oj rb, .second, oi na, oi nb, oi za, oi zb, oi fl, oj pa, .second, oj pb, .second, oR b2, .unset, .unset] [(.int (2 : Int32)), (.ref b2)])) (fun _ k => XS.iconst X42.here hx rfl (hb hby at_151) k) ?_
    obtain ⟨T71, h71, k71, X71, e71, E71, A71, st71⟩ := newP X42 hx hZ (own_hw hw 4) e42 (g := (mkF m 152 #[oi pt, oi sz, oj ra, .second, oj rb, .second, oi na, oi nb, oi za, oi zb, oi fl, oj pa, .second, oj pb, .second, oR b2, .unset, .unset] [(.int (2 : Int32)), (.ref b2)])) rfl (hb hby at_152) rfl (by decide) (cap := 2) (by decide) (by decide) (by decide) (by decide)
    obtain ⟨b71, g71⟩ : ∃ z, z = h42.size := ⟨_, rfl⟩
    rw [← g71] at A71 st71
    have sz71 : h42.size ≤ h71.size := E71.1
    have lt71 : @LT.lt Nat _ b71 h71.size := A71.lt
    have v71 : Arv Z h71 b71 k71 .int (2 : Int32) [(.int (0 : Int32)), (.int (0 : Int32))] (.int (0 : Int32)) := (Arv.new A71 (by decide)).pad (pad_rep [] (.int (0 : Int32)) 2)
    refine own_go (st' := T71.setTop (mkF m 154 #[oi pt, oi sz, oj ra, .second, oj rb, .second, oi na, oi nb, oi za, oi zb, oi fl, oj pa, .second, oj pb, .second, oR b2, .unset, .unset] [(.ref b71), (.ref b2)])) (st71) ?_
    refine own_go (st' := T71.setTop (mkF m 155 #[oi pt, oi sz, oj ra, .second, oj rb, .second, oi na, oi nb, oi za, oi zb, oi fl, oj pa, .second, oj pb, .second, oR b2, .unset, .unset] [(.ref b71), (.ref b71), (.ref b2)])) (fun _ k => XS.dup X71.here hx rfl (hb hby at_154) rfl rfl k) ?_
    refine own_go (st' := T71.setTop (mkF m 156 #[oi pt, oi sz, oj ra, .second, oj rb, .second, oi na, oi nb, oi za, oi zb, oi fl, oj pa, .second, oj pb, .second, oR b2, .unset, .unset] [(.int (0 : Int32)), (.ref b71), (.ref b71), (.ref b2)])) (fun _ k => XS.iconst X71.here hx rfl (hb hby at_155) k) ?_
    refine own_go (st' := T71.setTop (mkF m 158 #[oi pt, oi sz, oj ra, .second, oj rb, .second, oi na, oi nb, oi za, oi zb, oi fl, oj pa, .second, oj pb, .second, oR b2, .unset, .unset] [(.int na), (.int (0 : Int32)), (.ref b71), (.ref b71), (.ref b2)])) (fun _ k => XS.iload X71.here hx rfl (hb hby at_156) rfl k) ?_
    obtain ⟨cl72, Ar72, qc72, S72, M72, H72, G72⟩ := id v71
    have hin72 : ¬ ((0 : Int32) < 0 ∨ cl72.slots.size ≤ ((0 : Int32)).toNatClampNeg) := (inb_of S72 ⟨by decide, by decide⟩)
    obtain ⟨T72, h72, X72, e72, W72, st72⟩ := stI X71 hx hZ e71 Ar72 (j := (0 : Int32)) hin72 (g := (mkF m 158 #[oi pt, oi sz, oj ra, .second, oj rb, .second, oi na, oi nb, oi za, oi zb, oi fl, oj pa, .second, oj pb, .second, oR b2, .unset, .unset] [(.int na), (.int (0 : Int32)), (.ref b71), (.ref b71), (.ref b2)])) rfl rfl (hb hby at_158)
    have sz72 : h72.size = h71.size := W72.size
    have N72 := Fr.snoc X72 N42 (by omega)
    have v72 : Arv Z h72 b71 k71 .int (2 : Int32) [(.int na), (.int (0 : Int32))] (.int (0 : Int32)) := Arv.set Ar72 qc72 S72 M72 H72 G72 rfl W72 0 rfl (Nat.le_of_ble_eq_true rfl)
    refine own_go (st' := T72.setTop (mkF m 159 #[oi pt, oi sz, oj ra, .second, oj rb, .second, oi na, oi nb, oi za, oi zb, oi fl, oj pa, .second, oj pb, .second, oR b2, .unset, .unset] [(.ref b71), (.ref b2)])) (st72) ?_
    refine own_go (st' := T72.setTop (mkF m 160 #[oi pt, oi sz, oj ra, .second, oj rb, .second, oi na, oi nb, oi za, oi zb, oi fl, oj pa, .second, oj pb, .second, oR b2, .unset, .unset] [(.ref b71), (.ref b71), (.ref b2)])) (fun _ k => XS.dup X72.here hx rfl (hb hby at_159) rfl rfl k) ?_
    refine own_go (st' := T72.setTop (mkF m 161 #[oi pt, oi sz, oj ra, .second, oj rb, .second, oi na, oi nb, oi za, oi zb, oi fl, oj pa, .second, oj pb, .second, oR b2, .unset, .unset] [(.int (1 : Int32)), (.ref b71), (.ref b71), (.ref b2)])) (fun _ k => XS.iconst X72.here hx rfl (hb hby at_160) k) ?_
    refine own_go (st' := T72.setTop (mkF m 163 #[oi pt, oi sz, oj ra, .second, oj rb, .second, oi na, oi nb, oi za, oi zb, oi fl, oj pa, .second, oj pb, .second, oR b2, .unset, .unset] [(.int nb), (.int (1 : Int32)), (.ref b71), (.ref b71), (.ref b2)])) (fun _ k => XS.iload X72.here hx rfl (hb hby at_161) rfl k) ?_
    obtain ⟨cl73, Ar73, qc73, S73, M73, H73, G73⟩ := id v72
    have hin73 : ¬ ((1 : Int32) < 0 ∨ cl73.slots.size ≤ ((1 : Int32)).toNatClampNeg) := (inb_of S73 ⟨by decide, by decide⟩)
    obtain ⟨T73, h73, X73, e73, W73, st73⟩ := stI X72 hx hZ e72 Ar73 (j := (1 : Int32)) hin73 (g := (mkF m 163 #[oi pt, oi sz, oj ra, .second, oj rb, .second, oi na, oi nb, oi za, oi zb, oi fl, oj pa, .second, oj pb, .second, oR b2, .unset, .unset] [(.int nb), (.int (1 : Int32)), (.ref b71), (.ref b71), (.ref b2)])) rfl rfl (hb hby at_163)
    have sz73 : h73.size = h72.size := W73.size
    have N73 := Fr.snoc X73 N72 (by omega)
    have v73 : Arv Z h73 b71 k71 .int (2 : Int32) [(.int na), (.int nb)] (.int (0 : Int32)) := Arv.set Ar73 qc73 S73 M73 H73 G73 rfl W73 1 rfl (Nat.le_of_ble_eq_true rfl)
    refine own_go (st' := T73.setTop (mkF m 164 #[oi pt, oi sz, oj ra, .second, oj rb, .second, oi na, oi nb, oi za, oi zb, oi fl, oj pa, .second, oj pb, .second, oR b2, .unset, .unset] [(.ref b71), (.ref b2)])) (st73) ?_
    refine own_go (st' := T73.setTop (mkF m 165 #[oi pt, oi sz, oj ra, .second, oj rb, .second, oi na, oi nb, oi za, oi zb, oi fl, oj pa, .second, oj pb, .second, oR b2, .unset, .unset] [(.int (2 : Int32)), (.ref b71), (.ref b2)])) (fun _ k => XS.iconst X73.here hx rfl (hb hby at_164) k) ?_
    obtain ⟨T74, h74, k74, X74, e74, E74, A74, st74⟩ := newP X73 hx hZ (own_hw hw 59) e73 (g := (mkF m 165 #[oi pt, oi sz, oj ra, .second, oj rb, .second, oi na, oi nb, oi za, oi zb, oi fl, oj pa, .second, oj pb, .second, oR b2, .unset, .unset] [(.int (2 : Int32)), (.ref b71), (.ref b2)])) rfl (hb hby at_165) rfl (by decide) (cap := 2) (by decide) (by decide) (by decide) (by decide)
    obtain ⟨b74, g74⟩ : ∃ z, z = h73.size := ⟨_, rfl⟩
    rw [← g74] at A74 st74
    have sz74 : h73.size ≤ h74.size := E74.1
    have lt74 : @LT.lt Nat _ b74 h74.size := A74.lt
    have v74 : Arv Z h74 b74 k74 .long (2 : Int32) [(.long (0 : Int64)), (.long (0 : Int64))] (.long (0 : Int64)) := (Arv.new A74 (by decide)).pad (pad_rep [] (.long (0 : Int64)) 2)
    refine own_go (st' := T74.setTop (mkF m 167 #[oi pt, oi sz, oj ra, .second, oj rb, .second, oi na, oi nb, oi za, oi zb, oi fl, oj pa, .second, oj pb, .second, oR b2, .unset, .unset] [(.ref b74), (.ref b71), (.ref b2)])) (st74) ?_
    refine own_go (st' := T74.setTop (mkF m 168 #[oi pt, oi sz, oj ra, .second, oj rb, .second, oi na, oi nb, oi za, oi zb, oi fl, oj pa, .second, oj pb, .second, oR b2, .unset, .unset] [(.ref b74), (.ref b74), (.ref b71), (.ref b2)])) (fun _ k => XS.dup X74.here hx rfl (hb hby at_167) rfl rfl k) ?_
    refine own_go (st' := T74.setTop (mkF m 169 #[oi pt, oi sz, oj ra, .second, oj rb, .second, oi na, oi nb, oi za, oi zb, oi fl, oj pa, .second, oj pb, .second, oR b2, .unset, .unset] [(.int (0 : Int32)), (.ref b74), (.ref b74), (.ref b71), (.ref b2)])) (fun _ k => XS.iconst X74.here hx rfl (hb hby at_168) k) ?_
    refine own_go (st' := T74.setTop (mkF m 171 #[oi pt, oi sz, oj ra, .second, oj rb, .second, oi na, oi nb, oi za, oi zb, oi fl, oj pa, .second, oj pb, .second, oR b2, .unset, .unset] [(.long pa), (.int (0 : Int32)), (.ref b74), (.ref b74), (.ref b71), (.ref b2)])) (fun _ k => XS.lload X74.here hx rfl (hb hby at_169) rfl k) ?_
    obtain ⟨cl75, Ar75, qc75, S75, M75, H75, G75⟩ := id v74
    have hin75 : ¬ ((0 : Int32) < 0 ∨ cl75.slots.size ≤ ((0 : Int32)).toNatClampNeg) := (inb_of S75 ⟨by decide, by decide⟩)
    obtain ⟨T75, h75, X75, e75, W75, st75⟩ := stJ X74 hx hZ e74 Ar75 (j := (0 : Int32)) hin75 (g := (mkF m 171 #[oi pt, oi sz, oj ra, .second, oj rb, .second, oi na, oi nb, oi za, oi zb, oi fl, oj pa, .second, oj pb, .second, oR b2, .unset, .unset] [(.long pa), (.int (0 : Int32)), (.ref b74), (.ref b74), (.ref b71), (.ref b2)])) rfl rfl (hb hby at_171)
    have sz75 : h75.size = h74.size := W75.size
    have N75 := Fr.snoc X75 N73 (by omega)
    have v75 : Arv Z h75 b74 k74 .long (2 : Int32) [(.long pa), (.long (0 : Int64))] (.long (0 : Int64)) := Arv.set Ar75 qc75 S75 M75 H75 G75 rfl W75 0 rfl (Nat.le_of_ble_eq_true rfl)
    refine own_go (st' := T75.setTop (mkF m 172 #[oi pt, oi sz, oj ra, .second, oj rb, .second, oi na, oi nb, oi za, oi zb, oi fl, oj pa, .second, oj pb, .second, oR b2, .unset, .unset] [(.ref b74), (.ref b71), (.ref b2)])) (st75) ?_
    refine own_go (st' := T75.setTop (mkF m 173 #[oi pt, oi sz, oj ra, .second, oj rb, .second, oi na, oi nb, oi za, oi zb, oi fl, oj pa, .second, oj pb, .second, oR b2, .unset, .unset] [(.ref b74), (.ref b74), (.ref b71), (.ref b2)])) (fun _ k => XS.dup X75.here hx rfl (hb hby at_172) rfl rfl k) ?_
    refine own_go (st' := T75.setTop (mkF m 174 #[oi pt, oi sz, oj ra, .second, oj rb, .second, oi na, oi nb, oi za, oi zb, oi fl, oj pa, .second, oj pb, .second, oR b2, .unset, .unset] [(.int (1 : Int32)), (.ref b74), (.ref b74), (.ref b71), (.ref b2)])) (fun _ k => XS.iconst X75.here hx rfl (hb hby at_173) k) ?_
    refine own_go (st' := T75.setTop (mkF m 176 #[oi pt, oi sz, oj ra, .second, oj rb, .second, oi na, oi nb, oi za, oi zb, oi fl, oj pa, .second, oj pb, .second, oR b2, .unset, .unset] [(.long pb), (.int (1 : Int32)), (.ref b74), (.ref b74), (.ref b71), (.ref b2)])) (fun _ k => XS.lload X75.here hx rfl (hb hby at_174) rfl k) ?_
    obtain ⟨cl76, Ar76, qc76, S76, M76, H76, G76⟩ := id v75
    have hin76 : ¬ ((1 : Int32) < 0 ∨ cl76.slots.size ≤ ((1 : Int32)).toNatClampNeg) := (inb_of S76 ⟨by decide, by decide⟩)
    obtain ⟨T76, h76, X76, e76, W76, st76⟩ := stJ X75 hx hZ e75 Ar76 (j := (1 : Int32)) hin76 (g := (mkF m 176 #[oi pt, oi sz, oj ra, .second, oj rb, .second, oi na, oi nb, oi za, oi zb, oi fl, oj pa, .second, oj pb, .second, oR b2, .unset, .unset] [(.long pb), (.int (1 : Int32)), (.ref b74), (.ref b74), (.ref b71), (.ref b2)])) rfl rfl (hb hby at_176)
    have sz76 : h76.size = h75.size := W76.size
    have N76 := Fr.snoc X76 N75 (by omega)
    have v76 : Arv Z h76 b74 k74 .long (2 : Int32) [(.long pa), (.long pb)] (.long (0 : Int64)) := Arv.set Ar76 qc76 S76 M76 H76 G76 rfl W76 1 rfl (Nat.le_of_ble_eq_true rfl)
    refine own_go (st' := T76.setTop (mkF m 177 #[oi pt, oi sz, oj ra, .second, oj rb, .second, oi na, oi nb, oi za, oi zb, oi fl, oj pa, .second, oj pb, .second, oR b2, .unset, .unset] [(.ref b74), (.ref b71), (.ref b2)])) (st76) ?_
    have hb0 := own_pr_le pa _ na za hn0 hs0 hww
    have hb1 := own_pr_le pb _ nb zb hn1 hs1 hww
    have c78 : Exa Z h76 b2 oS0 := ((((((g42_0.ext E71).wr W72).wr W73).ext E74).wr W75).wr W76)
    have c79 : Fld Z h76 b2 oS0 "topicCount" "I" (.int (2 : Int32)) := ((((((g42_1.ext E71).other W72 (Or.inl (own_ne (by omega)))).other W73 (Or.inl (own_ne (by omega)))).ext E74).other W75 (Or.inl (own_ne (by omega)))).other W76 (Or.inl (own_ne (by omega))))
    have c80 : Fld Z h76 b2 oS0 "unitCount" "I" (.int (2 : Int32)) := ((((((g42_2.ext E71).other W72 (Or.inl (own_ne (by omega)))).other W73 (Or.inl (own_ne (by omega)))).ext E74).other W75 (Or.inl (own_ne (by omega)))).other W76 (Or.inl (own_ne (by omega))))
    have c81 : Fld Z h76 b2 oS0 "sink" "I" (.int (4 : Int32)) := ((((((g42_3.ext E71).other W72 (Or.inl (own_ne (by omega)))).other W73 (Or.inl (own_ne (by omega)))).ext E74).other W75 (Or.inl (own_ne (by omega)))).other W76 (Or.inl (own_ne (by omega))))
    have c82 : Fld Z h76 b2 oS0 "total" "I" (.int (((0 : Int64) + na.toInt64) + nb.toInt64).toInt32) := ((((((g42_4.ext E71).other W72 (Or.inl (own_ne (by omega)))).other W73 (Or.inl (own_ne (by omega)))).ext E74).other W75 (Or.inl (own_ne (by omega)))).other W76 (Or.inl (own_ne (by omega))))
    have c83 : Fld Z h76 b2 oS0 oS3 "J" (.long ((((0 : Int64) + na.toInt64) + nb.toInt64) + (1 : Int64))) := ((((((g42_5.ext E71).other W72 (Or.inl (own_ne (by omega)))).other W73 (Or.inl (own_ne (by omega)))).ext E74).other W75 (Or.inl (own_ne (by omega)))).other W76 (Or.inl (own_ne (by omega))))
    have c84 : Fld Z h76 b2 oS0 "arcUnit" "[I" (.ref b33) := ((((((g42_6.ext E71).other W72 (Or.inl (own_ne (by omega)))).other W73 (Or.inl (own_ne (by omega)))).ext E74).other W75 (Or.inl (own_ne (by omega)))).other W76 (Or.inl (own_ne (by omega))))
    have c85 : Fld Z h76 b2 oS0 "arcOwned" "[I" (.ref b36) := ((((((g42_7.ext E71).other W72 (Or.inl (own_ne (by omega)))).other W73 (Or.inl (own_ne (by omega)))).ext E74).other W75 (Or.inl (own_ne (by omega)))).other W76 (Or.inl (own_ne (by omega))))
    have c86 : Fld Z h76 b2 oS0 "unitSize" "[I" (.ref b39) := ((((((g42_8.ext E71).other W72 (Or.inl (own_ne (by omega)))).other W73 (Or.inl (own_ne (by omega)))).ext E74).other W75 (Or.inl (own_ne (by omega)))).other W76 (Or.inl (own_ne (by omega))))
    have c87 : Fld Z h76 b2 oS0 oS2 "[I" (.ref rts_42) := ((((((g42_9.ext E71).other W72 (Or.inl (own_ne (by omega)))).other W73 (Or.inl (own_ne (by omega)))).ext E74).other W75 (Or.inl (own_ne (by omega)))).other W76 (Or.inl (own_ne (by omega))))
    have c88 : Fld Z h76 b2 oS0 "topicArcs" "[I" (.ref rta_42) := ((((((g42_10.ext E71).other W72 (Or.inl (own_ne (by omega)))).other W73 (Or.inl (own_ne (by omega)))).ext E74).other W75 (Or.inl (own_ne (by omega)))).other W76 (Or.inl (own_ne (by omega))))
    have c89 : Fld Z h76 b2 oS0 "flow" "[I" (.ref rf_42) := ((((((g42_11.ext E71).other W72 (Or.inl (own_ne (by omega)))).other W73 (Or.inl (own_ne (by omega)))).ext E74).other W75 (Or.inl (own_ne (by omega)))).other W76 (Or.inl (own_ne (by omega))))
    have c90 : Fld Z h76 b2 oS0 "load" "[I" (.ref rl_42) := ((((((g42_12.ext E71).other W72 (Or.inl (own_ne (by omega)))).other W73 (Or.inl (own_ne (by omega)))).ext E74).other W75 (Or.inl (own_ne (by omega)))).other W76 (Or.inl (own_ne (by omega))))
    have c91 : Fld Z h76 b2 oS0 "excess" "[I" (.ref re_42) := ((((((g42_13.ext E71).other W72 (Or.inl (own_ne (by omega)))).other W73 (Or.inl (own_ne (by omega)))).ext E74).other W75 (Or.inl (own_ne (by omega)))).other W76 (Or.inl (own_ne (by omega))))
    have c92 : Fld Z h76 b2 oS0 "potential" "[J" (.ref rp_42) := ((((((g42_14.ext E71).other W72 (Or.inl (own_ne (by omega)))).other W73 (Or.inl (own_ne (by omega)))).ext E74).other W75 (Or.inl (own_ne (by omega)))).other W76 (Or.inl (own_ne (by omega))))
    have c93 : Arv Z h76 b33 k33 .int (2 : Int32) [(.int (0 : Int32)), (.int (1 : Int32))] (.int (0 : Int32)) := (((((((c70.keep K42 (ninS (own_ne (by omega)) nin0)).ext E71).other W72 (own_ne (by omega))).other W73 (own_ne (by omega))).ext E74).other W75 (own_ne (by omega))).other W76 (own_ne (by omega)))
    have c94 : Arv Z h76 b36 k36 .int (2 : Int32) [(.int na), (.int nb)] (.int (0 : Int32)) := ((((((((((v38.ext E39).other W40 (own_ne (by omega))).other W41 (own_ne (by omega))).keep K42 (ninS (own_ne (by omega)) nin0)).ext E71).other W72 (own_ne (by omega))).other W73 (own_ne (by omega))).ext E74).other W75 (own_ne (by omega))).other W76 (own_ne (by omega)))
    have c95 : Arv Z h76 b39 k39 .int (2 : Int32) [(.int za), (.int zb)] (.int (0 : Int32)) := (((((((v41.keep K42 (ninS (own_ne (by omega)) nin0)).ext E71).other W72 (own_ne (by omega))).other W73 (own_ne (by omega))).ext E74).other W75 (own_ne (by omega))).other W76 (own_ne (by omega)))
    have c96 : Arv Z h76 rts_42 krts_42 .int (3 : Int32) [(.int (0 : Int32)), (.int (1 : Int32)), (.int (2 : Int32))] (.int (0 : Int32)) := ((((((g42_15.ext E71).other W72 (own_ne (by omega))).other W73 (own_ne (by omega))).ext E74).other W75 (own_ne (by omega))).other W76 (own_ne (by omega)))
    have c97 : Arv Z h76 rta_42 krta_42 .int (2 : Int32) [(.int (0 : Int32)), (.int (1 : Int32))] (.int (0 : Int32)) := ((((((g42_16.ext E71).other W72 (own_ne (by omega))).other W73 (own_ne (by omega))).ext E74).other W75 (own_ne (by omega))).other W76 (own_ne (by omega)))
    have c98 : Arv Z h76 rf_42 krf_42 .int (2 : Int32) [(.int (0 : Int32)), (.int (0 : Int32))] (.int (0 : Int32)) := ((((((g42_17.ext E71).other W72 (own_ne (by omega))).other W73 (own_ne (by omega))).ext E74).other W75 (own_ne (by omega))).other W76 (own_ne (by omega)))
    have c99 : Arv Z h76 rl_42 krl_42 .int (2 : Int32) [(.int (0 : Int32)), (.int (0 : Int32))] (.int (0 : Int32)) := ((((((g42_18.ext E71).other W72 (own_ne (by omega))).other W73 (own_ne (by omega))).ext E74).other W75 (own_ne (by omega))).other W76 (own_ne (by omega)))
    have c100 : Arv Z h76 re_42 kre_42 .int (5 : Int32) [(.int na), (.int nb), (.int (0 : Int32)), (.int (0 : Int32)), (.int (0 : Int32))] (.int (0 : Int32)) := ((((((g42_19.ext E71).other W72 (own_ne (by omega))).other W73 (own_ne (by omega))).ext E74).other W75 (own_ne (by omega))).other W76 (own_ne (by omega)))
    have c101 : Arv Z h76 rp_42 krp_42 .long (5 : Int32) [(.long (0 : Int64)), (.long (0 : Int64)), (.long (0 : Int64)), (.long (0 : Int64)), (.long (0 : Int64))] (.long (0 : Int64)) := ((((((g42_20.ext E71).other W72 (own_ne (by omega))).other W73 (own_ne (by omega))).ext E74).other W75 (own_ne (by omega))).other W76 (own_ne (by omega)))
    have c102 : Arv Z h76 b71 k71 .int (2 : Int32) [(.int na), (.int nb)] (.int (0 : Int32)) := (((v73.ext E74).other W75 (own_ne (by omega))).other W76 (own_ne (by omega)))
    obtain ⟨cq77, kq77, q77a, q77b, q77c⟩ := isOf hZ e76 c78
    obtain ⟨_, _, ⟨T77, LC77, kC77, nC77⟩, -, X77, ⟨Lc77, hQ77, lq77, yq77, zq77⟩, st77⟩ := X76.virtualBack hx (y := oM6) (z := oM6) hown (mvT hZ (own_hw hw 92)) (mvT hZ (own_hw hw 93)) (notFace_of_selects (args := #[]) (mvT hZ (own_hw hw 95))) (mvT hZ (own_hw hw 95)) (mvT hZ (own_hw hw 94)) (by decide) (backOf (W := 0) (rm8 l Z a0 hw [] b2 b33 b36 b39 rts_42 rta_42 rf_42 rl_42 re_42 rp_42 b71 b74 k33 k36 k39 krts_42 krta_42 krf_42 krl_42 kre_42 krp_42 k71 k74 na nb za zb pa pb ((((0 : Int64) + na.toInt64) + nb.toInt64).toInt32) ((((0 : Int64) + na.toInt64) + nb.toInt64) + (1 : Int64)) h76 n0 (by omega) c78 c79 c80 c81 c82 c83 c84 c85 c86 c87 c88 c89 c90 c91 c92 c93 c94 c95 c96 c97 c98 c99 c100 c101 c102 v76 ⟨by omega, by omega, by omega, by omega, by omega, by omega, by omega, by omega, by omega, by omega, by omega⟩ (by omega) hsa hsb (own_tot _ _) hb0 hb1) hZ (own_hw hw 96) (own_hw hw 3) (by decide) (by decide)) q77a q77c (g := (mkF m 177 #[oi pt, oi sz, oj ra, .second, oj rb, .second, oi na, oi nb, oi za, oi zb, oi fl, oj pa, .second, oj pb, .second, oR b2, .unset, .unset] [(.ref b74), (.ref b71), (.ref b2)])) rfl (by rw [hml]; rfl) (Steps.refl _) (argsL := [(.ref b71), (.ref b74)]) (rest := []) (lenOf pd_9 rfl) rfl (by show 2 * 0 + _ ≤ _; exact Nat.le_of_eq rfl) (hb hby at_177) (fun _ _ => ⟨rfl, e76, (by decide : 27 + 0 ≤ _), (by decide : 110 + 0 ≤ _)⟩)
    dsimp only [Pt.U, Pt.locs, Pt.cells, Pt.slots] at X77 lq77 yq77 zq77 st77 hQ77
    subst lq77 yq77 zq77
    obtain ⟨h77, e77⟩ : ∃ z, T77.heap = z := ⟨_, rfl⟩
    rw [e77] at hQ77
    obtain ⟨y0_77, y1_77, rfl, Nq77, K77, g77_0, g77_1⟩ := hQ77
    have sz77 : h76.size ≤ h77.size := K77.1
    have N77 := Fr.app N76 Nq77
    have lt77_1 : @LT.lt Nat _ rl_42 h77.size := g77_0.lt
    have lt77_2 : @LT.lt Nat _ rp_42 h77.size := g77_1.lt
    refine own_go (st' := T77.setTop (mkF m 180 #[oi pt, oi sz, oj ra, .second, oj rb, .second, oi na, oi nb, oi za, oi zb, oi fl, oj pa, .second, oj pb, .second, oR b2, .unset, .unset] [])) (fun _ k => st77.trans k) ?_
    refine own_go (st' := T77.setTop (mkF m 182 #[oi pt, oi sz, oj ra, .second, oj rb, .second, oi na, oi nb, oi za, oi zb, oi fl, oj pa, .second, oj pb, .second, oR b2, .unset, .unset] [(.int na)])) (fun _ k => XS.iload X77.here hx rfl (hb hby at_180) rfl k) ?_
    refine own_go (st' := T77.setTop (mkF m 183 #[oi pt, oi sz, oj ra, .second, oj rb, .second, oi na, oi nb, oi za, oi zb, oi fl, oj pa, .second, oj pb, .second, oR b2, .unset, .unset] [(.long na.toInt64)])) (fun _ k => XS.i2l X77.here hx rfl (hb hby at_182) rfl k) ?_
    refine own_go (st' := T77.setTop (mkF m 185 #[oi pt, oi sz, oj ra, .second, oj rb, .second, oi na, oi nb, oi za, oi zb, oi fl, oj pa, .second, oj pb, .second, oR b2, .unset, .unset] [(.int nb), (.long na.toInt64)])) (fun _ k => XS.iload X77.here hx rfl (hb hby at_183) rfl k) ?_
    refine own_go (st' := T77.setTop (mkF m 186 #[oi pt, oi sz, oj ra, .second, oj rb, .second, oi na, oi nb, oi za, oi zb, oi fl, oj pa, .second, oj pb, .second, oR b2, .unset, .unset] [(.long nb.toInt64), (.long na.toInt64)])) (fun _ k => XS.i2l X77.here hx rfl (hb hby at_185) rfl k) ?_
    refine own_go (st' := T77.setTop (mkF m 187 #[oi pt, oi sz, oj ra, .second, oj rb, .second, oi na, oi nb, oi za, oi zb, oi fl, oj pa, .second, oj pb, .second, oR b2, .unset, .unset] [(.long (na.toInt64 + nb.toInt64))])) (fun _ k => XS.ladd X77.here hx rfl (hb hby at_186) rfl k) ?_
    refine own_go (st' := T77.setTop (mkF m 188 #[oi pt, oi sz, oj ra, .second, oj rb, .second, oi na, oi nb, oi za, oi zb, oi fl, oj pa, .second, oj pb, .second, oR b2, .unset, .unset] [(.long (1 : Int64)), (.long (na.toInt64 + nb.toInt64))])) (fun _ k => XS.lconst X77.here hx rfl (hb hby at_187) k) ?_
    refine own_go (st' := T77.setTop (mkF m 189 #[oi pt, oi sz, oj ra, .second, oj rb, .second, oi na, oi nb, oi za, oi zb, oi fl, oj pa, .second, oj pb, .second, oR b2, .unset, .unset] [(.long ((na.toInt64 + nb.toInt64) + (1 : Int64)))])) (fun _ k => XS.ladd X77.here hx rfl (hb hby at_188) rfl k) ?_
    refine own_go (st' := T77.setTop (mkF m 191 #[oi pt, oi sz, oj ra, .second, oj rb, .second, oi na, oi nb, oi za, oi zb, oi fl, oj pa, .second, oj pb, .second, oR b2, .val (.long ((na.toInt64 + nb.toInt64) + (1 : Int64))), .second] [])) (fun _ k => XS.lstore X77.here hx rfl (hb hby at_189) rfl (l' := #[oi pt, oi sz, oj ra, .second, oj rb, .second, oi na, oi nb, oi za, oi zb, oi fl, oj pa, .second, oj pb, .second, oR b2, .val (.long ((na.toInt64 + nb.toInt64) + (1 : Int64))), .second]) rfl k) ?_
    refine own_go (st' := T77.setTop (mkF m 193 #[oi pt, oi sz, oj ra, .second, oj rb, .second, oi na, oi nb, oi za, oi zb, oi fl, oj pa, .second, oj pb, .second, oR b2, .val (.long ((na.toInt64 + nb.toInt64) + (1 : Int64))), .second] [(.ref b2)])) (fun _ k => XS.aload X77.here hx rfl (hb hby at_191) rfl rfl k) ?_
    refine own_go (st' := T77.setTop (mkF m 194 #[oi pt, oi sz, oj ra, .second, oj rb, .second, oi na, oi nb, oi za, oi zb, oi fl, oj pa, .second, oj pb, .second, oR b2, .val (.long ((na.toInt64 + nb.toInt64) + (1 : Int64))), .second] [(.int (0 : Int32)), (.ref b2)])) (fun _ k => XS.iconst X77.here hx rfl (hb hby at_193) k) ?_
    have c104 : Fld Z h77 b2 oS0 "load" "[I" (.ref rl_42) := (c90.keep K77 (ninS (own_ne (by omega)) (ninS (own_ne (by omega)) (ninS (own_ne (by omega)) (ninS (own_ne (by omega)) nin0)))))
    have c105 : Exa Z h77 b2 oS0 := (c78.keep K77)
    obtain ⟨cq103, kq103, q103a, q103b, q103c⟩ := isOf hZ e77 c105
    obtain ⟨_, _, ⟨T103, LC103, kC103, nC103⟩, -, X103, ⟨Lc103, hQ103, lq103, yq103, zq103⟩, st103⟩ := X77.virtualBack hx (y := oM1) (z := oM1) hown (mvT hZ (own_hw hw 110)) (mvT hZ (own_hw hw 111)) (notFace_of_selects (args := #[]) (mvT hZ (own_hw hw 113))) (mvT hZ (own_hw hw 113)) (mvT hZ (own_hw hw 112)) (by decide) (backOf (W := 0) (rm12_0 l Z a0 hw [] b2 rl_42 krl_42 na nb h77 n0 (by omega) c104 g77_0) hZ (own_hw hw 114) (own_hw hw 3) (by decide) (by decide)) q103a q103c (g := (mkF m 194 #[oi pt, oi sz, oj ra, .second, oj rb, .second, oi na, oi nb, oi za, oi zb, oi fl, oj pa, .second, oj pb, .second, oR b2, .val (.long ((na.toInt64 + nb.toInt64) + (1 : Int64))), .second] [(.int (0 : Int32)), (.ref b2)])) rfl (by rw [hml]; rfl) (Steps.refl _) (argsL := [(.int (0 : Int32))]) (rest := []) (lenOf pd_10 rfl) rfl (by show 2 * 0 + _ ≤ _; exact Nat.le_of_eq rfl) (hb hby at_194) (fun _ _ => ⟨rfl, e77, (by decide : 27 + 0 ≤ _), (by decide : 110 + 0 ≤ _)⟩)
    dsimp only [Pt.U, Pt.locs, Pt.cells, Pt.slots] at X103 lq103 yq103 zq103 st103 hQ103
    subst lq103 yq103 zq103
    obtain ⟨rfl, Nq103, eq103⟩ := hQ103
    have N103 := Fr.app N77 Nq103
    refine own_go (st' := T103.setTop (mkF m 197 #[oi pt, oi sz, oj ra, .second, oj rb, .second, oi na, oi nb, oi za, oi zb, oi fl, oj pa, .second, oj pb, .second, oR b2, .val (.long ((na.toInt64 + nb.toInt64) + (1 : Int64))), .second] [(.int na)])) (fun _ k => st103.trans k) ?_
    refine own_go (st' := T103.setTop (mkF m 199 #[oi pt, oi sz, oj ra, .second, oj rb, .second, oi na, oi nb, oi za, oi zb, oi fl, oj pa, .second, oj pb, .second, oR b2, .val (.long ((na.toInt64 + nb.toInt64) + (1 : Int64))), .second] [(.int na), (.int na)])) (fun _ k => XS.iload X103.here hx rfl (hb hby at_197) rfl k) ?_
    have hc106 : na = na := rfl
    refine own_go (st' := T103.setTop (mkF m 202 #[oi pt, oi sz, oj ra, .second, oj rb, .second, oi na, oi nb, oi za, oi zb, oi fl, oj pa, .second, oj pb, .second, oR b2, .val (.long ((na.toInt64 + nb.toInt64) + (1 : Int64))), .second] [])) (fun _ k => XS.icmpNo X103.here hx rfl (hb hby at_199) rfl (teq hc106).2 k) ?_
    refine own_go (st' := T103.setTop (mkF m 204 #[oi pt, oi sz, oj ra, .second, oj rb, .second, oi na, oi nb, oi za, oi zb, oi fl, oj pa, .second, oj pb, .second, oR b2, .val (.long ((na.toInt64 + nb.toInt64) + (1 : Int64))), .second] [(.ref b2)])) (fun _ k => XS.aload X103.here hx rfl (hb hby at_202) rfl rfl k) ?_
    refine own_go (st' := T103.setTop (mkF m 205 #[oi pt, oi sz, oj ra, .second, oj rb, .second, oi na, oi nb, oi za, oi zb, oi fl, oj pa, .second, oj pb, .second, oR b2, .val (.long ((na.toInt64 + nb.toInt64) + (1 : Int64))), .second] [(.int (1 : Int32)), (.ref b2)])) (fun _ k => XS.iconst X103.here hx rfl (hb hby at_204) k) ?_
    obtain ⟨cq107, kq107, q107a, q107b, q107c⟩ := isOf hZ eq103 c105
    obtain ⟨_, _, ⟨T107, LC107, kC107, nC107⟩, -, X107, ⟨Lc107, hQ107, lq107, yq107, zq107⟩, st107⟩ := X103.virtualBack hx (y := oM1) (z := oM1) hown (mvT hZ (own_hw hw 110)) (mvT hZ (own_hw hw 111)) (notFace_of_selects (args := #[]) (mvT hZ (own_hw hw 113))) (mvT hZ (own_hw hw 113)) (mvT hZ (own_hw hw 112)) (by decide) (backOf (W := 0) (rm12_1 l Z a0 hw [] b2 rl_42 krl_42 na nb h77 n0 (by omega) c104 g77_0) hZ (own_hw hw 114) (own_hw hw 3) (by decide) (by decide)) q107a q107c (g := (mkF m 205 #[oi pt, oi sz, oj ra, .second, oj rb, .second, oi na, oi nb, oi za, oi zb, oi fl, oj pa, .second, oj pb, .second, oR b2, .val (.long ((na.toInt64 + nb.toInt64) + (1 : Int64))), .second] [(.int (1 : Int32)), (.ref b2)])) rfl (by rw [hml]; rfl) (Steps.refl _) (argsL := [(.int (1 : Int32))]) (rest := []) (lenOf pd_10 rfl) rfl (by show 2 * 0 + _ ≤ _; exact Nat.le_of_eq rfl) (hb hby at_205) (fun _ _ => ⟨rfl, eq103, (by decide : 27 + 0 ≤ _), (by decide : 110 + 0 ≤ _)⟩)
    dsimp only [Pt.U, Pt.locs, Pt.cells, Pt.slots] at X107 lq107 yq107 zq107 st107 hQ107
    subst lq107 yq107 zq107
    obtain ⟨rfl, Nq107, eq107⟩ := hQ107
    have N107 := Fr.app N103 Nq107
    refine own_go (st' := T107.setTop (mkF m 208 #[oi pt, oi sz, oj ra, .second, oj rb, .second, oi na, oi nb, oi za, oi zb, oi fl, oj pa, .second, oj pb, .second, oR b2, .val (.long ((na.toInt64 + nb.toInt64) + (1 : Int64))), .second] [(.int nb)])) (fun _ k => st107.trans k) ?_
    refine own_go (st' := T107.setTop (mkF m 210 #[oi pt, oi sz, oj ra, .second, oj rb, .second, oi na, oi nb, oi za, oi zb, oi fl, oj pa, .second, oj pb, .second, oR b2, .val (.long ((na.toInt64 + nb.toInt64) + (1 : Int64))), .second] [(.int nb), (.int nb)])) (fun _ k => XS.iload X107.here hx rfl (hb hby at_208) rfl k) ?_
    have hc108 : nb = nb := rfl
    refine own_go (st' := T107.setTop (mkF m 213 #[oi pt, oi sz, oj ra, .second, oj rb, .second, oi na, oi nb, oi za, oi zb, oi fl, oj pa, .second, oj pb, .second, oR b2, .val (.long ((na.toInt64 + nb.toInt64) + (1 : Int64))), .second] [])) (fun _ k => XS.icmpNo X107.here hx rfl (hb hby at_210) rfl (teq hc108).2 k) ?_
    refine own_go (st' := T107.setTop (mkF m 215 #[oi pt, oi sz, oj ra, .second, oj rb, .second, oi na, oi nb, oi za, oi zb, oi fl, oj pa, .second, oj pb, .second, oR b2, .val (.long ((na.toInt64 + nb.toInt64) + (1 : Int64))), .second] [(.ref b2)])) (fun _ k => XS.aload X107.here hx rfl (hb hby at_213) rfl rfl k) ?_
    refine own_go (st' := T107.setTop (mkF m 216 #[oi pt, oi sz, oj ra, .second, oj rb, .second, oi na, oi nb, oi za, oi zb, oi fl, oj pa, .second, oj pb, .second, oR b2, .val (.long ((na.toInt64 + nb.toInt64) + (1 : Int64))), .second] [(.int (0 : Int32)), (.ref b2)])) (fun _ k => XS.iconst X107.here hx rfl (hb hby at_215) k) ?_
    have c110 : Fld Z h77 b2 oS0 "potential" "[J" (.ref rp_42) := (c92.keep K77 (ninS (own_ne (by omega)) (ninS (own_ne (by omega)) (ninS (own_ne (by omega)) (ninS (own_ne (by omega)) nin0)))))
    have c111 : Fld Z h77 b2 oS0 "sink" "I" (.int (4 : Int32)) := (c81.keep K77 (ninS (own_ne (by omega)) (ninS (own_ne (by omega)) (ninS (own_ne (by omega)) (ninS (own_ne (by omega)) nin0)))))
    have c112 : Fld Z h77 b2 oS0 "topicCount" "I" (.int (2 : Int32)) := (c79.keep K77 (ninS (own_ne (by omega)) (ninS (own_ne (by omega)) (ninS (own_ne (by omega)) (ninS (own_ne (by omega)) nin0)))))
    obtain ⟨cq109, kq109, q109a, q109b, q109c⟩ := isOf hZ eq107 c105
    obtain ⟨_, _, ⟨T109, LC109, kC109, nC109⟩, -, X109, ⟨Lc109, hQ109, lq109, yq109, zq109⟩, st109⟩ := X107.virtualBack hx (y := oM2) (z := oM2) hown (mvT hZ (own_hw hw 115)) (mvT hZ (own_hw hw 116)) (notFace_of_selects (args := #[]) (mvT hZ (own_hw hw 118))) (mvT hZ (own_hw hw 118)) (mvT hZ (own_hw hw 117)) (by decide) (backOf (W := 0) (rm13_0 l Z a0 hw [] b2 rp_42 krp_42 y0_77 y1_77 (-(own_pr pa ((((0 : Int64) + na.toInt64) + nb.toInt64) + (1 : Int64)) na za)) (-(own_pr pb ((((0 : Int64) + na.toInt64) + nb.toInt64) + (1 : Int64)) nb zb)) (0 : Int64) h77 n0 (by omega) c110 c111 c112 g77_1) hZ (own_hw hw 119) (own_hw hw 3) (by decide) (by decide)) q109a q109c (g := (mkF m 216 #[oi pt, oi sz, oj ra, .second, oj rb, .second, oi na, oi nb, oi za, oi zb, oi fl, oj pa, .second, oj pb, .second, oR b2, .val (.long ((na.toInt64 + nb.toInt64) + (1 : Int64))), .second] [(.int (0 : Int32)), (.ref b2)])) rfl (by rw [hml]; rfl) (Steps.refl _) (argsL := [(.int (0 : Int32))]) (rest := []) (lenOf pd_11 rfl) rfl (by show 2 * 0 + _ ≤ _; exact Nat.le_of_eq rfl) (hb hby at_216) (fun _ _ => ⟨rfl, eq107, (by decide : 27 + 0 ≤ _), (by decide : 110 + 0 ≤ _)⟩)
    dsimp only [Pt.U, Pt.locs, Pt.cells, Pt.slots] at X109 lq109 yq109 zq109 st109 hQ109
    subst lq109 yq109 zq109
    obtain ⟨rfl, Nq109, eq109⟩ := hQ109
    have N109 := Fr.app N107 Nq109
    refine own_go (st' := T109.setTop (mkF m 219 #[oi pt, oi sz, oj ra, .second, oj rb, .second, oi na, oi nb, oi za, oi zb, oi fl, oj pa, .second, oj pb, .second, oR b2, .val (.long ((na.toInt64 + nb.toInt64) + (1 : Int64))), .second] [(.long ((0 : Int64) - (-(own_pr pa ((((0 : Int64) + na.toInt64) + nb.toInt64) + (1 : Int64)) na za))))])) (fun _ k => st109.trans k) ?_
    refine own_go (st' := T109.setTop (mkF m 221 #[oi pt, oi sz, oj ra, .second, oj rb, .second, oi na, oi nb, oi za, oi zb, oi fl, oj pa, .second, oj pb, .second, oR b2, .val (.long ((na.toInt64 + nb.toInt64) + (1 : Int64))), .second] [(.long pa), (.long ((0 : Int64) - (-(own_pr pa ((((0 : Int64) + na.toInt64) + nb.toInt64) + (1 : Int64)) na za))))])) (fun _ k => XS.lload X109.here hx rfl (hb hby at_219) rfl k) ?_
    refine own_go (st' := T109.setTop (mkF m 223 #[oi pt, oi sz, oj ra, .second, oj rb, .second, oi na, oi nb, oi za, oi zb, oi fl, oj pa, .second, oj pb, .second, oR b2, .val (.long ((na.toInt64 + nb.toInt64) + (1 : Int64))), .second] [(.int na), (.long pa), (.long ((0 : Int64) - (-(own_pr pa ((((0 : Int64) + na.toInt64) + nb.toInt64) + (1 : Int64)) na za))))])) (fun _ k => XS.iload X109.here hx rfl (hb hby at_221) rfl k) ?_
    refine own_go (st' := T109.setTop (mkF m 225 #[oi pt, oi sz, oj ra, .second, oj rb, .second, oi na, oi nb, oi za, oi zb, oi fl, oj pa, .second, oj pb, .second, oR b2, .val (.long ((na.toInt64 + nb.toInt64) + (1 : Int64))), .second] [(.int za), (.int na), (.long pa), (.long ((0 : Int64) - (-(own_pr pa ((((0 : Int64) + na.toInt64) + nb.toInt64) + (1 : Int64)) na za))))])) (fun _ k => XS.iload X109.here hx rfl (hb hby at_223) rfl k) ?_
    refine own_go (st' := T109.setTop (mkF m 227 #[oi pt, oi sz, oj ra, .second, oj rb, .second, oi na, oi nb, oi za, oi zb, oi fl, oj pa, .second, oj pb, .second, oR b2, .val (.long ((na.toInt64 + nb.toInt64) + (1 : Int64))), .second] [(.long ((na.toInt64 + nb.toInt64) + (1 : Int64))), (.int za), (.int na), (.long pa), (.long ((0 : Int64) - (-(own_pr pa ((((0 : Int64) + na.toInt64) + nb.toInt64) + (1 : Int64)) na za))))])) (fun _ k => XS.lload X109.here hx rfl (hb hby at_225) rfl k) ?_
    obtain ⟨_, _, ⟨T113, LC113, kC113, nC113⟩, -, X113, ⟨Lc113, hQ113, lq113, yq113, zq113⟩, st113⟩ := Jvm.LawKit.callS X109 hx (y := oM7) hown (mvT hZ (own_hw hw 120)) (mvT hZ (own_hw hw 121)) (mvT hZ (own_hw hw 122)) (mvT hZ (own_hw hw 123)) (by decide) (backOf (W := 2) (rm14 l Z a0 hw [] pa na za ((na.toInt64 + nb.toInt64) + (1 : Int64)) h77 n0 (by omega) (by assumption)) hZ (own_hw hw 123) (own_hw hw 122) (by decide) (by decide)) (g := (mkF m 227 #[oi pt, oi sz, oj ra, .second, oj rb, .second, oi na, oi nb, oi za, oi zb, oi fl, oj pa, .second, oj pb, .second, oR b2, .val (.long ((na.toInt64 + nb.toInt64) + (1 : Int64))), .second] [(.long ((na.toInt64 + nb.toInt64) + (1 : Int64))), (.int za), (.int na), (.long pa), (.long ((0 : Int64) - (-(own_pr pa ((((0 : Int64) + na.toInt64) + nb.toInt64) + (1 : Int64)) na za))))])) rfl (by rw [hml]; rfl) (argsL := [(.long pa), (.int na), (.int za), (.long ((na.toInt64 + nb.toInt64) + (1 : Int64)))]) (rest := [(.long ((0 : Int64) - (-(own_pr pa ((((0 : Int64) + na.toInt64) + nb.toInt64) + (1 : Int64)) na za))))]) (lenOf pd_12 rfl) rfl (by show 2 * 0 + _ ≤ _; exact Nat.le_of_eq rfl) (hb hby at_227) (fun _ _ => ⟨rfl, eq109, (by decide : 27 + 0 ≤ _), (by decide : 110 + 0 ≤ _)⟩)
    dsimp only [Pt.U, Pt.locs, Pt.cells, Pt.slots] at X113 lq113 yq113 zq113 st113 hQ113
    subst lq113 yq113 zq113
    obtain ⟨rfl, Nq113, eq113⟩ := hQ113
    have N113 := Fr.app N109 Nq113
    refine own_go (st' := T113.setTop (mkF m 230 #[oi pt, oi sz, oj ra, .second, oj rb, .second, oi na, oi nb, oi za, oi zb, oi fl, oj pa, .second, oj pb, .second, oR b2, .val (.long ((na.toInt64 + nb.toInt64) + (1 : Int64))), .second] [(.long (own_exp pa ((na.toInt64 + nb.toInt64) + (1 : Int64)) na za)), (.long ((0 : Int64) - (-(own_pr pa ((((0 : Int64) + na.toInt64) + nb.toInt64) + (1 : Int64)) na za))))])) (fun t k => st113 t k) ?_
    refine own_go (st' := T113.setTop (mkF m 231 #[oi pt, oi sz, oj ra, .second, oj rb, .second, oi na, oi nb, oi za, oi zb, oi fl, oj pa, .second, oj pb, .second, oR b2, .val (.long ((na.toInt64 + nb.toInt64) + (1 : Int64))), .second] [(.int (lcmpW ((0 : Int64) - (-(own_pr pa ((((0 : Int64) + na.toInt64) + nb.toInt64) + (1 : Int64)) na za))) (own_exp pa ((na.toInt64 + nb.toInt64) + (1 : Int64)) na za)))])) (fun _ k => XS.lcmp X113.here hx rfl (hb hby at_230) rfl k) ?_
    have hc114 : ((0 : Int64) - (-(own_pr pa ((((0 : Int64) + na.toInt64) + nb.toInt64) + (1 : Int64)) na za))) = (own_exp pa ((na.toInt64 + nb.toInt64) + (1 : Int64)) na za) := by rw [own_price, own_pr_exp _ _ _ _ hn0 hs0 hww, Int64.zero_add]
    refine own_go (st' := T113.setTop (mkF m 234 #[oi pt, oi sz, oj ra, .second, oj rb, .second, oi na, oi nb, oi za, oi zb, oi fl, oj pa, .second, oj pb, .second, oR b2, .val (.long ((na.toInt64 + nb.toInt64) + (1 : Int64))), .second] [])) (fun _ k => XS.ifNo X113.here hx rfl (hb hby at_231) rfl ((if0 _ _).trans (teq ((lw_eq ((0 : Int64) - (-(own_pr pa ((((0 : Int64) + na.toInt64) + nb.toInt64) + (1 : Int64)) na za))) (own_exp pa ((na.toInt64 + nb.toInt64) + (1 : Int64)) na za)).mpr hc114)).2) k) ?_
    refine own_go (st' := T113.setTop (mkF m 236 #[oi pt, oi sz, oj ra, .second, oj rb, .second, oi na, oi nb, oi za, oi zb, oi fl, oj pa, .second, oj pb, .second, oR b2, .val (.long ((na.toInt64 + nb.toInt64) + (1 : Int64))), .second] [(.ref b2)])) (fun _ k => XS.aload X113.here hx rfl (hb hby at_234) rfl rfl k) ?_
    refine own_go (st' := T113.setTop (mkF m 237 #[oi pt, oi sz, oj ra, .second, oj rb, .second, oi na, oi nb, oi za, oi zb, oi fl, oj pa, .second, oj pb, .second, oR b2, .val (.long ((na.toInt64 + nb.toInt64) + (1 : Int64))), .second] [(.int (1 : Int32)), (.ref b2)])) (fun _ k => XS.iconst X113.here hx rfl (hb hby at_236) k) ?_
    obtain ⟨cq115, kq115, q115a, q115b, q115c⟩ := isOf hZ eq113 c105
    obtain ⟨_, _, ⟨T115, LC115, kC115, nC115⟩, -, X115, ⟨Lc115, hQ115, lq115, yq115, zq115⟩, st115⟩ := X113.virtualBack hx (y := oM2) (z := oM2) hown (mvT hZ (own_hw hw 115)) (mvT hZ (own_hw hw 116)) (notFace_of_selects (args := #[]) (mvT hZ (own_hw hw 118))) (mvT hZ (own_hw hw 118)) (mvT hZ (own_hw hw 117)) (by decide) (backOf (W := 0) (rm13_1 l Z a0 hw [] b2 rp_42 krp_42 y0_77 y1_77 (-(own_pr pa ((((0 : Int64) + na.toInt64) + nb.toInt64) + (1 : Int64)) na za)) (-(own_pr pb ((((0 : Int64) + na.toInt64) + nb.toInt64) + (1 : Int64)) nb zb)) (0 : Int64) h77 n0 (by omega) c110 c111 c112 g77_1) hZ (own_hw hw 119) (own_hw hw 3) (by decide) (by decide)) q115a q115c (g := (mkF m 237 #[oi pt, oi sz, oj ra, .second, oj rb, .second, oi na, oi nb, oi za, oi zb, oi fl, oj pa, .second, oj pb, .second, oR b2, .val (.long ((na.toInt64 + nb.toInt64) + (1 : Int64))), .second] [(.int (1 : Int32)), (.ref b2)])) rfl (by rw [hml]; rfl) (Steps.refl _) (argsL := [(.int (1 : Int32))]) (rest := []) (lenOf pd_11 rfl) rfl (by show 2 * 0 + _ ≤ _; exact Nat.le_of_eq rfl) (hb hby at_237) (fun _ _ => ⟨rfl, eq113, (by decide : 27 + 0 ≤ _), (by decide : 110 + 0 ≤ _)⟩)
    dsimp only [Pt.U, Pt.locs, Pt.cells, Pt.slots] at X115 lq115 yq115 zq115 st115 hQ115
    subst lq115 yq115 zq115
    obtain ⟨rfl, Nq115, eq115⟩ := hQ115
    have N115 := Fr.app N113 Nq115
    refine own_go (st' := T115.setTop (mkF m 240 #[oi pt, oi sz, oj ra, .second, oj rb, .second, oi na, oi nb, oi za, oi zb, oi fl, oj pa, .second, oj pb, .second, oR b2, .val (.long ((na.toInt64 + nb.toInt64) + (1 : Int64))), .second] [(.long ((0 : Int64) - (-(own_pr pb ((((0 : Int64) + na.toInt64) + nb.toInt64) + (1 : Int64)) nb zb))))])) (fun _ k => st115.trans k) ?_
    refine own_go (st' := T115.setTop (mkF m 242 #[oi pt, oi sz, oj ra, .second, oj rb, .second, oi na, oi nb, oi za, oi zb, oi fl, oj pa, .second, oj pb, .second, oR b2, .val (.long ((na.toInt64 + nb.toInt64) + (1 : Int64))), .second] [(.long pb), (.long ((0 : Int64) - (-(own_pr pb ((((0 : Int64) + na.toInt64) + nb.toInt64) + (1 : Int64)) nb zb))))])) (fun _ k => XS.lload X115.here hx rfl (hb hby at_240) rfl k) ?_
    refine own_go (st' := T115.setTop (mkF m 244 #[oi pt, oi sz, oj ra, .second, oj rb, .second, oi na, oi nb, oi za, oi zb, oi fl, oj pa, .second, oj pb, .second, oR b2, .val (.long ((na.toInt64 + nb.toInt64) + (1 : Int64))), .second] [(.int nb), (.long pb), (.long ((0 : Int64) - (-(own_pr pb ((((0 : Int64) + na.toInt64) + nb.toInt64) + (1 : Int64)) nb zb))))])) (fun _ k => XS.iload X115.here hx rfl (hb hby at_242) rfl k) ?_
    refine own_go (st' := T115.setTop (mkF m 246 #[oi pt, oi sz, oj ra, .second, oj rb, .second, oi na, oi nb, oi za, oi zb, oi fl, oj pa, .second, oj pb, .second, oR b2, .val (.long ((na.toInt64 + nb.toInt64) + (1 : Int64))), .second] [(.int zb), (.int nb), (.long pb), (.long ((0 : Int64) - (-(own_pr pb ((((0 : Int64) + na.toInt64) + nb.toInt64) + (1 : Int64)) nb zb))))])) (fun _ k => XS.iload X115.here hx rfl (hb hby at_244) rfl k) ?_
    refine own_go (st' := T115.setTop (mkF m 248 #[oi pt, oi sz, oj ra, .second, oj rb, .second, oi na, oi nb, oi za, oi zb, oi fl, oj pa, .second, oj pb, .second, oR b2, .val (.long ((na.toInt64 + nb.toInt64) + (1 : Int64))), .second] [(.long ((na.toInt64 + nb.toInt64) + (1 : Int64))), (.int zb), (.int nb), (.long pb), (.long ((0 : Int64) - (-(own_pr pb ((((0 : Int64) + na.toInt64) + nb.toInt64) + (1 : Int64)) nb zb))))])) (fun _ k => XS.lload X115.here hx rfl (hb hby at_246) rfl k) ?_
    obtain ⟨_, _, ⟨T116, LC116, kC116, nC116⟩, -, X116, ⟨Lc116, hQ116, lq116, yq116, zq116⟩, st116⟩ := Jvm.LawKit.callS X115 hx (y := oM7) hown (mvT hZ (own_hw hw 120)) (mvT hZ (own_hw hw 121)) (mvT hZ (own_hw hw 122)) (mvT hZ (own_hw hw 123)) (by decide) (backOf (W := 2) (rm14 l Z a0 hw [] pb nb zb ((na.toInt64 + nb.toInt64) + (1 : Int64)) h77 n0 (by omega) (by assumption)) hZ (own_hw hw 123) (own_hw hw 122) (by decide) (by decide)) (g := (mkF m 248 #[oi pt, oi sz, oj ra, .second, oj rb, .second, oi na, oi nb, oi za, oi zb, oi fl, oj pa, .second, oj pb, .second, oR b2, .val (.long ((na.toInt64 + nb.toInt64) + (1 : Int64))), .second] [(.long ((na.toInt64 + nb.toInt64) + (1 : Int64))), (.int zb), (.int nb), (.long pb), (.long ((0 : Int64) - (-(own_pr pb ((((0 : Int64) + na.toInt64) + nb.toInt64) + (1 : Int64)) nb zb))))])) rfl (by rw [hml]; rfl) (argsL := [(.long pb), (.int nb), (.int zb), (.long ((na.toInt64 + nb.toInt64) + (1 : Int64)))]) (rest := [(.long ((0 : Int64) - (-(own_pr pb ((((0 : Int64) + na.toInt64) + nb.toInt64) + (1 : Int64)) nb zb))))]) (lenOf pd_12 rfl) rfl (by show 2 * 0 + _ ≤ _; exact Nat.le_of_eq rfl) (hb hby at_248) (fun _ _ => ⟨rfl, eq115, (by decide : 27 + 0 ≤ _), (by decide : 110 + 0 ≤ _)⟩)
    dsimp only [Pt.U, Pt.locs, Pt.cells, Pt.slots] at X116 lq116 yq116 zq116 st116 hQ116
    subst lq116 yq116 zq116
    obtain ⟨rfl, Nq116, eq116⟩ := hQ116
    have N116 := Fr.app N115 Nq116
    refine own_go (st' := T116.setTop (mkF m 251 #[oi pt, oi sz, oj ra, .second, oj rb, .second, oi na, oi nb, oi za, oi zb, oi fl, oj pa, .second, oj pb, .second, oR b2, .val (.long ((na.toInt64 + nb.toInt64) + (1 : Int64))), .second] [(.long (own_exp pb ((na.toInt64 + nb.toInt64) + (1 : Int64)) nb zb)), (.long ((0 : Int64) - (-(own_pr pb ((((0 : Int64) + na.toInt64) + nb.toInt64) + (1 : Int64)) nb zb))))])) (fun t k => st116 t k) ?_
    refine own_go (st' := T116.setTop (mkF m 252 #[oi pt, oi sz, oj ra, .second, oj rb, .second, oi na, oi nb, oi za, oi zb, oi fl, oj pa, .second, oj pb, .second, oR b2, .val (.long ((na.toInt64 + nb.toInt64) + (1 : Int64))), .second] [(.int (lcmpW ((0 : Int64) - (-(own_pr pb ((((0 : Int64) + na.toInt64) + nb.toInt64) + (1 : Int64)) nb zb))) (own_exp pb ((na.toInt64 + nb.toInt64) + (1 : Int64)) nb zb)))])) (fun _ k => XS.lcmp X116.here hx rfl (hb hby at_251) rfl k) ?_
    have hc117 : ((0 : Int64) - (-(own_pr pb ((((0 : Int64) + na.toInt64) + nb.toInt64) + (1 : Int64)) nb zb))) = (own_exp pb ((na.toInt64 + nb.toInt64) + (1 : Int64)) nb zb) := by rw [own_price, own_pr_exp _ _ _ _ hn1 hs1 hww, Int64.zero_add]
    refine own_go (st' := T116.setTop (mkF m 255 #[oi pt, oi sz, oj ra, .second, oj rb, .second, oi na, oi nb, oi za, oi zb, oi fl, oj pa, .second, oj pb, .second, oR b2, .val (.long ((na.toInt64 + nb.toInt64) + (1 : Int64))), .second] [])) (fun _ k => XS.ifNo X116.here hx rfl (hb hby at_252) rfl ((if0 _ _).trans (teq ((lw_eq ((0 : Int64) - (-(own_pr pb ((((0 : Int64) + na.toInt64) + nb.toInt64) + (1 : Int64)) nb zb))) (own_exp pb ((na.toInt64 + nb.toInt64) + (1 : Int64)) nb zb)).mpr hc117)).2) k) ?_
    refine own_go (st' := T116.setTop (mkF m 256 #[oi pt, oi sz, oj ra, .second, oj rb, .second, oi na, oi nb, oi za, oi zb, oi fl, oj pa, .second, oj pb, .second, oR b2, .val (.long ((na.toInt64 + nb.toInt64) + (1 : Int64))), .second] [(.int (1 : Int32))])) (fun _ k => XS.iconst X116.here hx rfl (hb hby at_255) k) ?_
    refine own_go (st' := T116.setTop (mkF m 260 #[oi pt, oi sz, oj ra, .second, oj rb, .second, oi na, oi nb, oi za, oi zb, oi fl, oj pa, .second, oj pb, .second, oR b2, .val (.long ((na.toInt64 + nb.toInt64) + (1 : Int64))), .second] [(.int (1 : Int32))])) (fun _ k => XS.goto X116.here hx rfl (pc0 := 256) (pc' := 260) rfl (hb hby at_256) (by decide) (by decide) k) ?_
    obtain ⟨fs, hr, hrun, hended, hW, hsame⟩ := X116.leave (v := some (.int (1 : Int32))) (fun h => by rw [Bd.returns] at h; cases h)
    refine ⟨_, _, ?_, hP _ _ hrun hended ⟨_, _, rfl, ?_, ⟨_, rfl⟩, hW, hsame.mono (by decide) (by decide)⟩⟩
    · exact retN X116 hx (t := .boolean) Bd.returns (by simp) (hb hby at_260) hr
    · show Qrm0 Z pt sz ra rb h0 n0 _ T116.heap _
      rw [eq116]
      exact ⟨rfl, N116, trivial⟩
  refine own_go (st' := s₁.setTop (mkF m 31 #[oi pt, oi sz, oj ra, .second, oj rb, .second, oi na, oi nb, oi za, oi zb, .unset, .unset, .unset, .unset, .unset, .unset, .unset, .unset] [(.int sz)])) (fun _ k => XS.iloadN X0.here hx rfl (hb hby at_30) rfl k) ?_
  refine own_go (st' := s₁.setTop (mkF m 32 #[oi pt, oi sz, oj ra, .second, oj rb, .second, oi na, oi nb, oi za, oi zb, .unset, .unset, .unset, .unset, .unset, .unset, .unset, .unset] [(.int (4 : Int32)), (.int sz)])) (fun _ k => XS.iconst X0.here hx rfl (hb hby at_31) k) ?_
  refine own_go (st' := s₁.setTop (mkF m 33 #[oi pt, oi sz, oj ra, .second, oj rb, .second, oi na, oi nb, oi za, oi zb, .unset, .unset, .unset, .unset, .unset, .unset, .unset, .unset] [(.int ((sz.toUInt32 >>> ((4 : Int32) &&& 31).toUInt32).toInt32))])) (fun _ k => XS.iushr X0.here hx rfl (hb hby at_32) rfl k) ?_
  refine own_go (st' := s₁.setTop (mkF m 34 #[oi pt, oi sz, oj ra, .second, oj rb, .second, oi na, oi nb, oi za, oi zb, .unset, .unset, .unset, .unset, .unset, .unset, .unset, .unset] [(.int (1 : Int32)), (.int ((sz.toUInt32 >>> ((4 : Int32) &&& 31).toUInt32).toInt32))])) (fun _ k => XS.iconst X0.here hx rfl (hb hby at_33) k) ?_
  refine own_go (st' := s₁.setTop (mkF m 35 #[oi pt, oi sz, oj ra, .second, oj rb, .second, oi na, oi nb, oi za, oi zb, .unset, .unset, .unset, .unset, .unset, .unset, .unset, .unset] [(.int (((sz.toUInt32 >>> ((4 : Int32) &&& 31).toUInt32).toInt32) &&& (1 : Int32)))])) (fun _ k => XS.iand X0.here hx rfl (hb hby at_34) rfl k) ?_
  by_cases hc119 : (((sz.toUInt32 >>> ((4 : Int32) &&& 31).toUInt32).toInt32) &&& (1 : Int32)) = (0 : Int32)
  · --
    refine own_go (st' := s₁.setTop (mkF m 42 #[oi pt, oi sz, oj ra, .second, oj rb, .second, oi na, oi nb, oi za, oi zb, .unset, .unset, .unset, .unset, .unset, .unset, .unset, .unset] [])) (fun _ k => XS.ifYes X0.here hx rfl (pc0 := 35) (pc' := 42) rfl (hb hby at_35) rfl ((if0 _ _).trans (teq hc119).1) (by decide) (by decide) k) ?_
    refine own_go (st' := s₁.setTop (mkF m 43 #[oi pt, oi sz, oj ra, .second, oj rb, .second, oi na, oi nb, oi za, oi zb, .unset, .unset, .unset, .unset, .unset, .unset, .unset, .unset] [(.int (0 : Int32))])) (fun _ k => XS.iconst X0.here hx rfl (hb hby at_42) k) ?_
    refine own_go (st' := s₁.setTop (mkF m 45 #[oi pt, oi sz, oj ra, .second, oj rb, .second, oi na, oi nb, oi za, oi zb, oi 0, .unset, .unset, .unset, .unset, .unset, .unset, .unset] [])) (fun _ k => XS.istore X0.here hx rfl (hb hby at_43) rfl (l' := #[oi pt, oi sz, oj ra, .second, oj rb, .second, oi na, oi nb, oi za, oi zb, oi 0, .unset, .unset, .unset, .unset, .unset, .unset, .unset]) rfl k) ?_
    refine own_go (st' := s₁.setTop (mkF m 47 #[oi pt, oi sz, oj ra, .second, oj rb, .second, oi na, oi nb, oi za, oi zb, oi 0, .unset, .unset, .unset, .unset, .unset, .unset, .unset] [(.int (0 : Int32))])) (fun _ k => XS.iload X0.here hx rfl (hb hby at_45) rfl k) ?_
    have hc120 : (0 : Int32) = (0 : Int32) := by decide
    refine own_go (st' := s₁.setTop (mkF m 54 #[oi pt, oi sz, oj ra, .second, oj rb, .second, oi na, oi nb, oi za, oi zb, oi 0, .unset, .unset, .unset, .unset, .unset, .unset, .unset] [])) (fun _ k => XS.ifYes X0.here hx rfl (pc0 := 47) (pc' := 54) rfl (hb hby at_47) rfl ((if0 _ _).trans (teq hc120).1) (by decide) (by decide) k) ?_
    refine own_go (st' := s₁.setTop (mkF m 55 #[oi pt, oi sz, oj ra, .second, oj rb, .second, oi na, oi nb, oi za, oi zb, oi 0, .unset, .unset, .unset, .unset, .unset, .unset, .unset] [(.long ra)])) (fun _ k => XS.lloadN X0.here hx rfl (hb hby at_54) rfl k) ?_
    refine own_go (st' := s₁.setTop (mkF m 58 #[oi pt, oi sz, oj ra, .second, oj rb, .second, oi na, oi nb, oi za, oi zb, oi 0, .unset, .unset, .unset, .unset, .unset, .unset, .unset] [(.long (256 : Int64)), (.long ra)])) (X0.ldc2Long hx hown (mvT hZ (own_hw hw 0)) (g := (mkF m 55 #[oi pt, oi sz, oj ra, .second, oj rb, .second, oi na, oi nb, oi za, oi zb, oi 0, .unset, .unset, .unset, .unset, .unset, .unset, .unset] [(.long ra)])) rfl (hb hby at_55)) ?_
    refine own_go (st' := s₁.setTop (mkF m 59 #[oi pt, oi sz, oj ra, .second, oj rb, .second, oi na, oi nb, oi za, oi zb, oi 0, .unset, .unset, .unset, .unset, .unset, .unset, .unset] [(.long (ra % (256 : Int64)))])) (fun _ k => XS.lrem X0.here hx rfl (hb hby at_58) rfl (by decide) (by rw [lrem_mod]; exact k)) ?_
    refine own_go (st' := s₁.setTop (mkF m 61 #[oi pt, oi sz, oj ra, .second, oj rb, .second, oi na, oi nb, oi za, oi zb, oi 0, .val (.long (ra % (256 : Int64))), .second, .unset, .unset, .unset, .unset, .unset] [])) (fun _ k => XS.lstore X0.here hx rfl (hb hby at_59) rfl (l' := #[oi pt, oi sz, oj ra, .second, oj rb, .second, oi na, oi nb, oi za, oi zb, oi 0, .val (.long (ra % (256 : Int64))), .second, .unset, .unset, .unset, .unset, .unset]) rfl k) ?_
    refine own_go (st' := s₁.setTop (mkF m 63 #[oi pt, oi sz, oj ra, .second, oj rb, .second, oi na, oi nb, oi za, oi zb, oi 0, .val (.long (ra % (256 : Int64))), .second, .unset, .unset, .unset, .unset, .unset] [(.int (0 : Int32))])) (fun _ k => XS.iload X0.here hx rfl (hb hby at_61) rfl k) ?_
    have hc121 : (0 : Int32) = (0 : Int32) := by decide
    refine own_go (st' := s₁.setTop (mkF m 71 #[oi pt, oi sz, oj ra, .second, oj rb, .second, oi na, oi nb, oi za, oi zb, oi 0, .val (.long (ra % (256 : Int64))), .second, .unset, .unset, .unset, .unset, .unset] [])) (fun _ k => XS.ifYes X0.here hx rfl (pc0 := 63) (pc' := 71) rfl (hb hby at_63) rfl ((if0 _ _).trans (teq hc121).1) (by decide) (by decide) k) ?_
    refine own_go (st' := s₁.setTop (mkF m 73 #[oi pt, oi sz, oj ra, .second, oj rb, .second, oi na, oi nb, oi za, oi zb, oi 0, .val (.long (ra % (256 : Int64))), .second, .unset, .unset, .unset, .unset, .unset] [(.long rb)])) (fun _ k => XS.lload X0.here hx rfl (hb hby at_71) rfl k) ?_
    refine own_go (st' := s₁.setTop (mkF m 76 #[oi pt, oi sz, oj ra, .second, oj rb, .second, oi na, oi nb, oi za, oi zb, oi 0, .val (.long (ra % (256 : Int64))), .second, .unset, .unset, .unset, .unset, .unset] [(.long (256 : Int64)), (.long rb)])) (X0.ldc2Long hx hown (mvT hZ (own_hw hw 0)) (g := (mkF m 73 #[oi pt, oi sz, oj ra, .second, oj rb, .second, oi na, oi nb, oi za, oi zb, oi 0, .val (.long (ra % (256 : Int64))), .second, .unset, .unset, .unset, .unset, .unset] [(.long rb)])) rfl (hb hby at_73)) ?_
    refine own_go (st' := s₁.setTop (mkF m 77 #[oi pt, oi sz, oj ra, .second, oj rb, .second, oi na, oi nb, oi za, oi zb, oi 0, .val (.long (ra % (256 : Int64))), .second, .unset, .unset, .unset, .unset, .unset] [(.long (rb % (256 : Int64)))])) (fun _ k => XS.lrem X0.here hx rfl (hb hby at_76) rfl (by decide) (by rw [lrem_mod]; exact k)) ?_
    refine own_go (st' := s₁.setTop (mkF m 79 #[oi pt, oi sz, oj ra, .second, oj rb, .second, oi na, oi nb, oi za, oi zb, oi 0, .val (.long (ra % (256 : Int64))), .second, .val (.long (rb % (256 : Int64))), .second, .unset, .unset, .unset] [])) (fun _ k => XS.lstore X0.here hx rfl (hb hby at_77) rfl (l' := #[oi pt, oi sz, oj ra, .second, oj rb, .second, oi na, oi nb, oi za, oi zb, oi 0, .val (.long (ra % (256 : Int64))), .second, .val (.long (rb % (256 : Int64))), .second, .unset, .unset, .unset]) rfl k) ?_
    exact J79_1 _ _ (0 : Int32) (ra % (256 : Int64)) (rb % (256 : Int64)) X0 e0 N0
  · --
    refine own_go (st' := s₁.setTop (mkF m 38 #[oi pt, oi sz, oj ra, .second, oj rb, .second, oi na, oi nb, oi za, oi zb, .unset, .unset, .unset, .unset, .unset, .unset, .unset, .unset] [])) (fun _ k => XS.ifNo X0.here hx rfl (hb hby at_35) rfl ((if0 _ _).trans (feq hc119).1) k) ?_
    refine own_go (st' := s₁.setTop (mkF m 39 #[oi pt, oi sz, oj ra, .second, oj rb, .second, oi na, oi nb, oi za, oi zb, .unset, .unset, .unset, .unset, .unset, .unset, .unset, .unset] [(.int (1 : Int32))])) (fun _ k => XS.iconst X0.here hx rfl (hb hby at_38) k) ?_
    refine own_go (st' := s₁.setTop (mkF m 43 #[oi pt, oi sz, oj ra, .second, oj rb, .second, oi na, oi nb, oi za, oi zb, .unset, .unset, .unset, .unset, .unset, .unset, .unset, .unset] [(.int (1 : Int32))])) (fun _ k => XS.goto X0.here hx rfl (pc0 := 39) (pc' := 43) rfl (hb hby at_39) (by decide) (by decide) k) ?_
    refine own_go (st' := s₁.setTop (mkF m 45 #[oi pt, oi sz, oj ra, .second, oj rb, .second, oi na, oi nb, oi za, oi zb, oi 1, .unset, .unset, .unset, .unset, .unset, .unset, .unset] [])) (fun _ k => XS.istore X0.here hx rfl (hb hby at_43) rfl (l' := #[oi pt, oi sz, oj ra, .second, oj rb, .second, oi na, oi nb, oi za, oi zb, oi 1, .unset, .unset, .unset, .unset, .unset, .unset, .unset]) rfl k) ?_
    refine own_go (st' := s₁.setTop (mkF m 47 #[oi pt, oi sz, oj ra, .second, oj rb, .second, oi na, oi nb, oi za, oi zb, oi 1, .unset, .unset, .unset, .unset, .unset, .unset, .unset] [(.int (1 : Int32))])) (fun _ k => XS.iload X0.here hx rfl (hb hby at_45) rfl k) ?_
    have hc122 : ¬ ((1 : Int32) = (0 : Int32)) := by decide
    refine own_go (st' := s₁.setTop (mkF m 50 #[oi pt, oi sz, oj ra, .second, oj rb, .second, oi na, oi nb, oi za, oi zb, oi 1, .unset, .unset, .unset, .unset, .unset, .unset, .unset] [])) (fun _ k => XS.ifNo X0.here hx rfl (hb hby at_47) rfl ((if0 _ _).trans (feq hc122).1) k) ?_
    refine own_go (st' := s₁.setTop (mkF m 51 #[oi pt, oi sz, oj ra, .second, oj rb, .second, oi na, oi nb, oi za, oi zb, oi 1, .unset, .unset, .unset, .unset, .unset, .unset, .unset] [(.long ra)])) (fun _ k => XS.lloadN X0.here hx rfl (hb hby at_50) rfl k) ?_
    refine own_go (st' := s₁.setTop (mkF m 59 #[oi pt, oi sz, oj ra, .second, oj rb, .second, oi na, oi nb, oi za, oi zb, oi 1, .unset, .unset, .unset, .unset, .unset, .unset, .unset] [(.long ra)])) (fun _ k => XS.goto X0.here hx rfl (pc0 := 51) (pc' := 59) rfl (hb hby at_51) (by decide) (by decide) k) ?_
    refine own_go (st' := s₁.setTop (mkF m 61 #[oi pt, oi sz, oj ra, .second, oj rb, .second, oi na, oi nb, oi za, oi zb, oi 1, oj ra, .second, .unset, .unset, .unset, .unset, .unset] [])) (fun _ k => XS.lstore X0.here hx rfl (hb hby at_59) rfl (l' := #[oi pt, oi sz, oj ra, .second, oj rb, .second, oi na, oi nb, oi za, oi zb, oi 1, oj ra, .second, .unset, .unset, .unset, .unset, .unset]) rfl k) ?_
    refine own_go (st' := s₁.setTop (mkF m 63 #[oi pt, oi sz, oj ra, .second, oj rb, .second, oi na, oi nb, oi za, oi zb, oi 1, oj ra, .second, .unset, .unset, .unset, .unset, .unset] [(.int (1 : Int32))])) (fun _ k => XS.iload X0.here hx rfl (hb hby at_61) rfl k) ?_
    have hc123 : ¬ ((1 : Int32) = (0 : Int32)) := by decide
    refine own_go (st' := s₁.setTop (mkF m 66 #[oi pt, oi sz, oj ra, .second, oj rb, .second, oi na, oi nb, oi za, oi zb, oi 1, oj ra, .second, .unset, .unset, .unset, .unset, .unset] [])) (fun _ k => XS.ifNo X0.here hx rfl (hb hby at_63) rfl ((if0 _ _).trans (feq hc123).1) k) ?_
    refine own_go (st' := s₁.setTop (mkF m 68 #[oi pt, oi sz, oj ra, .second, oj rb, .second, oi na, oi nb, oi za, oi zb, oi 1, oj ra, .second, .unset, .unset, .unset, .unset, .unset] [(.long rb)])) (fun _ k => XS.lload X0.here hx rfl (hb hby at_66) rfl k) ?_
    refine own_go (st' := s₁.setTop (mkF m 77 #[oi pt, oi sz, oj ra, .second, oj rb, .second, oi na, oi nb, oi za, oi zb, oi 1, oj ra, .second, .unset, .unset, .unset, .unset, .unset] [(.long rb)])) (fun _ k => XS.goto X0.here hx rfl (pc0 := 68) (pc' := 77) rfl (hb hby at_68) (by decide) (by decide) k) ?_
    refine own_go (st' := s₁.setTop (mkF m 79 #[oi pt, oi sz, oj ra, .second, oj rb, .second, oi na, oi nb, oi za, oi zb, oi 1, oj ra, .second, oj rb, .second, .unset, .unset, .unset] [])) (fun _ k => XS.lstore X0.here hx rfl (hb hby at_77) rfl (l' := #[oi pt, oi sz, oj ra, .second, oj rb, .second, oi na, oi nb, oi za, oi zb, oi 1, oj ra, .second, oj rb, .second, .unset, .unset, .unset]) rfl k) ?_
    exact J79_1 _ _ (1 : Int32) ra rb X0 e0 N0
set_option maxRecDepth 65536 in
set_option maxHeartbeats 40000000 in
theorem comes_1 {Post : Tables → Env → Array Value → State → Outcome → State → Prop} (hpost : ∀ tb e args s v u, (limb_1_1.after args s (.returned v) u = true ∧ limb_1_2.after args s (.returned v) u = true ∧ True) → FrameEnd s (.returned v) u (Jvm.fieldLocs frame_1_writes args s ++ Jvm.arrayLocs frame_1_arrays args s ++ Jvm.staticLocs frame_1_statics s) 64 320 → Post tb e args s (.returned v) u) :
    ArmFor flags0 classFile x code maxLocals ret World_1 tables_1 room_1 Calls_1 rest_1 Pre_1 Post := by
  intro l hfl _ _ p e ha hc hk s m args below hf hA hF happ hP
  obtain ⟨hcalls, hrest, hpre⟩ := hP
  obtain ⟨-, -, -, hnamed, -, -, -, hat⟩ := (Spec.applies_iff hf).mp happ
  obtain ⟨hg, hn⟩ := and_e (Cond.before_iff.mp (show (Jvm.Cond.and given_1 narrow_1).before args s = true from hpre))
  obtain ⟨h1, h2⟩ := and_e hg
  obtain ⟨w0, w1, w2, w3, rfl⟩ : ∃ w0 w1 w2 w3 : Value, args = #[w0, w1, w2, w3] := by
    have hs : args.size = 4 := by simpa [Cond.value, given_1] using h1
    obtain ⟨L⟩ := args
    match L, hs with
    | [w0, w1, w2, w3], _ => exact ⟨w0, w1, w2, w3, rfl⟩
  have hw := fun d (hd : d ∈ tables_1) => atoms_spec (ws := Jvm.Cond.code x code maxLocals ret :: tables_1) hat d (List.mem_cons_of_mem _ hd)
  have hfit : Fit s := fun {y c} hc i hi => by
    obtain ⟨ha, rfl⟩ := Array.getElem?_eq_some_iff.mp hc
    have q := List.all_eq_true.mp ((Array.all_eq_true_iff_forall_mem.mp hF) _ (Array.getElem_mem ha)) i (List.mem_range.mpr hi)
    simpa [Array.getElem?_eq_getElem hi] using q
  obtain ⟨ha0, hr0⟩ := and_e h2
  obtain ⟨pt, ev0⟩ := is_v ha0
  obtain rfl : w0 = (.int pt) := Option.some.inj ev0
  obtain ⟨ha1, hr1⟩ := and_e hr0
  obtain ⟨sz, ev1⟩ := is_v ha1
  obtain rfl : w1 = (.int sz) := Option.some.inj ev1
  obtain ⟨ha2, hr2⟩ := and_e hr1
  obtain ⟨ra, ev2⟩ := isL_v ha2
  obtain rfl : w2 = (.long ra) := Option.some.inj ev2
  obtain ⟨rb, ev3⟩ := isL_v hr2
  obtain rfl : w3 = (.long rb) := Option.some.inj ev3
  obtain ⟨n, o, h1, h2, h3, _, L, rfl, hQ, hq⟩ := rm0 l s _ hw tables_1 pt sz ra rb s.heap s.heap.size (Nat.le_refl _)  p e ha hc hk s m _ below hf ((Spec.applies_iff_loose hf).mp happ).1 ⟨rfl, State.Warmed39.refl s, rfl⟩ trivial
  obtain ⟨rfl, N, -⟩ := hQ
  refine ⟨n, _, h1, h2, h3, hpost _ _ _ _ _ _ ⟨Cond.after_iff.mpr rfl, Cond.after_iff.mpr (eq_i res_at (Term.int_eval (1)) rfl), trivial⟩ ⟨hq.1, hq.2.1, (hq.2.2.sift fun y hy => Or.inr (N y hy)).mono (by decide) (by decide)⟩⟩
theorem main_1_1 : Claimed_1_1 := comes_1 fun _ _ _ _ _ _ h hF => ⟨h.1, hF⟩
theorem main_1_2 : Claimed_1_2 := comes_1 fun _ _ _ _ _ _ h hF => ⟨h.2.1, hF⟩
end Jvm.Pilot.@@N@@
namespace Jvm.Pilot.@@N@@
open Jvm Jvm.ClassFile Sem Op Lib Jvm.Free Jvm.Stand Jvm.Pilot.@@N@@.Jvm.D
/-! MADE BY PROGRAM (witnessworld.py) out of the Statement's table words and the real class files: 15 classes; the members and pool entries that the words name. The judged class is class 1, her method 1. -/
namespace start1
open Jvm.ClassFile
def u (s : String) : CpInfo := .utf8 (stringToUtf16 s)
/-- a pool by its gaps: so many unusable entries, then the entry; so many at the end -/
def gap : Nat → List CpInfo → List CpInfo
  | 0, r => r
  | n + 1, r => .unusable :: gap n r
def poolList (es : List (Nat × CpInfo)) (last : Nat) : List CpInfo := es.foldr (fun e r => gap e.1 (e.2 :: r)) (gap last [])
def pool (es : List (Nat × CpInfo)) (last : Nat) : Array CpInfo := ⟨poolList es last⟩
def fileOf (pool : Array CpInfo) (this : Nat) (attrs : Array Attribute := #[]) (ms : Array MethodInfo := #[]) (fl : Nat := 33) (sup : Nat := 0) (ifs : Array Nat := #[]) (fds : Array FieldInfo := #[]) : ClassFile where
  minorVersion := 0
  majorVersion := 65
  constantPool := pool
  accessFlags := fl
  thisClass := this
  superClass := sup
  interfaces := ifs
  fields := fds
  methods := ms
  attributes := attrs
def plain (name : String) (sup : Option ClassId) : Class where
  name := name
  kind := .ordinary
  loader := none
  accessFlags := 33
  super := sup
  interfaces := #[]
  cf := none
  fields := #[]
  methods := #[]
  instanceTypes := #[]
  staticTypes := #[]
  resolved := #[]
  callSites := []
  init := .initialized
  statics := none
  mirror := none

def pool0 : Array CpInfo := pool [(5, u "<init>"), (0, u "()V"), (1, .class_ 10), (1, u "java/lang/Object")] 113

def k0c0 : Code := { maxStack := 0, maxLocals := 1, code := object_method_1_code, exceptionTable := #[], attributes := #[] }
def k0m0 : Method := { name := "<init>", desc := "()V", sig := { parameters := [], returnType := none }, accessFlags := 1, code := some k0c0 }
/-- java/lang/Object -/
def k0 : Class := { plain "java/lang/Object" none with
  accessFlags := 33
  interfaces := #[]
  cf := some (fileOf pool0 8 #[] #[{ accessFlags := 1, nameIndex := 5, descriptorIndex := 6, attributes := #[] }] 33 0 #[] #[])
  fields := #[]
  methods := #[k0m0]
  instanceTypes := #[]
  staticTypes := #[]
  resolved := Array.replicate 124 none
  statics := none }

def pool1 : Array CpInfo := pool [(2, .class_ 4), (1, u "java/lang/Object"), (0, u "<init>"), (0, u "()V"), (0, .long 256), (1, .class_ 10), (0, u "com/example/limpet/limpet/StickyShares"), (0, .methodref 9 12), (0, .nameAndType 5 13), (0, u "([I[I[I[I[I)V"), (0, .methodref 9 15), (0, .nameAndType 16 17), (0, u "solve"), (0, u "([I[J)V"), (0, .methodref 9 19), (0, .nameAndType 20 21), (0, u "load"), (0, u "(I)I"), (0, .methodref 9 23), (0, .nameAndType 24 25), (0, u "price"), (0, u "(I)J"), (0, .methodref 27 28), (0, .class_ 29), (0, .nameAndType 30 31), (0, u "com/example/limpet/limpet/StickySharesPricePinLaw"), (0, u "expected"), (0, u "(JIIJ)J"), (0, .long 2), (3, u "law"), (0, u "(IIJJ)Z")] 3

def k1m0 : Method := { name := "<init>", desc := "()V", sig := { parameters := [], returnType := none }, accessFlags := 1, code := none }
def k1c1 : Code := { maxStack := 10, maxLocals := 18, code := code, exceptionTable := #[], attributes := #[] }
def k1m1 : Method := { name := "law", desc := "(IIJJ)Z", sig := { parameters := [.int, .int, .long, .long], returnType := some .boolean }, accessFlags := 9, code := some k1c1 }
def k1c2 : Code := { maxStack := 4, maxLocals := 10, code := method_3_code, exceptionTable := #[], attributes := #[] }
def k1m2 : Method := { name := "expected", desc := "(JIIJ)J", sig := { parameters := [.long, .int, .int, .long], returnType := some .long }, accessFlags := 10, code := some k1c2 }
/-- com/example/limpet/limpet/StickySharesPricePinLaw -/
def k1 : Class := { plain "com/example/limpet/limpet/StickySharesPricePinLaw" (some 0) with
  accessFlags := 49
  interfaces := #[]
  cf := some (fileOf pool1 27 #[] #[{ accessFlags := 1, nameIndex := 5, descriptorIndex := 6, attributes := #[] }, { accessFlags := 9, nameIndex := 36, descriptorIndex := 37, attributes := #[] }, { accessFlags := 10, nameIndex := 30, descriptorIndex := 31, attributes := #[] }] 49 2 #[] #[])
  fields := #[]
  methods := #[k1m0, k1m1, k1m2]
  instanceTypes := #[]
  staticTypes := #[]
  resolved := Array.replicate 41 none
  statics := none }

def pool2 : Array CpInfo := pool [(5, .methodref 6 7), (0, .class_ 8), (0, .nameAndType 9 10), (0, u "java/lang/Object"), (0, u "<init>"), (0, u "()V"), (0, .fieldref 12 13), (0, .class_ 14), (0, .nameAndType 15 16), (0, u "com/example/limpet/limpet/StickyShares"), (0, u "topicCount"), (0, u "I"), (0, .fieldref 12 18), (0, .nameAndType 19 16), (0, u "unitCount"), (0, .fieldref 12 21), (0, .nameAndType 22 16), (0, u "sink"), (0, .fieldref 12 24), (0, .nameAndType 25 16), (0, u "total"), (0, .fieldref 12 27), (0, .nameAndType 28 29), (0, u "balanceWeight"), (0, u "J"), (0, .fieldref 12 31), (0, .nameAndType 32 33), (0, u "arcTopic"), (0, u "[I"), (0, .fieldref 12 35), (0, .nameAndType 36 33), (0, u "arcUnit"), (0, .fieldref 12 38), (0, .nameAndType 39 33), (0, u "arcOwned"), (0, .fieldref 12 41), (0, .nameAndType 42 33), (0, u "unitSize"), (0, .fieldref 12 44), (0, .nameAndType 45 33), (0, u "topicArcStart"), (0, .methodref 12 47), (0, .nameAndType 48 49), (0, u "groupArcs"), (0, u "([I[I)[I"), (0, .fieldref 12 51), (0, .nameAndType 52 33), (0, u "topicArcs"), (0, .fieldref 12 54), (0, .nameAndType 55 33), (0, u "unitArcStart"), (0, .fieldref 12 57), (0, .nameAndType 58 33), (0, u "unitArcs"), (9, .fieldref 12 69), (0, .nameAndType 70 33), (0, u "flow"), (0, .fieldref 12 72), (0, .nameAndType 73 33), (0, u "load"), (0, .fieldref 12 75), (0, .nameAndType 76 33), (0, u "excess"), (0, .methodref 78 79), (0, .class_ 80), (0, .nameAndType 81 82), (0, u "java/lang/System"), (0, u "arraycopy"), (0, u "(Ljava/lang/Object;ILjava/lang/Object;II)V"), (0, .fieldref 12 84), (0, .nameAndType 85 86), (0, u "potential"), (0, u "[J"), (0, .fieldref 12 88), (0, .nameAndType 89 86), (0, u "distance"), (0, .fieldref 12 91), (0, .nameAndType 92 33), (0, u "level"), (0, .fieldref 12 94), (0, .nameAndType 95 33), (0, u "queue"), (0, .fieldref 12 97), (0, .nameAndType 98 33), (0, u "nextArc"), (0, .fieldref 12 100), (0, .nameAndType 101 33), (0, u "pathNode"), (0, .fieldref 12 103), (0, .nameAndType 104 33), (0, u "pathArc"), (0, .class_ 106), (0, u "com/example/limpet/limpet/StickyShares$NodeHeap"), (0, .methodref 105 108), (0, .nameAndType 9 109), (0, u "(I[J)V"), (0, .fieldref 12 111), (0, .nameAndType 112 113), (0, u "heap"), (0, u "Lcom/example/limpet/limpet/StickyShares$NodeHeap;"), (0, .methodref 115 116), (0, .class_ 117), (0, .nameAndType 118 119), (0, u "java/util/Arrays"), (0, u "copyOf"), (0, u "([II)[I"), (0, .methodref 12 121), (0, .nameAndType 122 123), (0, u "marginalCost"), (0, u "(II)J"), (2, u "solve"), (0, u "([I[J)V"), (0, .methodref 129 130), (0, .class_ 131), (0, .nameAndType 132 133), (0, u "java/lang/Math"), (0, u "min"), (0, u "(JJ)J"), (0, .methodref 129 135), (0, .nameAndType 136 133), (0, u "max"), (0, .long 9223372036854775807), (1, .methodref 12 140), (0, .nameAndType 141 142), (0, u "anySource"), (0, u "()Z"), (35, u "(I)I"), (35, .long 2), (1, u "UNREACHED"), (1, u "UNBOUNDED"), (0, u "([I[I[I[I[I)V"), (6, u "price"), (0, u "(I)J")] 19

def k2c0 : Code := { maxStack := 5, maxLocals := 12, code := prog_29_method_1_code, exceptionTable := #[], attributes := #[] }
def k2m0 : Method := { name := "<init>", desc := "([I[I[I[I[I)V", sig := { parameters := [(.array .int), (.array .int), (.array .int), (.array .int), (.array .int)], returnType := none }, accessFlags := 0, code := some k2c0 }
def k2c1 : Code := { maxStack := 6, maxLocals := 6, code := prog_29_method_2_code, exceptionTable := #[], attributes := #[] }
def k2m1 : Method := { name := "groupArcs", desc := "([I[I)[I", sig := { parameters := [(.array .int), (.array .int)], returnType := some (.array .int) }, accessFlags := 10, code := some k2c1 }
def k2c2 : Code := { maxStack := 7, maxLocals := 10, code := prog_29_method_4_code, exceptionTable := #[], attributes := #[] }
def k2m2 : Method := { name := "solve", desc := "([I[J)V", sig := { parameters := [(.array .int), (.array .long)], returnType := none }, accessFlags := 0, code := some k2c2 }
def k2c3 : Code := { maxStack := 2, maxLocals := 2, code := prog_29_method_6_code, exceptionTable := #[], attributes := #[] }
def k2m3 : Method := { name := "load", desc := "(I)I", sig := { parameters := [.int], returnType := some .int }, accessFlags := 0, code := some k2c3 }
def k2c4 : Code := { maxStack := 5, maxLocals := 2, code := prog_29_method_7_code, exceptionTable := #[], attributes := #[] }
def k2m4 : Method := { name := "price", desc := "(I)J", sig := { parameters := [.int], returnType := some .long }, accessFlags := 0, code := some k2c4 }
def k2c5 : Code := { maxStack := 2, maxLocals := 5, code := prog_29_method_8_code, exceptionTable := #[], attributes := #[] }
def k2m5 : Method := { name := "anySource", desc := "()Z", sig := { parameters := [], returnType := some .boolean }, accessFlags := 2, code := some k2c5 }
def k2c6 : Code := { maxStack := 5, maxLocals := 3, code := prog_29_method_20_code, exceptionTable := #[], attributes := #[] }
def k2m6 : Method := { name := "marginalCost", desc := "(II)J", sig := { parameters := [.int, .int], returnType := some .long }, accessFlags := 2, code := some k2c6 }
/-- com/example/limpet/limpet/StickyShares -/
def k2 : Class := { plain "com/example/limpet/limpet/StickyShares" (some 0) with
  accessFlags := 48
  interfaces := #[]
  cf := some (fileOf pool2 12 #[.nestMembers #[105]] #[{ accessFlags := 0, nameIndex := 9, descriptorIndex := 219, attributes := #[] }, { accessFlags := 10, nameIndex := 48, descriptorIndex := 49, attributes := #[] }, { accessFlags := 0, nameIndex := 126, descriptorIndex := 127, attributes := #[] }, { accessFlags := 0, nameIndex := 73, descriptorIndex := 178, attributes := #[] }, { accessFlags := 0, nameIndex := 226, descriptorIndex := 227, attributes := #[] }, { accessFlags := 2, nameIndex := 141, descriptorIndex := 142, attributes := #[] }, { accessFlags := 2, nameIndex := 122, descriptorIndex := 123, attributes := #[] }] 48 6 #[] #[{ accessFlags := 26, nameIndex := 216, descriptorIndex := 29, attributes := #[] }, { accessFlags := 26, nameIndex := 218, descriptorIndex := 16, attributes := #[] }, { accessFlags := 18, nameIndex := 15, descriptorIndex := 16, attributes := #[] }, { accessFlags := 18, nameIndex := 19, descriptorIndex := 16, attributes := #[] }, { accessFlags := 18, nameIndex := 22, descriptorIndex := 16, attributes := #[] }, { accessFlags := 18, nameIndex := 25, descriptorIndex := 16, attributes := #[] }, { accessFlags := 18, nameIndex := 28, descriptorIndex := 29, attributes := #[] }, { accessFlags := 18, nameIndex := 32, descriptorIndex := 33, attributes := #[] }, { accessFlags := 18, nameIndex := 36, descriptorIndex := 33, attributes := #[] }, { accessFlags := 18, nameIndex := 39, descriptorIndex := 33, attributes := #[] }, { accessFlags := 18, nameIndex := 42, descriptorIndex := 33, attributes := #[] }, { accessFlags := 18, nameIndex := 45, descriptorIndex := 33, attributes := #[] }, { accessFlags := 18, nameIndex := 52, descriptorIndex := 33, attributes := #[] }, { accessFlags := 18, nameIndex := 55, descriptorIndex := 33, attributes := #[] }, { accessFlags := 18, nameIndex := 58, descriptorIndex := 33, attributes := #[] }, { accessFlags := 18, nameIndex := 70, descriptorIndex := 33, attributes := #[] }, { accessFlags := 18, nameIndex := 73, descriptorIndex := 33, attributes := #[] }, { accessFlags := 18, nameIndex := 76, descriptorIndex := 33, attributes := #[] }, { accessFlags := 18, nameIndex := 85, descriptorIndex := 86, attributes := #[] }, { accessFlags := 18, nameIndex := 89, descriptorIndex := 86, attributes := #[] }, { accessFlags := 18, nameIndex := 92, descriptorIndex := 33, attributes := #[] }, { accessFlags := 18, nameIndex := 95, descriptorIndex := 33, attributes := #[] }, { accessFlags := 18, nameIndex := 98, descriptorIndex := 33, attributes := #[] }, { accessFlags := 18, nameIndex := 101, descriptorIndex := 33, attributes := #[] }, { accessFlags := 18, nameIndex := 104, descriptorIndex := 33, attributes := #[] }, { accessFlags := 18, nameIndex := 112, descriptorIndex := 113, attributes := #[] }])
  fields := #[{ name := "UNREACHED", type := .long, accessFlags := 26, slot := 0, constantValue := 0 }, { name := "UNBOUNDED", type := .int, accessFlags := 26, slot := 1, constantValue := 0 }, { name := "topicCount", type := .int, accessFlags := 18, slot := 0, constantValue := 0 }, { name := "unitCount", type := .int, accessFlags := 18, slot := 1, constantValue := 0 }, { name := "sink", type := .int, accessFlags := 18, slot := 2, constantValue := 0 }, { name := "total", type := .int, accessFlags := 18, slot := 3, constantValue := 0 }, { name := "balanceWeight", type := .long, accessFlags := 18, slot := 4, constantValue := 0 }, { name := "arcTopic", type := (.array .int), accessFlags := 18, slot := 5, constantValue := 0 }, { name := "arcUnit", type := (.array .int), accessFlags := 18, slot := 6, constantValue := 0 }, { name := "arcOwned", type := (.array .int), accessFlags := 18, slot := 7, constantValue := 0 }, { name := "unitSize", type := (.array .int), accessFlags := 18, slot := 8, constantValue := 0 }, { name := "topicArcStart", type := (.array .int), accessFlags := 18, slot := 9, constantValue := 0 }, { name := "topicArcs", type := (.array .int), accessFlags := 18, slot := 10, constantValue := 0 }, { name := "unitArcStart", type := (.array .int), accessFlags := 18, slot := 11, constantValue := 0 }, { name := "unitArcs", type := (.array .int), accessFlags := 18, slot := 12, constantValue := 0 }, { name := "flow", type := (.array .int), accessFlags := 18, slot := 13, constantValue := 0 }, { name := "load", type := (.array .int), accessFlags := 18, slot := 14, constantValue := 0 }, { name := "excess", type := (.array .int), accessFlags := 18, slot := 15, constantValue := 0 }, { name := "potential", type := (.array .long), accessFlags := 18, slot := 16, constantValue := 0 }, { name := "distance", type := (.array .long), accessFlags := 18, slot := 17, constantValue := 0 }, { name := "level", type := (.array .int), accessFlags := 18, slot := 18, constantValue := 0 }, { name := "queue", type := (.array .int), accessFlags := 18, slot := 19, constantValue := 0 }, { name := "nextArc", type := (.array .int), accessFlags := 18, slot := 20, constantValue := 0 }, { name := "pathNode", type := (.array .int), accessFlags := 18, slot := 21, constantValue := 0 }, { name := "pathArc", type := (.array .int), accessFlags := 18, slot := 22, constantValue := 0 }, { name := "heap", type := (.object "com/example/limpet/limpet/StickyShares$NodeHeap"), accessFlags := 18, slot := 23, constantValue := 0 }]
  methods := #[k2m0, k2m1, k2m2, k2m3, k2m4, k2m5, k2m6]
  instanceTypes := #[.int, .int, .int, .int, .long, (.array .int), (.array .int), (.array .int), (.array .int), (.array .int), (.array .int), (.array .int), (.array .int), (.array .int), (.array .int), (.array .int), (.array .long), (.array .long), (.array .int), (.array .int), (.array .int), (.array .int), (.array .int), (.object "com/example/limpet/limpet/StickyShares$NodeHeap")]
  staticTypes := #[.long, .int]
  resolved := Array.replicate 247 none
  statics := none }

def pool3 : Array CpInfo := pool [(2, .class_ 4), (1, u "java/lang/Object"), (0, u "<init>"), (0, u "()V"), (7, .class_ 16), (1, u "java/util/Arrays"), (57, .class_ 76), (1, u "java/util/Arrays$NaturalOrder"), (36, .class_ 115), (1, u "java/util/Arrays$LegacyMergeSort"), (1, u "Z"), (32, .methodref 151 152), (0, .class_ 153), (0, .nameAndType 154 155), (0, u "java/lang/System"), (0, u "arraycopy"), (0, u "(Ljava/lang/Object;ILjava/lang/Object;II)V"), (146, u "copyOf"), (1, .methodref 305 306), (0, .class_ 307), (0, .nameAndType 308 309), (0, u "java/lang/Math"), (0, u "min"), (0, u "(II)I"), (65, .class_ 376), (0, u "java/util/Arrays$ArrayList"), (68, u "$assertionsDisabled"), (269, u "MIN_ARRAY_SORT_GRAN"), (0, u "I"), (2, u "INSERTIONSORT_THRESHOLD"), (120, u "fill"), (4, u "([II)V"), (25, u "([II)[I"), (103, .class_ 976), (0, u "java/util/Arrays$ArrayItr")] 52

def k3m0 : Method := { name := "<init>", desc := "()V", sig := { parameters := [], returnType := none }, accessFlags := 2, code := none }
def k3c1 : Code := { maxStack := 3, maxLocals := 4, code := jdk_65_method_103_code, exceptionTable := #[], attributes := #[] }
def k3m1 : Method := { name := "fill", desc := "([II)V", sig := { parameters := [(.array .int), .int], returnType := none }, accessFlags := 9, code := some k3c1 }
def k3c2 : Code := { maxStack := 6, maxLocals := 3, code := jdk_65_method_123_code, exceptionTable := #[], attributes := #[] }
def k3m2 : Method := { name := "copyOf", desc := "([II)[I", sig := { parameters := [(.array .int), .int], returnType := some (.array .int) }, accessFlags := 9, code := some k3c2 }
/-- java/util/Arrays -/
def k3 : Class := { plain "java/util/Arrays" (some 0) with
  accessFlags := 49
  interfaces := #[]
  cf := some (fileOf pool3 14 #[.nestMembers #[975, 375, 113, 74]] #[{ accessFlags := 2, nameIndex := 5, descriptorIndex := 6, attributes := #[] }, { accessFlags := 9, nameIndex := 840, descriptorIndex := 845, attributes := #[] }, { accessFlags := 9, nameIndex := 302, descriptorIndex := 871, attributes := #[] }] 49 2 #[] #[{ accessFlags := 26, nameIndex := 715, descriptorIndex := 716, attributes := #[] }, { accessFlags := 26, nameIndex := 719, descriptorIndex := 716, attributes := #[] }, { accessFlags := 4120, nameIndex := 445, descriptorIndex := 117, attributes := #[] }])
  fields := #[{ name := "MIN_ARRAY_SORT_GRAN", type := .int, accessFlags := 26, slot := 0, constantValue := 0 }, { name := "INSERTIONSORT_THRESHOLD", type := .int, accessFlags := 26, slot := 1, constantValue := 0 }, { name := "$assertionsDisabled", type := .boolean, accessFlags := 4120, slot := 2, constantValue := 0 }]
  methods := #[k3m0, k3m1, k3m2]
  instanceTypes := #[]
  staticTypes := #[.int, .int, .boolean]
  resolved := Array.replicate 1029 none
  statics := none }

def pool4 : Array CpInfo := pool [(1, .class_ 2), (0, u "java/lang/Math"), (1, .class_ 6), (1, u "java/lang/Object"), (0, u "<init>"), (0, u "()V"), (89, .class_ 100), (1, u "java/lang/Math$RandomNumberGeneratorHolder"), (20, u "(JJ)J"), (50, u "negativeZeroFloatBits"), (0, u "J"), (2, u "negativeZeroDoubleBits"), (21, u "max"), (2, u "min"), (43, u "$assertionsDisabled"), (0, u "Z"), (88, u "(II)I"), (2, u "twoToTheDoubleScaleDown"), (0, u "D"), (4, u "twoToTheDoubleScaleUp"), (9, u "E"), (3, u "PI"), (2, u "TAU"), (2, u "DEGREES_TO_RADIANS"), (0, u "RADIANS_TO_DEGREES")] 94

def k4m0 : Method := { name := "<init>", desc := "()V", sig := { parameters := [], returnType := none }, accessFlags := 2, code := none }
def k4c1 : Code := { maxStack := 4, maxLocals := 4, code := jdk_29_method_66_code, exceptionTable := #[], attributes := #[] }
def k4m1 : Method := { name := "max", desc := "(JJ)J", sig := { parameters := [.long, .long], returnType := some .long }, accessFlags := 9, code := some k4c1 }
def k4c2 : Code := { maxStack := 2, maxLocals := 2, code := jdk_29_method_69_code, exceptionTable := #[], attributes := #[] }
def k4m2 : Method := { name := "min", desc := "(II)I", sig := { parameters := [.int, .int], returnType := some .int }, accessFlags := 9, code := some k4c2 }
def k4c3 : Code := { maxStack := 4, maxLocals := 4, code := jdk_29_method_70_code, exceptionTable := #[], attributes := #[] }
def k4m3 : Method := { name := "min", desc := "(JJ)J", sig := { parameters := [.long, .long], returnType := some .long }, accessFlags := 9, code := some k4c3 }
/-- java/lang/Math -/
def k4 : Class := { plain "java/lang/Math" (some 0) with
  accessFlags := 49
  interfaces := #[]
  cf := some (fileOf pool4 1 #[.nestMembers #[98]] #[{ accessFlags := 2, nameIndex := 7, descriptorIndex := 8, attributes := #[] }, { accessFlags := 9, nameIndex := 198, descriptorIndex := 121, attributes := #[] }, { accessFlags := 9, nameIndex := 201, descriptorIndex := 335, attributes := #[] }, { accessFlags := 9, nameIndex := 201, descriptorIndex := 121, attributes := #[] }] 49 4 #[] #[{ accessFlags := 25, nameIndex := 354, descriptorIndex := 339, attributes := #[] }, { accessFlags := 25, nameIndex := 358, descriptorIndex := 339, attributes := #[] }, { accessFlags := 25, nameIndex := 361, descriptorIndex := 339, attributes := #[] }, { accessFlags := 26, nameIndex := 364, descriptorIndex := 339, attributes := #[] }, { accessFlags := 26, nameIndex := 365, descriptorIndex := 339, attributes := #[] }, { accessFlags := 26, nameIndex := 172, descriptorIndex := 173, attributes := #[] }, { accessFlags := 26, nameIndex := 176, descriptorIndex := 173, attributes := #[] }, { accessFlags := 8, nameIndex := 344, descriptorIndex := 339, attributes := #[] }, { accessFlags := 8, nameIndex := 338, descriptorIndex := 339, attributes := #[] }, { accessFlags := 4120, nameIndex := 245, descriptorIndex := 246, attributes := #[] }])
  fields := #[{ name := "E", type := .double, accessFlags := 25, slot := 0, constantValue := 0 }, { name := "PI", type := .double, accessFlags := 25, slot := 1, constantValue := 0 }, { name := "TAU", type := .double, accessFlags := 25, slot := 2, constantValue := 0 }, { name := "DEGREES_TO_RADIANS", type := .double, accessFlags := 26, slot := 3, constantValue := 0 }, { name := "RADIANS_TO_DEGREES", type := .double, accessFlags := 26, slot := 4, constantValue := 0 }, { name := "negativeZeroFloatBits", type := .long, accessFlags := 26, slot := 5, constantValue := 0 }, { name := "negativeZeroDoubleBits", type := .long, accessFlags := 26, slot := 6, constantValue := 0 }, { name := "twoToTheDoubleScaleUp", type := .double, accessFlags := 8, slot := 7, constantValue := 0 }, { name := "twoToTheDoubleScaleDown", type := .double, accessFlags := 8, slot := 8, constantValue := 0 }, { name := "$assertionsDisabled", type := .boolean, accessFlags := 4120, slot := 9, constantValue := 0 }]
  methods := #[k4m0, k4m1, k4m2, k4m3]
  instanceTypes := #[]
  staticTypes := #[.double, .double, .double, .double, .double, .long, .long, .double, .double, .boolean]
  resolved := Array.replicate 460 none
  statics := none }

def pool5 : Array CpInfo := pool [(2, .class_ 4), (1, u "java/lang/Object"), (0, u "<init>"), (0, u "()V"), (1, .class_ 10), (1, u "java/lang/System"), (0, u "allowSecurityManager"), (0, u "I"), (16, u "cons"), (0, u "Ljava/io/Console;"), (77, .class_ 110), (1, u "java/lang/System$CallersHolder"), (43, u "initialErrStream"), (0, u "Ljava/io/PrintStream;"), (19, u "security"), (0, u "Ljava/lang/SecurityManager;"), (31, .class_ 209), (0, u "java/lang/System$1"), (7, u "props"), (0, u "Ljava/util/Properties;"), (2, u "lineSeparator"), (0, u "Ljava/lang/String;"), (96, .class_ 321), (1, u "java/lang/System$LoggerFinder"), (5, .class_ 328), (0, u "java/lang/System$Logger"), (67, u "err"), (2, u "out"), (91, u "notSupportedJnuEncoding"), (15, u "in"), (17, u "initialIn"), (0, u "Ljava/io/InputStream;"), (35, u "bootLayer"), (0, u "Ljava/lang/ModuleLayer;"), (99, .class_ 664), (0, u "java/lang/System$2"), (9, u "NEVER"), (2, u "MAYBE"), (49, u "arraycopy"), (0, u "(Ljava/lang/Object;ILjava/lang/Object;II)V"), (72, .class_ 802), (0, u "java/lang/System$Logger$Level")] 31

def k5m0 : Method := { name := "<init>", desc := "()V", sig := { parameters := [], returnType := none }, accessFlags := 2, code := none }
def k5m1 : Method := { name := "arraycopy", desc := "(Ljava/lang/Object;ILjava/lang/Object;II)V", sig := { parameters := [(.object "java/lang/Object"), .int, (.object "java/lang/Object"), .int, .int], returnType := none }, accessFlags := 265, code := none }
/-- java/lang/System -/
def k5 : Class := { plain "java/lang/System" (some 0) with
  accessFlags := 49
  interfaces := #[]
  cf := some (fileOf pool5 8 #[.nestMembers #[319, 327, 801, 108, 663, 208]] #[{ accessFlags := 2, nameIndex := 5, descriptorIndex := 6, attributes := #[] }, { accessFlags := 265, nameIndex := 727, descriptorIndex := 728, attributes := #[] }] 49 2 #[] #[{ accessFlags := 25, nameIndex := 507, descriptorIndex := 526, attributes := #[] }, { accessFlags := 25, nameIndex := 399, descriptorIndex := 155, attributes := #[] }, { accessFlags := 25, nameIndex := 396, descriptorIndex := 155, attributes := #[] }, { accessFlags := 10, nameIndex := 525, descriptorIndex := 526, attributes := #[] }, { accessFlags := 26, nameIndex := 674, descriptorIndex := 12, attributes := #[] }, { accessFlags := 26, nameIndex := 677, descriptorIndex := 12, attributes := #[] }, { accessFlags := 10, nameIndex := 11, descriptorIndex := 12, attributes := #[] }, { accessFlags := 74, nameIndex := 175, descriptorIndex := 176, attributes := #[] }, { accessFlags := 10, nameIndex := 491, descriptorIndex := 222, attributes := #[] }, { accessFlags := 74, nameIndex := 29, descriptorIndex := 30, attributes := #[] }, { accessFlags := 74, nameIndex := 154, descriptorIndex := 155, attributes := #[] }, { accessFlags := 10, nameIndex := 217, descriptorIndex := 218, attributes := #[] }, { accessFlags := 10, nameIndex := 221, descriptorIndex := 222, attributes := #[] }, { accessFlags := 8, nameIndex := 562, descriptorIndex := 563, attributes := #[] }])
  fields := #[{ name := "in", type := (.object "java/io/InputStream"), accessFlags := 25, slot := 0, constantValue := 0 }, { name := "out", type := (.object "java/io/PrintStream"), accessFlags := 25, slot := 1, constantValue := 0 }, { name := "err", type := (.object "java/io/PrintStream"), accessFlags := 25, slot := 2, constantValue := 0 }, { name := "initialIn", type := (.object "java/io/InputStream"), accessFlags := 10, slot := 3, constantValue := 0 }, { name := "NEVER", type := .int, accessFlags := 26, slot := 4, constantValue := 0 }, { name := "MAYBE", type := .int, accessFlags := 26, slot := 5, constantValue := 0 }, { name := "allowSecurityManager", type := .int, accessFlags := 10, slot := 6, constantValue := 0 }, { name := "security", type := (.object "java/lang/SecurityManager"), accessFlags := 74, slot := 7, constantValue := 0 }, { name := "notSupportedJnuEncoding", type := (.object "java/lang/String"), accessFlags := 10, slot := 8, constantValue := 0 }, { name := "cons", type := (.object "java/io/Console"), accessFlags := 74, slot := 9, constantValue := 0 }, { name := "initialErrStream", type := (.object "java/io/PrintStream"), accessFlags := 74, slot := 10, constantValue := 0 }, { name := "props", type := (.object "java/util/Properties"), accessFlags := 10, slot := 11, constantValue := 0 }, { name := "lineSeparator", type := (.object "java/lang/String"), accessFlags := 10, slot := 12, constantValue := 0 }, { name := "bootLayer", type := (.object "java/lang/ModuleLayer"), accessFlags := 8, slot := 13, constantValue := 0 }]
  methods := #[k5m0, k5m1]
  instanceTypes := #[]
  staticTypes := #[(.object "java/io/InputStream"), (.object "java/io/PrintStream"), (.object "java/io/PrintStream"), (.object "java/io/InputStream"), .int, .int, .int, (.object "java/lang/SecurityManager"), (.object "java/lang/String"), (.object "java/io/Console"), (.object "java/io/PrintStream"), (.object "java/util/Properties"), (.object "java/lang/String"), (.object "java/lang/ModuleLayer")]
  resolved := Array.replicate 834 none
  statics := none }

def pool6 : Array CpInfo := pool [(1, .methodref 2 3), (0, .class_ 4), (0, .nameAndType 5 6), (0, u "java/lang/Object"), (0, u "<init>"), (0, u "()V"), (0, .fieldref 8 9), (0, .class_ 10), (0, .nameAndType 11 12), (0, u "com/example/limpet/limpet/StickyShares$NodeHeap"), (0, u "nodes"), (0, u "[I"), (0, .fieldref 8 14), (0, .nameAndType 15 12), (0, u "position"), (0, .fieldref 8 17), (0, .nameAndType 18 19), (0, u "key"), (0, u "[J"), (0, .methodref 21 22), (0, .class_ 23), (0, .nameAndType 24 25), (0, u "java/util/Arrays"), (0, u "fill"), (0, u "([II)V"), (2, u "size"), (0, u "I"), (0, u "(I[J)V"), (13, .class_ 45), (0, u "com/example/limpet/limpet/StickyShares")] 2

def k6c0 : Code := { maxStack := 2, maxLocals := 3, code := prog_30_method_1_code, exceptionTable := #[], attributes := #[] }
def k6m0 : Method := { name := "<init>", desc := "(I[J)V", sig := { parameters := [.int, (.array .long)], returnType := none }, accessFlags := 0, code := some k6c0 }
/-- com/example/limpet/limpet/StickyShares$NodeHeap -/
def k6 : Class := { plain "com/example/limpet/limpet/StickyShares$NodeHeap" (some 0) with
  accessFlags := 48
  interfaces := #[]
  cf := some (fileOf pool6 8 #[.nestHost 44] #[{ accessFlags := 0, nameIndex := 5, descriptorIndex := 30, attributes := #[] }] 48 2 #[] #[{ accessFlags := 18, nameIndex := 11, descriptorIndex := 12, attributes := #[] }, { accessFlags := 18, nameIndex := 15, descriptorIndex := 12, attributes := #[] }, { accessFlags := 18, nameIndex := 18, descriptorIndex := 19, attributes := #[] }, { accessFlags := 2, nameIndex := 28, descriptorIndex := 29, attributes := #[] }])
  fields := #[{ name := "nodes", type := (.array .int), accessFlags := 18, slot := 0, constantValue := 0 }, { name := "position", type := (.array .int), accessFlags := 18, slot := 1, constantValue := 0 }, { name := "key", type := (.array .long), accessFlags := 18, slot := 2, constantValue := 0 }, { name := "size", type := .int, accessFlags := 2, slot := 3, constantValue := 0 }]
  methods := #[k6m0]
  instanceTypes := #[(.array .int), (.array .int), (.array .long), .int]
  staticTypes := #[]
  resolved := Array.replicate 48 none
  statics := none }

def pool7 : Array CpInfo := pool [(1, u "java/lang/Cloneable"), (0, .class_ 1), (0, u "java/lang/Object"), (0, .class_ 3)] 3

/-- java/lang/Cloneable -/
def k7 : Class := { plain "java/lang/Cloneable" (some 0) with
  accessFlags := 1537
  interfaces := #[]
  cf := some (fileOf pool7 2 #[] #[] 1537 4 #[] #[])
  fields := #[]
  methods := #[]
  instanceTypes := #[]
  staticTypes := #[]
  resolved := Array.replicate 8 none
  statics := none }

def pool8 : Array CpInfo := pool [(1, u "java/io/Serializable"), (0, .class_ 1), (0, u "java/lang/Object"), (0, .class_ 3)] 3

/-- java/io/Serializable -/
def k8 : Class := { plain "java/io/Serializable" (some 0) with
  accessFlags := 1537
  interfaces := #[]
  cf := some (fileOf pool8 2 #[] #[] 1537 4 #[] #[])
  fields := #[]
  methods := #[]
  instanceTypes := #[]
  staticTypes := #[]
  resolved := Array.replicate 8 none
  statics := none }

/-- the primitive byte -/
def k9 : Class := { plain "byte" none with kind := .primitive 'B', accessFlags := 0x411 }
/-- [B -/
def k10 : Class := { plain "[B" (some 0) with kind := .array 9 .byte, interfaces := #[7, 8], accessFlags := 1041 }

/-- the primitive int -/
def k11 : Class := { plain "int" none with kind := .primitive 'I', accessFlags := 0x411 }
/-- [I -/
def k12 : Class := { plain "[I" (some 0) with kind := .array 11 .int, interfaces := #[7, 8], accessFlags := 1041 }

/-- the primitive long -/
def k13 : Class := { plain "long" none with kind := .primitive 'J', accessFlags := 0x411 }
/-- [J -/
def k14 : Class := { plain "[J" (some 0) with kind := .array 13 .long, interfaces := #[7, 8], accessFlags := 1041 }

def heap : Heap := #[]
def classes : Array Class := #[k0, k1, k2, k3, k4, k5, k6, k7, k8, k9, k10, k11, k12, k13, k14]
def interned : List (Array UInt16 × Addr) := []
def slotsUsed : Nat := 0
def theMethod : MethodId := ⟨1, 1⟩
def args0 : Array Value := #[.int 5, .int 7, .long 3, .long 4]
def aboutOver (below : List Frame) : State where
  vm := { classes := classes, interned := interned.toArray }
  heap := heap
  slotsUsed := slotsUsed
  threads := #[{ frames := .invoking theMethod args0 :: below }]
def below0 : List Frame := [.native { method := ⟨0, 0⟩, args := #[] }]
def about1 : State := aboutOver below0
def p0 : Program := .bare "" "" ""
def e0 : Env := launch0.env 0 0 0
theorem w_frames : about1.frames = Frame.invoking theMethod args0 :: below0 := rfl
set_option maxRecDepth 65536 in
theorem w_args : argsFit about1.vm theMethod args0 = true := by decide +kernel
set_option maxRecDepth 65536 in
theorem w_heap : heapFits about1 = true := by decide +kernel
set_option maxRecDepth 65536 in
theorem w_runnable : about1.curStatus? = some .runnable := by decide +kernel
set_option maxRecDepth 65536 in
theorem w_alone : about1.alone = true := by decide +kernel
set_option maxRecDepth 65536 in
theorem w_named : about1.methodNamed? x = some theMethod := by decide +kernel
set_option maxRecDepth 65536 in
theorem w_hears : about1.hears theMethod below0 = true := by decide +kernel
set_option maxRecDepth 65536 in
theorem w_ripe : about1.ripe theMethod args0 below0 = true := by decide +kernel
theorem w_running : about1.status = .running := rfl
set_option maxRecDepth 65536 in
theorem w_room : about1.hasRoom e0.platform room_1 = true :=
  launch0.hasRoom_least _ room_1 (by decide +kernel) (by decide +kernel) (by decide +kernel) (by decide +kernel) (by decide +kernel) (by decide +kernel)
theorem allAtoms_all (ts : List Jvm.Cond) (a : Array Jvm.Value) (st : Jvm.State) : (allAtoms ts).before a st = ts.all (fun c => c.before a st) := by
  induction ts with
  | nil => rfl
  | cons c t ih =>
    show (Jvm.Cond.and c (allAtoms t)).before a st = _
    rw [Jvm.Cond.before_and, ih, List.all_cons]
def words1 : List Jvm.Cond := Jvm.Cond.code x code maxLocals ret :: tables_1
/-- a 'code' word, met by the world's own term for the bytes: nothing is compared byte by byte -/
theorem code_word {y : MethodName} {bytes : ByteArray} {mx : Nat} {rt : Option FieldType} {a : Array Value} {s : State} {m : MethodId} {meth : Method} {c : Code} (h1 : s.methodNamed? y = some m) (h2 : s.vm.method? m = some meth) (h3 : meth.code = some c) (h4 : c.code = bytes)
    (h5 : (c.maxLocals == mx && c.exceptionTable.isEmpty && decide (c.maxStack ≤ mostOperands) && decide (meth.sig.returnType = rt) && !meth.locks && decide (parseMethodDescriptor y.desc = some meth.sig)) = true) : (Jvm.Cond.code y bytes mx rt).before a s = true := by
  simp only [Bool.and_eq_true, beq_iff_eq, Bool.not_eq_true', decide_eq_true_eq] at h5
  obtain ⟨⟨⟨⟨⟨g1, g2⟩, g3⟩, g4⟩, g5⟩, g6⟩ := h5
  simp [Cond.before, Cond.holds, Cond.value, h1, h2, h3, h4, g1, g2, g3, g4, g5, g6]
def isCode : Jvm.Cond → Bool
  | .code _ _ _ _ => true
  | _ => false
theorem all_split {L : List Jvm.Cond} {P : Jvm.Cond → Bool} (h1 : L.all (fun c => isCode c || P c) = true) (h2 : ∀ c ∈ L.filter isCode, P c = true) : L.all P = true := by
  refine List.all_eq_true.mpr fun c hc => ?_
  have h := List.all_eq_true.mp h1 c hc
  rcases Bool.eq_false_or_eq_true (isCode c) with hi | hi
  · exact h2 c (List.mem_filter.mpr ⟨hc, hi⟩)
  · simpa [hi] using h
set_option maxRecDepth 65536 in
theorem w_c0 : (Jvm.Cond.code x code maxLocals ret).before args0 about1 = true := code_word (m := ⟨1, 1⟩) (meth := k1m1) (c := k1c1) (by decide +kernel) rfl rfl rfl (by decide +kernel)
set_option maxRecDepth 65536 in
theorem w_c1 : (Jvm.Cond.code ({ cls := "com/example/limpet/limpet/StickyShares", name := "<init>", desc := "([I[I[I[I[I)V" } : Jvm.MethodName) prog_29_method_1_code (12 : Nat) (Option.none : Option Jvm.ClassFile.FieldType)).before args0 about1 = true := code_word (m := ⟨2, 0⟩) (meth := k2m0) (c := k2c0) (by decide +kernel) rfl rfl rfl (by decide +kernel)
set_option maxRecDepth 65536 in
theorem w_c2 : (Jvm.Cond.code ({ cls := "java/lang/Object", name := "<init>", desc := "()V" } : Jvm.MethodName) object_method_1_code (1 : Nat) (Option.none : Option Jvm.ClassFile.FieldType)).before args0 about1 = true := code_word (m := ⟨0, 0⟩) (meth := k0m0) (c := k0c0) (by decide +kernel) rfl rfl rfl (by decide +kernel)
set_option maxRecDepth 65536 in
theorem w_c3 : (Jvm.Cond.code ({ cls := "com/example/limpet/limpet/StickyShares", name := "groupArcs", desc := "([I[I)[I" } : Jvm.MethodName) prog_29_method_2_code (6 : Nat) (Option.some (Jvm.ClassFile.FieldType.array Jvm.ClassFile.FieldType.int))).before args0 about1 = true := code_word (m := ⟨2, 1⟩) (meth := k2m1) (c := k2c1) (by decide +kernel) rfl rfl rfl (by decide +kernel)
set_option maxRecDepth 65536 in
theorem w_c4 : (Jvm.Cond.code ({ cls := "java/util/Arrays", name := "copyOf", desc := "([II)[I" } : Jvm.MethodName) jdk_65_method_123_code (3 : Nat) (Option.some (Jvm.ClassFile.FieldType.array Jvm.ClassFile.FieldType.int))).before args0 about1 = true := code_word (m := ⟨3, 2⟩) (meth := k3m2) (c := k3c2) (by decide +kernel) rfl rfl rfl (by decide +kernel)
set_option maxRecDepth 65536 in
theorem w_c5 : (Jvm.Cond.code ({ cls := "java/lang/Math", name := "min", desc := "(II)I" } : Jvm.MethodName) jdk_29_method_69_code (2 : Nat) (Option.some Jvm.ClassFile.FieldType.int)).before args0 about1 = true := code_word (m := ⟨4, 2⟩) (meth := k4m2) (c := k4c2) (by decide +kernel) rfl rfl rfl (by decide +kernel)
set_option maxRecDepth 65536 in
theorem w_c6 : (Jvm.Cond.code ({ cls := "com/example/limpet/limpet/StickyShares$NodeHeap", name := "<init>", desc := "(I[J)V" } : Jvm.MethodName) prog_30_method_1_code (3 : Nat) (Option.none : Option Jvm.ClassFile.FieldType)).before args0 about1 = true := code_word (m := ⟨6, 0⟩) (meth := k6m0) (c := k6c0) (by decide +kernel) rfl rfl rfl (by decide +kernel)
set_option maxRecDepth 65536 in
theorem w_c7 : (Jvm.Cond.code ({ cls := "java/util/Arrays", name := "fill", desc := "([II)V" } : Jvm.MethodName) jdk_65_method_103_code (4 : Nat) (Option.none : Option Jvm.ClassFile.FieldType)).before args0 about1 = true := code_word (m := ⟨3, 1⟩) (meth := k3m1) (c := k3c1) (by decide +kernel) rfl rfl rfl (by decide +kernel)
set_option maxRecDepth 65536 in
theorem w_c8 : (Jvm.Cond.code ({ cls := "com/example/limpet/limpet/StickyShares", name := "solve", desc := "([I[J)V" } : Jvm.MethodName) prog_29_method_4_code (10 : Nat) (Option.none : Option Jvm.ClassFile.FieldType)).before args0 about1 = true := code_word (m := ⟨2, 2⟩) (meth := k2m2) (c := k2c2) (by decide +kernel) rfl rfl rfl (by decide +kernel)
set_option maxRecDepth 65536 in
theorem w_c9 : (Jvm.Cond.code ({ cls := "com/example/limpet/limpet/StickyShares", name := "marginalCost", desc := "(II)J" } : Jvm.MethodName) prog_29_method_20_code (3 : Nat) (Option.some Jvm.ClassFile.FieldType.long)).before args0 about1 = true := code_word (m := ⟨2, 6⟩) (meth := k2m6) (c := k2c6) (by decide +kernel) rfl rfl rfl (by decide +kernel)
set_option maxRecDepth 65536 in
theorem w_c10 : (Jvm.Cond.code ({ cls := "java/lang/Math", name := "min", desc := "(JJ)J" } : Jvm.MethodName) jdk_29_method_70_code (4 : Nat) (Option.some Jvm.ClassFile.FieldType.long)).before args0 about1 = true := code_word (m := ⟨4, 3⟩) (meth := k4m3) (c := k4c3) (by decide +kernel) rfl rfl rfl (by decide +kernel)
set_option maxRecDepth 65536 in
theorem w_c11 : (Jvm.Cond.code ({ cls := "com/example/limpet/limpet/StickyShares", name := "anySource", desc := "()Z" } : Jvm.MethodName) prog_29_method_8_code (5 : Nat) (Option.some Jvm.ClassFile.FieldType.boolean)).before args0 about1 = true := code_word (m := ⟨2, 5⟩) (meth := k2m5) (c := k2c5) (by decide +kernel) rfl rfl rfl (by decide +kernel)
set_option maxRecDepth 65536 in
theorem w_c12 : (Jvm.Cond.code ({ cls := "com/example/limpet/limpet/StickyShares", name := "load", desc := "(I)I" } : Jvm.MethodName) prog_29_method_6_code (2 : Nat) (Option.some Jvm.ClassFile.FieldType.int)).before args0 about1 = true := code_word (m := ⟨2, 3⟩) (meth := k2m3) (c := k2c3) (by decide +kernel) rfl rfl rfl (by decide +kernel)
set_option maxRecDepth 65536 in
theorem w_c13 : (Jvm.Cond.code ({ cls := "com/example/limpet/limpet/StickyShares", name := "price", desc := "(I)J" } : Jvm.MethodName) prog_29_method_7_code (2 : Nat) (Option.some Jvm.ClassFile.FieldType.long)).before args0 about1 = true := code_word (m := ⟨2, 4⟩) (meth := k2m4) (c := k2c4) (by decide +kernel) rfl rfl rfl (by decide +kernel)
set_option maxRecDepth 65536 in
theorem w_c14 : (Jvm.Cond.code ({ cls := "com/example/limpet/limpet/StickySharesPricePinLaw", name := "expected", desc := "(JIIJ)J" } : Jvm.MethodName) method_3_code (10 : Nat) (Option.some Jvm.ClassFile.FieldType.long)).before args0 about1 = true := code_word (m := ⟨1, 2⟩) (meth := k1m2) (c := k1c2) (by decide +kernel) rfl rfl rfl (by decide +kernel)
set_option maxRecDepth 65536 in
theorem w_c15 : (Jvm.Cond.code ({ cls := "java/lang/Math", name := "max", desc := "(JJ)J" } : Jvm.MethodName) jdk_29_method_66_code (4 : Nat) (Option.some Jvm.ClassFile.FieldType.long)).before args0 about1 = true := code_word (m := ⟨4, 1⟩) (meth := k4m1) (c := k4c1) (by decide +kernel) rfl rfl rfl (by decide +kernel)
def codes1 : List Jvm.Cond := [Jvm.Cond.code x code maxLocals ret, Jvm.Cond.code ({ cls := "com/example/limpet/limpet/StickyShares", name := "<init>", desc := "([I[I[I[I[I)V" } : Jvm.MethodName) prog_29_method_1_code (12 : Nat) (Option.none : Option Jvm.ClassFile.FieldType), Jvm.Cond.code ({ cls := "java/lang/Object", name := "<init>", desc := "()V" } : Jvm.MethodName) object_method_1_code (1 : Nat) (Option.none : Option Jvm.ClassFile.FieldType), Jvm.Cond.code ({ cls := "com/example/limpet/limpet/StickyShares", name := "groupArcs", desc := "([I[I)[I" } : Jvm.MethodName) prog_29_method_2_code (6 : Nat) (Option.some (Jvm.ClassFile.FieldType.array Jvm.ClassFile.FieldType.int)), Jvm.Cond.code ({ cls := "java/util/Arrays", name := "copyOf", desc := "([II)[I" } : Jvm.MethodName) jdk_65_method_123_code (3 : Nat) (Option.some (Jvm.ClassFile.FieldType.array Jvm.ClassFile.FieldType.int)), Jvm.Cond.code ({ cls := "java/lang/Math", name := "min", desc := "(II)I" } : Jvm.MethodName) jdk_29_method_69_code (2 : Nat) (Option.some Jvm.ClassFile.FieldType.int), Jvm.Cond.code ({ cls := "com/example/limpet/limpet/StickyShares$NodeHeap", name := "<init>", desc := "(I[J)V" } : Jvm.MethodName) prog_30_method_1_code (3 : Nat) (Option.none : Option Jvm.ClassFile.FieldType), Jvm.Cond.code ({ cls := "java/util/Arrays", name := "fill", desc := "([II)V" } : Jvm.MethodName) jdk_65_method_103_code (4 : Nat) (Option.none : Option Jvm.ClassFile.FieldType), Jvm.Cond.code ({ cls := "com/example/limpet/limpet/StickyShares", name := "solve", desc := "([I[J)V" } : Jvm.MethodName) prog_29_method_4_code (10 : Nat) (Option.none : Option Jvm.ClassFile.FieldType), Jvm.Cond.code ({ cls := "com/example/limpet/limpet/StickyShares", name := "marginalCost", desc := "(II)J" } : Jvm.MethodName) prog_29_method_20_code (3 : Nat) (Option.some Jvm.ClassFile.FieldType.long), Jvm.Cond.code ({ cls := "java/lang/Math", name := "min", desc := "(JJ)J" } : Jvm.MethodName) jdk_29_method_70_code (4 : Nat) (Option.some Jvm.ClassFile.FieldType.long), Jvm.Cond.code ({ cls := "com/example/limpet/limpet/StickyShares", name := "anySource", desc := "()Z" } : Jvm.MethodName) prog_29_method_8_code (5 : Nat) (Option.some Jvm.ClassFile.FieldType.boolean), Jvm.Cond.code ({ cls := "com/example/limpet/limpet/StickyShares", name := "load", desc := "(I)I" } : Jvm.MethodName) prog_29_method_6_code (2 : Nat) (Option.some Jvm.ClassFile.FieldType.int), Jvm.Cond.code ({ cls := "com/example/limpet/limpet/StickyShares", name := "price", desc := "(I)J" } : Jvm.MethodName) prog_29_method_7_code (2 : Nat) (Option.some Jvm.ClassFile.FieldType.long), Jvm.Cond.code ({ cls := "com/example/limpet/limpet/StickySharesPricePinLaw", name := "expected", desc := "(JIIJ)J" } : Jvm.MethodName) method_3_code (10 : Nat) (Option.some Jvm.ClassFile.FieldType.long), Jvm.Cond.code ({ cls := "java/lang/Math", name := "max", desc := "(JJ)J" } : Jvm.MethodName) jdk_29_method_66_code (4 : Nat) (Option.some Jvm.ClassFile.FieldType.long)]
set_option maxRecDepth 65536 in
theorem codes_eq : words1.filter isCode = codes1 := rfl
theorem w_codes : ∀ c ∈ words1.filter isCode, c.before args0 about1 = true := by
  rw [codes_eq]
  intro c hc
  simp only [codes1, List.mem_cons, List.not_mem_nil, or_false] at hc
  rcases hc with rfl | rfl | rfl | rfl | rfl | rfl | rfl | rfl | rfl | rfl | rfl | rfl | rfl | rfl | rfl | rfl
  · exact w_c0
  · exact w_c1
  · exact w_c2
  · exact w_c3
  · exact w_c4
  · exact w_c5
  · exact w_c6
  · exact w_c7
  · exact w_c8
  · exact w_c9
  · exact w_c10
  · exact w_c11
  · exact w_c12
  · exact w_c13
  · exact w_c14
  · exact w_c15
set_option maxRecDepth 65536 in
theorem w_t1 : (words1.take 24).all (fun c => isCode c || c.before args0 about1) = true := by decide +kernel
set_option maxRecDepth 65536 in
theorem w_t2 : ((words1.drop 24).take 24).all (fun c => isCode c || c.before args0 about1) = true := by decide +kernel
set_option maxRecDepth 65536 in
theorem w_t3 : (((words1.drop 24).drop 24).take 24).all (fun c => isCode c || c.before args0 about1) = true := by decide +kernel
set_option maxRecDepth 65536 in
theorem w_t4 : ((((words1.drop 24).drop 24).drop 24).take 24).all (fun c => isCode c || c.before args0 about1) = true := by decide +kernel
set_option maxRecDepth 65536 in
theorem w_t5 : (((((words1.drop 24).drop 24).drop 24).drop 24).take 24).all (fun c => isCode c || c.before args0 about1) = true := by decide +kernel
set_option maxRecDepth 65536 in
theorem w_t6 : (((((words1.drop 24).drop 24).drop 24).drop 24).drop 24).all (fun c => isCode c || c.before args0 about1) = true := by decide +kernel
theorem w_tables : (allAtoms (Jvm.Cond.code x code maxLocals ret :: tables_1)).before args0 about1 = true := by
  rw [allAtoms_all]
  show words1.all (fun c => c.before args0 about1) = true
  refine all_split ?_ w_codes
  rw [← List.take_append_drop 24 words1, List.all_append, w_t1, ← List.take_append_drop 24 (words1.drop 24), List.all_append, w_t2, ← List.take_append_drop 24 ((words1.drop 24).drop 24), List.all_append, w_t3, ← List.take_append_drop 24 (((words1.drop 24).drop 24).drop 24), List.all_append, w_t4, ← List.take_append_drop 24 ((((words1.drop 24).drop 24).drop 24).drop 24), List.all_append, w_t5, w_t6]
  rfl
set_option maxRecDepth 65536 in
theorem w_case : (Jvm.Cond.and given_1 narrow_1).before args0 about1 = true := by decide +kernel
theorem w_applies : (headSpec (Jvm.Cond.code x code maxLocals ret :: tables_1) room_1).applies x e0.platform about1 = true :=
  (Spec.applies_iff w_frames).mpr ⟨w_running, w_runnable, w_alone, w_named, w_hears, w_ripe, w_room, w_tables⟩
theorem atStart : AtStart classFile x code maxLocals ret World_1 tables_1 room_1 Calls_1 rest_1 Pre_1 launch0 p0 e0 about1 theMethod args0 below0 :=
  ⟨lists_1, trivial, launch0.admits_env _ _ _, launch0.least_env, fairChoices_fair.cas, fairChoices_fair.clock, w_frames, w_args, w_heap, w_applies, trivial, trivial, w_case⟩
end start1
theorem witness_1 : WitnessClaimed_1 := ⟨start1.p0, start1.e0, start1.about1, start1.theMethod, start1.args0, start1.below0, start1.atStart⟩
end Jvm.Pilot.@@N@@
